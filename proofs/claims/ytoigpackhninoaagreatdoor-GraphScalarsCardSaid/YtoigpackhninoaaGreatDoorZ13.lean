import Derived.Test.YtoigpackhninoaaGreatDoorGrAppd
import Derived.Test.YtoigpackhninoaaGreatDoorGrInsP3F
import Derived.Test.YtoigpackhninoaaGreatDoorGrInsR16
namespace Go.Proofs.YtoigpackhninoaaGreatDoor
open Gr
open _root_.Go.Proofs.Tryz
open _root_.Go.Lib (hid)
set_option maxRecDepth 100000
set_option maxHeartbeats 16000000
namespace Gr
def Nd.ni (x:Nd):Ni:=⟨x.kind,x.text,x.ord,x.keys.map Int.ofNat,x.items.map Int.ofNat⟩
theorem zua (x:Nd):x.ni.nd=x:=by
 cases x;simp[Nd.ni,Ni.nd,Function.comp_def]
theorem zny (ns:List Nd):(ns.map Nd.ni).map Ni.nd=ns:=by
 rw[List.map_map]
 conv=>rhs;rw[<-List.map_id ns]
 exact List.map_congr_left (fun x _=>zua x)
theorem zsl (ns:List Nd) (root:Nat) (hr:Refs ns) (hroot:root<ns.length):indB (ns.map Nd.ni) (root:Int)=true:=by
 unfold indB inR;simp only[List.length_map,Bool.and_eq_true,decide_eq_true_eq];refine⟨⟨by omega,by omega⟩,?_⟩;rw[List.all_map,List.all_eq_true];intro x hx;show rng ns.length x.ni=true;unfold rng;rw[show x.ni.keys++x.ni.items=(x.keys++x.items).map Int.ofNat from by simp[Nd.ni],List.all_map,List.all_eq_true];intro y hy;have:=hr x hx y hy;simp[inR];omega
end Gr
open Go.RowKit
theorem zsm (l:List Nat):intI.all (l.map Int.ofNat)=intL.all l:=by
 induction l with
 |nil=>rfl
 |cons x l ih=>
  have e1:intI.all (Int.ofNat x::l.map Int.ofNat)=intI.enc (Int.ofNat x)++intI.all (l.map Int.ofNat):=rfl;have e2:intL.all (x::l)=intL.enc x++intL.all l:=rfl;rw[List.map_cons,e1,e2,ih];rfl
theorem zeo {w:World} {B:Nat} {A:Option Addr} {l:List Nat} (h:RowAt intL w B A l):RowAt intI w B A (l.map Int.ofNat):=by
 unfold RowAt at h ⊢;rw[zsm,List.length_map];exact h
theorem GAt.toI {w:World} {B:Nat} {A:Option Addr} {vs:List NV} {ns:List Gr.Nd} (h:GAt w B A vs ns):IAt w B A vs (ns.map Gr.Nd.ni):=by
 refine⟨h.row,by simp[h.len],fun j h1 h2=>?_,fun j h1 h2=>?_⟩
 ·rw[List.length_map]at h2;rw[List.getElem_map];exact h.kind j h1 h2
 ·rw[List.length_map]at h2;rw[List.getElem_map];obtain⟨a,b,c,d⟩:=h.nums j h1 h2;exact⟨zeo a,by rw[b];simp[Gr.Nd.ni],zeo c,by rw[d];simp[Gr.Nd.ni]⟩
def checkG (sclr:Int->Gr.Str->Bool) (ns:List Gr.Nd) (root:Nat):Nat:=if ns.length>4096 then 7 else checkN sclr ns root
theorem zsn (T:World->Prop) (hT:Stays T) (sclr:Int->Gr.Str->Bool) (A:Option Addr) (c root:Nat) (vs:List NV) (ns:List Gr.Nd) (hks:NH ns) (hsc:ScalsOk T sclr ns) (hl:ns.length<=1073741823) (hr:Refs ns) (hroot:root<ns.length) (w:World) (hTw:T w) (h:GAt w w.heap.size A vs ns):
 Calls prog 14 #[.agg #[.slice A ns.length c,.int .i64 root]] w fun e w'=>e=.returned (.int .i64 (checkG sclr ns root:Nat))/\Below w.heap.size w w':=by
 have:=zec T hT sclr A c (root:Int) vs (ns.map Gr.Nd.ni) (by rw[zny];exact hks) (by rw[zny];exact hsc) (by simpa using hl) w hTw h.toI;rw[List.length_map]at this;have e:checkI sclr (ns.map Gr.Nd.ni) (root:Int)=checkG sclr ns root:=by
  unfold checkI checkG;rw[List.length_map,zny,zsl ns root hr hroot];by_cases h1:ns.length>4096
  ·rw[if_pos h1,if_pos h1]
  ·rw[if_neg h1,if_neg h1,if_neg (by simp;intro e;rw[e]at hroot;simp at hroot),Int.toNat_natCast]
 rw[e]at this;exact this
def ChkOk (w:World) (g:Value) (chk:Nat):Prop:=∀W,Below w.heap.size w W->Calls prog 14 #[g] W fun e w'=>e=.returned (.int .i64 (chk:Nat))/\Below W.heap.size W w'
theorem ChkOk.later {w w':World} {g:Value} {chk:Nat} (h:ChkOk w g chk) (hb:Below w.heap.size w w'):ChkOk w' g chk:=fun W hW=>h W (hb.trans (hW.mono hb.size))
def gZero:Value:=.agg #[.slice none 0 0,.int .i64 0]
theorem zic (A:Option Addr) (n c:Nat) (root:Int) (chk:Nat) (w:World) (h:ChkOk w (.agg #[.slice A n c,.int .i64 root]) chk):
 Calls prog 50 #[.agg #[.slice A n c,.int .i64 root]] w fun e w'=>e=.returned (.tuple #[if chk=0 then .agg #[.slice A n c,.int .i64 root]else gZero,.int .i64 (chk:Nat)])/\Below w.heap.size w w':=by
 have HC:=hid h;clear h;go_enter func50,ntmps50;go_upto_region 1 with fail;obtain⟨w1,hw1⟩:=ex ((w.alloc (.cells #[.slice A n c,.int .i64 root] 24)).alloc (.cells #[.slice none 0 0,.int .i64 0] 24))
 obtain⟨gb,hgb⟩:=ex w.heap.size
 have b1:Blk w1 gb 24 #[.slice A n c,.int .i64 root]:=by rw[<-hw1,<-hgb];exact(Blk.new _ _ _).alloc _
 have b2:Blk w1 (gb+1) 24 #[.slice none 0 0,.int .i64 0]:=by rw[<-hw1,<-hgb];have:=Blk.new (w.alloc (.cells #[.slice A n c,.int .i64 root] 24)) 24 #[.slice none 0 0,.int .i64 0];rwa[World.size_alloc]at this
 have l1:Below gb w w1:=by rw[<-hw1,<-hgb];exact((Below.refl _ _).alloc (Nat.le_refl _) _).alloc (by simp) _
 have HL1:=hid l1;have HGB:=hid hgb;have HCC:Hid (ChkOk w1 (.agg #[.slice A n c,.int .i64 root]) chk):=hid (HC.out.later (by rw[hgb];exact l1));have HB1:=hid b1;have HB2:=hid b2;obtain⟨g0,g1⟩:=cells2 b1;(try rw[hw1]);(try rw[hgb]);clear hw1 hgb b1 b2 l1;go_wp2_with fail;refine(HCC.out w1 (Below.refl _ _)).mono ?_;rintro e w2 ⟨rfl,hb2⟩;have hc1:=HB1.out.below hb2 HB1.out.lt;have hc2:=HB2.out.below hb2 HB2.out.lt;have HLB:Hid (Below gb w w2):=hid (HL1.out.trans (hb2.mono (by have:=HB1.out.lt;omega)));obtain⟨k0,k1⟩:=cells2 hc1;obtain⟨d0,d1⟩:=cells2 hc2;have df:∀i,w2.frozen? ⟨gb+1,i,none⟩=false:=hc2.frozen;have HC2:=hid hc2;clear hb2 hc1 hc2 g0 g1;by_cases h0:chk=0
 ·subst h0;go_wp2_with fail;have e0:=((HC2.out.set_ 0 (.slice A n c)).set_ 1 (.int .i64 root)).cell 0;have e1:=((HC2.out.set_ 0 (.slice A n c)).set_ 1 (.int .i64 root)).cell 1;refine bodyPost_ret (v:=.tuple #[.agg #[.slice A n c,.int .i64 root],.int .i64 0]) (by rw[results_cell_tmp rfl];go_simp) rfl ⟨rfl,?_⟩;rw[HGB.out];exact(HLB.out.setCell (by simp) _).setCell (by simp) _
 ·have h0I:((chk:Int)==0)=false:=by rw[beq_eq_false_iff_ne];omega
  go_wp2_with fail;refine bodyPost_ret (v:=.tuple #[gZero,.int .i64 chk]) (by rw[results_cell_tmp rfl];go_simp;rfl) rfl ⟨by first|rfl|rw[if_neg h0],?_⟩;rw[HGB.out];exact(HLB.out.setCell (by simp) _).setCell (by simp) _
theorem zpw (A:Option Addr) (n c:Nat) (root:Int) (chk:Nat) (w:World) (h:ChkOk w (.agg #[.slice A n c,.int .i64 root]) chk):
 Calls prog 21 #[.agg #[.slice A n c,.int .i64 root]] w fun e w'=>e=.returned (.int .i64 (if chk=0 then(n:Int)else 0))/\Below w.heap.size w w':=by
 obtain⟨w1,hw1⟩:=ex (w.alloc (.cells #[.slice A n c,.int .i64 root] 24))
 have l1:Below w.heap.size w w1:=by rw[<-hw1];exact(Below.refl _ _).alloc (Nat.le_refl _) _
 have HCC:Hid (ChkOk w1 (.agg #[.slice A n c,.int .i64 root]) chk):=hid (h.later l1);have HL1:=hid l1;clear h l1;go_enter func21,ntmps21;go_upto_region 1 with fail;have b1:Blk w1 w.heap.size 24 #[.slice A n c,.int .i64 root]:=by rw[<-hw1];exact Blk.new _ _ _
 obtain⟨g0,g1⟩:=cells2 b1;have HB1:=hid b1;(try rw[hw1]);clear hw1 b1;go_wp2_with fail;refine(HCC.out w1 (Below.refl _ _)).mono ?_;rintro e w2 ⟨rfl,hb2⟩;have HLB:Hid (Below w.heap.size w w2):=hid (HL1.out.trans (hb2.mono HL1.out.size));have hc1:=HB1.out.below hb2 HB1.out.lt;have k0:w2.cell? ⟨w.heap.size,0,none⟩=some (.slice A n c):=hc1.cell 0;clear hb2 hc1 g0 g1;by_cases h0:chk=0
 ·subst h0;go_wp2;go_ret;exact⟨rfl,HLB.out⟩
 ·have h0I:((chk:Int)==0)=false:=by rw[beq_eq_false_iff_ne];omega
  go_wp2;go_ret;exact⟨by first|rfl| (rw[if_neg h0];rfl),HLB.out⟩
def DepOk (w:World) (g:Value) (p:Int×Bool):Prop:=∀W,Below w.heap.size w W->Calls prog 39 #[g] W fun e w'=>e=.returned (.tuple #[.int .i64 p.1,.bool p.2])/\Below W.heap.size W w'
theorem znz (A:Option Addr) (n c:Nat) (root:Int) (chk:Nat) (p:Int×Bool) (w:World) (h:ChkOk w (.agg #[.slice A n c,.int .i64 root]) chk) (hd:chk=0->DepOk w (.agg #[.slice A n c,.int .i64 root]) p):
 Calls prog 22 #[.agg #[.slice A n c,.int .i64 root]] w fun e w'=>e=.returned (.tuple #[.int .i64 (if chk=0 then p.1 else 0),.bool (if chk=0 then p.2 else false)])/\Below w.heap.size w w':=by
 obtain⟨w1,hw1⟩:=ex (w.alloc (.cells #[.slice A n c,.int .i64 root] 24))
 have l1:Below w.heap.size w w1:=by rw[<-hw1];exact(Below.refl _ _).alloc (Nat.le_refl _) _
 have HCC:Hid (ChkOk w1 (.agg #[.slice A n c,.int .i64 root]) chk):=hid (h.later l1);have HL1:=hid l1;have HD:=hid hd;clear h l1 hd;go_enter func22,ntmps22;go_upto_region 1 with fail;have b1:Blk w1 w.heap.size 24 #[.slice A n c,.int .i64 root]:=by rw[<-hw1];exact Blk.new _ _ _
 obtain⟨g0,g1⟩:=cells2 b1;have HB1:=hid b1;(try rw[hw1]);clear hw1 b1;go_wp2_with fail;refine(HCC.out w1 (Below.refl _ _)).mono ?_;rintro e w2 ⟨rfl,hb2⟩;have hlb:Below w.heap.size w w2:=HL1.out.trans (hb2.mono HL1.out.size);have HLB:=hid hlb;have hc1:=HB1.out.below hb2 HB1.out.lt;obtain⟨k0,k1⟩:=cells2 hc1;clear hb2 hc1 g0 g1 hlb;by_cases h0:chk=0
 ·have HDD:=hid (HD.out h0 w2 HLB.out);subst h0;go_wp2_with fail;refine HDD.out.mono ?_;rintro e w3 ⟨rfl,hb3⟩;have HL3:Hid (Below w.heap.size w w3):=hid (HLB.out.trans (hb3.mono HLB.out.size));clear hb3;go_wp2;go_ret2;exact⟨rfl,HL3.out⟩
 ·have h0I:((chk:Int)==0)=false:=by rw[beq_eq_false_iff_ne];omega
  go_wp2;go_ret2;exact⟨by first|rfl| (rw[if_neg h0,if_neg h0];rfl),HLB.out⟩
def zso (w:World) (kind:Int) (text:Gr.Str) (r:Bool) (e:Ending) (w':World):Prop:=
 Below w.heap.size w w'/\(r=false->e=.returned (.tuple #[gZero,.int .i64 3]))/\(r=true->∃g,w.heap.size<=g/\e=.returned (.tuple #[.agg #[.slice (some ⟨g,0,none⟩) 1 1,.int .i64 0],.int .i64 0])/\Blk w' g 35 #[.int .i64 kind,.string ⟨text.toArray⟩,.bool false,.slice none 0 0,.slice none 0 0])
theorem zcd (T:World->Prop) (hT:Stays T) (kind:Int) (text:Gr.Str) (r:Bool) (hk:0<=kind) (hk8:kind<=8) (hs:ScalOk T kind text r) (w:World) (hTw:T w):
 Calls prog 16 #[.int .i64 kind,.string ⟨text.toArray⟩] w (zso w kind text r):=by
 have c1:¬kind<0:=by omega
 have c2:¬(8:Int)<kind:=by omega
 obtain⟨w1,hw1⟩:=ex (w.alloc (.cells #[.slice none 0 0,.int .i64 0] 24))
 obtain⟨gb,hgb⟩:=ex w.heap.size
 have l1:Below gb w w1:=by rw[<-hw1,<-hgb];exact(Below.refl _ _).alloc (Nat.le_refl _) _
 have b1:Blk w1 gb 24 #[.slice none 0 0,.int .i64 0]:=by rw[<-hw1,<-hgb];exact Blk.new _ _ _
 have HS:=hid (hs w1 (hT _ _ hTw (by rw[hgb];exact l1)));have HL1:=hid l1;have HB1:=hid b1;have HGB:=hid hgb;clear hs hTw l1 b1;go_enter func16,ntmps16;go_upto_region 1 with fail;(try rw[hw1]);(try rw[hgb]);clear hw1 hgb;go_wp2_with fail;refine HS.out.mono ?_;rintro e w2 ⟨rfl,hb2⟩;have hc1:=HB1.out.below hb2 HB1.out.lt;have HLB:Hid (Below gb w w2):=hid (HL1.out.trans (hb2.mono (by have:=HB1.out.lt;omega)));have HC1:=hid hc1;have df:∀i,w2.frozen? ⟨gb,i,none⟩=false:=hc1.frozen;have df2:∀o i,(w2.alloc o).frozen? ⟨gb,i,none⟩=false:=fun o=>(hc1.alloc o).frozen
 obtain⟨d0,d1⟩:=cells2 hc1;have d2:∀o,(w2.alloc o).cell? ⟨gb,0,none⟩=some (.slice none 0 0):=fun o=>(hc1.alloc o).cell 0
 have d3:∀o,(w2.alloc o).cell? ⟨gb,1,none⟩=some (.int .i64 0):=fun o=>(hc1.alloc o).cell 1
 have HSZ:Hid (gb<w2.heap.size):=hid hc1.lt;clear hb2 hc1;cases r with
 |false=>
  go_wp2_with fail;refine bodyPost_ret (v:=.tuple #[gZero,.int .i64 3]) (by rw[results_cell_tmp rfl];go_simp;rfl) rfl ⟨?_,fun _=>rfl,fun h=>nomatch h⟩;rw[HGB.out];exact(HLB.out.setCell (by simp) _).setCell (by simp) _
 |true=>
  go_wp2_with fail;obtain⟨o,ho⟩:=ex (Obj.cells #[Value.int IntKind.i64 kind,Value.string {data:=List.toArray text},Value.bool false,Value.slice none 0 0,Value.slice none 0 0] 35)
  rw[ho];obtain⟨ng,hng⟩:=ex w2.heap.size
  rw[hng];have HC3:=((HC1.out.alloc o).set_ 0 (.slice (some ⟨ng,0,none⟩) 1 1)).set_ 1 (.int .i64 0);have e0:=HC3.cell 0;have e1:=HC3.cell 1;have HLB2:=HLB.out;have HSZ2:=HSZ.out;have hbn:Blk (w2.alloc o) ng 35 #[.int .i64 kind,.string ⟨text.toArray⟩,.bool false,.slice none 0 0,.slice none 0 0]:=by rw[<-hng,<-ho];exact Blk.new _ _ _
  refine bodyPost_ret (v:=.tuple #[.agg #[.slice (some ⟨ng,0,none⟩) 1 1,.int .i64 0],.int .i64 0]) ?_ rfl (And.intro ?_ (And.intro (fun h=>nomatch h) (fun _=>⟨ng,?_,rfl,?_⟩)))
  ·rw[results_cell_tmp rfl];go_simp
  ·rw[HGB.out];exact((HLB2.alloc (by omega) o).setCell (by simp) _).setCell (by simp) _
  ·rw[HGB.out];omega
  ·exact(hbn.far (by simp;omega) _).far (by simp;omega) _
open Go.RowKit
theorem Tab.push {B:Nat} {w1 w2:World} {g n cap k:Nat} {x:NV} {vl:List NV} {m:Gr.Nd} {nl:List Gr.Nd} {v:Value} (h:Tab B w1 (.slice (some ⟨g,0,none⟩) n cap) (x::vl) (m::nl))
 (hown:OwnRow intL w2 B 3 v (m.items++[k])) (hg:w1.grownBy w2 x.i.v.ownBlock) (hat:v.ownBlock=x.i.v.ownBlock\/v.ownBlock=some w1.heap.size):
 ∃i:SV,v=i.v/\Tab B (w2.setCell ⟨g,4,none⟩ v) (.slice (some ⟨g,0,none⟩) n cap) ({x with i:=i}::vl) ({m with items:=m.items++[k]}::nl)/\(∀t,t≠35->t≠3->KeptT t w1 (w2.setCell ⟨g,4,none⟩ v))/\(B<=w1.heap.size->Below B w1 (w2.setCell ⟨g,4,none⟩ v)):=by
 obtain⟨A,c,hv,_⟩:=hown.form;have hi:ints (x::vl) 0 true=x.i:=rfl;have hm:intsOf (m::nl) 0 true=m.items:=rfl;have ho:=h.rows.own 0 true;rw[hi,hm]at ho;have hkN:KeptT 35 w1 w2:=KeptT.grown hg ho (by decide);obtain⟨g',cap',rest,hv',hcap,hb,hbg,hback⟩:=h.row.row (by simp);obtain⟨rfl,rfl,rfl⟩:g=g'/\n=(x::vl).length/\cap=cap':=by
  grind
 have hb2:=hkN _ _ hb;have h5:=zkx hb2 0 (by simp) ⟨A,(m.items++[k]).length,c⟩;have hv2:v=(⟨A,(m.items++[k]).length,c⟩:SV).v:=hv;rw[<-hv2,Nat.zero_mul,Nat.zero_add]at h5;have hk2:KeptT 3 w2 (w2.setCell ⟨g,4,none⟩ v):=KeptT.setCell (p:=⟨g,4,none⟩) hb2 (by decide) v;refine⟨⟨A,(m.items++[k]).length,c⟩,hv2,⟨hback _ _ (by simp) h5,?_⟩,?_,?_⟩
 ·have hr:=h.rows.grow (w':=w2) 0 true {x with i:=⟨A,(m.items++[k]).length,c⟩} {m with items:=m.items++[k]} (by simp) ⟨rfl,rfl,rfl⟩ ⟨rfl,rfl,rfl⟩ rfl rfl (by rw[if_pos rfl,if_pos rfl,<-hv2];exact hown) hg (by rw[if_pos rfl,<-hv2];exact hat);exact hr.kept hk2
 ·intro t h1 h2;exact(KeptT.grown hg ho (fun e=>h2 e.symm)).trans (KeptT.setCell (p:=⟨g,4,none⟩) hb2 h1 v)
 ·intro hB;exact(ho.grown_below hg hB).setCell hbg v
theorem Tab.one {B:Nat} {w:World} {g:Nat} {kind:Int} {text:Gr.Str} {ord:Bool} (h:Blk w g 35 #[.int .i64 kind,.string ⟨text.toArray⟩,.bool ord,.slice none 0 0,.slice none 0 0]) (hB:B<=g):
 Tab B w (.slice (some ⟨g,0,none⟩) 1 1) [⟨kind,text,ord,SV.nil,SV.nil⟩] [⟨kind,text,ord,[],[]⟩]:=by
 have hr:=(Rows.nil B w).snoc ⟨kind,text,ord,SV.nil,SV.nil⟩ ⟨kind,text,ord,[],[]⟩ ⟨rfl,rfl,rfl⟩ OwnRow.nil OwnRow.nil (fun g h=>by simp[SV.nil,SV.v,Value.ownBlock]at h) (fun j b g h=>by simp[ints,SV.nil,SV.v,Value.ownBlock]at h);refine⟨⟨nodeL.all_len _,.inr ⟨g,1,_,rfl,hB,h,Nat.le_refl _,by decide,rfl,rfl⟩⟩,hr⟩
structure GArg where
 a:Option Addr
 c:Nat
 root:Int
 vs:List NV
 is:List Gr.Ni
def GArg.v (x:GArg):Value:=.agg #[.slice x.a x.is.length x.c,.int .i64 x.root]
def argL:Lay GArg:={enc:=fun x=>[.slice x.a x.is.length x.c,.int .i64 x.root],sz:=2,len:=fun _=>rfl,one:=fun x u hu=>by simp at hu;rcases hu with rfl|rfl<;>rfl,pos:=by omega}
theorem zqt {w:World} {B:Nat} {A:Option Addr} {l:List GArg} {k:Nat} (h:RowAt argL w B A l) (hk:k<l.length):∃ad,A=some ad/\ad.block<B/\w.cell? (ad.add (k*2))=some (.slice l[k].a l[k].is.length l[k].c)/\
 w.cell? {block:=(ad.add (k*2)).block,off:=(ad.add (k*2)).off+1}=some (.int .i64 l[k].root):=by
 obtain⟨ad,h1,h2,h3,h4⟩:=h.get hk;exact⟨ad,h1,h2,h3 _ rfl,h4 1 _ (by omega) rfl⟩
structure GsAt (w:World) (B:Nat) (A:Option Addr) (l:List GArg):Prop where
 row:RowAt argL w B A l
 each:∀x∈l,IAt w B x.a x.vs x.is
theorem GsAt.below {w w':World} {B:Nat} {A:Option Addr} {l:List GArg} (h:GsAt w B A l) (hb:Below B w w'):GsAt w' B A l:=⟨h.row.below hb,fun x hx=>(h.each x hx).below hb⟩
theorem GsAt.more {w:World} {B B':Nat} {A:Option Addr} {l:List GArg} (h:GsAt w B A l) (hB:B<=B'):GsAt w B' A l:=⟨h.row.more hB,fun x hx=>(h.each x hx).more hB⟩
namespace Gr
def push0 (k:Nat):List Nd->List Nd
 | []=>[]
 |m::l=>{m with items:=m.items++[k]}::l
def lstep (ns:List Nd) (g:List Ni×Int):List Nd:=push0 (g.2.toNat+ns.length) (ns++(g.1.map Ni.nd).map (shN ns.length))
def listN (gs:List (List Ni×Int)):List Nd:=gs.foldl lstep [⟨9,[],false,[],[]⟩]
end Gr
def GArg.p (x:GArg):List Gr.Ni×Int:=(x.is,x.root)
def GArg.chk (sclr:Int->Gr.Str->Bool) (x:GArg):Nat:=checkI sclr x.is x.root
theorem ztu {sclr:Int->Gr.Str->Bool} {x:GArg} (h:x.chk sclr=0):x.is.length<=4096/\0<x.is.length/\indB x.is x.root=true:=by
 unfold GArg.chk checkI at h;by_cases h1:x.is.length>4096
 ·rw[if_pos h1]at h;cases h
 ·grind
theorem ztv {is:List Gr.Ni} {root:Int} (h:indB is root=true):∃r:Nat,root=(r:Int)/\r<is.length/\(∀x∈is,∀y∈x.keys++x.items,0<=y)/\Refs (is.map Gr.Ni.nd):=by
 unfold indB at h;rw[Bool.and_eq_true]at h;have h1:=h.1;simp only[inR,Bool.and_eq_true,decide_eq_true_eq]at h1;refine⟨root.toNat,by omega,by omega,?_,?_⟩
 ·exact(zff h.2).1
 ·exact(zff h.2).2
theorem zgg (A A2:Option Addr) (c d n:Nat) (l:List Int) (hn:Hid (n=l.length)) (hl:n<=9223372036854775807) (w:World) (h:RowAt intI w w.heap.size A l) (h2:RowAt intI w w.heap.size A2 l):
 Calls prog 61 #[.slice A n c,.slice A2 n d] w fun e w'=>e=.returned (.bool true)/\Below w.heap.size w w':=by
 have H:=hid (And.intro h h2);clear h h2;go_enter func61,ntmps61;go_wp2_with fail;go_loopw [5] (fun s5 wr=>∃k:Nat,k<=n/\s5=.int .i64 (k:Int)/\Hid (Below w.heap.size w wr)) (fun s5 _=>n-(intOf s5).toNat)
 case atStart=>exact⟨0,Nat.zero_le _,rfl,hid (Below.refl _ _)⟩
 case round=>
  obtain⟨k,hk,rfl,HB⟩:=hrel;by_cases hlt:k<n
  ·have hltI:(k:Int)<(n:Int):=by omega
   obtain⟨ad,rfl,_,y0⟩:=zhk (H.out.1.below HB.out) (show k<l.length by have:=hn.out;omega);obtain⟨ad2,rfl,_,z0⟩:=zhk (H.out.2.below HB.out) (show k<l.length by have:=hn.out;omega);obtain⟨p,hp⟩:∃p,l[k]'(by have:=hn.out;omega)=p:=⟨_,rfl⟩
   rw[hp]at y0 z0;clear hp;go_wp2_with fail;go_quiet (fail);go_wp2;go_roundw
   case rel=>exact⟨k+1,by omega,by go_num,hid (below_drewN HB.out _)⟩
   case measure=>simp[intOf];omega
  ·have hltI:¬(k:Int)<(n:Int):=by omega
   go_wp2;go_ret;exact⟨rfl,HB.out⟩
def Sz (is:List Gr.Ni):Prop:=is.length<=9223372036854775807/\∀x∈is,x.text.length<=9223372036854775807/\x.keys.length<=9223372036854775807/\x.items.length<=9223372036854775807
theorem zjt (A A2:Option Addr) (c c2:Nat) (root:Int) (vs vs2:List NV) (is:List Gr.Ni) (hz:Sz is) (w:World) (h:IAt w w.heap.size A vs is) (h2:IAt w w.heap.size A2 vs2 is):
 Calls prog 30 #[.agg #[.slice A is.length c,.int .i64 root],.agg #[.slice A2 is.length c2,.int .i64 root]] w fun e w'=>e=.returned (.bool true)/\Below w.heap.size w w':=by
 have H:=hid (And.intro h h2);have HZ:=hid hz;have hl:=hz.1;obtain⟨N,hN⟩:=ex is.length
 have HN:=hid hN;rw[hN]at hl ⊢;clear h h2 hz hN;obtain⟨gb,hgb⟩:=ex w.heap.size
 have HGB:=hid hgb;go_enter func30,ntmps30;go_upto_region 1 with fail;obtain⟨w1,hw1⟩:=ex ((w.alloc (.cells #[.slice A N c,.int .i64 root] 24)).alloc (.cells #[.slice A2 N c2,.int .i64 root] 24))
 have HB1:Hid (Blk w1 gb 24 #[.slice A N c,.int .i64 root]/\Blk w1 (gb+1) 24 #[.slice A2 N c2,.int .i64 root]/\Below gb w w1):=hid (by
  rw[<-hw1,<-hgb];refine⟨(Blk.new _ _ _).alloc _,?_,((Below.refl _ _).alloc (Nat.le_refl _) _).alloc (by simp) _⟩;have:=Blk.new (w.alloc (.cells #[.slice A N c,.int .i64 root] 24)) 24 #[.slice A2 N c2,.int .i64 root];rw[World.size_alloc]at this;exact this)
 have HI1:Hid (IAt w1 gb A vs is/\IAt w1 gb A2 vs2 is):=hid (by rw[<-hgb];exact⟨H.out.1.below (by have:=HB1.out.2.2;rwa[<-hgb]at this),H.out.2.below (by have:=HB1.out.2.2;rwa[<-hgb]at this)⟩);(try rw[hw1]);(try rw[hgb]);clear hw1 hgb H;obtain⟨a0,a1⟩:=cells2 HB1.out.1;obtain⟨b0,b1⟩:=cells2 HB1.out.2.1;go_wp2_with fail;clear a0 a1 b0 b1;have HLT:Hid (gb+1<w1.heap.size):=hid HB1.out.2.1.lt;go_loopw [5] (fun s5 wr=>∃k:Nat,k<=N/\s5=.int .i64 (k:Int)/\Hid (Below w1.heap.size w1 wr)) (fun s5 _=>N-(intOf s5).toNat)
 case atStart=>exact⟨0,Nat.zero_le _,rfl,hid (Below.refl _ _)⟩
 case round=>
  obtain⟨k,hk,rfl,HB⟩:=hrel;obtain⟨wq,hwq⟩:∃wq,wq=wr:=⟨_,rfl⟩
  subst hwq;have ca:=HB1.out.1.below HB.out HB1.out.1.lt;have cb:=HB1.out.2.1.below HB.out HB1.out.2.1.lt;have a0:wq.cell? ⟨gb,0,none⟩=some (.slice A N c):=ca.cell 0;have b0:wq.cell? ⟨gb+1,0,none⟩=some (.slice A2 N c2):=cb.cell 0;have HSZ:Hid (w1.heap.size<=wq.heap.size):=hid HB.out.size;clear ca cb;by_cases hlt:k<N
  ·have hltI:(k:Int)<(N:Int):=by omega
   have hkl:k<is.length:=by rw[HN.out];exact hlt
   have lq:=HB.out.mono (show gb<=w1.heap.size by have:=HLT.out;omega);obtain⟨ad,⟨ka,kn,kc⟩,⟨ia,qn,ic⟩,rfl,hadx,c0,c1,c2_,c3,c4,r1,n1,r2,n2⟩:=(HI1.out.1.below lq).node hkl;obtain⟨ad2,⟨ka2,kn2,kc2⟩,⟨ia2,qn2,ic2⟩,rfl,hadx2,d0,d1,d2,d3,d4,s1,m1,s2,m2⟩:=(HI1.out.2.below lq).node hkl;obtain⟨kd,hkd⟩:=ex (is[k].kind)
   obtain⟨tx,htx⟩:=ex (is[k].text)
   obtain⟨od,hod⟩:=ex (is[k].ord)
   obtain⟨K,hK⟩:=ex (is[k].keys)
   obtain⟨Q,hQ⟩:=ex (is[k].items)
   have hzz:=HZ.out.2 _ (List.getElem_mem hkl);simp only[hkd,htx,hod,hK,hQ]at c0 c1 c2_ d0 d1 d2 r1 n1 r2 n2 s1 m1 s2 m2 hzz;simp only at c3 c4 d3 d4;obtain rfl:kn2=kn:=m1.trans n1.symm;obtain rfl:qn2=qn:=m2.trans n2.symm;have HROW:Hid (RowAt intI wq gb ka K/\RowAt intI wq gb ia Q/\RowAt intI wq gb ka2 K/\RowAt intI wq gb ia2 Q):=hid ⟨r1,r2,s1,s2⟩;have HLEN:Hid (kn2=K.length/\qn2=Q.length):=hid ⟨n1,n2⟩;have zk:kn2<=9223372036854775807:=by rw[n1];exact hzz.2.1
   have zq:qn2<=9223372036854775807:=by rw[n2];exact hzz.2.2
   clear hkd htx hod hK hQ r1 n1 r2 n2 s1 m1 s2 m2 hzz lq hkl hadx hadx2;go_wp2_with fail;go_cut [6,7] (fun s6 s7 wx=>∃g6 g7,s6=.pointer (some ⟨g6,0,none⟩)/\s7=.pointer (some ⟨g7,0,none⟩)/\Hid (Blk wx g6 35 #[.int .i64 kd,.string ⟨tx.toArray⟩,.bool od,.slice ka kn2 kc,.slice ia qn2 ic]/\Blk wx g7 35 #[.int .i64 kd,.string ⟨tx.toArray⟩,.bool od,.slice ka2 kn2 kc2,.slice ia2 qn2 ic2]/\Below wq.heap.size wq wx))
   case first=>
    go_region_held3 (fun w'=>w'.cell? ⟨gb,0,none⟩=some (.slice (some ad) N c)/\w'.cell? ⟨gb+1,0,none⟩=some (.slice (some ad2) N c2)/\
     w'.cell? (ad.add (k*5))=some (.int .i64 kd)/\
     w'.cell? {block:=(ad.add (k*5)).block,off:=(ad.add (k*5)).off+1}=some (.string ⟨tx.toArray⟩)/\
     w'.cell? {block:=(ad.add (k*5)).block,off:=(ad.add (k*5)).off+2}=some (.bool od)/\
     w'.cell? {block:=(ad.add (k*5)).block,off:=(ad.add (k*5)).off+3}=some (.slice ka kn2 kc)/\
     w'.cell? {block:=(ad.add (k*5)).block,off:=(ad.add (k*5)).off+4}=some (.slice ia qn2 ic)/\
     w'.cell? (ad2.add (k*5))=some (.int .i64 kd)/\
     w'.cell? {block:=(ad2.add (k*5)).block,off:=(ad2.add (k*5)).off+1}=some (.string ⟨tx.toArray⟩)/\
     w'.cell? {block:=(ad2.add (k*5)).block,off:=(ad2.add (k*5)).off+2}=some (.bool od)/\
     w'.cell? {block:=(ad2.add (k*5)).block,off:=(ad2.add (k*5)).off+3}=some (.slice ka2 kn2 kc2)/\
     w'.cell? {block:=(ad2.add (k*5)).block,off:=(ad2.add (k*5)).off+4}=some (.slice ia2 qn2 ic2))
      (first|go_keep| (simp[go_sem])) (fail)
    all_goals
     go_wp2;go_meet
    ·refine⟨wq.heap.size,wq.heap.size+1,rfl,rfl,hid ⟨(Blk.new _ _ _).alloc _,?_,((((Below.refl wq.heap.size wq).alloc (Nat.le_refl _) _).alloc (by simp) _).drew)⟩⟩;have:=Blk.new (wq.alloc (.cells #[.int .i64 kd,.string ⟨tx.toArray⟩,.bool od,.slice ka kn2 kc,.slice ia qn2 ic] 35)) 35 #[.int .i64 kd,.string ⟨tx.toArray⟩,.bool od,.slice ka2 kn2 kc2,.slice ia2 qn2 ic2];rw[World.size_alloc]at this;exact this
    ·refine⟨wq.heap.size+1,wq.heap.size,rfl,rfl,hid ⟨?_,(Blk.new _ _ _).alloc _,((((Below.refl wq.heap.size wq).alloc (Nat.le_refl _) _).alloc (by simp) _).drew)⟩⟩;have:=Blk.new (wq.alloc (.cells #[.int .i64 kd,.string ⟨tx.toArray⟩,.bool od,.slice ka2 kn2 kc2,.slice ia2 qn2 ic2] 35)) 35 #[.int .i64 kd,.string ⟨tx.toArray⟩,.bool od,.slice ka kn2 kc,.slice ia qn2 ic];rw[World.size_alloc]at this;exact this
   case rest=>
    obtain⟨g6,g7,rfl,rfl,HBK⟩:=hcut;clear c0 c1 c2_ c3 c4 d0 d1 d2 d3 d4 a0 b0;obtain⟨e0,e1,e2,e3⟩:=cells4 HBK.out.1;obtain⟨f0,f1,f2,f3⟩:=cells4 HBK.out.2.1;have hts:((⟨tx.toArray⟩:ByteArray)==⟨tx.toArray⟩)=true:=by rw[str_eq];simp
    have HLW:Hid (Below gb wq wc):=hid (HBK.out.2.2.mono (by have:=HLT.out;have:=HSZ.out;omega));have HC1:=hid (zgg ka ka2 kc kc2 kn2 K (hid HLEN.out.1) zk wc ((HROW.out.1.below HLW.out).more (by have:=HLT.out;have:=HSZ.out;have:=HBK.out.2.2.size;omega)) ((HROW.out.2.2.1.below HLW.out).more (by have:=HLT.out;have:=HSZ.out;have:=HBK.out.2.2.size;omega)));go_wp2_with fail;refine HC1.out.mono ?_;rintro _ w5 ⟨rfl,hb5⟩;have HB5:=hid hb5;have x6:=HBK.out.1.below hb5 HBK.out.1.lt;have x7:=HBK.out.2.1.below hb5 HBK.out.2.1.lt;have e4:w5.cell? ⟨g6,4,none⟩=some (.slice ia qn2 ic):=x6.cell 4;have f4:w5.cell? ⟨g7,4,none⟩=some (.slice ia2 qn2 ic2):=x7.cell 4;have HLW5:Hid (Below gb wq w5):=hid (HLW.out.trans (hb5.mono (by have:=HLT.out;have:=HSZ.out;have:=HBK.out.2.2.size;omega)));have HC2:=hid (zgg ia ia2 ic ic2 qn2 Q (hid HLEN.out.2) zq w5 ((HROW.out.2.1.below HLW5.out).more (by have:=HLT.out;have:=HSZ.out;have:=HBK.out.2.2.size;have:=hb5.size;omega)) ((HROW.out.2.2.2.below HLW5.out).more (by have:=HLT.out;have:=HSZ.out;have:=HBK.out.2.2.size;have:=hb5.size;omega)));clear hb5 x6 x7 e0 e1 e2 e3 f0 f1 f2 f3;go_wp2_with fail;refine HC2.out.mono ?_;rintro _ w6 ⟨rfl,hb6⟩;have HB6:Hid (Below w1.heap.size w1 w6):=hid (HB.out.trans ((HBK.out.2.2.mono HSZ.out).trans ((HB5.out.mono (by have:=HSZ.out;have:=HBK.out.2.2.size;omega)).trans (hb6.mono (by have:=HSZ.out;have:=HBK.out.2.2.size;have:=HB5.out.size;omega)))));clear hb6 e4 f4;go_wp2;go_roundw
    case rel=>exact⟨k+1,by omega,by go_num,HB6⟩
    case measure=>simp[intOf];omega
  ·have hltI:¬(k:Int)<(N:Int):=by omega
   go_wp2;go_ret;exact⟨rfl,by rw[HGB.out];exact HB1.out.2.2.trans (HB.out.mono (by have:=HLT.out;omega))⟩
theorem zg0 {w:World} {g:Nat} {t:TypeId} {cs:Array Value} (h:w.heap.size=g):Blk (w.alloc (.cells cs t)) g t cs:=by subst h;exact Blk.new _ _ _
theorem zi8 (s:Gr.Str) (hl:s.length<=1073741823) (w:World):Calls prog 92 #[.string ⟨s.toArray⟩] w (RPost (rdT s) w):=by
 go_enter func92,ntmps92;go_upto_region 4 with fail;obtain⟨w5,hw5⟩:=ex (((((w.alloc (.cells #[.string ⟨s.toArray⟩] 9)).alloc (.cells #[.int .i64 0,.int .i64 0,.int .i64 0,.int .i64 0,.int .i64 0,.int .i64 0,.int .i64 0,.int .i64 0,.int .i64 0,.int .i64 0,.int .u8 0] 135)).alloc (.cells #[.int .i64 0,.int .i64 0,.int .i64 0,.int .i64 0,.int .i64 0,.int .i64 0,.int .i64 0,.int .i64 0,.int .i64 0,.int .i64 0,.int .u8 0] 135)).alloc (.cells #[.int .i64 0] 3)).alloc (.cells #[.func (.func 124) #[] #[.pointer (some ⟨w.heap.size+1+1+1,0,none⟩),.pointer (some ⟨w.heap.size,0,none⟩)]] 170))
 have b0:Blk w5 (w.heap.size) 9 #[.string ⟨s.toArray⟩]:=by rw[<-hw5];exact((((zg0 (by simp)).alloc _).alloc _).alloc _).alloc _
 have b1:Blk w5 (w.heap.size+1) 135 #[.int .i64 0,.int .i64 0,.int .i64 0,.int .i64 0,.int .i64 0,.int .i64 0,.int .i64 0,.int .i64 0,.int .i64 0,.int .i64 0,.int .u8 0]:=by rw[<-hw5];exact(((zg0 (by simp)).alloc _).alloc _).alloc _
 have b2:Blk w5 (w.heap.size+1+1) 135 #[.int .i64 0,.int .i64 0,.int .i64 0,.int .i64 0,.int .i64 0,.int .i64 0,.int .i64 0,.int .i64 0,.int .i64 0,.int .i64 0,.int .u8 0]:=by rw[<-hw5];exact((zg0 (by simp)).alloc _).alloc _
 have b3:Blk w5 (w.heap.size+1+1+1) 3 #[.int .i64 0]:=by rw[<-hw5];exact(zg0 (by simp)).alloc _
 have b4:Blk w5 (w.heap.size+1+1+1+1) 170 #[.func (.func 124) #[] #[.pointer (some ⟨w.heap.size+1+1+1,0,none⟩),.pointer (some ⟨w.heap.size,0,none⟩)]]:=by rw[<-hw5];exact zg0 (by simp)
 have l5:Below w.heap.size w w5:=by rw[<-hw5];exact(((((Below.refl _ _).alloc (Nat.le_refl _) _).alloc (by simp) _).alloc (by simp;omega) _).alloc (by simp;omega) _).alloc (by simp;omega) _
 have HM:Hid (RMem s w (w.heap.size) (w.heap.size+1) (w.heap.size+1+1) (w.heap.size+1+1+1) (w.heap.size+1+1+1+1) 0 (fun _=>0) 0 0 0 w5):=Lib.hid ⟨l5,by omega,by omega,by omega,by omega,b0,b1,b2,b3,b4⟩;(try rw[hw5]);clear hw5 b0 b1 b2 b3 b4 l5;go_cut [7] (fun s7 wx=>s7=.func (.func 125) #[] #[.pointer (some ⟨w.heap.size+1+1+1,0,none⟩),.pointer (some ⟨w.heap.size,0,none⟩),.pointer (some ⟨w.heap.size+1+1+1+1,0,none⟩)]/\wx=w5)
 case first=>
  go_wp2;go_meet;exact⟨rfl,rfl⟩
 case rest=>
 obtain⟨rfl,rfl⟩:=hcut;refine(‹∀(a:Act) (w_1:World),Code.wp prog _ _ a w_1->_›) _ _ ?_;exact zrz s hl w _ _ _ _ _ _ (rdT s) HM (Lib.hid rfl)
theorem zr6 {s:Gr.Str} {a:Nat} {z:Gr.Zn} (h:zoneAt s a=some z):(z.z=90/\z.h=0/\z.m=0)\/z.z=43\/z.z=45:=by
 unfold zoneAt at h;split at h
 ·grind
 ·split at h
  ·split at h
   ·rename_i hb;injection h with h
    subst h;right;simp only[Bool.and_eq_true,Bool.or_eq_true]at hb;show s.getD a 0=43\/s.getD a 0=45;rcases hb.1 with h1|h1
    ·unfold isAt at h1;have:=eq_of_beq h1;left;simp[List.getD_eq_getElem?_getD,this]
    ·unfold isAt at h1;have:=eq_of_beq h1;right;simp[List.getD_eq_getElem?_getD,this]
   ·cases h
  ·cases h
theorem mo_z {s:Gr.Str} {x:Gr.Mo} (h:Gr.rd s=some x):(x.z=0\/(x.z=90/\x.zh=0/\x.zm=0)\/x.z=43\/x.z=45)/\(x.time=false->x.nanos=0):=by
 unfold Gr.rd at h;split at h
 ·grind
 ·split at h
  ·grind
  ·split at h
   ·split at h
    ·cases h
    ·split at h
     ·grind
     ·split at h
      ·rename_i z hz;split at h
       ·injection h with h;subst h;exact⟨.inr (zr6 hz),fun e=>by cases e⟩
       ·cases h
      ·cases h
   ·cases h
theorem ztq {x:Gr.Mo} (h:MoOk x):decide (((moSh x:Nat):Int)=2)=!x.date:=by
 unfold moSh;rcases h.sh with⟨h1,h2⟩|⟨h1,h2,_⟩|⟨h1,h2,_⟩<;>rw[h1,h2]<;>decide
theorem zne {x:Gr.Mo} (h:MoOk x):prngB ((moSh x:Nat):Int) x.y x.m x.d x.h x.mi x.c x.zh x.zm=okR x:=by
 unfold prngB okR;rw[ztq h]
theorem psecs {x:Gr.Mo} (hz:(x.z=90/\x.zh=0/\x.zm=0)\/x.z=43\/x.z=45):
 (if((x.z.toNat:Nat):Int)=43 then Cal.num x.y x.m x.d*86400+(x.h:Int)*3600+(x.mi:Int)*60+(x.c:Int)-((x.zh:Int)*3600+(x.zm:Int)*60)else Cal.num x.y x.m x.d*86400+(x.h:Int)*3600+(x.mi:Int)*60+(x.c:Int)+((x.zh:Int)*3600+(x.zm:Int)*60))=secs x:=by
 unfold secs offS;rcases hz with⟨h,h1,h2⟩|h|h
 ·omega
 ·rw[h,if_pos (by decide),if_neg (by decide)];omega
 ·rw[h,if_neg (by decide),if_pos rfl];omega
theorem u8_z {z:UInt8} (h:z≠0):((z.toNat:Nat):Int)≠0:=by
 intro e;apply h;apply UInt8.toNat_inj.1;simpa using e
theorem zg4 {s:Gr.Str} (hl:s.length<=1073741823) (h:Gr.rd s=none) (w:World):Calls Tryz.prog 92 #[.string ⟨s.toArray⟩] w fun e w'=>Below w.heap.size w w'/\∃(sh y m d h mi c zh zm n z:Nat),e=.returned (.tuple #[.agg #[.int .i64 (sh:Int),.int .i64 (y:Int),.int .i64 (m:Int),.int .i64 (d:Int),.int .i64 (h:Int),.int .i64 (mi:Int),.int .i64 (c:Int),.int .i64 (zh:Int),.int .i64 (zm:Int),.int .i64 (n:Int),.int .u8 (z:Int)],.bool false]):=by
 refine(zi8 s hl w).mono ?_;rintro e w' ⟨hb,sh,f,nn,z,he,_⟩;refine⟨hb,sh,f 0,f 1,f 2,f 3,f 4,f 5,f 6,f 7,nn,z,?_⟩;rw[he];unfold rdT;rw[h];rfl
theorem zei {s:Gr.Str} {x:Gr.Mo} (hl:s.length<=1073741823) (h:Gr.rd s=some x) (w:World):Calls Tryz.prog 92 #[.string ⟨s.toArray⟩] w fun e w'=>e=.returned (.tuple #[.agg #[.int .i64 ((moSh x:Nat):Int),.int .i64 (x.y:Int),.int .i64 (x.m:Int),.int .i64 (x.d:Int),.int .i64 (x.h:Int),.int .i64 (x.mi:Int),.int .i64 (x.c:Int),.int .i64 (x.zh:Int),.int .i64 (x.zm:Int),.int .i64 (x.nanos:Int),.int .u8 ((x.z.toNat:Nat):Int)],.bool true])/\Below w.heap.size w w':=by
 refine(zi8 s hl w).mono ?_;rintro e w' ⟨hb,sh,f,nn,z,he,hx⟩;refine⟨?_,hb⟩;have e1:rdT s=some (moC x):=by unfold rdT;rw[h];rfl
 have e2:=hx _ e1;rw[he,e1,<-e2];rfl
end Go.Proofs.YtoigpackhninoaaGreatDoor
