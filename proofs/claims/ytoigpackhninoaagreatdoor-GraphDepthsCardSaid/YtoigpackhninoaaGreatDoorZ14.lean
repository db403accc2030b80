import Derived.Test.YtoigpackhninoaaGreatDoorZ10
import Derived.Laws.CopyOwn
import Derived.Test.YtoigpackhninoaaGreatDoorGrInsR3
namespace Go.Proofs.YtoigpackhninoaaGreatDoor
open Gr
open _root_.Go.Proofs.Tryz
open Lib (hid)
set_option maxRecDepth 100000
set_option maxHeartbeats 16000000
open Go.RowKit
def d8 (d:List Nat):List UInt8:=d.map UInt8.ofNat
theorem zxx (d:List Nat):(d8 d).length=d.length:=by simp[d8]
def zpv (w:World) (d:List Nat) (e:Ending) (w':World):Prop:=∃g,e=.returned (.slice (some ⟨g,0,none⟩) d.length d.length)/\w.heap.size<=g/\Blk w' g 5 (ucells (d8 d))/\Below w.heap.size w w'
theorem zlb (a:List UInt8) (n:Nat) (x:UInt8) (h:0<n):(a++List.replicate n 0).set a.length x=(a++[x])++List.replicate (n-1) 0:=by
 obtain⟨m,rfl⟩:∃m,n=m+1:=⟨n-1,by omega⟩
 rw[List.set_append_right _ _ (Nat.le_refl _),Nat.sub_self,List.replicate_succ,List.set_cons_zero,List.append_assoc];rfl
theorem zpw (s:Gr.Str) (hl:s.length<=1073741823) (hd:s.all Gr.dig=true) (w:World):
 Calls prog 111 #[.string ⟨s.toArray⟩] w (zpv w (vals s)):=by
 have hmk:=fun W=>zcw s.length (by omega) W
 go_enter func111,ntmps111;go_upto_region 2 with fail;obtain⟨w1,hw1⟩:=ex (w.alloc (.cells (ucells (List.replicate s.length 0)) 5))
 obtain⟨db,hdb⟩:=ex w.heap.size
 have HB1:Hid (Blk w1 db 5 (ucells (List.replicate s.length 0))/\Below db w w1):=hid (by rw[<-hw1,<-hdb];exact⟨Blk.new _ _ _,(Below.refl _ _).alloc (Nat.le_refl _) _⟩);have HDB:=hid hdb;have HD:=hid hd;rw[hw1];(try rw[hdb]);clear hw1 hdb hmk hd;go_wp2_with fail;go_loopw [10] (fun s10 wr=>∃k:Nat,k<=s.length/\s10=.int .i64 k/\Hid (Blk wr db 5 (ucells (d8 (vals (s.take k))++List.replicate (s.length-k) 0))/\Below db w wr)) (fun s10 _=>s.length-(intOf s10).toNat)
 case atStart=>exact⟨0,by omega,rfl,hid (by simpa[vals,d8]using HB1.out)⟩
 case round=>
  obtain⟨k,hk,rfl,HV⟩:=hrel;by_cases hlt:k<s.length
  ·have hltI:(k:Int)<(s.length:Int):=by omega
   obtain⟨b,hb⟩:∃b:Nat,(s[k]'(by omega)).toNat=b:=⟨_,rfl⟩
   have hbv:(((⟨s.toArray⟩:ByteArray)[k]'(by simpa[ByteArray.size]using hlt)).toNat:Int)=(b:Int):=by rw[<-hb];rfl
   have hbd:=(zbh (s[k]'hlt)).1 (List.all_eq_true.1 HD.out _ (List.getElem_mem hlt));rw[hb]at hbd;have a48:(48:Int)<=(b:Int):=by omega
   have a57:(b:Int)<=57:=by omega
   have pfd:∀j,wr.frozen? ⟨db,j,none⟩=false:=HV.out.1.frozen;have hlen1:(d8 (vals (s.take k))).length=k:=by simp[d8,vals];omega
   obtain⟨dv,zd⟩:∃dv,wr.cell? ⟨db,k,none⟩=some dv:=by
    rw[HV.out.1.cell];refine⟨_,Array.getElem?_eq_getElem (i:=k) ?_⟩;simp[ucells,hlen1];omega
   have HNX:Hid (d8 (vals (s.take (k+1)))=d8 (vals (s.take k))++[UInt8.ofNat (b-48)]/\(d8 (vals (s.take k))).length=k):=hid ⟨by
    rw[List.take_succ_eq_append_getElem hlt];simp only[d8,vals,List.map_append,List.map_cons,List.map_nil,Gr.dv,hb],hlen1⟩
   clear hb hbd hlen1;go_wp2_with fail;obtain⟨xb,hxb⟩:∃xb:UInt8,xb=UInt8.ofNat (b-48):=⟨_,rfl⟩
   have hxi:(b:Int)-48=(xb.toNat:Int):=by rw[hxb,UInt8.toNat_ofNat'];omega
   rw[hxi];have HN:Hid (Blk (wr.setCell ⟨db,k,none⟩ (.int .u8 (xb.toNat:Int))) db 5 (ucells (d8 (vals (s.take (k+1)))++List.replicate (s.length-(k+1)) 0))/\Below db w (wr.setCell ⟨db,k,none⟩ (.int .u8 (xb.toNat:Int)))):=hid ⟨by
    have h1:=HV.out.1.set_ k (.int .u8 (xb.toNat:Int));rw[zd0]at h1;have h2:=zlb (d8 (vals (s.take k))) (s.length-k) xb (by omega);rw[HNX.out.2]at h2;rw[h2]at h1;rw[HNX.out.1,<-hxb,show s.length-(k+1)=s.length-k-1 from by omega];exact h1,HV.out.2.setCell (by simp) _⟩
   clear hxi hxb;go_roundw
   case rel=>exact⟨k+1,by omega,by go_num,HN⟩
   case measure=>simp[intOf];omega
  ·have hltI:¬(k:Int)<(s.length:Int):=by omega
   have HF:Hid (Blk wr db 5 (ucells (d8 (vals s)))):=hid (by
    have:=HV.out.1;rwa[show k=s.length from by omega,List.take_length,Nat.sub_self,List.replicate_zero,List.append_nil]at this)
   go_wp2;go_ret;refine⟨db,?_,by rw[HDB.out];exact Nat.le_refl _,HF.out,by rw[HDB.out];exact HV.out.2⟩;simp[vals]
theorem infoByteS:(prog.info? 5).map (·.size)=some 1:=by kernel_rfl
theorem zmt (W:World) (B g n c:Nat) (A:Option Addr) (l:List UInt8) (ty:TypeId) (hl:l.length=n) (hb:Blk W g 5 (ucells (List.replicate n 0))) (hr:RowAt byteL W B A l):
 ∃W',(Builtin.copy_ #[119,119] ty #[.slice (some ⟨g,0,none⟩) n n,.slice A n c]).run prog W=.ok (.int .i64 n) W'/\Kept1 g W W'/\Blk W' g 5 (ucells l):=by
 by_cases h0:n=0
 ·subst h0;obtain rfl:=List.eq_nil_of_length_eq_zero hl;exact⟨W,run_copy_none (P:=prog) W 119 119 ty 5 _ A 0 0 0 c underlying119 infoByteS rfl,Kept1.refl _ _,hb⟩
 ·obtain⟨ad,rfl,hlt,hc⟩:=hr.2 (by omega);have hall:(byteL.all l).length=n:=by rw[Lay.all_len];show l.length*1=n;omega
  have hrun:=run_copy_row (P:=prog) W 119 119 ty 5 g 0 n n ad n c (ucells (List.replicate n 0)) 5 (byteL.all l) underlying119 infoByteS hb (by rw[hall];exact(Nat.min_self n).symm) hc (by rw[hall];simp[ucells]) (byteL.all_one l);have e:((ucells (List.replicate n 0)).toList.take 0++byteL.all l++(ucells (List.replicate n 0)).toList.drop (0+(byteL.all l).length)).toArray=ucells l:=by
   rw[hall,<-zar];simp[ucells]
  rw[e,hall]at hrun;exact⟨_,hrun,⟨rfl,rfl,rfl,size_setRow _ _ _,fun k hk=>setRow_other _ _ _ _ hk⟩,setRow_heap _ _ _ _ _ _ hb⟩
theorem zha (l:List UInt8) (k:Nat):(byteL.all l).drop k=byteL.all (l.drop k):=by
 rw[<-zar,<-zar];simp[ucells,List.map_drop]
theorem zhb (l:List UInt8) (k:Nat):(byteL.all l).take k=byteL.all (l.take k):=by
 rw[<-zar,<-zar];simp[ucells,List.map_take]
theorem zsv {w:World} {B:Nat} {A:Option Addr} {l:List UInt8} (h:RowAt byteL w B A l) {k cap:Nat} (hk:k<=l.length) (hc:l.length<=cap):RowAt byteL w B (if cap=k then A else A.map (·.add (k*1))) (l.drop k):=by
 have:=Reads.cut h hk hc;show Reads w B 1 _ _ _;rw[show byteL.sz=1 from rfl,Nat.mul_one,zha]at this;rw[Nat.mul_one,List.length_drop];exact this
theorem zpx {w:World} {B:Nat} {A:Option Addr} {l:List UInt8} (h:RowAt byteL w B A l) {k:Nat} (hk:k<=l.length):RowAt byteL w B A (l.take k):=by
 refine⟨byteL.all_len _,fun h0=>?_⟩;have hkl:(l.take k).length=k:=by simp;omega
 rw[hkl]at h0;obtain⟨ad,h1,h2,h3⟩:=h.2 (by omega);refine⟨ad,h1,h2,fun j u hu=>h3 j u ?_⟩;rw[<-zhb]at hu;rw[List.getElem?_take]at hu;split at hu
 ·exact hu
 ·cases hu
theorem zmu (a:Option Addr) (n c:Nat) (h1:1<=n) (w:World):(Instr.slice 119 (.slice a n c) (some (.int .i64 1)) none none).run prog w=.ok (.slice (if c=1 then a else a.map (·.add (1*1))) (n-1) (c-1)) w:=by
 obtain⟨i0,z,hi,hz0,hz1,hz2,hz3⟩:=byteT.info;rw[zh9 (P:=prog) 119 5 i0 underlying119 hi a n c 1 (by omega) (by omega) w,hz1];rfl
def NumAt (x:Gr.Dn) (A:Option Addr) (c:Nat) (w:World):Prop:=(x.d=[]/\A=none/\c=0)\/∃g,A=some ⟨g,0,none⟩/\c=x.d.length/\Blk w g 5 (ucells (d8 x.d))
theorem NumAt.row {x:Gr.Dn} {A:Option Addr} {c:Nat} {w:World} (h:NumAt x A c w):RowAt byteL w w.heap.size A (d8 x.d):=by
 rcases h with⟨h1,rfl,_⟩|⟨g,rfl,_,hb⟩
 ·rw[h1];exact RowAt.nil
 ·exact RowAt.ofBlk hb (zar _) hb.lt
theorem NumAt.cap {x:Gr.Dn} {A:Option Addr} {c:Nat} {w:World} (h:NumAt x A c w):x.d.length<=c:=by
 rcases h with⟨h1,_,rfl⟩|⟨g,_,rfl,hb⟩
 ·rw[h1];exact Nat.le_refl _
 ·exact Nat.le_refl _
theorem NumAt.keep {x:Gr.Dn} {A:Option Addr} {c:Nat} {w w':World} (h:NumAt x A c w) (hk:∀g cs,Blk w g 5 cs->Blk w' g 5 cs):NumAt x A c w':=by
 rcases h with h1|⟨g,h1,h2,hb⟩
 ·exact .inl h1
 ·exact .inr ⟨g,h1,h2,hk _ _ hb⟩
theorem NumAt.below {x:Gr.Dn} {A:Option Addr} {c:Nat} {w w':World} (h:NumAt x A c w) (hb:Below w.heap.size w w'):NumAt x A c w':=h.keep (fun _ _ hg=>hg.below hb hg.lt)
theorem NumAt.alloc {x:Gr.Dn} {A:Option Addr} {c:Nat} {w:World} (h:NumAt x A c w) (o:Obj):NumAt x A c (w.alloc o):=h.keep (fun _ _ hg=>hg.alloc o)
theorem NumAt.set_ {x:Gr.Dn} {A:Option Addr} {c:Nat} {w:World} (h:NumAt x A c w) {k i:Nat} {t:TypeId} {cs:Array Value} (hk:Blk w k t cs) (ht:5≠t) (u:Value):NumAt x A c (w.setCell ⟨k,i,none⟩ u):=h.keep (fun _ _ hg=>hg.far (hg.ne_ hk ht) u)
def NumVal (x:Gr.Dn) (v:Value) (w:World):Prop:=∃A c,v=.agg #[.bool x.neg,.slice A x.d.length c,.int .i64 x.e]/\NumAt x A c w
def zlc (x:Gr.Dn) (w:World) (e:Ending) (w':World):Prop:=∃v,e=.returned v/\NumVal x v w'/\Below w.heap.size w w'
theorem zxy {d:List Nat} {k:Nat} (h:k<d.length):(d8 d)[k]'(by simpa[d8]using h)=UInt8.ofNat d[k]:=by simp[d8]
theorem zvt {w:World} {B:Nat} {A:Option Addr} {d:List Nat} {k v:Nat} (h:RowAt byteL w B A (d8 d)) (hk:k<d.length) (hv:d[k]=v) (hl:v<10):∃ad,A=some ad/\ad.block<B/\w.cell? (ad.add k)=some (.int .u8 (v:Int)):=by
 obtain⟨ad,h1,h2,h3⟩:=zxg h (show k<(d8 d).length by simpa[d8]using hk);refine⟨ad,h1,h2,?_⟩;rw[h3,zxy hk,hv,UInt8.toNat_ofNat',Nat.mod_eq_of_lt (by omega)]
theorem zpy (d:List Nat):(0::d).dropWhile isZ=d.dropWhile isZ:=rfl
theorem zui (v:Nat) (d:List Nat) (h:v≠0):(v::d).dropWhile isZ=v::d:=by
 rw[List.dropWhile_cons,if_neg];simpa[isZ]using h
theorem zhc (d:List Nat) (v:Nat):Gr.rz (d++[v])=if v=0 then Gr.rz d else d++[v]:=by
 unfold Gr.rz;rw[List.reverse_append,List.reverse_cons,List.reverse_nil,List.nil_append,List.singleton_append,List.dropWhile_cons];by_cases h:v=0
 ·rw[if_pos (by simpa[isZ]using h),if_pos h]
 ·rw[if_neg (by simpa[isZ]using h),if_neg h];simp
theorem zsw (neg:Bool) (A:Option Addr) (c:Nat) (d:List Nat) (E:Int) (hl:d.length<=1073741823) (hc:d.length<=c) (hd:∀v∈d,v<10) (hE0:-1152921504606846976<=E) (hE1:E<=1152921504606846976) (w:World) (B:Nat) (hB:B<=w.heap.size) (h:RowAt byteL w B A (d8 d)):
 Calls prog 110 #[.bool neg,.slice A d.length c,.int .i64 E] w (zlc (norm neg d E) w):=by
 obtain⟨r,hr⟩:=ex (norm neg d E)
 have HR:=hid hr;rw[hr];clear hr;have HRow:=hid h;have HD:=hid hd;clear h hd;go_enter func110,ntmps110;go_upto_region 1 with fail;obtain⟨w1,hw1⟩:=ex (w.alloc (.cells #[.bool false,.slice none 0 0,.int .i64 0] 125))
 obtain⟨gb,hgb⟩:=ex w.heap.size
 have HB1:Hid (Blk w1 gb 125 #[.bool false,.slice none 0 0,.int .i64 0]/\Below gb w w1/\w1.heap.size=gb+1):=hid (by rw[<-hw1,<-hgb];exact⟨Blk.new _ _ _,(Below.refl _ _).alloc (Nat.le_refl _) _,by simp⟩);have HGB:=hid hgb;have hBg:B<=gb:=by omega
 (try rw[hw1]);(try rw[hgb]);clear hw1 hgb;have p0:∀j,w1.frozen? ⟨gb,j,none⟩=false:=HB1.out.1.frozen;obtain⟨q0,q1,q2⟩:=cells3 HB1.out.1;go_loop [1] (fun s1=>∃(A1:Option Addr) (c1:Nat) (m:List Nat),s1=.slice A1 m.length c1/\Hid (m.length<=c1/\RowAt byteL w1 B A1 (d8 m)/\m.dropWhile isZ=d.dropWhile isZ/\(∀v∈m,v<10)/\m.length<=1073741823)) (fun s1=>match s1 with| .slice _ n _=>n|_=>0)
 case atStart=>exact⟨A,c,d,rfl,hid ⟨hc,HRow.out.below (HB1.out.2.1.mono hBg),rfl,HD.out,hl⟩⟩
 case round=>
  obtain⟨A1,c1,m,rfl,HV⟩:=hrel;cases m with
  |nil=>
   have HF:Hid (r=zeroD):=hid (by
    rw[<-HR.out];unfold norm;rw[if_pos (show d.dropWhile isZ=[]from HV.out.2.2.1.symm)])
   go_wp2_with fail;go_loop [1,2] (fun s1 s2=>s1=.slice A1 0 c1/\s2=.int .i64 E) (fun _ _=>0)
   case atStart=>exact⟨rfl,rfl⟩
   case round=>
    obtain⟨rfl,rfl⟩:=hrel;go_wp2_with fail;have hb3:=((HB1.out.1.set_ 0 (.bool false)).set_ 1 (.slice none 0 0)).set_ 2 (.int .i64 0);have e0:=hb3.cell 0;have e1:=hb3.cell 1;have e2:=hb3.cell 2;refine bodyPost_ret (v:=.agg #[.bool false,.slice none 0 0,.int .i64 0]) (by simp[results,results110,go_sem,e0,e1,e2]) rfl ?_;rw[HF.out];exact⟨_,rfl,⟨none,0,rfl,.inl ⟨rfl,rfl,rfl⟩⟩,by rw[HGB.out];exact((HB1.out.2.1.setCell (p:=⟨gb,0,none⟩) (by simp) _).setCell (p:=⟨gb,1,none⟩) (by simp) _).setCell (p:=⟨gb,2,none⟩) (by simp) _⟩
  |cons v m=>
   obtain⟨h1,h2,h3,h4,h5⟩:=HV.out;have hv10:v<10:=h4 v (.head _);have hlc:m.length+1<=c1:=h1;obtain⟨ad,rfl,_,y0⟩:=zvt h2 (show 0<(v::m).length by simp) rfl hv10;rw[show ad.add 0=ad from rfl]at y0;have hp1:(0:Int)<((v::m).length:Int):=by simp
   have htl:=zmu (some ad) (v::m).length c1 (by simp);by_cases hz:v=0
   ·subst hz;have hzb:(((0:Nat):Int)==0)=true:=rfl;have HNX:Hid (m.length<=c1-1/\RowAt byteL w1 B (if c1=1 then some ad else(some ad).map (·.add (1*1))) (d8 m)/\m.dropWhile isZ=d.dropWhile isZ/\(∀v∈m,v<10)/\m.length<=1073741823):=hid ⟨by omega,zsv h2 (k:=1) (by simp[d8]) (by simpa[d8]using h1),by rw[<-h3,zpy],fun v hv=>h4 v (.tail _ hv),by simp at h5;omega⟩;clear h1 h2 h3 h4 h5;go_wp2;go_round
    case rel=>exact⟨_,_,m,rfl,HNX⟩
    case measure=>simp
   ·have hz1:¬((v:Int)=0):=by omega
    have hzb:((v:Int)==0)=false:=by simpa using hz
    obtain⟨M,hM⟩:=ex (v::m)
    have HM:Hid (M.length<=c1/\RowAt byteL w1 B (some ad) (d8 M)/\(∀v∈M,v<10)/\M.length<=1073741823/\M.head?=some v/\M≠[]/\r=⟨neg,Gr.rz M,E+((M.length-(Gr.rz M).length:Nat):Int)⟩):=hid (by
     rw[<-hM];refine⟨h1,h2,h4,h5,rfl,by simp,?_⟩;rw[<-HR.out];unfold norm;rw[<-h3,zui v m hz,if_neg (by simp)])
    rw[hM];rw[hM]at hp1;clear h1 h2 h3 h4 h5 htl hM;go_wp2_with fail;go_loop [1,2] (fun s1 s2=>∃k:Nat,0<k/\k<=M.length/\s1=.slice (some ad) k c1/\s2=.int .i64 (E+((M.length-k:Nat):Int))/\Hid (Gr.rz (M.take k)=Gr.rz M)) (fun s1 _=>match s1 with| .slice _ n _=>n|_=>0)
    case atStart=>exact⟨M.length,by omega,Nat.le_refl _,rfl,by simp,hid (by rw[List.take_length])⟩
    case round=>
     clear y0;obtain⟨k,hk0,hkM,rfl,rfl,HV2⟩:=hrel;obtain⟨j,rfl⟩:∃j,k=j+1:=⟨k-1,by omega⟩
     have hjM:j<M.length:=by omega
     obtain⟨u,hu⟩:=ex (M[j])
     have hu10:u<10:=by rw[<-hu];exact HM.out.2.2.1 _ (List.getElem_mem hjM)
     obtain⟨ad',hade,_,y0⟩:=zvt HM.out.2.1 hjM hu hu10;injection hade with hade
     subst hade;have HT:=hid (show M.take (j+1)=M.take j++[u] by rw[List.take_succ_eq_append_getElem hjM,hu]);have hcut:=fun W=>zii (some ad) (j+1) c1 j (by have:=HM.out.1;omega) W
     have HU:=hid hu;clear hu;have hML:M.length<=1073741823:=HM.out.2.2.2.1;have hjI:(j:Int)<=1073741822:=by omega
     have hj0I:(0:Int)<=(j:Int):=by omega
     by_cases hz2:u=0
     ·subst hz2;have hj0:0<j:=by
       rcases Nat.eq_zero_or_pos j with h0|h0
       ·subst h0;have h1:=HM.out.2.2.2.2.1;rw[List.head?_eq_getElem?,List.getElem?_eq_getElem hjM,HU.out]at h1;injection h1 with h1
        exact absurd h1.symm hz
       ·exact h0
      have hub:(((0:Nat):Int)==0)=true:=rfl;have HNX:Hid (Gr.rz (M.take j)=Gr.rz M):=hid (by rw[<-HV2.out,HT.out,zhc,if_pos rfl]);go_wp2;go_round
      case rel=>exact⟨j,hj0,by omega,rfl,by go_num,HNX⟩
      case measure=>simp
     ·have hz3:¬((u:Int)=0):=by omega
      have hub:((u:Int)==0)=false:=by simpa using hz2
      have HF:Hid (r=⟨neg,M.take (j+1),E+((M.length-(j+1):Nat):Int)⟩):=hid (by
       have h1:=HV2.out;rw[HT.out,zhc,if_neg hz2,<-HT.out]at h1;rw[HM.out.2.2.2.2.2.2,<-h1,List.length_take,Nat.min_eq_left (by omega)])
      have hmk:∀W:World,(Instr.makeSlice 119 (.int .i64 ((j:Int)+1)) (.int .i64 ((j:Int)+1))).run prog W=.ok (.slice (some ⟨W.heap.size,0,none⟩) (j+1) (j+1)) (W.alloc (.cells (ucells (List.replicate (j+1) 0)) 5)):=fun W=>by
       have:=zcw (j+1) (by omega) W;rwa[show(((j+1:Nat)):Int)=(j:Int)+1 from by omega]at this
      have hnz:¬(((j+1:Nat):Int)=0):=by omega
      have hnzb:(((j+1:Nat):Int)==0)=false:=by rw[beq_eq_false_iff_ne];omega
      go_upto_region 9 with fail;obtain⟨w2,hw2⟩:=ex (w1.alloc (.cells (ucells (List.replicate (j+1) 0)) 5))
      obtain⟨db,hdb⟩:=ex w1.heap.size
      have hl2:Below db w1 w2:=by rw[<-hw2,<-hdb];exact(Below.refl _ _).alloc (Nat.le_refl _) _
      have hb2:Blk w2 db 5 (ucells (List.replicate (j+1) 0)):=by rw[<-hw2,<-hdb];exact Blk.new _ _ _
      have hdg:db=gb+1:=by rw[<-hdb];exact HB1.out.2.2
      have hr2:RowAt byteL w2 B (some ad) (d8 (M.take (j+1))):=by
       have:=zpx HM.out.2.1 (k:=j+1) (by rw[zxx];omega);rw[show(d8 M).take (j+1)=d8 (M.take (j+1))from by simp[d8,List.map_take]]at this;exact this.below (hl2.mono (by omega))
      obtain⟨w3,hcp,hk3,hb3⟩:=zmt w2 B db (j+1) c1 (some ad) (d8 (M.take (j+1))) 3 (by simp[d8];omega) hb2 hr2;have hl3:Below db w1 w3:=hl2.trans (hk3.below (Nat.le_refl _));have hz3:w3.heap.size=db+1:=by rw[hk3.size,<-hw2,World.size_alloc,hdb]
      have HG3:Hid (Blk w3 gb 125 #[.bool false,.slice none 0 0,.int .i64 0]):=hid (HB1.out.1.below hl3 (by omega));have HB3:=hid hb3;have HL3:Hid (Below gb w w3):=hid (HB1.out.2.1.trans (hl3.mono (by omega)));have hdgn:gb≠db:=by omega
      rw[hw2];(try rw[hdb]);clear hw2 hdb hl2 hb2 hr2 hk3 hb3 hl3 hz3 hdg;go_upto_region 10 with fail;clear hcp p0 q0 q1 q2 y0;have p0:∀j,w3.frozen? ⟨gb,j,none⟩=false:=HG3.out.frozen;obtain⟨q0,q1,q2⟩:=cells3 HG3.out;go_wp2_with fail;have hv3:=((HG3.out.set_ 0 (.bool neg)).set_ 1 (.slice (some ⟨db,0,none⟩) (j+1) (j+1))).set_ 2 (.int .i64 (E+((M.length-(j+1):Nat):Int)));have e0:=hv3.cell 0;have e1:=hv3.cell 1;have e2:=hv3.cell 2;refine bodyPost_ret (v:=.agg #[.bool neg,.slice (some ⟨db,0,none⟩) (j+1) (j+1),.int .i64 (E+((M.length-(j+1):Nat):Int))]) (by simp[results,results110,go_sem,e0,e1,e2]) rfl ?_;rw[HF.out];have hlen:(M.take (j+1)).length=j+1:=by rw[List.length_take];omega
      refine⟨_,rfl,⟨some ⟨db,0,none⟩,j+1,by rw[hlen],.inr ⟨db,rfl,hlen.symm,?_⟩⟩,by rw[HGB.out];exact((HL3.out.setCell (p:=⟨gb,0,none⟩) (by simp) _).setCell (p:=⟨gb,1,none⟩) (by simp) _).setCell (p:=⟨gb,2,none⟩) (by simp) _⟩;exact((HB3.out.far hdgn.symm _).far hdgn.symm _).far hdgn.symm _
def zbf (s:Gr.Str) (a:Nat) (date:Bool) (Y M D:Int) (w:World) (e:Ending) (w':World):Prop:=∃(t:RT) (r:Int),e=.returned (.tuple #[t.v,.int .i64 r])/\Below w.heap.size w w'/\
 match clockAt s a with
 |none=>r=-1
 |some k=>r=(k.stop:Int)/\t=⟨date,true,false,Y,M,D,k.h,k.m,k.s,k.nanos,0,false⟩
def fracU (n:Nat):Nat:=if n<=8 then 10 ^ (8-n)else 0
structure Frac (s:Gr.Str) (b n N U:Nat):Prop where
 le:b+n<=s.length
 dig:((s.drop b).take n).all Gr.dig=true
 u:U=fracU n
 nn:n<=9->N=Gr.val ((s.drop b).take n)*10 ^ (9-n)
 hi:N<=999999999
theorem zqj (n:Nat):fracU n /10=fracU (n+1):=by
 unfold fracU;by_cases h:n+1<=8
 ·rw[if_pos (by omega),if_pos h,show 8-n=(8-(n+1))+1 from by omega,Nat.pow_succ,Nat.mul_div_cancel _ (by omega)]
 ·grind
theorem Frac.start {s:Gr.Str} {b:Nat} (h:b<=s.length):Frac s b 0 0 100000000:=⟨h,by simp,by simp[fracU],fun _=>by simp[Gr.val],by omega⟩
theorem Frac.next {s:Gr.Str} {b n N U:Nat} (h:Frac s b n N U) (hlt:b+n<s.length) (hd:Gr.dig (s[b+n])=true):Frac s b (n+1) (N+U*Gr.dv s[b+n]) (U /10):=by
 have ht:=zcl s b n hlt;have hda:((s.drop b).take (n+1)).all Gr.dig=true:=by rw[ht,List.all_append,h.dig];simp[hd]
 refine⟨by omega,hda,by rw[h.u,zqj],?_,?_⟩
 ·intro hn;rw[h.nn (by omega),ht,zbi,h.u];unfold fracU;rw[if_pos (by omega),show 9-n=(8-n)+1 from by omega,Nat.pow_succ,show 9-(n+1)=8-n from by omega];rw[Nat.add_mul,Nat.mul_comm (10 ^ (8-n)) (Gr.dv _)]
  congr 1
  rw[Nat.mul_comm (10 ^ (8-n)) 10,<-Nat.mul_assoc,Nat.mul_comm (Gr.val _) 10]
 ·by_cases hn:n+1<=9
  ·have e:N+U*Gr.dv s[b+n]=Gr.val ((s.drop b).take (n+1))*10 ^ (9-(n+1)):=by
    rw[h.nn (by omega),ht,zbi,h.u];unfold fracU;rw[if_pos (by omega),show 9-n=(8-n)+1 from by omega,Nat.pow_succ,show 9-(n+1)=8-n from by omega];rw[Nat.add_mul,Nat.mul_comm (10 ^ (8-n)) (Gr.dv _)]
    congr 1
    rw[Nat.mul_comm (10 ^ (8-n)) 10,<-Nat.mul_assoc,Nat.mul_comm (Gr.val _) 10]
   rw[e];have hv:=zew _ hda;have hlen:((s.drop b).take (n+1)).length=n+1:=by simp;omega
   rw[hlen]at hv;have:Gr.val ((s.drop b).take (n+1))*10 ^ (9-(n+1))<10 ^ (n+1)*10 ^ (9-(n+1)):=Nat.mul_lt_mul_of_pos_right hv (Nat.pow_pos (by omega));rw[<-Nat.pow_add,show n+1+(9-(n+1))=9 from by omega]at this;omega
  ·have:U=0:=by rw[h.u];unfold fracU;rw[if_neg (by omega)]
   rw[this,Nat.zero_mul];exact h.hi
theorem Frac.stop {s:Gr.Str} {b n N U:Nat} (h:Frac s b n N U) (hn:∀h2:b+n<s.length,Gr.dig (s[b+n]'h2)=false):(s.drop b).takeWhile Gr.dig=(s.drop b).take n:=by
 have h1:s.drop b=(s.drop b).take n++s.drop (b+n):=by
  rw[<-List.drop_drop];exact(List.take_append_drop n (s.drop b)).symm
 rw[h1,List.takeWhile_append_of_pos (by simpa using h.dig)];have h2:(s.drop (b+n)).takeWhile Gr.dig=[]:=by
  rcases Nat.lt_or_ge (b+n) s.length with h3|h3
  ·rw[List.drop_eq_getElem_cons h3,List.takeWhile_cons,hn h3];rfl
  ·rw[List.drop_eq_nil_of_le h3];rfl
 have hle:=h.le;rw[h2,List.append_nil,List.take_append_of_le_length (by simp;omega),List.take_take,Nat.min_self]
theorem zm4 {s:Gr.Str} {a h m c n N U:Nat} (h1:numAt s a 2=some h) (h2:numAt s (a+3) 2=some m) (h3:numAt s (a+6) 2=some c) (h4:isAt s (a+2) 58=true) (h5:isAt s (a+5) 58=true) (h6:isAt s (a+8) 46=true)
 (hf:Frac s (a+9) n N U) (hn:∀h2:a+9+n<s.length,Gr.dig (s[a+9+n]'h2)=false):clockAt s a=if n<1\/9<n then none else some ⟨h,m,c,N,a+9+n⟩:=by
 have e:=hf.stop hn;have hle:=hf.le;have hlen:((s.drop (a+9)).take n).length=n:=by simp;omega
 unfold clockAt;rw[h1,h2,h3,h4,h5,h6,e,hlen];simp only[Bool.and_self,if_true];by_cases hc:n<1\/9<n
 ·grind
 ·rw[if_neg hc,if_neg (by omega),hf.nn (by omega)]
theorem zj7 {s:Gr.Str} {a h m c:Nat} (h1:numAt s a 2=some h) (h2:numAt s (a+3) 2=some m) (h3:numAt s (a+6) 2=some c) (h4:isAt s (a+2) 58=true) (h5:isAt s (a+5) 58=true) (h6:isAt s (a+8) 46=false):clockAt s a=some ⟨h,m,c,0,a+8⟩:=by
 unfold clockAt;rw[h1,h2,h3,h4,h5,h6];rfl
theorem zcc {B g:Nat} {w0 w:World} (h:Below B w0 w) (hg:B<=g) {v0 v1 v2 v3 v4 v5 v6 v7 v8 v9 v10 v11:Value}:Below B w0 ((((((((((((w.setCell ⟨g,0,none⟩ v0).setCell ⟨g,1,none⟩ v1).setCell ⟨g,2,none⟩ v2).setCell ⟨g,3,none⟩ v3).setCell ⟨g,4,none⟩ v4).setCell ⟨g,5,none⟩ v5).setCell ⟨g,6,none⟩ v6).setCell ⟨g,7,none⟩ v7).setCell ⟨g,8,none⟩ v8).setCell ⟨g,9,none⟩ v9).setCell ⟨g,10,none⟩ v10).setCell ⟨g,11,none⟩ v11):=
 ((((((((((((h.setCell (p:=⟨g,0,none⟩) hg v0).setCell (p:=⟨g,1,none⟩) hg v1).setCell (p:=⟨g,2,none⟩) hg v2).setCell (p:=⟨g,3,none⟩) hg v3).setCell (p:=⟨g,4,none⟩) hg v4).setCell (p:=⟨g,5,none⟩) hg v5).setCell (p:=⟨g,6,none⟩) hg v6).setCell (p:=⟨g,7,none⟩) hg v7).setCell (p:=⟨g,8,none⟩) hg v8).setCell (p:=⟨g,9,none⟩) hg v9).setCell (p:=⟨g,10,none⟩) hg v10).setCell (p:=⟨g,11,none⟩) hg v11)
theorem zbb {w:World} {g:Nat} {t:TypeId} {c0 c1 c2 c3 c4 c5 c6 c7 c8 c9 c10 c11 v0 v1 v2 v3 v4 v5 v6 v7 v8 v9 v10 v11:Value} (h:Blk w g t #[c0,c1,c2,c3,c4,c5,c6,c7,c8,c9,c10,c11]):Blk ((((((((((((w.setCell ⟨g,0,none⟩ v0).setCell ⟨g,1,none⟩ v1).setCell ⟨g,2,none⟩ v2).setCell ⟨g,3,none⟩ v3).setCell ⟨g,4,none⟩ v4).setCell ⟨g,5,none⟩ v5).setCell ⟨g,6,none⟩ v6).setCell ⟨g,7,none⟩ v7).setCell ⟨g,8,none⟩ v8).setCell ⟨g,9,none⟩ v9).setCell ⟨g,10,none⟩ v10).setCell ⟨g,11,none⟩ v11) g t #[v0,v1,v2,v3,v4,v5,v6,v7,v8,v9,v10,v11]:=by
 have h1:=((((((((((((h.set_ 0 v0).set_ 1 v1).set_ 2 v2).set_ 3 v3).set_ 4 v4).set_ 5 v5).set_ 6 v6).set_ 7 v7).set_ 8 v8).set_ 9 v9).set_ 10 v10).set_ 11 v11)
 simp only[List.setIfInBounds_toArray,List.set_cons_zero,List.set_cons_succ]at h1;exact h1
theorem zm5 (s:Gr.Str) (_hl:s.length<=1073741823) (a:Nat) (ha:a<=1073741824) (date:Bool) (Y M D H N0 C:Int) (w wr:World) (gb:Nat)
 (HGO:Hid (∀(r:Int) (ok:Bool) (n:Int) (w':World),Below w.heap.size w w'->(clockAt s a=none/\r=-1\/∃h m c f t:Nat,clockAt s a=some ⟨h,m,c,f,t⟩/\r=(t:Int)/\ok=true/\H=h/\N0=m/\C=c/\n=f)->zbf s a date Y M D w (.returned (.tuple #[.agg #[.bool date,.bool ok,.bool false,.int .i64 Y,.int .i64 M,.int .i64 D,.int .i64 H,.int .i64 N0,.int .i64 C,.int .i64 n,.int .i64 0,.bool false],.int .i64 r])) w'))
 (HF:Hid (∃h m c:Nat,numAt s a 2=some h/\numAt s (a+3) 2=some m/\numAt s (a+6) 2=some c/\H=h/\N0=m/\C=c)) (HP:Hid (isAt s (a+2) 58=true/\isAt s (a+5) 58=true/\isAt s (a+8) 46=true)) (HGB:Hid (w.heap.size=gb)) (n F U:Nat) (_hn:n<=s.length) (_hF:F<=999999999)
 (HV:Hid ((∀h2:a+9+n<s.length,Gr.dig (s[a+9+n]'h2)=false)/\Frac s (a+9) n F U/\Blk wr gb 111 (T12 date true false Y M D H N0 C (F:Int) 0 false)/\Blk wr (gb+1) 111 (T12 false false false 0 0 0 0 0 0 0 0 false)/\Below gb w wr))
 {u2 u3 u4 u7 u9 u10 u11 u12 u13 u14 u15 u16 u17 u18 u19 u20 u21 u22 u23 u24 u25 u26 u27 u28 u29 u30 u31 u32 u33 u34 u35 u36 u37 u38 u39 u40 u41 u42 u43 u44 u45 u46 u47 u48 u49 u50 u51 u52 u53 u54 u55 u56 u57 u58 u59 u60 u61 u62 u63 u64 u65 u66 u67 u68 u69 u70 u71 u72 u73 u74 u75 u76 u77 u78 u79 u80 u81 u82 u83 u84 u85 u86 u87 u88 u89 u90 u91 u92 u93 u94 u95 u96 u97 u98 u99 u100 u101 u102 u103 u104 u105 u106 u107 u108 u109 u110 u111 u112 u113 u114 u115:Value}:
 Code.wp prog (tl 9 (f135.body.getD .skip)) (bodyPost prog f135 (zbf s a date Y M D w)) {tmps:=List.toArray (.string ⟨s.toArray⟩::.int .i64 ((a:Int)+8)::u2::u3::u4::.pointer (some ⟨gb,0,none⟩)::.pointer (some ⟨gb+1,0,none⟩)::u7::.int .i64 (n:Int)::u9::u10::u11::u12::u13::u14::u15::u16::u17::u18::u19::u20::u21::u22::u23::u24::u25::u26::u27::u28::u29::u30::u31::u32::u33::u34::u35::u36::u37::u38::u39::u40::u41::u42::u43::u44::u45::u46::u47::u48::u49::u50::u51::u52::u53::u54::u55::u56::u57::u58::u59::u60::u61::u62::u63::u64::u65::u66::u67::u68::u69::u70::u71::u72::u73::u74::u75::u76::u77::u78::u79::u80::u81::u82::u83::u84::u85::u86::u87::u88::u89::u90::u91::u92::u93::u94::u95::u96::u97::u98::u99::u100::u101::u102::u103::u104::u105::u106::u107::u108::u109::u110::u111::u112::u113::u114::u115::[]),defers:=[]} wr:=by
 generalize hc0:tl 9 (f135.body.getD .skip)=c0;simp only[tl,f135,Option.getD_some]at hc0;subst hc0;have HE:Hid (∃h m c:Nat,clockAt s a=(if n<1\/9<n then none else some ⟨h,m,c,F,a+9+n⟩)/\H=h/\N0=m/\C=c):=hid (by
  obtain⟨h,m,c,h1,h2,h3,h4,h5,h6⟩:=HF.out;exact⟨h,m,c,zm4 h1 h2 h3 HP.out.1 HP.out.2.1 HP.out.2.2 HV.out.2.1 HV.out.1,h4,h5,h6⟩)
 have qb0:∀j,wr.frozen? ⟨gb+1,j,none⟩=false:=HV.out.2.2.2.1.frozen;have xb:∀j,wr.cell? ⟨gb+1,j,none⟩=(#[.bool false,.bool false,.bool false,.int .i64 0,.int .i64 0,.int .i64 0,.int .i64 0,.int .i64 0,.int .i64 0,.int .i64 0,.int .i64 0,.bool false]:Array Value)[j]? :=fun j=>HV.out.2.2.2.1.cell j
 obtain⟨ca0,ca1,ca2,ca3,ca4,ca5,ca6,ca7,ca8,ca9,ca10,ca11⟩:=zag HV.out.2.2.1;have HSB:Hid (Blk ((((((((((((wr.setCell ⟨gb+1,0,none⟩ (.bool date)).setCell ⟨gb+1,1,none⟩ (.bool true)).setCell ⟨gb+1,2,none⟩ (.bool false)).setCell ⟨gb+1,3,none⟩ (.int .i64 Y)).setCell ⟨gb+1,4,none⟩ (.int .i64 M)).setCell ⟨gb+1,5,none⟩ (.int .i64 D)).setCell ⟨gb+1,6,none⟩ (.int .i64 H)).setCell ⟨gb+1,7,none⟩ (.int .i64 N0)).setCell ⟨gb+1,8,none⟩ (.int .i64 C)).setCell ⟨gb+1,9,none⟩ (.int .i64 (F:Int))).setCell ⟨gb+1,10,none⟩ (.int .i64 0)).setCell ⟨gb+1,11,none⟩ (.bool false)) (gb+1) 111 (T12 date true false Y M D H N0 C (F:Int) 0 false)):=hid (zbb HV.out.2.2.2.1);have HSH:Hid (Below gb w ((((((((((((wr.setCell ⟨gb+1,0,none⟩ (.bool date)).setCell ⟨gb+1,1,none⟩ (.bool true)).setCell ⟨gb+1,2,none⟩ (.bool false)).setCell ⟨gb+1,3,none⟩ (.int .i64 Y)).setCell ⟨gb+1,4,none⟩ (.int .i64 M)).setCell ⟨gb+1,5,none⟩ (.int .i64 D)).setCell ⟨gb+1,6,none⟩ (.int .i64 H)).setCell ⟨gb+1,7,none⟩ (.int .i64 N0)).setCell ⟨gb+1,8,none⟩ (.int .i64 C)).setCell ⟨gb+1,9,none⟩ (.int .i64 (F:Int))).setCell ⟨gb+1,10,none⟩ (.int .i64 0)).setCell ⟨gb+1,11,none⟩ (.bool false))):=hid ((((((((((((HV.out.2.2.2.2.setCell (p:=⟨gb+1,0,none⟩) (by simp) (.bool date)).setCell (p:=⟨gb+1,1,none⟩) (by simp) (.bool true)).setCell (p:=⟨gb+1,2,none⟩) (by simp) (.bool false)).setCell (p:=⟨gb+1,3,none⟩) (by simp) (.int .i64 Y)).setCell (p:=⟨gb+1,4,none⟩) (by simp) (.int .i64 M)).setCell (p:=⟨gb+1,5,none⟩) (by simp) (.int .i64 D)).setCell (p:=⟨gb+1,6,none⟩) (by simp) (.int .i64 H)).setCell (p:=⟨gb+1,7,none⟩) (by simp) (.int .i64 N0)).setCell (p:=⟨gb+1,8,none⟩) (by simp) (.int .i64 C)).setCell (p:=⟨gb+1,9,none⟩) (by simp) (.int .i64 (F:Int))).setCell (p:=⟨gb+1,10,none⟩) (by simp) (.int .i64 0)).setCell (p:=⟨gb+1,11,none⟩) (by simp) (.bool false));obtain⟨e0,e1,e2,e3,e4,e5,e6,e7,e8,e9,e10,e11⟩:=zag HSB.out;by_cases hn1:n<1
 ·have hn1I:(n:Int)<1:=by omega
  go_wp2_with fail;refine bodyPost_ret (v:=.tuple #[.agg #[.bool date,.bool true,.bool false,.int .i64 Y,.int .i64 M,.int .i64 D,.int .i64 H,.int .i64 N0,.int .i64 C,.int .i64 (F:Int),.int .i64 0,.bool false],.int .i64 (-1)]) (by rw[results_cell_tmp rfl];go_simp) rfl ?_;exact HGO.out _ _ _ _ (by rw[HGB.out];exact HSH.out) (.inl ⟨by obtain⟨h,m,c,h1,_⟩:=HE.out;rw[h1,if_pos (.inl hn1)],rfl⟩)
 ·have hn1I:¬(n:Int)<1:=by omega
  by_cases hn9:9<n
  ·have hn9I:(9:Int)<(n:Int):=by omega
   go_wp2_with fail;refine bodyPost_ret (v:=.tuple #[.agg #[.bool date,.bool true,.bool false,.int .i64 Y,.int .i64 M,.int .i64 D,.int .i64 H,.int .i64 N0,.int .i64 C,.int .i64 (F:Int),.int .i64 0,.bool false],.int .i64 (-1)]) (by rw[results_cell_tmp rfl];go_simp) rfl ?_;exact HGO.out _ _ _ _ (by rw[HGB.out];exact HSH.out) (.inl ⟨by obtain⟨h,m,c,h1,_⟩:=HE.out;rw[h1,if_pos (.inr hn9)],rfl⟩)
  ·have hn9I:¬(9:Int)<(n:Int):=by omega
   go_wp2_with fail;refine bodyPost_ret (v:=.tuple #[.agg #[.bool date,.bool true,.bool false,.int .i64 Y,.int .i64 M,.int .i64 D,.int .i64 H,.int .i64 N0,.int .i64 C,.int .i64 (F:Int),.int .i64 0,.bool false],.int .i64 ((a:Int)+8+1+(n:Int))]) (by rw[results_cell_tmp rfl];go_simp) rfl ?_;refine HGO.out _ _ _ _ (by rw[HGB.out];exact HSH.out) (.inr ?_);obtain⟨h,m,c,h1,h2,h3,h4⟩:=HE.out;exact⟨h,m,c,F,a+9+n,by rw[h1,if_neg (by omega)],by omega,rfl,h2,h3,h4,rfl⟩
theorem zm6 (s:Gr.Str) (hl:s.length<=1073741823) (a:Nat) (ha:a<=1073741824) (date:Bool) (Y M D H N0 C:Int) (w wy:World) (gb:Nat)
 (HGO:Hid (∀(r:Int) (ok:Bool) (n:Int) (w':World),Below w.heap.size w w'->(clockAt s a=none/\r=-1\/∃h m c f t:Nat,clockAt s a=some ⟨h,m,c,f,t⟩/\r=(t:Int)/\ok=true/\H=h/\N0=m/\C=c/\n=f)->zbf s a date Y M D w (.returned (.tuple #[.agg #[.bool date,.bool ok,.bool false,.int .i64 Y,.int .i64 M,.int .i64 D,.int .i64 H,.int .i64 N0,.int .i64 C,.int .i64 n,.int .i64 0,.bool false],.int .i64 r])) w'))
 (HF:Hid (∃h m c:Nat,numAt s a 2=some h/\numAt s (a+3) 2=some m/\numAt s (a+6) 2=some c/\H=h/\N0=m/\C=c)) (HP:Hid (isAt s (a+2) 58=true/\isAt s (a+5) 58=true/\isAt s (a+8) 46=true))
 (HA8:Hid (a+9<=s.length)) (HGB:Hid (w.heap.size=gb)) (HB:Hid (Blk wy gb 111 (T12 date true false Y M D H N0 C 0 0 false)/\Blk wy (gb+1) 111 (T12 false false false 0 0 0 0 0 0 0 0 false)/\Below gb w wy))
 {u2 u3 u4 u7 u8 u9 u10 u11 u12 u13 u14 u15 u16 u17 u18 u19 u20 u21 u22 u23 u24 u25 u26 u27 u28 u29 u30 u31 u32 u33 u34 u35 u36 u37 u38 u39 u40 u41 u42 u43 u44 u45 u46 u47 u48 u49 u50 u51 u52 u53 u54 u55 u56 u57 u58 u59 u60 u61 u62 u63 u64 u65 u66 u67 u68 u69 u70 u71 u72 u73 u74 u75 u76 u77 u78 u79 u80 u81 u82 u83 u84 u85 u86 u87 u88 u89 u90 u91 u92 u93 u94 u95 u96 u97 u98 u99 u100 u101 u102 u103 u104 u105 u106 u107 u108 u109 u110 u111 u112 u113 u114 u115:Value}:
 Code.wp prog (tl 6 (f135.body.getD .skip)) (bodyPost prog f135 (zbf s a date Y M D w)) {tmps:=List.toArray (.string ⟨s.toArray⟩::.int .i64 ((a:Int)+8)::u2::u3::u4::.pointer (some ⟨gb,0,none⟩)::.pointer (some ⟨gb+1,0,none⟩)::u7::u8::u9::u10::u11::u12::u13::u14::u15::u16::u17::u18::u19::u20::u21::u22::u23::u24::u25::u26::u27::u28::u29::u30::u31::u32::u33::u34::u35::u36::u37::u38::u39::u40::u41::u42::u43::u44::u45::u46::u47::u48::u49::u50::u51::u52::u53::u54::u55::u56::u57::u58::u59::u60::u61::u62::u63::u64::u65::u66::u67::u68::u69::u70::u71::u72::u73::u74::u75::u76::u77::u78::u79::u80::u81::u82::u83::u84::u85::u86::u87::u88::u89::u90::u91::u92::u93::u94::u95::u96::u97::u98::u99::u100::u101::u102::u103::u104::u105::u106::u107::u108::u109::u110::u111::u112::u113::u114::u115::[]),defers:=[]} wy:=by
 generalize hc0:tl 6 (f135.body.getD .skip)=c0;simp only[tl,f135,Option.getD_some]at hc0;subst hc0;have ha0:(0:Int)<=(a:Int):=by omega
 go_upto_block 0 with fail;go_cut [8] (fun s8 wx=>∃n F:Nat,s8=.int .i64 (n:Int)/\n<=s.length/\F<=999999999/\Hid ((∀h2:a+9+n<s.length,Gr.dig (s[a+9+n]'h2)=false)/\Frac s (a+9) n F (fracU n)/\Blk wx gb 111 (T12 date true false Y M D H N0 C (F:Int) 0 false)/\Blk wx (gb+1) 111 (T12 false false false 0 0 0 0 0 0 0 0 false)/\Below gb w wx))
 case first=>
  go_wp2_with fail;go_loopw [8,9] (fun s8 s9 wr=>∃n F U:Nat,s8=.int .i64 (n:Int)/\s9=.int .i64 (U:Int)/\n<=s.length/\F<=999999999/\U<=100000000/\Hid (Frac s (a+9) n F U/\Blk wr gb 111 (T12 date true false Y M D H N0 C (F:Int) 0 false)/\Blk wr (gb+1) 111 (T12 false false false 0 0 0 0 0 0 0 0 false)/\Below gb w wr)) (fun s8 _ _=>s.length-(intOf s8).toNat)
  case atStart=>exact⟨0,0,100000000,rfl,rfl,by omega,by omega,by omega,hid ⟨Frac.start HA8.out,HB.out.1,HB.out.2.1,HB.out.2.2⟩⟩
  case round=>
   obtain⟨n,F,U,rfl,rfl,hn,hF,hU,HV⟩:=hrel;by_cases hlt:a+9+n<s.length
   ·have hltI:(a:Int)+8+1+(n:Int)<(s.length:Int):=by omega
    have hidx:((a:Int)+8+1+(n:Int)).toNat=a+9+n:=by omega
    obtain⟨b,hb⟩:∃b:Nat,(s[a+9+n]'hlt).toNat=b:=⟨_,rfl⟩
    have hbv:(((⟨s.toArray⟩:ByteArray)[a+9+n]'(by simpa[ByteArray.size]using hlt)).toNat:Int)=(b:Int):=by rw[<-hb];rfl
    have hbl:b<256:=by rw[<-hb];exact(s[a+9+n]'hlt).toNat_lt
    have HBD:=hid (zd2 (s[a+9+n]'hlt) b hb);clear hb;by_cases hd:48<=b/\b<=57
    ·obtain⟨h48,h57⟩:=hd;have a48:(48:Int)<=(b:Int):=by omega
     have a57:(b:Int)<=57:=by omega
     obtain⟨x,hx⟩:∃x:Nat,b-48=x:=⟨_,rfl⟩
     have hxi:(b:Int)-48=(x:Int):=by omega
     have hx9:x<=9:=by omega
     have HNX:Hid (Frac s (a+9) (n+1) (F+U*x) (U /10)):=hid (by
      have:=HV.out.1.next hlt (by rw[HBD.out.1];simp[h48,h57]);rwa[HBD.out.2,hx]at this)
     have HX:=hid hx;clear hx;have hFn:F+U*x<=999999999:=HNX.out.hi;obtain⟨G,hG⟩:∃G:Nat,F+U*x=G:=⟨_,rfl⟩
     have hGi:(F:Int)+(U:Int)*(x:Int)=(G:Int):=by rw[<-hG];simp
     have hUx:U*x<=900000000:=Nat.le_trans (Nat.mul_le_mul hU hx9) (by omega);have hm0:(0:Int)<=(U:Int)*(x:Int):=by rw[<-Int.natCast_mul];omega
     have hm1:(U:Int)*(x:Int)<=900000000:=by rw[<-Int.natCast_mul];omega
     rw[hG]at HNX hFn;have HG:=hid hG;clear hG hUx;have w1:IntKind.i64.wrap ((a:Int)+8+1)=(a:Int)+8+1:=IntWalk.i64_in _ (by omega);have w2:IntKind.i64.wrap ((a:Int)+8+1+(n:Int))=(a:Int)+8+1+(n:Int):=IntWalk.i64_in _ (by omega);have w3:IntKind.i64.wrap ((U:Int)*(x:Int))=(U:Int)*(x:Int):=IntWalk.i64_in _ (by omega);have w4:IntKind.i64.wrap ((F:Int)+(U:Int)*(x:Int))=(G:Int):=by rw[hGi];exact IntWalk.i64_in _ (by omega)
     have i0:(0:Int)<=(a:Int)+8+1+(n:Int):=by omega
     go_wp2_with fail;have p9:∀W:WB wr.heap.size wr,W.w.cell? ⟨gb,9,none⟩=some (.int .i64 (F:Int)):=fun W=>(W.h.cell (p:=⟨gb,9,none⟩) HV.out.2.1.lt).trans (HV.out.2.1.cell 9)
     refine zbr 14 wr.heap.size wr (by kernel_rfl) (by kernel_rfl) (Below.refl _ _) ?_;simp only[List.take_succ_cons,List.take_zero,List.drop_succ_cons,List.drop_zero]
     iterate 14 (go_big_quiet_step (fail))
     refine wpQuiet_nil ?_;rintro _ ⟨wz,rfl⟩;have hbz:=HV.out.2.1.below wz.h HV.out.2.1.lt;have q9:wz.w.cell? ⟨gb,9,none⟩=some (.int .i64 (F:Int)):=hbz.cell 9;have qf:∀j,wz.w.frozen? ⟨gb,j,none⟩=false:=hbz.frozen;have HNB:Hid (Blk (wz.w.setCell ⟨gb,9,none⟩ (.int .i64 (G:Int))) gb 111 (T12 date true false Y M D H N0 C (G:Int) 0 false)/\Blk (wz.w.setCell ⟨gb,9,none⟩ (.int .i64 (G:Int))) (gb+1) 111 (T12 false false false 0 0 0 0 0 0 0 0 false)/\Below gb w (wz.w.setCell ⟨gb,9,none⟩ (.int .i64 (G:Int)))):=hid ⟨hbz.set_ 9 _,(HV.out.2.2.1.below wz.h HV.out.2.2.1.lt).far (Nat.succ_ne_self gb) _,(HV.out.2.2.2.trans (wz.h.mono (Nat.le_of_lt HV.out.2.1.lt))).setCell (p:=⟨gb,9,none⟩) (by simp) _⟩;clear hbz p9;go_wp2;go_roundw
     case rel=>exact⟨n+1,G,U /10,by go_num,by exact congrArg (Value.int .i64) (by omega),by omega,hFn,by omega,hid ⟨HNX.out,HNB.out⟩⟩
     case measure=>simp[intOf];omega
    ·have HNO:Hid (∀h2:a+9+n<s.length,Gr.dig (s[a+9+n]'h2)=false):=hid (fun h2=>by rw[HBD.out.1];by_cases h48:48<=b<;>simp[h48]<;>omega);by_cases h48:48<=b
     ·have a48:(48:Int)<=(b:Int):=by omega
      have a57:¬(b:Int)<=57:=by omega
      go_wp2;go_meet;exact⟨n,F,rfl,hn,hF,hid ⟨HNO.out,by rw[<-HV.out.1.u];exact HV.out⟩⟩
     ·have a48:¬(48:Int)<=(b:Int):=by omega
      go_wp2;go_meet;exact⟨n,F,rfl,hn,hF,hid ⟨HNO.out,by rw[<-HV.out.1.u];exact HV.out⟩⟩
   ·have HNO:Hid (∀h2:a+9+n<s.length,Gr.dig (s[a+9+n]'h2)=false):=hid (fun h2=>absurd h2 hlt);have hltI:¬(a:Int)+8+1+(n:Int)<(s.length:Int):=by omega
    go_wp2;go_meet;exact⟨n,F,rfl,hn,hF,hid ⟨HNO.out,by rw[<-HV.out.1.u];exact HV.out⟩⟩
 case rest=>
  obtain⟨n,F,rfl,hn,hF,HV⟩:=hcut;refine(‹∀(a:Act) (w_1:World),Code.wp prog _ _ a w_1->_›) _ _ ?_;exact zm5 s hl a ha date Y M D H N0 C w _ gb HGO HF HP HGB n F (fracU n) hn hF HV
theorem zvm (s:Gr.Str) (a:Nat) (ha:a=if s.head?=some 45 then 1 else 0):intB s=if a=s.length\/s.length-a>400\/((s.drop a).head?=some 48/\s.length>1)then false else(s.drop a).all Gr.dig:=by
 cases s with
 |nil=>subst ha;decide
 |cons c r=>
  by_cases hc:c=45
  ·subst hc;obtain rfl:a=1:=by rw[ha];rfl
   cases r with
   |nil=>decide
   |cons d r=>
    have e:intS (45::d::r)=d::r:=by unfold intS;rw[if_pos ⟨by simp,rfl⟩];rfl
    unfold intB;rw[e];simp only[List.drop_succ_cons,List.drop_zero];by_cases h:(d::r).length>400\/((d::r).head?=some 48/\(45::d::r).length>1)
    ·rw[if_pos (.inr h),if_pos (.inr (h.imp (fun h=>by simpa using h) id))]
    ·rw[if_neg (by rintro(h1|h1);simp at h1;exact h h1),if_neg (by rintro(h1|h1);simp at h1;exact h (h1.imp (fun h=>by simpa using h) id))]
  ·obtain rfl:a=0:=by rw[ha,if_neg (by simp[hc])]
   have e:intS (c::r)=c::r:=by unfold intS;rw[if_neg (by simp[hc])]
   unfold intB;rw[e,List.drop_zero];by_cases h:(c::r).length>400\/((c::r).head?=some 48/\(c::r).length>1)
   ·rw[if_pos (.inr h),if_pos (.inr (by simpa using h))]
   ·rw[if_neg (by rintro(h1|h1);simp at h1;exact h h1),if_neg (by rintro(h1|h1);simp at h1;exact h (by simpa using h1))]
theorem zk8 (c:UInt8) (b:Nat) (hb:c.toNat=b):Gr.dig c=(decide (48<=b) && decide (b<=57)):=by
 subst hb;unfold Gr.dig;rw[Bool.eq_iff_iff];simp[UInt8.le_iff_toNat_le]
theorem all_at {s:Gr.Str} {a k:Nat} (h:k<s.length) (hak:a<=k) (hd:Gr.dig s[k]=false):(s.drop a).all Gr.dig=false:=by
 rw[List.all_eq_false];refine⟨s[k],?_,by rw[hd];decide⟩;have:s[k]=(s.drop a)[k-a]'(by rw[List.length_drop];omega):=by rw[List.getElem_drop];congr 1;omega
 rw[this];exact List.getElem_mem _
theorem zfd (s:Gr.Str) (hl:s.length<=1073741823) (a:Nat) (ha:a<=s.length) (w:World) (r:Bool) (hr:Hid ((s.drop a).all Gr.dig=r)) {u1 u2 u4 u5 u6 u7 u8 u9 u10 u11 u12 u13 u14 u15 u16 u17 u18 u19 u20 u21 u22 u23 u24 u25 u26 u27 u28 u29 u30 u31 u32 u33 u34 u35 u36 u37 u38 u39 u40 u41 u42 u43 u44 u45 u46 u47 u48 u49 u50 u51:Value}:
 Code.wp prog (tl 4 (f43.body.getD .skip)) (bodyPost prog f43 (fun e w'=>e=.returned (.bool r)/\w=w')) {tmps:=List.toArray (.string ⟨s.toArray⟩::u1::u2::.int .i64 (a:Int)::u4::u5::u6::u7::u8::u9::u10::u11::u12::u13::u14::u15::u16::u17::u18::u19::u20::u21::u22::u23::u24::u25::u26::u27::u28::u29::u30::u31::u32::u33::u34::u35::u36::u37::u38::u39::u40::u41::u42::u43::u44::u45::u46::u47::u48::u49::u50::u51::[]),defers:=[]} w:=by
 generalize hc0:tl 4 (f43.body.getD .skip)=c0;simp only[tl,f43,Option.getD_some]at hc0;subst hc0;go_wp2_with fail;go_loop [4] (fun s4=>∃k:Nat,a<=k/\k<=s.length/\s4=.int .i64 (k:Int)/\Hid (∀j (h:j<s.length),a<=j->j<k->Gr.dig s[j]=true)) (fun s4=>s.length-(intOf s4).toNat)
 case atStart=>exact⟨a,Nat.le_refl _,ha,rfl,hid (fun j _ h1 h2=>by omega)⟩
 case round=>
  obtain⟨k,hak,hk,rfl,hd⟩:=hrel;by_cases hlt:k<s.length
  ·have hltI:(k:Int)<(s.length:Int):=by omega
   obtain⟨b,hb⟩:∃b:Nat,(s[k]'hlt).toNat=b:=⟨_,rfl⟩
   have hbv:(((⟨s.toArray⟩:ByteArray)[k]'(by simpa[ByteArray.size]using hlt)).toNat:Int)=(b:Int):=by rw[<-hb];rfl
   have HBD:=hid (zk8 (s[k]'hlt) b hb);clear hb;by_cases h48:48<=b
   ·have a48:¬(b:Int)<48:=by omega
    by_cases h57:b<=57
    ·have a57:¬(57:Int)<(b:Int):=by omega
     go_wp2;go_round
     case rel=>exact⟨k+1,by omega,by omega,by go_num,hid (fun j h h1 h2=>by
      by_cases e:j=k
      ·subst e;rw[HBD.out];simp[h48,h57]
      ·exact hd.out j h h1 (by omega))⟩
     case measure=>simp[intOf];omega
    ·have a57:(57:Int)<(b:Int):=by omega
     have HF:Hid (r=false):=hid (by rw[<-hr.out];exact all_at hlt hak (by rw[HBD.out];simp[h57]));go_wp2;go_ret;rw[HF.out];exact⟨rfl,rfl⟩
   ·have a48:(b:Int)<48:=by omega
    have HF:Hid (r=false):=hid (by rw[<-hr.out];exact all_at hlt hak (by rw[HBD.out];simp[h48]));go_wp2;go_ret;rw[HF.out];exact⟨rfl,rfl⟩
  ·have hltI:¬(k:Int)<(s.length:Int):=by omega
   have HF:Hid (r=true):=hid (by
    rw[<-hr.out,List.all_eq_true];intro x hx;obtain⟨j,hj,rfl⟩:=List.getElem_of_mem hx;rw[List.length_drop]at hj;rw[List.getElem_drop];exact hd.out (a+j) (by omega) (by omega) (by omega))
   go_wp2;go_ret;rw[HF.out];exact⟨rfl,rfl⟩
theorem zc9 (s:Gr.Str) (hl:s.length<=1073741823) (a:Nat) (ha:a<=s.length) (w:World) (r:Bool) (hr:Hid ((if a=s.length\/s.length-a>400\/((s.drop a).head?=some 48/\s.length>1)then false else(s.drop a).all Gr.dig)=r)) {u1 u2 u4 u5 u6 u7 u8 u9 u10 u11 u12 u13 u14 u15 u16 u17 u18 u19 u20 u21 u22 u23 u24 u25 u26 u27 u28 u29 u30 u31 u32 u33 u34 u35 u36 u37 u38 u39 u40 u41 u42 u43 u44 u45 u46 u47 u48 u49 u50 u51:Value}:
 Code.wp prog (tl 3 (f43.body.getD .skip)) (bodyPost prog f43 (fun e w'=>e=.returned (.bool r)/\w=w')) {tmps:=List.toArray (.string ⟨s.toArray⟩::u1::u2::.int .i64 (a:Int)::u4::u5::u6::u7::u8::u9::u10::u11::u12::u13::u14::u15::u16::u17::u18::u19::u20::u21::u22::u23::u24::u25::u26::u27::u28::u29::u30::u31::u32::u33::u34::u35::u36::u37::u38::u39::u40::u41::u42::u43::u44::u45::u46::u47::u48::u49::u50::u51::[]),defers:=[]} w:=by
 generalize hc0:tl 3 (f43.body.getD .skip)=c0;simp only[tl,f43,Option.getD_some]at hc0;subst hc0;by_cases h1:a=s.length
 ·have h1I:((a:Int)==(s.length:Int))=true:=by rw[beq_iff_eq];omega
  have HF:Hid (r=false):=hid (by rw[<-hr.out,if_pos (.inl h1)]);clear h1;go_wp2;go_ret;rw[HF.out];exact⟨rfl,rfl⟩
 ·have h1I:((a:Int)==(s.length:Int))=false:=by rw[beq_eq_false_iff_ne];omega
  have hlt:a<s.length:=by omega
  by_cases h2:s.length-a>400
  ·have h2I:(400:Int)<(s.length:Int)-(a:Int):=by omega
   have HF:Hid (r=false):=hid (by rw[<-hr.out,if_pos (.inr (.inl h2))]);clear h1 h2;go_wp2;go_ret;rw[HF.out];exact⟨rfl,rfl⟩
  ·have h2I:¬(400:Int)<(s.length:Int)-(a:Int):=by omega
   have hd:(s.drop a).head?=some s[a]:=by rw[List.head?_drop,List.getElem?_eq_getElem hlt]
   by_cases h3:s[a]=48
   ·have b1:=zav s a hlt _ 48 48 rfl rfl h3;have b2:=zap s a hlt _ 48 48 rfl rfl h3;by_cases h4:s.length>1
    ·have h4I:(1:Int)<(s.length:Int):=by omega
     have HF:Hid (r=false):=hid (by rw[<-hr.out,if_pos (.inr (.inr ⟨by rw[hd,h3],h4⟩))]);clear h1 h2 h3 hd;go_wp2;go_ret;rw[HF.out];exact⟨rfl,rfl⟩
    ·have h4I:¬(1:Int)<(s.length:Int):=by omega
     have HL:Hid ((s.drop a).all Gr.dig=r):=hid (by rw[<-hr.out,if_neg (by rintro(h|h|⟨_,h⟩);exact h1 h;exact h2 h;exact h4 h)]);clear h1 h2 h3 hd;go_upto_if 34 with fail;go_cut [] (fun wx=>wx=w)
     case first=>
      go_wp2;go_meet;exact rfl
     case rest=>
     subst hcut;refine(‹∀(a:Act) (w_1:World),Code.wp prog _ _ a w_1->_›) _ _ ?_;exact zfd s hl a ha _ r HL
   ·have b1:=zan s a hlt _ 48 48 rfl rfl h3;have b2:=zaq s a hlt _ 48 48 rfl rfl h3;have HL:Hid ((s.drop a).all Gr.dig=r):=hid (by rw[<-hr.out,if_neg (by rintro(h|h|⟨h,_⟩);exact h1 h;exact h2 h;rw[hd]at h;injection h with h;exact h3 h)]);clear h1 h2 h3 hd;go_upto_if 34 with fail;go_cut [] (fun wx=>wx=w)
    case first=>
     go_wp2;go_meet;exact rfl
    case rest=>
    subst hcut;refine(‹∀(a:Act) (w_1:World),Code.wp prog _ _ a w_1->_›) _ _ ?_;exact zfd s hl a ha _ r HL
theorem zgb (s:Gr.Str) (hl:s.length<=1073741823) (w:World):Calls prog 43 #[.string ⟨s.toArray⟩] w fun e w'=>e=.returned (.bool (intB s))/\w=w':=by
 obtain⟨r,hr⟩:=ex (intB s)
 rw[hr];have HR:=fun(a:Nat) ha=>hid ((zvm s a ha).symm.trans hr)
 clear hr;by_cases h0:0<s.length
 ·have h0I:(0:Int)<(s.length:Int):=by omega
  have hh:s.head?=some s[0]:=by rw[List.head?_eq_getElem?,List.getElem?_eq_getElem h0]
  by_cases h45:s[0]=45
  ·have b1:=zav s 0 h0 _ 45 45 rfl rfl h45;have b2:=zap s 0 h0 _ 45 45 rfl rfl h45;have HL:=HR 1 (by rw[hh,h45];rfl);clear HR hh h45;go_enter func43,ntmps43;go_upto_if 12 with fail;go_cut [3] (fun s3 wx=>s3=.int .i64 ((1:Nat):Int)/\wx=w)
   case first=>
    go_wp2;go_meet;exact⟨rfl,rfl⟩
   case rest=>
   obtain⟨rfl,rfl⟩:=hcut;refine(‹∀(a:Act) (w_1:World),Code.wp prog _ _ a w_1->_›) _ _ ?_;exact zc9 s hl 1 (by omega) _ r HL
  ·have b1:=zan s 0 h0 _ 45 45 rfl rfl h45;have b2:=zaq s 0 h0 _ 45 45 rfl rfl h45;have HL:=HR 0 (by rw[hh,if_neg (by intro e;injection e with e;exact h45 e)]);clear HR hh h45;go_enter func43,ntmps43;go_upto_if 12 with fail;go_cut [3] (fun s3 wx=>s3=.int .i64 ((0:Nat):Int)/\wx=w)
   case first=>
    go_wp2;go_meet;exact⟨rfl,rfl⟩
   case rest=>
   obtain⟨rfl,rfl⟩:=hcut;refine(‹∀(a:Act) (w_1:World),Code.wp prog _ _ a w_1->_›) _ _ ?_;exact zc9 s hl 0 (by omega) _ r HL
 ·have h0I:¬(0:Int)<(s.length:Int):=by omega
  have HL:=HR 0 (by rw[show s=[]from List.eq_nil_of_length_eq_zero (by omega)];rfl);clear HR;go_enter func43,ntmps43;go_upto_if 12 with fail;go_cut [3] (fun s3 wx=>s3=.int .i64 ((0:Nat):Int)/\wx=w)
  case first=>
   go_wp2;go_meet;exact⟨rfl,rfl⟩
  case rest=>
  obtain⟨rfl,rfl⟩:=hcut;refine(‹∀(a:Act) (w_1:World),Code.wp prog _ _ a w_1->_›) _ _ ?_;exact zc9 s hl 0 (by omega) _ r HL
end Go.Proofs.YtoigpackhninoaaGreatDoor
