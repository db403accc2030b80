import Derived.Test.YtoigpackhninoaaGreatDoorZ03
import Derived.Laws.CopyOwn
namespace Go.Proofs.YtoigpackhninoaaGreatDoor
open Gr
open _root_.Go.Proofs.Tryz
open _root_.Go.Lib (hid)
set_option maxRecDepth 100000
set_option maxHeartbeats 16000000
open Go.RowKit
def d8 (d:List Nat):List UInt8:=d.map UInt8.ofNat
theorem zs7 (d:List Nat):(d8 d).length=d.length:=by simp[d8]
def zl4 (w:World) (d:List Nat) (e:Ending) (w':World):Prop:=∃g,e=.returned (.slice (some ⟨g,0,none⟩) d.length d.length)/\w.heap.size<=g/\Blk w' g 5 (ucells (d8 d))/\Below w.heap.size w w'
theorem ziu (a:List UInt8) (n:Nat) (x:UInt8) (h:0<n):(a++List.replicate n 0).set a.length x=(a++[x])++List.replicate (n-1) 0:=by
 obtain⟨m,rfl⟩:∃m,n=m+1:=⟨n-1,by omega⟩
 rw[List.set_append_right _ _ (Nat.le_refl _),Nat.sub_self,List.replicate_succ,List.set_cons_zero,List.append_assoc];rfl
theorem zl5 (s:Gr.Str) (hl:s.length<=1073741823) (hd:s.all Gr.dig=true) (w:World):
 Calls prog 111 #[.string ⟨s.toArray⟩] w (zl4 w (vals s)):=by
 have hmk:=fun W=>zca s.length (by omega) W
 go_enter func111,ntmps111;go_upto_region 2 with fail;obtain⟨w1,hw1⟩:=ex (w.alloc (.cells (ucells (List.replicate s.length 0)) 5))
 obtain⟨db,hdb⟩:=ex w.heap.size
 have HB1:Hid (Blk w1 db 5 (ucells (List.replicate s.length 0))/\Below db w w1):=hid (by rw[<-hw1,<-hdb];exact⟨Blk.new _ _ _,(Below.refl _ _).alloc (Nat.le_refl _) _⟩);have HDB:=hid hdb;have HD:=hid hd;rw[hw1];(try rw[hdb]);clear hw1 hdb hmk hd;go_wp2_with fail;go_loopw [10] (fun s10 wr=>∃k:Nat,k<=s.length/\s10=.int .i64 k/\Hid (Blk wr db 5 (ucells (d8 (vals (s.take k))++List.replicate (s.length-k) 0))/\Below db w wr)) (fun s10 _=>s.length-(intOf s10).toNat)
 case atStart=>exact⟨0,by omega,rfl,hid (by simpa[vals,d8]using HB1.out)⟩
 case round=>
  obtain⟨k,hk,rfl,HV⟩:=hrel;by_cases hlt:k<s.length
  ·have hltI:(k:Int)<(s.length:Int):=by omega
   obtain⟨b,hb⟩:∃b:Nat,(s[k]'(by omega)).toNat=b:=⟨_,rfl⟩
   have hbv:(((⟨s.toArray⟩:ByteArray)[k]'(by simpa[ByteArray.size]using hlt)).toNat:Int)=(b:Int):=by rw[<-hb];rfl
   have hbd:=(za4 (s[k]'hlt)).1 (List.all_eq_true.1 HD.out _ (List.getElem_mem hlt));rw[hb]at hbd;have a48:(48:Int)<=(b:Int):=by omega
   have a57:(b:Int)<=57:=by omega
   have pfd:∀j,wr.frozen? ⟨db,j,none⟩=false:=HV.out.1.frozen;have hlen1:(d8 (vals (s.take k))).length=k:=by simp[d8,vals];omega
   obtain⟨dv,zd⟩:∃dv,wr.cell? ⟨db,k,none⟩=some dv:=by
    rw[HV.out.1.cell];refine⟨_,Array.getElem?_eq_getElem (i:=k) ?_⟩;simp[ucells,hlen1];omega
   have HNX:Hid (d8 (vals (s.take (k+1)))=d8 (vals (s.take k))++[UInt8.ofNat (b-48)]/\(d8 (vals (s.take k))).length=k):=hid ⟨by
    rw[List.take_succ_eq_append_getElem hlt];simp only[d8,vals,List.map_append,List.map_cons,List.map_nil,Gr.dv,hb],hlen1⟩
   clear hb hbd hlen1;go_wp2_with fail;obtain⟨xb,hxb⟩:∃xb:UInt8,xb=UInt8.ofNat (b-48):=⟨_,rfl⟩
   have hxi:(b:Int)-48=(xb.toNat:Int):=by rw[hxb,UInt8.toNat_ofNat'];omega
   rw[hxi];have HN:Hid (Blk (wr.setCell ⟨db,k,none⟩ (.int .u8 (xb.toNat:Int))) db 5 (ucells (d8 (vals (s.take (k+1)))++List.replicate (s.length-(k+1)) 0))/\Below db w (wr.setCell ⟨db,k,none⟩ (.int .u8 (xb.toNat:Int)))):=hid ⟨by
    have h1:=HV.out.1.set_ k (.int .u8 (xb.toNat:Int));rw[zc8]at h1;have h2:=ziu (d8 (vals (s.take k))) (s.length-k) xb (by omega);rw[HNX.out.2]at h2;rw[h2]at h1;rw[HNX.out.1,<-hxb,show s.length-(k+1)=s.length-k-1 from by omega];exact h1,HV.out.2.setCell (by simp) _⟩
   clear hxi hxb;go_roundw
   case rel=>exact⟨k+1,by omega,by go_num,HN⟩
   case measure=>simp[intOf];omega
  ·have hltI:¬(k:Int)<(s.length:Int):=by omega
   have HF:Hid (Blk wr db 5 (ucells (d8 (vals s)))):=hid (by
    have:=HV.out.1;rwa[show k=s.length from by omega,List.take_length,Nat.sub_self,List.replicate_zero,List.append_nil]at this)
   go_wp2;go_ret;refine⟨db,?_,by rw[HDB.out];exact Nat.le_refl _,HF.out,by rw[HDB.out];exact HV.out.2⟩;simp[vals]
theorem infoByteS:(prog.info? 5).map (·.size)=some 1:=by kernel_rfl
theorem zj0 (W:World) (B g n c:Nat) (A:Option Addr) (l:List UInt8) (ty:TypeId) (hl:l.length=n) (hb:Blk W g 5 (ucells (List.replicate n 0))) (hr:RowAt byteL W B A l):
 ∃W',(Builtin.copy_ #[119,119] ty #[.slice (some ⟨g,0,none⟩) n n,.slice A n c]).run prog W=.ok (.int .i64 n) W'/\Kept1 g W W'/\Blk W' g 5 (ucells l):=by
 by_cases h0:n=0
 ·subst h0;obtain rfl:=List.eq_nil_of_length_eq_zero hl;exact⟨W,run_copy_none (P:=prog) W 119 119 ty 5 _ A 0 0 0 c underlying119 infoByteS rfl,Kept1.refl _ _,hb⟩
 ·obtain⟨ad,rfl,hlt,hc⟩:=hr.2 (by omega);have hall:(byteL.all l).length=n:=by rw[Lay.all_len];show l.length*1=n;omega
  have hrun:=run_copy_row (P:=prog) W 119 119 ty 5 g 0 n n ad n c (ucells (List.replicate n 0)) 5 (byteL.all l) underlying119 infoByteS hb (by rw[hall];exact(Nat.min_self n).symm) hc (by rw[hall];simp[ucells]) (byteL.all_one l);have e:((ucells (List.replicate n 0)).toList.take 0++byteL.all l++(ucells (List.replicate n 0)).toList.drop (0+(byteL.all l).length)).toArray=ucells l:=by
   rw[hall,<-zam];simp[ucells]
  rw[e,hall]at hrun;exact⟨_,hrun,⟨rfl,rfl,rfl,size_setRow _ _ _,fun k hk=>setRow_other _ _ _ _ hk⟩,setRow_heap _ _ _ _ _ _ hb⟩
theorem zfp (l:List UInt8) (k:Nat):(byteL.all l).drop k=byteL.all (l.drop k):=by
 rw[<-zam,<-zam];simp[ucells,List.map_drop]
theorem zfq (l:List UInt8) (k:Nat):(byteL.all l).take k=byteL.all (l.take k):=by
 rw[<-zam,<-zam];simp[ucells,List.map_take]
theorem zor {w:World} {B:Nat} {A:Option Addr} {l:List UInt8} (h:RowAt byteL w B A l) {k cap:Nat} (hk:k<=l.length) (hc:l.length<=cap):RowAt byteL w B (if cap=k then A else A.map (·.add (k*1))) (l.drop k):=by
 have:=Reads.cut h hk hc;show Reads w B 1 _ _ _;rw[show byteL.sz=1 from rfl,Nat.mul_one,zfp]at this;rw[Nat.mul_one,List.length_drop];exact this
theorem zl6 {w:World} {B:Nat} {A:Option Addr} {l:List UInt8} (h:RowAt byteL w B A l) {k:Nat} (hk:k<=l.length):RowAt byteL w B A (l.take k):=by
 refine⟨byteL.all_len _,fun h0=>?_⟩;have hkl:(l.take k).length=k:=by simp;omega
 rw[hkl]at h0;obtain⟨ad,h1,h2,h3⟩:=h.2 (by omega);refine⟨ad,h1,h2,fun j u hu=>h3 j u ?_⟩;rw[<-zfq]at hu;rw[List.getElem?_take]at hu;split at hu
 ·exact hu
 ·cases hu
theorem zj1 (a:Option Addr) (n c:Nat) (h1:1<=n) (w:World):(Instr.slice 119 (.slice a n c) (some (.int .i64 1)) none none).run prog w=.ok (.slice (if c=1 then a else a.map (·.add (1*1))) (n-1) (c-1)) w:=by
 obtain⟨i0,z,hi,hz0,hz1,hz2,hz3⟩:=byteT.info;rw[zf5 (P:=prog) 119 5 i0 underlying119 hi a n c 1 (by omega) (by omega) w,hz1];rfl
def NumAt (x:Gr.Dn) (A:Option Addr) (c:Nat) (w:World):Prop:=(x.d=[]/\A=none/\c=0)\/∃g,A=some ⟨g,0,none⟩/\c=x.d.length/\Blk w g 5 (ucells (d8 x.d))
theorem NumAt.row {x:Gr.Dn} {A:Option Addr} {c:Nat} {w:World} (h:NumAt x A c w):RowAt byteL w w.heap.size A (d8 x.d):=by
 rcases h with⟨h1,rfl,_⟩|⟨g,rfl,_,hb⟩
 ·rw[h1];exact RowAt.nil
 ·exact RowAt.ofBlk hb (zam _) hb.lt
theorem NumAt.cap {x:Gr.Dn} {A:Option Addr} {c:Nat} {w:World} (h:NumAt x A c w):x.d.length<=c:=by
 rcases h with⟨h1,_,rfl⟩|⟨g,_,rfl,hb⟩
 ·rw[h1];exact Nat.le_refl _
 ·exact Nat.le_refl _
theorem NumAt.keep {x:Gr.Dn} {A:Option Addr} {c:Nat} {w w':World} (h:NumAt x A c w) (hk:∀g cs,Blk w g 5 cs->Blk w' g 5 cs):NumAt x A c w':=by
 rcases h with h1|⟨g,h1,h2,hb⟩
 ·exact .inl h1
 ·exact .inr ⟨g,h1,h2,hk _ _ hb⟩
theorem NumAt.below {x:Gr.Dn} {A:Option Addr} {c:Nat} {w w':World} (h:NumAt x A c w) (hb:Below w.heap.size w w'):NumAt x A c w':=h.keep (fun _ _ hg=>hg.below hb hg.lt)
theorem NumAt.alloc {x:Gr.Dn} {A:Option Addr} {c:Nat} {w:World} (h:NumAt x A c w) (o:Obj):NumAt x A c (w.alloc o):=h.keep (fun _ _ hg=>hg.alloc o)
theorem NumAt.set_ {x:Gr.Dn} {A:Option Addr} {c:Nat} {w:World} (h:NumAt x A c w) {k i:Nat} {t:TypeId} {cs:Array Value} (hk:Blk w k t cs) (ht:5≠t) (u:Value):NumAt x A c (w.setCell ⟨k,i,none⟩ u):=h.keep (fun _ _ hg=>hg.far (hg.ne_ hk ht) u)
def NumVal (x:Gr.Dn) (v:Value) (w:World):Prop:=∃A c,v=.agg #[.bool x.neg,.slice A x.d.length c,.int .i64 x.e]/\NumAt x A c w
def ziv (x:Gr.Dn) (w:World) (e:Ending) (w':World):Prop:=∃v,e=.returned v/\NumVal x v w'/\Below w.heap.size w w'
theorem zs8 {d:List Nat} {k:Nat} (h:k<d.length):(d8 d)[k]'(by simpa[d8]using h)=UInt8.ofNat d[k]:=by simp[d8]
theorem zrj {w:World} {B:Nat} {A:Option Addr} {d:List Nat} {k v:Nat} (h:RowAt byteL w B A (d8 d)) (hk:k<d.length) (hv:d[k]=v) (hl:v<10):∃ad,A=some ad/\ad.block<B/\w.cell? (ad.add k)=some (.int .u8 (v:Int)):=by
 obtain⟨ad,h1,h2,h3⟩:=zsw h (show k<(d8 d).length by simpa[d8]using hk);refine⟨ad,h1,h2,?_⟩;rw[h3,zs8 hk,hv,UInt8.toNat_ofNat',Nat.mod_eq_of_lt (by omega)]
theorem zl7 (d:List Nat):(0::d).dropWhile isZ=d.dropWhile isZ:=rfl
theorem zqe (v:Nat) (d:List Nat) (h:v≠0):(v::d).dropWhile isZ=v::d:=by
 rw[List.dropWhile_cons,if_neg];simpa[isZ]using h
theorem zfr (d:List Nat) (v:Nat):Gr.rz (d++[v])=if v=0 then Gr.rz d else d++[v]:=by
 unfold Gr.rz;rw[List.reverse_append,List.reverse_cons,List.reverse_nil,List.nil_append,List.singleton_append,List.dropWhile_cons];by_cases h:v=0
 ·rw[if_pos (by simpa[isZ]using h),if_pos h]
 ·rw[if_neg (by simpa[isZ]using h),if_neg h];simp
theorem zos (neg:Bool) (A:Option Addr) (c:Nat) (d:List Nat) (E:Int) (hl:d.length<=1073741823) (hc:d.length<=c) (hd:∀v∈d,v<10) (hE0:-1152921504606846976<=E) (hE1:E<=1152921504606846976) (w:World) (B:Nat) (hB:B<=w.heap.size) (h:RowAt byteL w B A (d8 d)):
 Calls prog 110 #[.bool neg,.slice A d.length c,.int .i64 E] w (ziv (norm neg d E) w):=by
 obtain⟨r,hr⟩:=ex (norm neg d E)
 have HR:=hid hr;rw[hr];clear hr;have HRow:=hid h;have HD:=hid hd;clear h hd;go_enter func110,ntmps110;go_upto_region 1 with fail;obtain⟨w1,hw1⟩:=ex (w.alloc (.cells #[.bool false,.slice none 0 0,.int .i64 0] 125))
 obtain⟨gb,hgb⟩:=ex w.heap.size
 have HB1:Hid (Blk w1 gb 125 #[.bool false,.slice none 0 0,.int .i64 0]/\Below gb w w1/\w1.heap.size=gb+1):=hid (by rw[<-hw1,<-hgb];exact⟨Blk.new _ _ _,(Below.refl _ _).alloc (Nat.le_refl _) _,by simp⟩);have HGB:=hid hgb;have hBg:B<=gb:=by omega
 (try rw[hw1]);(try rw[hgb]);clear hw1 hgb;have p0:∀j,w1.frozen? ⟨gb,j,none⟩=false:=HB1.out.1.frozen;obtain⟨q0,q1,q2⟩:=cells3 HB1.out.1;go_loop [1] (fun s1=>∃(A1:Option Addr) (c1:Nat) (m:List Nat),s1=.slice A1 m.length c1/\Hid (m.length<=c1/\RowAt byteL w1 B A1 (d8 m)/\m.dropWhile isZ=d.dropWhile isZ/\(∀v∈m,v<10)/\m.length<=1073741823)) (fun s1=>match s1 with| .slice _ n _=>n|_=>0)
 case atStart=>exact⟨A,c,d,rfl,hid ⟨hc,HRow.out.below (HB1.out.2.1.mono hBg),rfl,HD.out,hl⟩⟩
 case round=>
  obtain⟨A1,c1,m,rfl,HV⟩:=hrel;cases m with
  |nil=>
   have HF:Hid (r=zeroD):=hid (by
    rw[<-HR.out];unfold norm;rw[if_pos (show d.dropWhile isZ=[]from HV.out.2.2.1.symm)])
   go_wp2_with fail;go_loop [1,2] (fun s1 s2=>s1=.slice A1 0 c1/\s2=.int .i64 E) (fun _ _=>0)
   case atStart=>exact⟨rfl,rfl⟩
   case round=>
    obtain⟨rfl,rfl⟩:=hrel;go_wp2_with fail;have hb3:=((HB1.out.1.set_ 0 (.bool false)).set_ 1 (.slice none 0 0)).set_ 2 (.int .i64 0);have e0:=hb3.cell 0;have e1:=hb3.cell 1;have e2:=hb3.cell 2;refine bodyPost_ret (v:=.agg #[.bool false,.slice none 0 0,.int .i64 0]) (by simp[results,results110,go_sem,e0,e1,e2]) rfl ?_;rw[HF.out];exact⟨_,rfl,⟨none,0,rfl,.inl ⟨rfl,rfl,rfl⟩⟩,by rw[HGB.out];exact((HB1.out.2.1.setCell (p:=⟨gb,0,none⟩) (by simp) _).setCell (p:=⟨gb,1,none⟩) (by simp) _).setCell (p:=⟨gb,2,none⟩) (by simp) _⟩
  |cons v m=>
   obtain⟨h1,h2,h3,h4,h5⟩:=HV.out;have hv10:v<10:=h4 v (.head _);have hlc:m.length+1<=c1:=h1;obtain⟨ad,rfl,_,y0⟩:=zrj h2 (show 0<(v::m).length by simp) rfl hv10;rw[show ad.add 0=ad from rfl]at y0;have hp1:(0:Int)<((v::m).length:Int):=by simp
   have htl:=zj1 (some ad) (v::m).length c1 (by simp);by_cases hz:v=0
   ·subst hz;have hzb:(((0:Nat):Int)==0)=true:=rfl;have HNX:Hid (m.length<=c1-1/\RowAt byteL w1 B (if c1=1 then some ad else(some ad).map (·.add (1*1))) (d8 m)/\m.dropWhile isZ=d.dropWhile isZ/\(∀v∈m,v<10)/\m.length<=1073741823):=hid ⟨by omega,zor h2 (k:=1) (by simp[d8]) (by simpa[d8]using h1),by rw[<-h3,zl7],fun v hv=>h4 v (.tail _ hv),by simp at h5;omega⟩;clear h1 h2 h3 h4 h5;go_wp2;go_round
    case rel=>exact⟨_,_,m,rfl,HNX⟩
    case measure=>simp
   ·have hz1:¬((v:Int)=0):=by omega
    have hzb:((v:Int)==0)=false:=by simpa using hz
    obtain⟨M,hM⟩:=ex (v::m)
    have HM:Hid (M.length<=c1/\RowAt byteL w1 B (some ad) (d8 M)/\(∀v∈M,v<10)/\M.length<=1073741823/\M.head?=some v/\M≠[]/\r=⟨neg,Gr.rz M,E+((M.length-(Gr.rz M).length:Nat):Int)⟩):=hid (by
     rw[<-hM];refine⟨h1,h2,h4,h5,rfl,by simp,?_⟩;rw[<-HR.out];unfold norm;rw[<-h3,zqe v m hz,if_neg (by simp)])
    rw[hM];rw[hM]at hp1;clear h1 h2 h3 h4 h5 htl hM;go_wp2_with fail;go_loop [1,2] (fun s1 s2=>∃k:Nat,0<k/\k<=M.length/\s1=.slice (some ad) k c1/\s2=.int .i64 (E+((M.length-k:Nat):Int))/\Hid (Gr.rz (M.take k)=Gr.rz M)) (fun s1 _=>match s1 with| .slice _ n _=>n|_=>0)
    case atStart=>exact⟨M.length,by omega,Nat.le_refl _,rfl,by simp,hid (by rw[List.take_length])⟩
    case round=>
     clear y0;obtain⟨k,hk0,hkM,rfl,rfl,HV2⟩:=hrel;obtain⟨j,rfl⟩:∃j,k=j+1:=⟨k-1,by omega⟩
     have hjM:j<M.length:=by omega
     obtain⟨u,hu⟩:=ex (M[j])
     have hu10:u<10:=by rw[<-hu];exact HM.out.2.2.1 _ (List.getElem_mem hjM)
     obtain⟨ad',hade,_,y0⟩:=zrj HM.out.2.1 hjM hu hu10;injection hade with hade
     subst hade;have HT:=hid (show M.take (j+1)=M.take j++[u] by rw[List.take_succ_eq_append_getElem hjM,hu]);have hcut:=fun W=>zgf (some ad) (j+1) c1 j (by have:=HM.out.1;omega) W
     have HU:=hid hu;clear hu;have hML:M.length<=1073741823:=HM.out.2.2.2.1;have hjI:(j:Int)<=1073741822:=by omega
     have hj0I:(0:Int)<=(j:Int):=by omega
     by_cases hz2:u=0
     ·subst hz2;have hj0:0<j:=by
       rcases Nat.eq_zero_or_pos j with h0|h0
       ·subst h0;have h1:=HM.out.2.2.2.2.1;rw[List.head?_eq_getElem?,List.getElem?_eq_getElem hjM,HU.out]at h1;injection h1 with h1
        exact absurd h1.symm hz
       ·exact h0
      have hub:(((0:Nat):Int)==0)=true:=rfl;have HNX:Hid (Gr.rz (M.take j)=Gr.rz M):=hid (by rw[<-HV2.out,HT.out,zfr,if_pos rfl]);go_wp2;go_round
      case rel=>exact⟨j,hj0,by omega,rfl,by go_num,HNX⟩
      case measure=>simp
     ·have hz3:¬((u:Int)=0):=by omega
      have hub:((u:Int)==0)=false:=by simpa using hz2
      have HF:Hid (r=⟨neg,M.take (j+1),E+((M.length-(j+1):Nat):Int)⟩):=hid (by
       have h1:=HV2.out;rw[HT.out,zfr,if_neg hz2,<-HT.out]at h1;rw[HM.out.2.2.2.2.2.2,<-h1,List.length_take,Nat.min_eq_left (by omega)])
      have hmk:∀W:World,(Instr.makeSlice 119 (.int .i64 ((j:Int)+1)) (.int .i64 ((j:Int)+1))).run prog W=.ok (.slice (some ⟨W.heap.size,0,none⟩) (j+1) (j+1)) (W.alloc (.cells (ucells (List.replicate (j+1) 0)) 5)):=fun W=>by
       have:=zca (j+1) (by omega) W;rwa[show(((j+1:Nat)):Int)=(j:Int)+1 from by omega]at this
      have hnz:¬(((j+1:Nat):Int)=0):=by omega
      have hnzb:(((j+1:Nat):Int)==0)=false:=by rw[beq_eq_false_iff_ne];omega
      go_upto_region 9 with fail;obtain⟨w2,hw2⟩:=ex (w1.alloc (.cells (ucells (List.replicate (j+1) 0)) 5))
      obtain⟨db,hdb⟩:=ex w1.heap.size
      have hl2:Below db w1 w2:=by rw[<-hw2,<-hdb];exact(Below.refl _ _).alloc (Nat.le_refl _) _
      have hb2:Blk w2 db 5 (ucells (List.replicate (j+1) 0)):=by rw[<-hw2,<-hdb];exact Blk.new _ _ _
      have hdg:db=gb+1:=by rw[<-hdb];exact HB1.out.2.2
      have hr2:RowAt byteL w2 B (some ad) (d8 (M.take (j+1))):=by
       have:=zl6 HM.out.2.1 (k:=j+1) (by rw[zs7];omega);rw[show(d8 M).take (j+1)=d8 (M.take (j+1))from by simp[d8,List.map_take]]at this;exact this.below (hl2.mono (by omega))
      obtain⟨w3,hcp,hk3,hb3⟩:=zj0 w2 B db (j+1) c1 (some ad) (d8 (M.take (j+1))) 3 (by simp[d8];omega) hb2 hr2;have hl3:Below db w1 w3:=hl2.trans (hk3.below (Nat.le_refl _));have hz3:w3.heap.size=db+1:=by rw[hk3.size,<-hw2,World.size_alloc,hdb]
      have HG3:Hid (Blk w3 gb 125 #[.bool false,.slice none 0 0,.int .i64 0]):=hid (HB1.out.1.below hl3 (by omega));have HB3:=hid hb3;have HL3:Hid (Below gb w w3):=hid (HB1.out.2.1.trans (hl3.mono (by omega)));have hdgn:gb≠db:=by omega
      rw[hw2];(try rw[hdb]);clear hw2 hdb hl2 hb2 hr2 hk3 hb3 hl3 hz3 hdg;go_upto_region 10 with fail;clear hcp p0 q0 q1 q2 y0;have p0:∀j,w3.frozen? ⟨gb,j,none⟩=false:=HG3.out.frozen;obtain⟨q0,q1,q2⟩:=cells3 HG3.out;go_wp2_with fail;have hv3:=((HG3.out.set_ 0 (.bool neg)).set_ 1 (.slice (some ⟨db,0,none⟩) (j+1) (j+1))).set_ 2 (.int .i64 (E+((M.length-(j+1):Nat):Int)));have e0:=hv3.cell 0;have e1:=hv3.cell 1;have e2:=hv3.cell 2;refine bodyPost_ret (v:=.agg #[.bool neg,.slice (some ⟨db,0,none⟩) (j+1) (j+1),.int .i64 (E+((M.length-(j+1):Nat):Int))]) (by simp[results,results110,go_sem,e0,e1,e2]) rfl ?_;rw[HF.out];have hlen:(M.take (j+1)).length=j+1:=by rw[List.length_take];omega
      refine⟨_,rfl,⟨some ⟨db,0,none⟩,j+1,by rw[hlen],.inr ⟨db,rfl,hlen.symm,?_⟩⟩,by rw[HGB.out];exact((HL3.out.setCell (p:=⟨gb,0,none⟩) (by simp) _).setCell (p:=⟨gb,1,none⟩) (by simp) _).setCell (p:=⟨gb,2,none⟩) (by simp) _⟩;exact((HB3.out.far hdgn.symm _).far hdgn.symm _).far hdgn.symm _
theorem zb0 (f:Nat) (w:World):(callFunc 157 #[.float .f64 f]).run prog w=.ok (.value (.int .u64 f)) w:=by
 rw[run_callFunc_extern func157 (by kernel_rfl) (by kernel_rfl) (by kernel_rfl) (e:=Extern.MathFloatBits.float64bits) (by kernel_rfl)];rfl
theorem zat (n:Int) (w:World):(callFunc 147 #[.int .u64 n]).run prog w=.ok (.value (.float .f64 n.toNat)) w:=by
 rw[run_callFunc_extern func147 (by kernel_rfl) (by kernel_rfl) (by kernel_rfl) (e:=Extern.MathFloatBits.float64frombits) (by kernel_rfl)];rfl
theorem zfo (f:Nat) (hf:f<9223372036854775808) (w:World):Calls prog 180 #[.float .f64 f] w fun e w'=>e=.returned (.float .f64 f)/\w=w':=by
 have c1:=fun W=>zb0 f W
 have c2:=fun W=>zat (f:Int) W
 have c3:=zhr f hf;go_enter func180,ntmps180;go_wp2;go_ret;exact⟨rfl,rfl⟩
theorem zl1 (f:Nat) (hf:f<9223372036854775808) (w:World):Calls prog 153 #[.float .f64 f] w fun e w'=>e=.returned (.bool false)/\w=w':=by
 have c1:=fun W=>zb0 f W
 have h0:(0:Int)<=(f:Int):=by omega
 have h1:(f:Int)<=9223372036854775807:=by omega
 have h2:IntKind.i64.wrap (f:Int)=(f:Int):=IntWalk.i64_in _ (by omega);have h3:decide ((f:Int)<0)=false:=by simp
 go_enter func153,ntmps153;go_wp2;go_ret;exact⟨rfl,rfl⟩
theorem zit (f:Nat) (hf:f<9223372036854775808) (ho:(FloatKind.f64.format.order f 9218868437227405311==some Ordering.gt)=false) (w:World):Calls prog 154 #[.float .f64 f,.int .i64 0] w fun e w'=>e=.returned (.bool false)/\w=w':=by
 have HA:=hid (fun W=>zfo f hf W);go_enter func154,ntmps154;go_wp2_with fail;refine(HA.out _).mono ?_;rintro e w1 ⟨rfl,rfl⟩;go_wp2;go_ret;exact⟨rfl,rfl⟩
theorem zop (f:Nat) (ho:(FloatKind.f64.format.order f f != some Ordering.eq)=false) (w:World):Calls prog 178 #[.float .f64 f] w fun e w'=>e=.returned (.bool false)/\w=w':=by
 go_enter func178,ntmps178;go_wp2;go_ret;exact⟨rfl,rfl⟩
theorem zl2 (f:Nat) (hf:f<9223372036854775808) (ho:(FloatKind.f64.format.order f 4503599627370496==some Ordering.lt)=false) (w:World):Calls prog 179 #[.float .f64 f] w fun e w'=>e=.returned (.tuple #[.float .f64 f,.int .i64 0])/\w=w':=by
 have HA:=hid (fun W=>zfo f hf W);go_enter func179,ntmps179;go_wp2_with fail;refine(HA.out _).mono ?_;rintro e w1 ⟨rfl,rfl⟩;go_wp2;go_ret2;exact⟨rfl,rfl⟩
namespace Flt
section
variable {m L:Nat} {e:Int}
theorem Fits.o_max (h:Fits m L e):(FloatKind.f64.format.order (fw m L e) 9218868437227405311==some Ordering.gt)=false:=by
 show(Ieee.double.order (fw m L e) 9218868437227405311==some Ordering.gt)=false;rcases h.order_max with h1|h1<;>rw[h1]<;>rfl
theorem Fits.o_self (h:Fits m L e):(FloatKind.f64.format.order (fw m L e) (fw m L e) != some Ordering.eq)=false:=by
 show(Ieee.double.order (fw m L e) (fw m L e) != some Ordering.eq)=false;rw[h.order_self];rfl
theorem Fits.o_zero (h:Fits m L e):(FloatKind.f64.format.order (fw m L e) 0==some Ordering.eq)=false:=by
 show(Ieee.double.order (fw m L e) 0==some Ordering.eq)=false;rw[h.order_zero];rfl
theorem Fits.at0 (h:Fits m L e):Fits m L 0:=⟨h.odd,h.lo,h.hi,h.len,by omega,by have:=h.len;omega⟩
theorem Fits.o_norm (h:Fits m L 0):(FloatKind.f64.format.order (fw m L 0) 4503599627370496==some Ordering.lt)=false:=by
 show(Ieee.double.order (fw m L 0) 4503599627370496==some Ordering.lt)=false;obtain⟨a,b,c,d,f⟩:=h.sig_bd;have hlen:=h.len;have hlp:lastP L 0=(L:Int)-52:=by unfold lastP;omega
 have c2:4503599627370496<=sig m L 0:=by rcases c with c|c<;>omega
 unfold Ieee.Format.order;have r0:Ieee.double.read 4503599627370496=.number false 4503599627370496 (-1074):=by decide
 rw[h.read,r0];simp only[Ieee.Datum.order,Ieee.signed,Bool.false_eq_true,if_false];rw[show min (lastP L 0) (-1074)=-1074 from by omega,show((-1074:Int)- -1074).toNat=0 from rfl,Nat.shiftLeft_zero,Nat.shiftLeft_eq];have:sig m L 0<=sig m L 0*2 ^ (lastP L 0- -1074).toNat:=Nat.le_mul_of_pos_right _ (Nat.two_pow_pos _);generalize sig m L 0*2 ^ (lastP L 0- -1074).toNat=N at this;simp only[compare,compareOfLessAndEq];rw[if_neg (by omega)];split<;>rfl
theorem Fits.fw0 (h:Fits m L 0):fw m L 0=(L+1022)*4503599627370496+m*2 ^ (52-L):=by
 have hlen:=h.len;have hlp:lastP L 0=(L:Int)-52:=by unfold lastP;omega
 unfold fw sig;rw[hlp,show((L:Int)-52+1074).toNat=L+1022 from by omega,show(0-((L:Int)-52)).toNat=52-L from by omega]
theorem Fits.parts0 (h:Fits m L 0):fw m L 0 /4503599627370496=L+1023/\fw m L 0%4503599627370496=m*2 ^ (52-L)-4503599627370496:=by
 obtain⟨f1,f2⟩:=h.full;rw[h.fw0];omega
end
end Flt
open Flt in
theorem zl3 (m L:Nat) (e:Int) (h:Flt.Fits m L e) (f:Nat) (hf:fw m L 0=f) (w:World):Calls prog 152 #[.float .f64 f,.int .i64 e] w fun r w'=>r=.returned (.float .f64 (fw m L e))/\w=w':=by
 have h0:=h.at0;have hlt:=h0.fw_lt.2;have o1:=h0.o_zero;have HI:=hid (fun W=>zit f (by omega) (by rw[<-hf];exact h0.o_max) W);have HN:=hid (fun W=>zop f (by rw[<-hf];exact h0.o_self) W);have HO:=hid (fun W=>zl2 f (by omega) (by rw[<-hf];exact h0.o_norm) W);obtain⟨pk,pq⟩:=h0.parts0;rw[hf]at o1 pk pq hlt;have c1:=fun W=>zb0 f W
 have hlen:=h.len;have he0:=h.e0;have he1:=h.e1;have HX:=hid h;have i1:(f:Int) /4503599627370496=(L:Int)+1023:=by omega
 have i2:IntKind.i64.wrap ((L:Int)+1023)=(L:Int)+1023:=IntWalk.i64_in _ (by omega);have i3:bits .and .i64 ((L:Int)+1023) 2047=(L:Int)+1023:=by have:=zrg (L+1023) (by omega);simpa using this
 have i4:bits .andNot .u64 (f:Int) 9218868437227405312=((m*2 ^ (52-L)-4503599627370496:Nat):Int):=by rw[zjz f (by omega),pq]
 have hq:m*2 ^ (52-L)-4503599627370496<4503599627370496:=by omega
 by_cases hn:-1022<=e+L
 ·obtain⟨X,hX⟩:=ex ((e+L+1023).toNat*4503599627370496+(m*2 ^ (52-L)-4503599627370496))
  have hM:=HX.out.mul_one hn;have i5:bits .or .u64 ((m*2 ^ (52-L)-4503599627370496:Nat):Int) ((e+(L:Int)+1023)*4503599627370496)=(X:Int):=by
   have:=zl0 (m*2 ^ (52-L)-4503599627370496) (e+L+1023).toNat hq (by omega);rw[hX]at this;rw[show(e+(L:Int)+1023)*4503599627370496=(((e+L+1023).toNat*4503599627370496:Nat):Int)from by omega];exact this
  rw[hX]at hM;have c2:=fun W=>zat (X:Int) W
  have c3:=fun W=>run_float_arith (P:=prog) (w:=W) .mul 128 .f64 4607182418800017408 X (fw m L e) hM
  obtain⟨Q,hQ⟩:=ex (m*2 ^ (52-L)-4503599627370496)
  rw[hQ]at i4 i5;clear h h0 hf pk pq hq hX hM hQ;go_enter func152,ntmps152;go_wp2_with (first| ((with_reducible refine(HI.out _).mono ?_);rintro _ _ ⟨rfl,rfl⟩)| ((with_reducible refine(HN.out _).mono ?_);rintro _ _ ⟨rfl,rfl⟩)| ((with_reducible refine(HO.out _).mono ?_);rintro _ _ ⟨rfl,rfl⟩));go_ret;exact⟨rfl,rfl⟩
 ·obtain⟨X,hX⟩:=ex ((e+L+1076).toNat*4503599627370496+(m*2 ^ (52-L)-4503599627370496))
  have hM:=HX.out.mul_small (by omega);have i5:bits .or .u64 ((m*2 ^ (52-L)-4503599627370496:Nat):Int) ((e+(L:Int)+53+1023)*4503599627370496)=(X:Int):=by
   have:=zl0 (m*2 ^ (52-L)-4503599627370496) (e+L+1076).toNat hq (by omega);rw[hX]at this;rw[show(e+(L:Int)+53+1023)*4503599627370496=(((e+L+1076).toNat*4503599627370496:Nat):Int)from by omega];exact this
  rw[hX]at hM;have c2:=fun W=>zat (X:Int) W
  have c3:=fun W=>run_float_arith (P:=prog) (w:=W) .mul 128 .f64 4368491638549381120 X (fw m L e) hM
  obtain⟨Q,hQ⟩:=ex (m*2 ^ (52-L)-4503599627370496)
  rw[hQ]at i4 i5;clear h h0 hf pk pq hq hX hM hQ;go_enter func152,ntmps152;go_wp2_with (first| ((with_reducible refine(HI.out _).mono ?_);rintro _ _ ⟨rfl,rfl⟩)| ((with_reducible refine(HN.out _).mono ?_);rintro _ _ ⟨rfl,rfl⟩)| ((with_reducible refine(HO.out _).mono ?_);rintro _ _ ⟨rfl,rfl⟩));go_ret;exact⟨rfl,rfl⟩
end Go.Proofs.YtoigpackhninoaaGreatDoor
