import Derived.Test.YtoigpackhninoaaGreatDoorGrInt
import Derived.Laws.CopyOwn
import Derived.Test.YtoigpackhninoaaGreatDoorGrInsR3
import Derived.Test.YtoigpackhninoaaGreatDoorZ04
namespace Go.Proofs.YtoigpackhninoaaGreatDoor
open Gr
open _root_.Go.Proofs.Tryz
open _root_.Go.Lib (hid)
set_option maxRecDepth 100000
set_option maxHeartbeats 16000000
open Go.RowKit
def d8 (d:List Nat):List UInt8:=d.map UInt8.ofNat
theorem zxc (d:List Nat):(d8 d).length=d.length:=by simp[d8]
def zom (w:World) (d:List Nat) (e:Ending) (w':World):Prop:=∃g,e=.returned (.slice (some ⟨g,0,none⟩) d.length d.length)/\w.heap.size<=g/\Blk w' g 5 (ucells (d8 d))/\Below w.heap.size w w'
theorem zkm (a:List UInt8) (n:Nat) (x:UInt8) (h:0<n):(a++List.replicate n 0).set a.length x=(a++[x])++List.replicate (n-1) 0:=by
 obtain⟨m,rfl⟩:∃m,n=m+1:=⟨n-1,by omega⟩
 rw[List.set_append_right _ _ (Nat.le_refl _),Nat.sub_self,List.replicate_succ,List.set_cons_zero,List.append_assoc];rfl
theorem zon (s:Gr.Str) (hl:s.length<=1073741823) (hd:s.all Gr.dig=true) (w:World):
 Calls prog 111 #[.string ⟨s.toArray⟩] w (zom w (vals s)):=by
 have u:=fun W=>zcq s.length (by omega) W
 go_enter func111,ntmps111;go_upto_region 2 with fail;obtain⟨y,f⟩:=ex (w.alloc (.cells (ucells (List.replicate s.length 0)) 5))
 obtain⟨c,d⟩:=ex w.heap.size
 have t:Hid (Blk y c 5 (ucells (List.replicate s.length 0))/\Below c w y):=hid (by rw[<-f,<-d];exact⟨Blk.new _ _ _,(Below.refl _ _).alloc (Nat.le_refl _) _⟩);have l:=hid d;have z:=hid hd;rw[f];(try rw[d]);clear f d u hd;go_wp2_with fail;go_loopw [10] (fun s10 wr=>∃k:Nat,k<=s.length/\s10=.int .i64 k/\Hid (Blk wr c 5 (ucells (d8 (vals (s.take k))++List.replicate (s.length-k) 0))/\Below c w wr)) (fun s10 _=>s.length-(intOf s10).toNat)
 case atStart=>exact⟨0,by omega,rfl,hid (by simpa[vals,d8]using t.out)⟩
 case round=>
  obtain⟨k,hk,rfl,h⟩:=hrel;by_cases hlt:k<s.length
  ·have n:(k:Int)<(s.length:Int):=by omega
   obtain⟨b,q⟩:∃b:Nat,(s[k]'(by omega)).toNat=b:=⟨_,rfl⟩
   have hbv:(((⟨s.toArray⟩:ByteArray)[k]'(by simpa[ByteArray.size]using hlt)).toNat:Int)=(b:Int):=by rw[<-q];rfl
   have p:=(zbf (s[k]'hlt)).1 (List.all_eq_true.1 z.out _ (List.getElem_mem hlt));rw[q]at p;have a48:(48:Int)<=(b:Int):=by omega
   have a57:(b:Int)<=57:=by omega
   have pfd:∀j,wr.frozen? ⟨c,j,none⟩=false:=h.out.1.frozen;have a:(d8 (vals (s.take k))).length=k:=by simp[d8,vals];omega
   obtain⟨x,zd⟩:∃x,wr.cell? ⟨c,k,none⟩=some x:=by
    rw[h.out.1.cell];refine⟨_,Array.getElem?_eq_getElem (i:=k) ?_⟩;simp[ucells,a];omega
   have o:Hid (d8 (vals (s.take (k+1)))=d8 (vals (s.take k))++[UInt8.ofNat (b-48)]/\(d8 (vals (s.take k))).length=k):=hid ⟨by
    rw[List.take_succ_eq_append_getElem hlt];simp only[d8,vals,List.map_append,List.map_cons,List.map_nil,Gr.dv,q],a⟩
   clear q p a;go_wp2_with fail;obtain⟨e,g⟩:∃e:UInt8,e=UInt8.ofNat (b-48):=⟨_,rfl⟩
   have m:(b:Int)-48=(e.toNat:Int):=by rw[g,UInt8.toNat_ofNat'];omega
   rw[m];have B:Hid (Blk (wr.setCell ⟨c,k,none⟩ (.int .u8 (e.toNat:Int))) c 5 (ucells (d8 (vals (s.take (k+1)))++List.replicate (s.length-(k+1)) 0))/\Below c w (wr.setCell ⟨c,k,none⟩ (.int .u8 (e.toNat:Int)))):=hid ⟨by
    have r:=h.out.1.set_ k (.int .u8 (e.toNat:Int));rw[zdr]at r;have v:=zkm (d8 (vals (s.take k))) (s.length-k) e (by omega);rw[o.out.2]at v;rw[v]at r;rw[o.out.1,<-g,show s.length-(k+1)=s.length-k-1 from by omega];exact r,h.out.2.setCell (by simp) _⟩
   clear m g;go_roundw
   case rel=>exact⟨k+1,by omega,by go_num,B⟩
   case measure=>simp[intOf];omega
  ·have n:¬(k:Int)<(s.length:Int):=by omega
   have A:Hid (Blk wr c 5 (ucells (d8 (vals s)))):=hid (by
    have:=h.out.1;rwa[show k=s.length from by omega,List.take_length,Nat.sub_self,List.replicate_zero,List.append_nil]at this)
   go_wp2;go_ret;refine⟨c,?_,by rw[l.out];exact Nat.le_refl _,A.out,by rw[l.out];exact h.out.2⟩;simp[vals]
theorem infoByteS:(prog.info? 5).map (·.size)=some 1:=by kernel_rfl
theorem zlu (W:World) (B g n c:Nat) (A:Option Addr) (l:List UInt8) (ty:TypeId) (hl:l.length=n) (hb:Blk W g 5 (ucells (List.replicate n 0))) (hr:RowAt byteL W B A l):
 ∃W',(Builtin.copy_ #[119,119] ty #[.slice (some ⟨g,0,none⟩) n n,.slice A n c]).run prog W=.ok (.int .i64 n) W'/\Kept1 g W W'/\Blk W' g 5 (ucells l):=by
 by_cases h0:n=0
 ·subst h0;obtain rfl:=List.eq_nil_of_length_eq_zero hl;exact⟨W,run_copy_none (P:=prog) W 119 119 ty 5 _ A 0 0 0 c underlying119 infoByteS rfl,Kept1.refl _ _,hb⟩
 ·obtain⟨d,rfl,hlt,h⟩:=hr.2 (by omega);have a:(byteL.all l).length=n:=by rw[Lay.all_len];show l.length*1=n;omega
  have b:=run_copy_row (P:=prog) W 119 119 ty 5 g 0 n n d n c (ucells (List.replicate n 0)) 5 (byteL.all l) underlying119 infoByteS hb (by rw[a];exact(Nat.min_self n).symm) h (by rw[a];simp[ucells]) (byteL.all_one l);have e:((ucells (List.replicate n 0)).toList.take 0++byteL.all l++(ucells (List.replicate n 0)).toList.drop (0+(byteL.all l).length)).toArray=ucells l:=by
   rw[a,<-zar];simp[ucells]
  rw[e,a]at b;exact⟨_,b,⟨rfl,rfl,rfl,size_setRow _ _ _,fun k f=>setRow_other _ _ _ _ f⟩,setRow_heap _ _ _ _ _ _ hb⟩
theorem zgm (l:List UInt8) (k:Nat):(byteL.all l).drop k=byteL.all (l.drop k):=by
 rw[<-zar,<-zar];simp[ucells,List.map_drop]
theorem zgn (l:List UInt8) (k:Nat):(byteL.all l).take k=byteL.all (l.take k):=by
 rw[<-zar,<-zar];simp[ucells,List.map_take]
theorem zr9 {w:World} {B:Nat} {A:Option Addr} {l:List UInt8} (h:RowAt byteL w B A l) {k cap:Nat} (hk:k<=l.length) (hc:l.length<=cap):RowAt byteL w B (if cap=k then A else A.map (·.add (k*1))) (l.drop k):=by
 have:=Reads.cut h hk hc;show Reads w B 1 _ _ _;rw[show byteL.sz=1 from rfl,Nat.mul_one,zgm]at this;rw[Nat.mul_one,List.length_drop];exact this
theorem zoo {w:World} {B:Nat} {A:Option Addr} {l:List UInt8} (h:RowAt byteL w B A l) {k:Nat} (hk:k<=l.length):RowAt byteL w B A (l.take k):=by
 refine⟨byteL.all_len _,fun g=>?_⟩;have b:(l.take k).length=k:=by simp;omega
 rw[b]at g;obtain⟨c,e,d,f⟩:=h.2 (by omega);refine⟨c,e,d,fun j u a=>f j u ?_⟩;rw[<-zgn]at a;rw[List.getElem?_take]at a;split at a
 ·exact a
 ·cases a
theorem zlv (a:Option Addr) (n c:Nat) (h1:1<=n) (w:World):(Instr.slice 119 (.slice a n c) (some (.int .i64 1)) none none).run prog w=.ok (.slice (if c=1 then a else a.map (·.add (1*1))) (n-1) (c-1)) w:=by
 obtain⟨e,z,d,hz0,b,hz2,hz3⟩:=byteT.info;rw[zhb (P:=prog) 119 5 e underlying119 d a n c 1 (by omega) (by omega) w,b];rfl
def NumAt (x:Gr.Dn) (A:Option Addr) (c:Nat) (w:World):Prop:=(x.d=[]/\A=none/\c=0)\/∃g,A=some ⟨g,0,none⟩/\c=x.d.length/\Blk w g 5 (ucells (d8 x.d))
theorem NumAt.row {x:Gr.Dn} {A:Option Addr} {c:Nat} {w:World} (h:NumAt x A c w):RowAt byteL w w.heap.size A (d8 x.d):=by
 rcases h with⟨b,rfl,_⟩|⟨g,rfl,_,a⟩
 ·rw[b];exact RowAt.nil
 ·exact RowAt.ofBlk a (zar _) a.lt
theorem NumAt.keep {x:Gr.Dn} {A:Option Addr} {c:Nat} {w w':World} (h:NumAt x A c w) (hk:∀g cs,Blk w g 5 cs->Blk w' g 5 cs):NumAt x A c w':=by
 rcases h with h1|⟨g,h1,h2,hb⟩
 ·exact .inl h1
 ·exact .inr ⟨g,h1,h2,hk _ _ hb⟩
theorem NumAt.alloc {x:Gr.Dn} {A:Option Addr} {c:Nat} {w:World} (h:NumAt x A c w) (o:Obj):NumAt x A c (w.alloc o):=h.keep (fun _ _ a=>a.alloc o)
theorem NumAt.set_ {x:Gr.Dn} {A:Option Addr} {c:Nat} {w:World} (h:NumAt x A c w) {k i:Nat} {t:TypeId} {cs:Array Value} (hk:Blk w k t cs) (ht:5≠t) (u:Value):NumAt x A c (w.setCell ⟨k,i,none⟩ u):=h.keep (fun _ _ a=>a.far (a.ne_ hk ht) u)
def NumVal (x:Gr.Dn) (v:Value) (w:World):Prop:=∃A c,v=.agg #[.bool x.neg,.slice A x.d.length c,.int .i64 x.e]/\NumAt x A c w
def zkn (x:Gr.Dn) (w:World) (e:Ending) (w':World):Prop:=∃v,e=.returned v/\NumVal x v w'/\Below w.heap.size w w'
theorem zxd {d:List Nat} {k:Nat} (h:k<d.length):(d8 d)[k]'(by simpa[d8]using h)=UInt8.ofNat d[k]:=by simp[d8]
theorem zvc {w:World} {B:Nat} {A:Option Addr} {d:List Nat} {k v:Nat} (h:RowAt byteL w B A (d8 d)) (hk:k<d.length) (hv:d[k]=v) (hl:v<10):∃ad,A=some ad/\ad.block<B/\w.cell? (ad.add k)=some (.int .u8 (v:Int)):=by
 obtain⟨ad,c,a,b⟩:=zw0 h (show k<(d8 d).length by simpa[d8]using hk);refine⟨ad,c,a,?_⟩;rw[b,zxd hk,hv,UInt8.toNat_ofNat',Nat.mod_eq_of_lt (by omega)]
theorem zop (d:List Nat):(0::d).dropWhile isZ=d.dropWhile isZ:=rfl
theorem zua (v:Nat) (d:List Nat) (h:v≠0):(v::d).dropWhile isZ=v::d:=by
 rw[List.dropWhile_cons,if_neg];simpa[isZ]using h
theorem zgo (d:List Nat) (v:Nat):Gr.rz (d++[v])=if v=0 then Gr.rz d else d++[v]:=by
 unfold Gr.rz;rw[List.reverse_append,List.reverse_cons,List.reverse_nil,List.nil_append,List.singleton_append,List.dropWhile_cons];by_cases h:v=0
 ·rw[if_pos (by simpa[isZ]using h),if_pos h]
 ·rw[if_neg (by simpa[isZ]using h),if_neg h];simp
theorem zsa (neg:Bool) (A:Option Addr) (c:Nat) (d:List Nat) (E:Int) (hl:d.length<=1073741823) (hc:d.length<=c) (hd:∀v∈d,v<10) (hE0:-1152921504606846976<=E) (hE1:E<=1152921504606846976) (w:World) (B:Nat) (hB:B<=w.heap.size) (h:RowAt byteL w B A (d8 d)):
 Calls prog 110 #[.bool neg,.slice A d.length c,.int .i64 E] w (zkn (norm neg d E) w):=by
 obtain⟨r,hr⟩:=ex (norm neg d E)
 have HR:=hid hr;rw[hr];clear hr;have O:=hid h;have HD:=hid hd;clear h hd;go_enter func110,ntmps110;go_upto_region 1 with fail;obtain⟨i,K⟩:=ex (w.alloc (.cells #[.bool false,.slice none 0 0,.int .i64 0] 125))
 obtain⟨b,y⟩:=ex w.heap.size
 have a:Hid (Blk i b 125 #[.bool false,.slice none 0 0,.int .i64 0]/\Below b w i/\i.heap.size=b+1):=hid (by rw[<-K,<-y];exact⟨Blk.new _ _ _,(Below.refl _ _).alloc (Nat.le_refl _) _,by simp⟩);have V:=hid y;have ak:B<=b:=by omega
 (try rw[K]);(try rw[y]);clear K y;have p0:∀j,i.frozen? ⟨b,j,none⟩=false:=a.out.1.frozen;obtain⟨q0,q1,q2⟩:=cells3 a.out.1;go_loop [1] (fun s1=>∃(A1:Option Addr) (c1:Nat) (m:List Nat),s1=.slice A1 m.length c1/\Hid (m.length<=c1/\RowAt byteL i B A1 (d8 m)/\m.dropWhile isZ=d.dropWhile isZ/\(∀v∈m,v<10)/\m.length<=1073741823)) (fun s1=>match s1 with| .slice _ n _=>n|_=>0)
 case atStart=>exact⟨A,c,d,rfl,hid ⟨hc,O.out.below (a.out.2.1.mono ak),rfl,HD.out,hl⟩⟩
 case round=>
  obtain⟨A1,c1,m,rfl,HV⟩:=hrel;cases m with
  |nil=>
   have HF:Hid (r=zeroD):=hid (by
    rw[<-HR.out];unfold norm;rw[if_pos (show d.dropWhile isZ=[]from HV.out.2.2.1.symm)])
   go_wp2_with fail;go_loop [1,2] (fun s1 s2=>s1=.slice A1 0 c1/\s2=.int .i64 E) (fun _ _=>0)
   case atStart=>exact⟨rfl,rfl⟩
   case round=>
    obtain⟨rfl,rfl⟩:=hrel;go_wp2_with fail;have f:=((a.out.1.set_ 0 (.bool false)).set_ 1 (.slice none 0 0)).set_ 2 (.int .i64 0);have e0:=f.cell 0;have e1:=f.cell 1;have e2:=f.cell 2;refine bodyPost_ret (v:=.agg #[.bool false,.slice none 0 0,.int .i64 0]) (by simp[results,results110,go_sem,e0,e1,e2]) rfl ?_;rw[HF.out];exact⟨_,rfl,⟨none,0,rfl,.inl ⟨rfl,rfl,rfl⟩⟩,by rw[V.out];exact((a.out.2.1.setCell (p:=⟨b,0,none⟩) (by simp) _).setCell (p:=⟨b,1,none⟩) (by simp) _).setCell (p:=⟨b,2,none⟩) (by simp) _⟩
  |cons v m=>
   obtain⟨g,N,h3,U,h5⟩:=HV.out;have P:v<10:=U v (.head _);have hlc:m.length+1<=c1:=g;obtain⟨t,rfl,_,y0⟩:=zvc N (show 0<(v::m).length by simp) rfl P;rw[show t.add 0=t from rfl]at y0;have ac:(0:Int)<((v::m).length:Int):=by simp
   have ah:=zlv (some t) (v::m).length c1 (by simp);by_cases hz:v=0
   ·subst hz;have ai:(((0:Nat):Int)==0)=true:=rfl;have H:Hid (m.length<=c1-1/\RowAt byteL i B (if c1=1 then some t else(some t).map (·.add (1*1))) (d8 m)/\m.dropWhile isZ=d.dropWhile isZ/\(∀v∈m,v<10)/\m.length<=1073741823):=hid ⟨by omega,zr9 N (k:=1) (by simp[d8]) (by simpa[d8]using g),by rw[<-h3,zop],fun v hv=>U v (.tail _ hv),by simp at h5;omega⟩;clear g N h3 U h5;go_wp2;go_round
    case rel=>exact⟨_,_,m,rfl,H⟩
    case measure=>simp
   ·have hz1:¬((v:Int)=0):=by omega
    have ai:((v:Int)==0)=false:=by simpa using hz
    obtain⟨M,hM⟩:=ex (v::m)
    have D:Hid (M.length<=c1/\RowAt byteL i B (some t) (d8 M)/\(∀v∈M,v<10)/\M.length<=1073741823/\M.head?=some v/\M≠[]/\r=⟨neg,Gr.rz M,E+((M.length-(Gr.rz M).length:Nat):Int)⟩):=hid (by
     rw[<-hM];refine⟨g,N,U,h5,rfl,by simp,?_⟩;rw[<-HR.out];unfold norm;rw[<-h3,zua v m hz,if_neg (by simp)])
    rw[hM];rw[hM]at ac;clear g N h3 U h5 ah hM;go_wp2_with fail;go_loop [1,2] (fun s1 s2=>∃k:Nat,0<k/\k<=M.length/\s1=.slice (some t) k c1/\s2=.int .i64 (E+((M.length-k:Nat):Int))/\Hid (Gr.rz (M.take k)=Gr.rz M)) (fun s1 _=>match s1 with| .slice _ n _=>n|_=>0)
    case atStart=>exact⟨M.length,by omega,Nat.le_refl _,rfl,by simp,hid (by rw[List.take_length])⟩
    case round=>
     clear y0;obtain⟨k,hk0,hkM,rfl,rfl,S⟩:=hrel;obtain⟨j,rfl⟩:∃j,k=j+1:=⟨k-1,by omega⟩
     have x:j<M.length:=by omega
     obtain⟨u,L⟩:=ex (M[j])
     have T:u<10:=by rw[<-L];exact D.out.2.2.1 _ (List.getElem_mem x)
     obtain⟨ad',o,_,y0⟩:=zvc D.out.2.1 x L T;injection o with o
     subst o;have HT:=hid (show M.take (j+1)=M.take j++[u] by rw[List.take_succ_eq_append_getElem x,L]);have hcut:=fun W=>zhh (some t) (j+1) c1 j (by have:=D.out.1;omega) W
     have HU:=hid L;clear L;have hML:M.length<=1073741823:=D.out.2.2.2.1;have hjI:(j:Int)<=1073741822:=by omega
     have hj0I:(0:Int)<=(j:Int):=by omega
     by_cases hz2:u=0
     ·subst hz2;have ab:0<j:=by
       rcases Nat.eq_zero_or_pos j with h0|h0
       ·subst h0;have g:=D.out.2.2.2.2.1;rw[List.head?_eq_getElem?,List.getElem?_eq_getElem x,HU.out]at g;injection g with g
        exact absurd g.symm hz
       ·exact h0
      have aa:(((0:Nat):Int)==0)=true:=rfl;have H:Hid (Gr.rz (M.take j)=Gr.rz M):=hid (by rw[<-S.out,HT.out,zgo,if_pos rfl]);go_wp2;go_round
      case rel=>exact⟨j,ab,by omega,rfl,by go_num,H⟩
      case measure=>simp
     ·have Y:¬((u:Int)=0):=by omega
      have aa:((u:Int)==0)=false:=by simpa using hz2
      have HF:Hid (r=⟨neg,M.take (j+1),E+((M.length-(j+1):Nat):Int)⟩):=hid (by
       have g:=S.out;rw[HT.out,zgo,if_neg hz2,<-HT.out]at g;rw[D.out.2.2.2.2.2.2,<-g,List.length_take,Nat.min_eq_left (by omega)])
      have hmk:∀W:World,(Instr.makeSlice 119 (.int .i64 ((j:Int)+1)) (.int .i64 ((j:Int)+1))).run prog W=.ok (.slice (some ⟨W.heap.size,0,none⟩) (j+1) (j+1)) (W.alloc (.cells (ucells (List.replicate (j+1) 0)) 5)):=fun W=>by
       have:=zcq (j+1) (by omega) W;rwa[show(((j+1:Nat)):Int)=(j:Int)+1 from by omega]at this
      have hnz:¬(((j+1:Nat):Int)=0):=by omega
      have hnzb:(((j+1:Nat):Int)==0)=false:=by rw[beq_eq_false_iff_ne];omega
      go_upto_region 9 with fail;obtain⟨Z,s⟩:=ex (i.alloc (.cells (ucells (List.replicate (j+1) 0)) 5))
      obtain⟨q,e⟩:=ex i.heap.size
      have F:Below q i Z:=by rw[<-s,<-e];exact(Below.refl _ _).alloc (Nat.le_refl _) _
      have R:Blk Z q 5 (ucells (List.replicate (j+1) 0)):=by rw[<-s,<-e];exact Blk.new _ _ _
      have af:q=b+1:=by rw[<-e];exact a.out.2.2
      have X:RowAt byteL Z B (some t) (d8 (M.take (j+1))):=by
       have:=zoo D.out.2.1 (k:=j+1) (by rw[zxc];omega);rw[show(d8 M).take (j+1)=d8 (M.take (j+1))from by simp[d8,List.map_take]]at this;exact this.below (F.mono (by omega))
      obtain⟨Q,ae,I,f⟩:=zlu Z B q (j+1) c1 (some t) (d8 (M.take (j+1))) 3 (by simp[d8];omega) R X;have C:Below q i Q:=F.trans (I.below (Nat.le_refl _));have Y:Q.heap.size=q+1:=by rw[I.size,<-s,World.size_alloc,e]
      have G:Hid (Blk Q b 125 #[.bool false,.slice none 0 0,.int .i64 0]):=hid (a.out.1.below C (by omega));have ag:=hid f;have aj:Hid (Below b w Q):=hid (a.out.2.1.trans (C.mono (by omega)));have l:b≠q:=by omega
      rw[s];(try rw[e]);clear s e F R X I f C Y af;go_upto_region 10 with fail;clear ae p0 q0 q1 q2 y0;have p0:∀j,Q.frozen? ⟨b,j,none⟩=false:=G.out.frozen;obtain⟨q0,q1,q2⟩:=cells3 G.out;go_wp2_with fail;have J:=((G.out.set_ 0 (.bool neg)).set_ 1 (.slice (some ⟨q,0,none⟩) (j+1) (j+1))).set_ 2 (.int .i64 (E+((M.length-(j+1):Nat):Int)));have e0:=J.cell 0;have e1:=J.cell 1;have e2:=J.cell 2;refine bodyPost_ret (v:=.agg #[.bool neg,.slice (some ⟨q,0,none⟩) (j+1) (j+1),.int .i64 (E+((M.length-(j+1):Nat):Int))]) (by simp[results,results110,go_sem,e0,e1,e2]) rfl ?_;rw[HF.out];have z:(M.take (j+1)).length=j+1:=by rw[List.length_take];omega
      refine⟨_,rfl,⟨some ⟨q,0,none⟩,j+1,by rw[z],.inr ⟨q,rfl,z.symm,?_⟩⟩,by rw[V.out];exact((aj.out.setCell (p:=⟨b,0,none⟩) (by simp) _).setCell (p:=⟨b,1,none⟩) (by simp) _).setCell (p:=⟨b,2,none⟩) (by simp) _⟩;exact((ag.out.far l.symm _).far l.symm _).far l.symm _
def zbc (s:Gr.Str) (a:Nat) (date:Bool) (Y M D:Int) (w:World) (e:Ending) (w':World):Prop:=∃(t:RT) (r:Int),e=.returned (.tuple #[t.v,.int .i64 r])/\Below w.heap.size w w'/\
 match clockAt s a with
 |none=>r=-1
 |some k=>r=(k.stop:Int)/\t=⟨date,true,false,Y,M,D,k.h,k.m,k.s,k.nanos,0,false⟩
def fracU (n:Nat):Nat:=if n<=8 then 10 ^ (8-n)else 0
structure Frac (s:Gr.Str) (b n N U:Nat):Prop where
 le:b+n<=s.length
 dig:((s.drop b).take n).all Gr.dig=true
 u:U=fracU n
 nn:n<=9->N=Gr.val ((s.drop b).take n)*10 ^ (9-n)
 hi:N<=999999999
theorem zpp (n:Nat):fracU n /10=fracU (n+1):=by
 unfold fracU;by_cases h:n+1<=8
 ·rw[if_pos (by omega),if_pos h,show 8-n=(8-(n+1))+1 from by omega,Nat.pow_succ,Nat.mul_div_cancel _ (by omega)]
 ·grind
theorem Frac.start {s:Gr.Str} {b:Nat} (h:b<=s.length):Frac s b 0 0 100000000:=⟨h,by simp,by simp[fracU],fun _=>by simp[Gr.val],by omega⟩
theorem Frac.next {s:Gr.Str} {b n N U:Nat} (h:Frac s b n N U) (hlt:b+n<s.length) (hd:Gr.dig (s[b+n])=true):Frac s b (n+1) (N+U*Gr.dv s[b+n]) (U /10):=by
 have d:=zch s b n hlt;have c:((s.drop b).take (n+1)).all Gr.dig=true:=by rw[d,List.all_append,h.dig];simp[hd]
 refine⟨by omega,c,by rw[h.u,zpp],?_,?_⟩
 ·intro g;rw[h.nn (by omega),d,zbj,h.u];unfold fracU;rw[if_pos (by omega),show 9-n=(8-n)+1 from by omega,Nat.pow_succ,show 9-(n+1)=8-n from by omega];rw[Nat.add_mul,Nat.mul_comm (10 ^ (8-n)) (Gr.dv _)]
  congr 1
  rw[Nat.mul_comm (10 ^ (8-n)) 10,<-Nat.mul_assoc,Nat.mul_comm (Gr.val _) 10]
 ·by_cases g:n+1<=9
  ·have e:N+U*Gr.dv s[b+n]=Gr.val ((s.drop b).take (n+1))*10 ^ (9-(n+1)):=by
    rw[h.nn (by omega),d,zbj,h.u];unfold fracU;rw[if_pos (by omega),show 9-n=(8-n)+1 from by omega,Nat.pow_succ,show 9-(n+1)=8-n from by omega];rw[Nat.add_mul,Nat.mul_comm (10 ^ (8-n)) (Gr.dv _)]
    congr 1
    rw[Nat.mul_comm (10 ^ (8-n)) 10,<-Nat.mul_assoc,Nat.mul_comm (Gr.val _) 10]
   rw[e];have f:=zet _ c;have a:((s.drop b).take (n+1)).length=n+1:=by simp;omega
   rw[a]at f;have:Gr.val ((s.drop b).take (n+1))*10 ^ (9-(n+1))<10 ^ (n+1)*10 ^ (9-(n+1)):=Nat.mul_lt_mul_of_pos_right f (Nat.pow_pos (by omega));rw[<-Nat.pow_add,show n+1+(9-(n+1))=9 from by omega]at this;omega
  ·have:U=0:=by rw[h.u];unfold fracU;rw[if_neg (by omega)]
   rw[this,Nat.zero_mul];exact h.hi
theorem Frac.stop {s:Gr.Str} {b n N U:Nat} (h:Frac s b n N U) (hn:∀h2:b+n<s.length,Gr.dig (s[b+n]'h2)=false):(s.drop b).takeWhile Gr.dig=(s.drop b).take n:=by
 have a:s.drop b=(s.drop b).take n++s.drop (b+n):=by
  rw[<-List.drop_drop];exact(List.take_append_drop n (s.drop b)).symm
 rw[a,List.takeWhile_append_of_pos (by simpa using h.dig)];have h2:(s.drop (b+n)).takeWhile Gr.dig=[]:=by
  rcases Nat.lt_or_ge (b+n) s.length with h3|h3
  ·rw[List.drop_eq_getElem_cons h3,List.takeWhile_cons,hn h3];rfl
  ·rw[List.drop_eq_nil_of_le h3];rfl
 have hle:=h.le;rw[h2,List.append_nil,List.take_append_of_le_length (by simp;omega),List.take_take,Nat.min_self]
theorem zmg {s:Gr.Str} {a h m c n N U:Nat} (h1:numAt s a 2=some h) (h2:numAt s (a+3) 2=some m) (h3:numAt s (a+6) 2=some c) (h4:isAt s (a+2) 58=true) (h5:isAt s (a+5) 58=true) (h6:isAt s (a+8) 46=true)
 (hf:Frac s (a+9) n N U) (hn:∀h2:a+9+n<s.length,Gr.dig (s[a+9+n]'h2)=false):clockAt s a=if n<1\/9<n then none else some ⟨h,m,c,N,a+9+n⟩:=by
 have e:=hf.stop hn;have hle:=hf.le;have b:((s.drop (a+9)).take n).length=n:=by simp;omega
 unfold clockAt;rw[h1,h2,h3,h4,h5,h6,e,b];simp only[Bool.and_self,if_true];by_cases hc:n<1\/9<n
 ·grind
 ·rw[if_neg hc,if_neg (by omega),hf.nn (by omega)]
theorem zjp {s:Gr.Str} {a h m c:Nat} (h1:numAt s a 2=some h) (h2:numAt s (a+3) 2=some m) (h3:numAt s (a+6) 2=some c) (h4:isAt s (a+2) 58=true) (h5:isAt s (a+5) 58=true) (h6:isAt s (a+8) 46=false):clockAt s a=some ⟨h,m,c,0,a+8⟩:=by
 unfold clockAt;rw[h1,h2,h3,h4,h5,h6];rfl
theorem zb8 {B g:Nat} {w0 w:World} (h:Below B w0 w) (hg:B<=g) {v0 v1 v2 v3 v4 v5 v6 v7 v8 v9 v10 v11:Value}:Below B w0 ((((((((((((w.setCell ⟨g,0,none⟩ v0).setCell ⟨g,1,none⟩ v1).setCell ⟨g,2,none⟩ v2).setCell ⟨g,3,none⟩ v3).setCell ⟨g,4,none⟩ v4).setCell ⟨g,5,none⟩ v5).setCell ⟨g,6,none⟩ v6).setCell ⟨g,7,none⟩ v7).setCell ⟨g,8,none⟩ v8).setCell ⟨g,9,none⟩ v9).setCell ⟨g,10,none⟩ v10).setCell ⟨g,11,none⟩ v11):=
 ((((((((((((h.setCell (p:=⟨g,0,none⟩) hg v0).setCell (p:=⟨g,1,none⟩) hg v1).setCell (p:=⟨g,2,none⟩) hg v2).setCell (p:=⟨g,3,none⟩) hg v3).setCell (p:=⟨g,4,none⟩) hg v4).setCell (p:=⟨g,5,none⟩) hg v5).setCell (p:=⟨g,6,none⟩) hg v6).setCell (p:=⟨g,7,none⟩) hg v7).setCell (p:=⟨g,8,none⟩) hg v8).setCell (p:=⟨g,9,none⟩) hg v9).setCell (p:=⟨g,10,none⟩) hg v10).setCell (p:=⟨g,11,none⟩) hg v11)
theorem za9 {w:World} {g:Nat} {t:TypeId} {c0 c1 c2 c3 c4 c5 c6 c7 c8 c9 c10 c11 v0 v1 v2 v3 v4 v5 v6 v7 v8 v9 v10 v11:Value} (h:Blk w g t #[c0,c1,c2,c3,c4,c5,c6,c7,c8,c9,c10,c11]):Blk ((((((((((((w.setCell ⟨g,0,none⟩ v0).setCell ⟨g,1,none⟩ v1).setCell ⟨g,2,none⟩ v2).setCell ⟨g,3,none⟩ v3).setCell ⟨g,4,none⟩ v4).setCell ⟨g,5,none⟩ v5).setCell ⟨g,6,none⟩ v6).setCell ⟨g,7,none⟩ v7).setCell ⟨g,8,none⟩ v8).setCell ⟨g,9,none⟩ v9).setCell ⟨g,10,none⟩ v10).setCell ⟨g,11,none⟩ v11) g t #[v0,v1,v2,v3,v4,v5,v6,v7,v8,v9,v10,v11]:=by
 have a:=((((((((((((h.set_ 0 v0).set_ 1 v1).set_ 2 v2).set_ 3 v3).set_ 4 v4).set_ 5 v5).set_ 6 v6).set_ 7 v7).set_ 8 v8).set_ 9 v9).set_ 10 v10).set_ 11 v11)
 simp only[List.setIfInBounds_toArray,List.set_cons_zero,List.set_cons_succ]at a;exact a
theorem zmh (s:Gr.Str) (_hl:s.length<=1073741823) (a:Nat) (ha:a<=1073741824) (date:Bool) (Y M D H N0 C:Int) (w wr:World) (gb:Nat)
 (HGO:Hid (∀(r:Int) (ok:Bool) (n:Int) (w':World),Below w.heap.size w w'->(clockAt s a=none/\r=-1\/∃h m c f t:Nat,clockAt s a=some ⟨h,m,c,f,t⟩/\r=(t:Int)/\ok=true/\H=h/\N0=m/\C=c/\n=f)->zbc s a date Y M D w (.returned (.tuple #[.agg #[.bool date,.bool ok,.bool false,.int .i64 Y,.int .i64 M,.int .i64 D,.int .i64 H,.int .i64 N0,.int .i64 C,.int .i64 n,.int .i64 0,.bool false],.int .i64 r])) w'))
 (HF:Hid (∃h m c:Nat,numAt s a 2=some h/\numAt s (a+3) 2=some m/\numAt s (a+6) 2=some c/\H=h/\N0=m/\C=c)) (HP:Hid (isAt s (a+2) 58=true/\isAt s (a+5) 58=true/\isAt s (a+8) 46=true)) (HGB:Hid (w.heap.size=gb)) (n F U:Nat) (_hn:n<=s.length) (_hF:F<=999999999)
 (HV:Hid ((∀h2:a+9+n<s.length,Gr.dig (s[a+9+n]'h2)=false)/\Frac s (a+9) n F U/\Blk wr gb 111 (T12 date true false Y M D H N0 C (F:Int) 0 false)/\Blk wr (gb+1) 111 (T12 false false false 0 0 0 0 0 0 0 0 false)/\Below gb w wr))
 {u2 u3 u4 u7 u9 u10 u11 u12 u13 u14 u15 u16 u17 u18 u19 u20 u21 u22 u23 u24 u25 u26 u27 u28 u29 u30 u31 u32 u33 u34 u35 u36 u37 u38 u39 u40 u41 u42 u43 u44 u45 u46 u47 u48 u49 u50 u51 u52 u53 u54 u55 u56 u57 u58 u59 u60 u61 u62 u63 u64 u65 u66 u67 u68 u69 u70 u71 u72 u73 u74 u75 u76 u77 u78 u79 u80 u81 u82 u83 u84 u85 u86 u87 u88 u89 u90 u91 u92 u93 u94 u95 u96 u97 u98 u99 u100 u101 u102 u103 u104 u105 u106 u107 u108 u109 u110 u111 u112 u113 u114 u115:Value}:
 Code.wp prog (tl 9 (f135.body.getD .skip)) (bodyPost prog f135 (zbc s a date Y M D w)) {tmps:=List.toArray (.string ⟨s.toArray⟩::.int .i64 ((a:Int)+8)::u2::u3::u4::.pointer (some ⟨gb,0,none⟩)::.pointer (some ⟨gb+1,0,none⟩)::u7::.int .i64 (n:Int)::u9::u10::u11::u12::u13::u14::u15::u16::u17::u18::u19::u20::u21::u22::u23::u24::u25::u26::u27::u28::u29::u30::u31::u32::u33::u34::u35::u36::u37::u38::u39::u40::u41::u42::u43::u44::u45::u46::u47::u48::u49::u50::u51::u52::u53::u54::u55::u56::u57::u58::u59::u60::u61::u62::u63::u64::u65::u66::u67::u68::u69::u70::u71::u72::u73::u74::u75::u76::u77::u78::u79::u80::u81::u82::u83::u84::u85::u86::u87::u88::u89::u90::u91::u92::u93::u94::u95::u96::u97::u98::u99::u100::u101::u102::u103::u104::u105::u106::u107::u108::u109::u110::u111::u112::u113::u114::u115::[]),defers:=[]} wr:=by
 generalize hc0:tl 9 (f135.body.getD .skip)=c0;simp only[tl,f135,Option.getD_some]at hc0;subst hc0;have k:Hid (∃h m c:Nat,clockAt s a=(if n<1\/9<n then none else some ⟨h,m,c,F,a+9+n⟩)/\H=h/\N0=m/\C=c):=hid (by
  obtain⟨h,m,c,b,h2,o,l,u,q⟩:=HF.out;exact⟨h,m,c,zmg b h2 o HP.out.1 HP.out.2.1 HP.out.2.2 HV.out.2.1 HV.out.1,l,u,q⟩)
 have qb0:∀j,wr.frozen? ⟨gb+1,j,none⟩=false:=HV.out.2.2.2.1.frozen;have xb:∀j,wr.cell? ⟨gb+1,j,none⟩=(#[.bool false,.bool false,.bool false,.int .i64 0,.int .i64 0,.int .i64 0,.int .i64 0,.int .i64 0,.int .i64 0,.int .i64 0,.int .i64 0,.bool false]:Array Value)[j]? :=fun j=>HV.out.2.2.2.1.cell j
 obtain⟨ca0,ca1,ca2,ca3,ca4,ca5,ca6,ca7,ca8,ca9,ca10,ca11⟩:=zag HV.out.2.2.1;have i:Hid (Blk ((((((((((((wr.setCell ⟨gb+1,0,none⟩ (.bool date)).setCell ⟨gb+1,1,none⟩ (.bool true)).setCell ⟨gb+1,2,none⟩ (.bool false)).setCell ⟨gb+1,3,none⟩ (.int .i64 Y)).setCell ⟨gb+1,4,none⟩ (.int .i64 M)).setCell ⟨gb+1,5,none⟩ (.int .i64 D)).setCell ⟨gb+1,6,none⟩ (.int .i64 H)).setCell ⟨gb+1,7,none⟩ (.int .i64 N0)).setCell ⟨gb+1,8,none⟩ (.int .i64 C)).setCell ⟨gb+1,9,none⟩ (.int .i64 (F:Int))).setCell ⟨gb+1,10,none⟩ (.int .i64 0)).setCell ⟨gb+1,11,none⟩ (.bool false)) (gb+1) 111 (T12 date true false Y M D H N0 C (F:Int) 0 false)):=hid (za9 HV.out.2.2.2.1);have d:Hid (Below gb w ((((((((((((wr.setCell ⟨gb+1,0,none⟩ (.bool date)).setCell ⟨gb+1,1,none⟩ (.bool true)).setCell ⟨gb+1,2,none⟩ (.bool false)).setCell ⟨gb+1,3,none⟩ (.int .i64 Y)).setCell ⟨gb+1,4,none⟩ (.int .i64 M)).setCell ⟨gb+1,5,none⟩ (.int .i64 D)).setCell ⟨gb+1,6,none⟩ (.int .i64 H)).setCell ⟨gb+1,7,none⟩ (.int .i64 N0)).setCell ⟨gb+1,8,none⟩ (.int .i64 C)).setCell ⟨gb+1,9,none⟩ (.int .i64 (F:Int))).setCell ⟨gb+1,10,none⟩ (.int .i64 0)).setCell ⟨gb+1,11,none⟩ (.bool false))):=hid ((((((((((((HV.out.2.2.2.2.setCell (p:=⟨gb+1,0,none⟩) (by simp) (.bool date)).setCell (p:=⟨gb+1,1,none⟩) (by simp) (.bool true)).setCell (p:=⟨gb+1,2,none⟩) (by simp) (.bool false)).setCell (p:=⟨gb+1,3,none⟩) (by simp) (.int .i64 Y)).setCell (p:=⟨gb+1,4,none⟩) (by simp) (.int .i64 M)).setCell (p:=⟨gb+1,5,none⟩) (by simp) (.int .i64 D)).setCell (p:=⟨gb+1,6,none⟩) (by simp) (.int .i64 H)).setCell (p:=⟨gb+1,7,none⟩) (by simp) (.int .i64 N0)).setCell (p:=⟨gb+1,8,none⟩) (by simp) (.int .i64 C)).setCell (p:=⟨gb+1,9,none⟩) (by simp) (.int .i64 (F:Int))).setCell (p:=⟨gb+1,10,none⟩) (by simp) (.int .i64 0)).setCell (p:=⟨gb+1,11,none⟩) (by simp) (.bool false));obtain⟨e0,e1,e2,e3,e4,e5,e6,e7,e8,e9,e10,e11⟩:=zag i.out;by_cases hn1:n<1
 ·have g:(n:Int)<1:=by omega
  go_wp2_with fail;refine bodyPost_ret (v:=.tuple #[.agg #[.bool date,.bool true,.bool false,.int .i64 Y,.int .i64 M,.int .i64 D,.int .i64 H,.int .i64 N0,.int .i64 C,.int .i64 (F:Int),.int .i64 0,.bool false],.int .i64 (-1)]) (by rw[results_cell_tmp rfl];go_simp) rfl ?_;exact HGO.out _ _ _ _ (by rw[HGB.out];exact d.out) (.inl ⟨by obtain⟨h,m,c,b,_⟩:=k.out;rw[b,if_pos (.inl hn1)],rfl⟩)
 ·have g:¬(n:Int)<1:=by omega
  by_cases hn9:9<n
  ·have e:(9:Int)<(n:Int):=by omega
   go_wp2_with fail;refine bodyPost_ret (v:=.tuple #[.agg #[.bool date,.bool true,.bool false,.int .i64 Y,.int .i64 M,.int .i64 D,.int .i64 H,.int .i64 N0,.int .i64 C,.int .i64 (F:Int),.int .i64 0,.bool false],.int .i64 (-1)]) (by rw[results_cell_tmp rfl];go_simp) rfl ?_;exact HGO.out _ _ _ _ (by rw[HGB.out];exact d.out) (.inl ⟨by obtain⟨h,m,c,b,_⟩:=k.out;rw[b,if_pos (.inr hn9)],rfl⟩)
  ·have e:¬(9:Int)<(n:Int):=by omega
   go_wp2_with fail;refine bodyPost_ret (v:=.tuple #[.agg #[.bool date,.bool true,.bool false,.int .i64 Y,.int .i64 M,.int .i64 D,.int .i64 H,.int .i64 N0,.int .i64 C,.int .i64 (F:Int),.int .i64 0,.bool false],.int .i64 ((a:Int)+8+1+(n:Int))]) (by rw[results_cell_tmp rfl];go_simp) rfl ?_;refine HGO.out _ _ _ _ (by rw[HGB.out];exact d.out) (.inr ?_);obtain⟨h,m,c,b,h2,o,l⟩:=k.out;exact⟨h,m,c,F,a+9+n,by rw[b,if_neg (by omega)],by omega,rfl,h2,o,l,rfl⟩
theorem zmi (s:Gr.Str) (hl:s.length<=1073741823) (a:Nat) (ha:a<=1073741824) (date:Bool) (Y M D H N0 C:Int) (w wy:World) (gb:Nat)
 (HGO:Hid (∀(r:Int) (ok:Bool) (n:Int) (w':World),Below w.heap.size w w'->(clockAt s a=none/\r=-1\/∃h m c f t:Nat,clockAt s a=some ⟨h,m,c,f,t⟩/\r=(t:Int)/\ok=true/\H=h/\N0=m/\C=c/\n=f)->zbc s a date Y M D w (.returned (.tuple #[.agg #[.bool date,.bool ok,.bool false,.int .i64 Y,.int .i64 M,.int .i64 D,.int .i64 H,.int .i64 N0,.int .i64 C,.int .i64 n,.int .i64 0,.bool false],.int .i64 r])) w'))
 (HF:Hid (∃h m c:Nat,numAt s a 2=some h/\numAt s (a+3) 2=some m/\numAt s (a+6) 2=some c/\H=h/\N0=m/\C=c)) (HP:Hid (isAt s (a+2) 58=true/\isAt s (a+5) 58=true/\isAt s (a+8) 46=true))
 (HA8:Hid (a+9<=s.length)) (HGB:Hid (w.heap.size=gb)) (HB:Hid (Blk wy gb 111 (T12 date true false Y M D H N0 C 0 0 false)/\Blk wy (gb+1) 111 (T12 false false false 0 0 0 0 0 0 0 0 false)/\Below gb w wy))
 {u2 u3 u4 u7 u8 u9 u10 u11 u12 u13 u14 u15 u16 u17 u18 u19 u20 u21 u22 u23 u24 u25 u26 u27 u28 u29 u30 u31 u32 u33 u34 u35 u36 u37 u38 u39 u40 u41 u42 u43 u44 u45 u46 u47 u48 u49 u50 u51 u52 u53 u54 u55 u56 u57 u58 u59 u60 u61 u62 u63 u64 u65 u66 u67 u68 u69 u70 u71 u72 u73 u74 u75 u76 u77 u78 u79 u80 u81 u82 u83 u84 u85 u86 u87 u88 u89 u90 u91 u92 u93 u94 u95 u96 u97 u98 u99 u100 u101 u102 u103 u104 u105 u106 u107 u108 u109 u110 u111 u112 u113 u114 u115:Value}:
 Code.wp prog (tl 6 (f135.body.getD .skip)) (bodyPost prog f135 (zbc s a date Y M D w)) {tmps:=List.toArray (.string ⟨s.toArray⟩::.int .i64 ((a:Int)+8)::u2::u3::u4::.pointer (some ⟨gb,0,none⟩)::.pointer (some ⟨gb+1,0,none⟩)::u7::u8::u9::u10::u11::u12::u13::u14::u15::u16::u17::u18::u19::u20::u21::u22::u23::u24::u25::u26::u27::u28::u29::u30::u31::u32::u33::u34::u35::u36::u37::u38::u39::u40::u41::u42::u43::u44::u45::u46::u47::u48::u49::u50::u51::u52::u53::u54::u55::u56::u57::u58::u59::u60::u61::u62::u63::u64::u65::u66::u67::u68::u69::u70::u71::u72::u73::u74::u75::u76::u77::u78::u79::u80::u81::u82::u83::u84::u85::u86::u87::u88::u89::u90::u91::u92::u93::u94::u95::u96::u97::u98::u99::u100::u101::u102::u103::u104::u105::u106::u107::u108::u109::u110::u111::u112::u113::u114::u115::[]),defers:=[]} wy:=by
 generalize hc0:tl 6 (f135.body.getD .skip)=c0;simp only[tl,f135,Option.getD_some]at hc0;subst hc0;have ha0:(0:Int)<=(a:Int):=by omega
 go_upto_block 0 with fail;go_cut [8] (fun s8 Q=>∃n F:Nat,s8=.int .i64 (n:Int)/\n<=s.length/\F<=999999999/\Hid ((∀h2:a+9+n<s.length,Gr.dig (s[a+9+n]'h2)=false)/\Frac s (a+9) n F (fracU n)/\Blk Q gb 111 (T12 date true false Y M D H N0 C (F:Int) 0 false)/\Blk Q (gb+1) 111 (T12 false false false 0 0 0 0 0 0 0 0 false)/\Below gb w Q))
 case first=>
  go_wp2_with fail;go_loopw [8,9] (fun s8 s9 wr=>∃n F U:Nat,s8=.int .i64 (n:Int)/\s9=.int .i64 (U:Int)/\n<=s.length/\F<=999999999/\U<=100000000/\Hid (Frac s (a+9) n F U/\Blk wr gb 111 (T12 date true false Y M D H N0 C (F:Int) 0 false)/\Blk wr (gb+1) 111 (T12 false false false 0 0 0 0 0 0 0 0 false)/\Below gb w wr)) (fun s8 _ _=>s.length-(intOf s8).toNat)
  case atStart=>exact⟨0,0,100000000,rfl,rfl,by omega,by omega,by omega,hid ⟨Frac.start HA8.out,HB.out.1,HB.out.2.1,HB.out.2.2⟩⟩
  case round=>
   obtain⟨n,F,U,rfl,rfl,y,v,S,d⟩:=hrel;by_cases hlt:a+9+n<s.length
   ·have q:(a:Int)+8+1+(n:Int)<(s.length:Int):=by omega
    have hidx:((a:Int)+8+1+(n:Int)).toNat=a+9+n:=by omega
    obtain⟨b,B⟩:∃b:Nat,(s[a+9+n]'hlt).toNat=b:=⟨_,rfl⟩
    have hbv:(((⟨s.toArray⟩:ByteArray)[a+9+n]'(by simpa[ByteArray.size]using hlt)).toNat:Int)=(b:Int):=by rw[<-B];rfl
    have hbl:b<256:=by rw[<-B];exact(s[a+9+n]'hlt).toNat_lt
    have o:=hid (zdw (s[a+9+n]'hlt) b B);clear B;by_cases hd:48<=b/\b<=57
    ·obtain⟨i,L⟩:=hd;have z:(48:Int)<=(b:Int):=by omega
     have J:(b:Int)<=57:=by omega
     obtain⟨x,I⟩:∃x:Nat,b-48=x:=⟨_,rfl⟩
     have hxi:(b:Int)-48=(x:Int):=by omega
     have K:x<=9:=by omega
     have l:Hid (Frac s (a+9) (n+1) (F+U*x) (U /10)):=hid (by
      have:=d.out.1.next hlt (by rw[o.out.1];simp[i,L]);rwa[o.out.2,I]at this)
     have HX:=hid I;clear I;have A:F+U*x<=999999999:=l.out.hi;obtain⟨G,E⟩:∃G:Nat,F+U*x=G:=⟨_,rfl⟩
     have O:(F:Int)+(U:Int)*(x:Int)=(G:Int):=by rw[<-E];simp
     have P:U*x<=900000000:=Nat.le_trans (Nat.mul_le_mul S K) (by omega);have hm0:(0:Int)<=(U:Int)*(x:Int):=by rw[<-Int.natCast_mul];omega
     have hm1:(U:Int)*(x:Int)<=900000000:=by rw[<-Int.natCast_mul];omega
     rw[E]at l A;have HG:=hid E;clear E P;have w1:IntKind.i64.wrap ((a:Int)+8+1)=(a:Int)+8+1:=IntWalk.i64_in _ (by omega);have w2:IntKind.i64.wrap ((a:Int)+8+1+(n:Int))=(a:Int)+8+1+(n:Int):=IntWalk.i64_in _ (by omega);have w3:IntKind.i64.wrap ((U:Int)*(x:Int))=(U:Int)*(x:Int):=IntWalk.i64_in _ (by omega);have w4:IntKind.i64.wrap ((F:Int)+(U:Int)*(x:Int))=(G:Int):=by rw[O];exact IntWalk.i64_in _ (by omega)
     have i0:(0:Int)<=(a:Int)+8+1+(n:Int):=by omega
     go_wp2_with fail;have R:∀W:WB wr.heap.size wr,W.w.cell? ⟨gb,9,none⟩=some (.int .i64 (F:Int)):=fun W=>(W.h.cell (p:=⟨gb,9,none⟩) d.out.2.1.lt).trans (d.out.2.1.cell 9)
     refine zbq 14 wr.heap.size wr (by kernel_rfl) (by kernel_rfl) (Below.refl _ _) ?_;simp only[List.take_succ_cons,List.take_zero,List.drop_succ_cons,List.drop_zero]
     iterate 14 (go_big_quiet_step (fail))
     refine wpQuiet_nil ?_;rintro _ ⟨k,rfl⟩;have e:=d.out.2.1.below k.h d.out.2.1.lt;have q9:k.w.cell? ⟨gb,9,none⟩=some (.int .i64 (F:Int)):=e.cell 9;have qf:∀j,k.w.frozen? ⟨gb,j,none⟩=false:=e.frozen;have N:Hid (Blk (k.w.setCell ⟨gb,9,none⟩ (.int .i64 (G:Int))) gb 111 (T12 date true false Y M D H N0 C (G:Int) 0 false)/\Blk (k.w.setCell ⟨gb,9,none⟩ (.int .i64 (G:Int))) (gb+1) 111 (T12 false false false 0 0 0 0 0 0 0 0 false)/\Below gb w (k.w.setCell ⟨gb,9,none⟩ (.int .i64 (G:Int)))):=hid ⟨e.set_ 9 _,(d.out.2.2.1.below k.h d.out.2.2.1.lt).far (Nat.succ_ne_self gb) _,(d.out.2.2.2.trans (k.h.mono (Nat.le_of_lt d.out.2.1.lt))).setCell (p:=⟨gb,9,none⟩) (by simp) _⟩;clear e R;go_wp2;go_roundw
     case rel=>exact⟨n+1,G,U /10,by go_num,by exact congrArg (Value.int .i64) (by omega),by omega,A,by omega,hid ⟨l.out,N.out⟩⟩
     case measure=>simp[intOf];omega
    ·have g:Hid (∀h2:a+9+n<s.length,Gr.dig (s[a+9+n]'h2)=false):=hid (fun h2=>by rw[o.out.1];by_cases i:48<=b<;>simp[i]<;>omega);by_cases i:48<=b
     ·have z:(48:Int)<=(b:Int):=by omega
      have J:¬(b:Int)<=57:=by omega
      go_wp2;go_meet;exact⟨n,F,rfl,y,v,hid ⟨g.out,by rw[<-d.out.1.u];exact d.out⟩⟩
     ·have z:¬(48:Int)<=(b:Int):=by omega
      go_wp2;go_meet;exact⟨n,F,rfl,y,v,hid ⟨g.out,by rw[<-d.out.1.u];exact d.out⟩⟩
   ·have g:Hid (∀h2:a+9+n<s.length,Gr.dig (s[a+9+n]'h2)=false):=hid (fun h2=>absurd h2 hlt);have q:¬(a:Int)+8+1+(n:Int)<(s.length:Int):=by omega
    go_wp2;go_meet;exact⟨n,F,rfl,y,v,hid ⟨g.out,by rw[<-d.out.1.u];exact d.out⟩⟩
 case rest=>
  obtain⟨n,F,rfl,y,v,d⟩:=hcut;refine(‹∀(a:Act) (w_1:World),Code.wp prog _ _ a w_1->_›) _ _ ?_;exact zmh s hl a ha date Y M D H N0 C w _ gb HGO HF HP HGB n F (fracU n) y v d
end Go.Proofs.YtoigpackhninoaaGreatDoor
