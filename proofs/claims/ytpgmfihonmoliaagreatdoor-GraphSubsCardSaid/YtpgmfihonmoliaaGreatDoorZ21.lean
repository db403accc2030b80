import Derived.Test.YtpgmfihonmoliaaGreatDoorZ06
import Derived.Laws.CopyOwn
import Derived.Test.YtpgmfihonmoliaaGreatDoorZ04
namespace Go.Proofs.YtpgmfihonmoliaaGreatDoor
open Gr
open _root_.Go.Proofs.Tryz
open _root_.Go.Lib (hid)
set_option maxRecDepth 100000
set_option maxHeartbeats 16000000
open Go.RowKit
theorem infoByteS:(prog.info? 5).map (·.size)=some 1:=by kernel_rfl
theorem zmi (W:World) (B g n c:Nat) (A:Option Addr) (l:List UInt8) (ty:TypeId) (hl:l.length=n) (hb:Blk W g 5 (ucells (List.replicate n 0))) (hr:RowAt byteL W B A l):
 ∃W',(Builtin.copy_ #[80,80] ty #[.slice (some ⟨g,0,none⟩) n n,.slice A n c]).run prog W=.ok (.int .i64 n) W'/\Kept1 g W W'/\Blk W' g 5 (ucells l):=by
 by_cases h0:n=0
 .subst h0;obtain rfl:=List.eq_nil_of_length_eq_zero hl;exact⟨W,run_copy_none (P:=prog) W 80 80 ty 5 _ A 0 0 0 c underlying80 infoByteS rfl,Kept1.refl _ _,hb⟩
 .obtain⟨f,rfl,hlt,h⟩:=hr.2 (by omega);have a:(byteL.all l).length=n:=by rw[Lay.all_len];show l.length*1=n;omega
  have b:=run_copy_row (P:=prog) W 80 80 ty 5 g 0 n n f n c (ucells (List.replicate n 0)) 5 (byteL.all l) underlying80 infoByteS hb (by rw[a];exact(Nat.min_self n).symm) h (by rw[a];simp[ucells]) (byteL.all_one l);have e:((ucells (List.replicate n 0)).toList.take 0++byteL.all l++(ucells (List.replicate n 0)).toList.drop (0+(byteL.all l).length)).toArray=ucells l:=by
   rw[a,<-zat];simp[ucells]
  rw[e,a]at b;exact⟨_,b,⟨rfl,rfl,rfl,size_setRow _ _ _,fun k d=>setRow_other _ _ _ _ d⟩,setRow_heap _ _ _ _ _ _ hb⟩
theorem zgy (l:List UInt8) (k:Nat):(byteL.all l).drop k=byteL.all (l.drop k):=by
 rw[<-zat,<-zat];simp[ucells,List.map_drop]
theorem zgz (l:List UInt8) (k:Nat):(byteL.all l).take k=byteL.all (l.take k):=by
 rw[<-zat,<-zat];simp[ucells,List.map_take]
theorem zss {w:World} {B:Nat} {A:Option Addr} {l:List UInt8} (h:RowAt byteL w B A l) {k cap:Nat} (hk:k<=l.length) (hc:l.length<=cap):RowAt byteL w B (if cap=k then A else A.map (·.add (k*1))) (l.drop k):=by
 have:=Reads.cut h hk hc;show Reads w B 1 _ _ _;rw[show byteL.sz=1 from rfl,Nat.mul_one,zgy]at this;rw[Nat.mul_one,List.length_drop];exact this
theorem zpg {w:World} {B:Nat} {A:Option Addr} {l:List UInt8} (h:RowAt byteL w B A l) {k:Nat} (hk:k<=l.length):RowAt byteL w B A (l.take k):=by
 refine⟨byteL.all_len _,fun g=>?_⟩;have b:(l.take k).length=k:=by simp;omega
 rw[b]at g;obtain⟨e,d,c,f⟩:=h.2 (by omega);refine⟨e,d,c,fun j u a=>f j u ?_⟩;rw[<-zgz]at a;rw[List.getElem?_take]at a;split at a
 .exact a
 .cases a
theorem zmj (a:Option Addr) (n c:Nat) (h1:1<=n) (w:World):(Instr.slice 80 (.slice a n c) (some (.int .i64 1)) none none).run prog w=.ok (.slice (if c=1 then a else a.map (·.add (1*1))) (n-1) (c-1)) w:=by
 obtain⟨e,z,d,hz0,b,hz2,hz3⟩:=byteT.info;rw[zhg (P:=prog) 80 5 e underlying80 d a n c 1 (by omega) (by omega) w,b];rfl
def NumAt (x:Gr.Dn) (A:Option Addr) (c:Nat) (w:World):Prop:=(x.d=[]/\A=none/\c=0)\/∃g,A=some ⟨g,0,none⟩/\c=x.d.length/\Blk w g 5 (ucells (d8 x.d))
theorem NumAt.row {x:Gr.Dn} {A:Option Addr} {c:Nat} {w:World} (h:NumAt x A c w):RowAt byteL w w.heap.size A (d8 x.d):=by
 rcases h with⟨b,rfl,_⟩|⟨g,rfl,_,a⟩
 .rw[b];exact RowAt.nil
 .exact RowAt.ofBlk a (zat _) a.lt
theorem NumAt.keep {x:Gr.Dn} {A:Option Addr} {c:Nat} {w w':World} (h:NumAt x A c w) (hk:∀g cs,Blk w g 5 cs->Blk w' g 5 cs):NumAt x A c w':=by
 rcases h with h1|⟨g,h1,h2,hb⟩
 .exact .inl h1
 .exact .inr ⟨g,h1,h2,hk _ _ hb⟩
theorem NumAt.alloc {x:Gr.Dn} {A:Option Addr} {c:Nat} {w:World} (h:NumAt x A c w) (o:Obj):NumAt x A c (w.alloc o):=h.keep (fun _ _ a=>a.alloc o)
theorem NumAt.set_ {x:Gr.Dn} {A:Option Addr} {c:Nat} {w:World} (h:NumAt x A c w) {k i:Nat} {t:TypeId} {cs:Array Value} (hk:Blk w k t cs) (ht:5≠t) (u:Value):NumAt x A c (w.setCell ⟨k,i,none⟩ u):=h.keep (fun _ _ a=>a.far (a.ne_ hk ht) u)
def NumVal (x:Gr.Dn) (v:Value) (w:World):Prop:=∃A c,v=.agg #[.bool x.neg,.slice A x.d.length c,.int .i64 x.e]/\NumAt x A c w
def zkz (x:Gr.Dn) (w:World) (e:Ending) (w':World):Prop:=∃v,e=.returned v/\NumVal x v w'/\Below w.heap.size w w'
theorem zxu {d:List Nat} {k:Nat} (h:k<d.length):(d8 d)[k]'(by simpa[d8]using h)=UInt8.ofNat d[k]:=by simp[d8]
theorem zvu {w:World} {B:Nat} {A:Option Addr} {d:List Nat} {k v:Nat} (h:RowAt byteL w B A (d8 d)) (hk:k<d.length) (hv:d[k]=v) (hl:v<10):∃ad,A=some ad/\ad.block<B/\w.cell? (ad.add k)=some (.int .u8 (v:Int)):=by
 obtain⟨ad,a,c,b⟩:=zxh h (show k<(d8 d).length by simpa[d8]using hk);refine⟨ad,a,c,?_⟩;rw[b,zxu hk,hv,UInt8.toNat_ofNat',Nat.mod_eq_of_lt (by omega)]
theorem zph (d:List Nat):(0::d).dropWhile isZ=d.dropWhile isZ:=rfl
theorem zuj (v:Nat) (d:List Nat) (h:v≠0):(v::d).dropWhile isZ=v::d:=by
 rw[List.dropWhile_cons,if_neg];simpa[isZ]using h
theorem zg0 (d:List Nat) (v:Nat):Gr.rz (d++[v])=if v=0 then Gr.rz d else d++[v]:=by
 unfold Gr.rz;rw[List.reverse_append,List.reverse_cons,List.reverse_nil,List.nil_append,List.singleton_append,List.dropWhile_cons];by_cases h:v=0
 .rw[if_pos (by simpa[isZ]using h),if_pos h]
 .rw[if_neg (by simpa[isZ]using h),if_neg h];simp
theorem zst (neg:Bool) (A:Option Addr) (c:Nat) (d:List Nat) (E:Int) (hl:d.length<=1073741823) (hc:d.length<=c) (hd:∀v∈d,v<10) (hE0:-1152921504606846976<=E) (hE1:E<=1152921504606846976) (w:World) (B:Nat) (hB:B<=w.heap.size) (h:RowAt byteL w B A (d8 d)):
 Calls prog 75 #[.bool neg,.slice A d.length c,.int .i64 E] w (zkz (norm neg d E) w):=by
 obtain⟨r,hr⟩:=ex (norm neg d E)
 have HR:=hid hr;rw[hr];clear hr;have R:=hid h;have HD:=hid hd;clear h hd;go_enter func75,ntmps75;go_upto_region 1 with fail;obtain⟨i,I⟩:=ex (w.alloc (.cells #[.bool false,.slice none 0 0,.int .i64 0] 86))
 obtain⟨b,y⟩:=ex w.heap.size
 have a:Hid (Blk i b 86 #[.bool false,.slice none 0 0,.int .i64 0]/\Below b w i/\i.heap.size=b+1):=hid (by rw[<-I,<-y];exact⟨Blk.new _ _ _,(Below.refl _ _).alloc (Nat.le_refl _) _,by simp⟩);have Q:=hid y;have aa:B<=b:=by omega
 (try rw[I]);(try rw[y]);clear I y;have p0:∀j,i.frozen? ⟨b,j,none⟩=false:=a.out.1.frozen;obtain⟨q0,q1,q2⟩:=cells3 a.out.1;go_loop [1] (fun s1=>∃(A1:Option Addr) (c1:Nat) (m:List Nat),s1=.slice A1 m.length c1/\Hid (m.length<=c1/\RowAt byteL i B A1 (d8 m)/\m.dropWhile isZ=d.dropWhile isZ/\(∀v∈m,v<10)/\m.length<=1073741823)) (fun s1=>match s1 with| .slice _ n _=>n|_=>0)
 case atStart=>exact⟨A,c,d,rfl,hid ⟨hc,R.out.below (a.out.2.1.mono aa),rfl,HD.out,hl⟩⟩
 case round=>
  obtain⟨A1,c1,m,rfl,HV⟩:=hrel;cases m with
  |nil=>
   have HF:Hid (r=zeroD):=hid (by
    rw[<-HR.out];unfold norm;rw[if_pos (show d.dropWhile isZ=[]from HV.out.2.2.1.symm)])
   go_wp2_with fail;go_loop [1,2] (fun s1 s2=>s1=.slice A1 0 c1/\s2=.int .i64 E) (fun _ _=>0)
   case atStart=>exact⟨rfl,rfl⟩
   case round=>
    obtain⟨rfl,rfl⟩:=hrel;go_wp2_with fail;have e:=((a.out.1.set_ 0 (.bool false)).set_ 1 (.slice none 0 0)).set_ 2 (.int .i64 0);have e0:=e.cell 0;have e1:=e.cell 1;have e2:=e.cell 2;refine bodyPost_ret (v:=.agg #[.bool false,.slice none 0 0,.int .i64 0]) (by simp[results,results75,go_sem,e0,e1,e2]) rfl ?_;rw[HF.out];exact⟨_,rfl,⟨none,0,rfl,.inl ⟨rfl,rfl,rfl⟩⟩,by rw[Q.out];exact((a.out.2.1.setCell (p:=⟨b,0,none⟩) (by simp) _).setCell (p:=⟨b,1,none⟩) (by simp) _).setCell (p:=⟨b,2,none⟩) (by simp) _⟩
  |cons v m=>
   obtain⟨f,U,h3,L,h5⟩:=HV.out;have O:v<10:=L v (.head _);have hlc:m.length+1<=c1:=f;obtain⟨t,rfl,_,y0⟩:=zvu U (show 0<(v::m).length by simp) rfl O;rw[show t.add 0=t from rfl]at y0;have ai:(0:Int)<((v::m).length:Int):=by simp
   have ac:=zmj (some t) (v::m).length c1 (by simp);by_cases hz:v=0
   .subst hz;have ak:(((0:Nat):Int)==0)=true:=rfl;have H:Hid (m.length<=c1-1/\RowAt byteL i B (if c1=1 then some t else(some t).map (·.add (1*1))) (d8 m)/\m.dropWhile isZ=d.dropWhile isZ/\(∀v∈m,v<10)/\m.length<=1073741823):=hid ⟨by omega,zss U (k:=1) (by simp[d8]) (by simpa[d8]using f),by rw[<-h3,zph],fun v hv=>L v (.tail _ hv),by simp at h5;omega⟩;clear f U h3 L h5;go_wp2;go_round
    case rel=>exact⟨_,_,m,rfl,H⟩
    case measure=>simp
   .have hz1:¬((v:Int)=0):=by omega
    have ak:((v:Int)==0)=false:=by simpa using hz
    obtain⟨M,hM⟩:=ex (v::m)
    have D:Hid (M.length<=c1/\RowAt byteL i B (some t) (d8 M)/\(∀v∈M,v<10)/\M.length<=1073741823/\M.head?=some v/\M≠[]/\r=⟨neg,Gr.rz M,E+((M.length-(Gr.rz M).length:Nat):Int)⟩):=hid (by
     rw[<-hM];refine⟨f,U,L,h5,rfl,by simp,?_⟩;rw[<-HR.out];unfold norm;rw[<-h3,zuj v m hz,if_neg (by simp)])
    rw[hM];rw[hM]at ai;clear f U h3 L h5 ac hM;go_wp2_with fail;go_loop [1,2] (fun s1 s2=>∃k:Nat,0<k/\k<=M.length/\s1=.slice (some t) k c1/\s2=.int .i64 (E+((M.length-k:Nat):Int))/\Hid (Gr.rz (M.take k)=Gr.rz M)) (fun s1 _=>match s1 with| .slice _ n _=>n|_=>0)
    case atStart=>exact⟨M.length,by omega,Nat.le_refl _,rfl,by simp,hid (by rw[List.take_length])⟩
    case round=>
     clear y0;obtain⟨k,hk0,hkM,rfl,rfl,P⟩:=hrel;obtain⟨j,rfl⟩:∃j,k=j+1:=⟨k-1,by omega⟩
     have x:j<M.length:=by omega
     obtain⟨u,T⟩:=ex (M[j])
     have Y:u<10:=by rw[<-T];exact D.out.2.2.1 _ (List.getElem_mem x)
     obtain⟨ad',s,_,y0⟩:=zvu D.out.2.1 x T Y;injection s with s
     subst s;have HT:=hid (show M.take (j+1)=M.take j++[u] by rw[List.take_succ_eq_append_getElem x,T]);have hcut:=fun W=>zhs (some t) (j+1) c1 j (by have:=D.out.1;omega) W
     have HU:=hid T;clear T;have hML:M.length<=1073741823:=D.out.2.2.2.1;have hjI:(j:Int)<=1073741822:=by omega
     have hj0I:(0:Int)<=(j:Int):=by omega
     by_cases hz2:u=0
     .subst hz2;have ae:0<j:=by
       rcases Nat.eq_zero_or_pos j with h0|h0
       .subst h0;have f:=D.out.2.2.2.2.1;rw[List.head?_eq_getElem?,List.getElem?_eq_getElem x,HU.out]at f;injection f with f
        exact absurd f.symm hz
       .exact h0
      have ag:(((0:Nat):Int)==0)=true:=rfl;have H:Hid (Gr.rz (M.take j)=Gr.rz M):=hid (by rw[<-P.out,HT.out,zg0,if_pos rfl]);go_wp2;go_round
      case rel=>exact⟨j,ae,by omega,rfl,by go_num,H⟩
      case measure=>simp
     .have N:¬((u:Int)=0):=by omega
      have ag:((u:Int)==0)=false:=by simpa using hz2
      have HF:Hid (r=⟨neg,M.take (j+1),E+((M.length-(j+1):Nat):Int)⟩):=hid (by
       have f:=P.out;rw[HT.out,zg0,if_neg hz2,<-HT.out]at f;rw[D.out.2.2.2.2.2.2,<-f,List.length_take,Nat.min_eq_left (by omega)])
      have hmk:∀W:World,(Instr.makeSlice 80 (.int .i64 ((j:Int)+1)) (.int .i64 ((j:Int)+1))).run prog W=.ok (.slice (some ⟨W.heap.size,0,none⟩) (j+1) (j+1)) (W.alloc (.cells (ucells (List.replicate (j+1) 0)) 5)):=fun W=>by
       have:=zcu (j+1) (by omega) W;rwa[show(((j+1:Nat)):Int)=(j:Int)+1 from by omega]at this
      have hnz:¬(((j+1:Nat):Int)=0):=by omega
      have hnzb:(((j+1:Nat):Int)==0)=false:=by rw[beq_eq_false_iff_ne];omega
      go_upto_region 9 with fail;obtain⟨Z,q⟩:=ex (i.alloc (.cells (ucells (List.replicate (j+1) 0)) 5))
      obtain⟨o,g⟩:=ex i.heap.size
      have F:Below o i Z:=by rw[<-q,<-g];exact(Below.refl _ _).alloc (Nat.le_refl _) _
      have X:Blk Z o 5 (ucells (List.replicate (j+1) 0)):=by rw[<-q,<-g];exact Blk.new _ _ _
      have ab:o=b+1:=by rw[<-g];exact a.out.2.2
      have S:RowAt byteL Z B (some t) (d8 (M.take (j+1))):=by
       have:=zpg D.out.2.1 (k:=j+1) (by rw[zxt];omega);rw[show(d8 M).take (j+1)=d8 (M.take (j+1))from by simp[d8,List.map_take]]at this;exact this.below (F.mono (by omega))
      obtain⟨V,af,K,e⟩:=zmi Z B o (j+1) c1 (some t) (d8 (M.take (j+1))) 3 (by simp[d8];omega) X S;have J:Below o i V:=F.trans (K.below (Nat.le_refl _));have N:V.heap.size=o+1:=by rw[K.size,<-q,World.size_alloc,g]
      have C:Hid (Blk V b 86 #[.bool false,.slice none 0 0,.int .i64 0]):=hid (a.out.1.below J (by omega));have ah:=hid e;have aj:Hid (Below b w V):=hid (a.out.2.1.trans (J.mono (by omega)));have l:b≠o:=by omega
      rw[q];(try rw[g]);clear q g F X S K e J N ab;go_upto_region 10 with fail;clear af p0 q0 q1 q2 y0;have p0:∀j,V.frozen? ⟨b,j,none⟩=false:=C.out.frozen;obtain⟨q0,q1,q2⟩:=cells3 C.out;go_wp2_with fail;have G:=((C.out.set_ 0 (.bool neg)).set_ 1 (.slice (some ⟨o,0,none⟩) (j+1) (j+1))).set_ 2 (.int .i64 (E+((M.length-(j+1):Nat):Int)));have e0:=G.cell 0;have e1:=G.cell 1;have e2:=G.cell 2;refine bodyPost_ret (v:=.agg #[.bool neg,.slice (some ⟨o,0,none⟩) (j+1) (j+1),.int .i64 (E+((M.length-(j+1):Nat):Int))]) (by simp[results,results75,go_sem,e0,e1,e2]) rfl ?_;rw[HF.out];have z:(M.take (j+1)).length=j+1:=by rw[List.length_take];omega
      refine⟨_,rfl,⟨some ⟨o,0,none⟩,j+1,by rw[z],.inr ⟨o,rfl,z.symm,?_⟩⟩,by rw[Q.out];exact((aj.out.setCell (p:=⟨b,0,none⟩) (by simp) _).setCell (p:=⟨b,1,none⟩) (by simp) _).setCell (p:=⟨b,2,none⟩) (by simp) _⟩;exact((ah.out.far l.symm _).far l.symm _).far l.symm _
def posAt (a first i:Nat):Nat:=if i=0 then a else a+first+3*(i-1)
def fldAt (s:Gr.Str) (a first:Nat) (c:Nat) (i:Nat):Option Nat:=if i=0 then numAt s a first else if isAt s (posAt a first i) (UInt8.ofNat c)=true then numAt s (posAt a first i+1) 2 else none
def mC (sh:Nat) (f:Nat->Nat) (nn z:Nat):Array Value:=#[.int .i64 (sh:Int),.int .i64 (f 0:Int),.int .i64 (f 1:Int),.int .i64 (f 2:Int),.int .i64 (f 3:Int),.int .i64 (f 4:Int),.int .i64 (f 5:Int),.int .i64 (f 6:Int),.int .i64 (f 7:Int),.int .i64 (nn:Int),.int .u8 (z:Int)]
def fset (f:Nat->Nat) (i v:Nat):Nat->Nat:=fun j=>if j=i then v else f j
theorem zx7 {sh nn z:Nat} {f:Nat->Nat} {i:Nat} (h:i<8) (v:Nat):(mC sh f nn z).setIfInBounds (1+i) (.int .i64 (v:Int))=mC sh (fset f i v) nn z:=by
 have:i=0\/i=1\/i=2\/i=3\/i=4\/i=5\/i=6\/i=7:=by omega
 rcases this with rfl|rfl|rfl|rfl|rfl|rfl|rfl|rfl<;>rfl
theorem zul {sh nn z:Nat} {f:Nat->Nat} {i:Nat} (h:i<8):(mC sh f nn z)[1+i]? =some (.int .i64 (f i:Int)):=by
 have:i=0\/i=1\/i=2\/i=3\/i=4\/i=5\/i=6\/i=7:=by omega
 rcases this with rfl|rfl|rfl|rfl|rfl|rfl|rfl|rfl<;>rfl
theorem zp1 {a first i:Nat} (h:0<i):posAt a first (i+1)=posAt a first i+1+2:=by
 unfold posAt;rw[if_neg (by omega),if_neg (by omega)];omega
theorem zp2 {a first:Nat}:posAt a first 1=a+first:=by simp[posAt]
theorem zv3 {s:Gr.Str} {p c b:Nat} (hp:p<s.length) (hb:(s[p]'hp).toNat=b) (hc:c<256) (h:b≠c):isAt s p (UInt8.ofNat c)=false:=by
 unfold isAt;rw[List.getElem?_eq_getElem hp];simp;intro e;apply h;rw[<-hb,e];simp;omega
theorem zk6 {s:Gr.Str} {p c b:Nat} (hp:p<s.length) (hb:(s[p]'hp).toNat=b) (h:b=c):isAt s p (UInt8.ofNat c)=true:=by
 unfold isAt;rw[List.getElem?_eq_getElem hp];subst h;rw[<-hb];simp
theorem zg7 {s:Gr.Str} {p:Nat} {c:UInt8} (hp:s.length<=p):isAt s p c=false:=by
 unfold isAt;rw[List.getElem?_eq_none hp];rfl
def KM (mb ab:Nat) (w w':World):Prop:=za9 w w' (fun k=>k=mb\/k=ab)
theorem KM.refl (mb ab:Nat) (w:World):KM mb ab w w:=⟨rfl,rfl,rfl,Nat.le_refl _,fun _ _ _=>rfl⟩
theorem KM.trans {mb ab:Nat} {a b c:World} (h:KM mb ab a b) (h2:KM mb ab b c):KM mb ab a c:=
 ⟨h2.os.trans h.os,h2.tape.trans h.tape,h2.output.trans h.output,Nat.le_trans h.size h2.size,fun k d e=>(h2.block k (Nat.lt_of_lt_of_le d h.size) e).trans (h.block k d e)⟩
theorem KM.ofA {mb ab:Nat} {a b:World} (h:Kept1 ab a b):KM mb ab a b:=⟨h.os,h.tape,h.output,Nat.le_of_eq h.size.symm,fun k _ c=>h.block k (fun e=>c (.inr e))⟩
theorem KM.ofM {mb ab:Nat} {a b:World} (h:Kept1 mb a b):KM mb ab a b:=⟨h.os,h.tape,h.output,Nat.le_of_eq h.size.symm,fun k _ c=>h.block k (fun e=>c (.inl e))⟩
theorem KM.blk {mb ab k:Nat} {a b:World} {t:TypeId} {cs:Array Value} (h:KM mb ab a b) (hb:Blk a k t cs) (h1:k≠mb) (h2:k≠ab):Blk b k t cs:=(h.block k hb.lt (by rintro(e|e);exact h1 e;exact h2 e)).trans hb
def FldPost (s:Gr.Str) (a first c o n mb ab sh:Nat) (f:Nat->Nat) (nn z:Nat) (w:World) (e:Ending) (w':World):Prop:=
 KM mb ab w w'/\∃f':Nat->Nat,Blk w' mb 96 (mC sh f' nn z)/\((e=.returned (.bool true)/\(∀j,j<n->fldAt s a first c j=some (f' (o+j)))/\(∀j,j<o\/o+n<=j->f' j=f j)/\Blk w' ab 3 #[.int .i64 (posAt a first n:Int)]/\posAt a first n<=s.length)\/(e=.returned (.bool false)/\(∃j,j<n/\fldAt s a first c j=none)/\∃p:Nat,p<=s.length/\Blk w' ab 3 #[.int .i64 (p:Int)]))
theorem zd1 (s:Gr.Str) (hl:s.length<=1073741823) (ab sb fb mb a first c o n k:Nat) (sh:Nat) (f:Nat->Nat) (nn z:Nat) (j jc:Int) (hj:j=(first:Int)) (hjc:jc=(c:Int)) (hc:c<256) (hfirst:first<=9) (hn:n<=3) (hnk:n<=k) (hk:k<=8) (ho:o+n<=8) (O:Nat) (hO:O=1+o) (ha:a<=s.length) (w:World) (hA:Blk w ab 3 #[.int .i64 (a:Int)]) (hS:Blk w sb 9 #[.string ⟨s.toArray⟩]) (hF:Blk w fb 133 #[.func (.func 89) #[] #[.pointer (some ⟨ab,0,none⟩),.pointer (some ⟨sb,0,none⟩)]]) (hM:Blk w mb 96 (mC sh f nn z)):
 Calls prog 90 #[.slice (some ⟨mb,O,none⟩) n k,.int .i64 j,.int .u8 jc,.pointer (some ⟨ab,0,none⟩),.pointer (some ⟨sb,0,none⟩),.pointer (some ⟨fb,0,none⟩)] w (FldPost s a first c o n mb ab sh f nn z w):=by
 subst hj;subst hjc;subst hO;have V:sb≠ab:=hS.ne_ hA (by decide);have X:sb≠mb:=hS.ne_ hM (by decide);have U:fb≠ab:=hF.ne_ hA (by decide);have M:fb≠mb:=hF.ne_ hM (by decide);have ac:mb≠ab:=hM.ne_ hA (by decide);have HA:=hid hA;have HS:=hid hS;have P:=hid hF;have HM:=hid hM;have d:=hid (show(sb≠ab/\sb≠mb)/\(fb≠ab/\fb≠mb)/\mb≠ab from⟨⟨V,X⟩,⟨U,M⟩,ac⟩);clear hA hS hF hM V X U M ac;have R:Hid (∀(W:World) (p q:Nat),q<=9->p<=s.length->Blk W ab 3 #[.int .i64 (p:Int)]->Blk W sb 9 #[.string ⟨s.toArray⟩]->Calls prog 89 #[.int .i64 (q:Int),.pointer (some ⟨ab,0,none⟩),.pointer (some ⟨sb,0,none⟩)] W (zk5 s p q ab W)):=hid (fun W p q hq L h1 h2=>zs7 s hl ab sb p q _ rfl hq L W h1 h2);go_enter func90,ntmps90;go_wp2_with fail;go_loopw [10,11,12,13,16] (fun s10 s11 s12 s13 s16 wr=>∃i:Nat,i<=n/\s16=.int .i64 (i:Int)/\Hid (∃f':Nat->Nat,KM mb ab w wr/\Blk wr mb 96 (mC sh f' nn z)/\(∀j,j<i->fldAt s a first c j=some (f' (o+j)))/\(∀j,j<o\/o+n<=j->f' j=f j)/\Blk wr ab 3 #[.int .i64 (posAt a first i:Int)]/\posAt a first i<=s.length)) (fun _ _ _ _ s16 _=>n-(intOf s16).toNat)
 case atStart=>exact⟨0,by omega,rfl,hid ⟨f,KM.refl _ _ _,HM.out,fun j hj=>absurd hj (by omega),fun _ _=>rfl,by simpa[posAt]using HA.out,by simpa[posAt]using ha⟩⟩
 case round=>
  obtain⟨i,hi,rfl,HV⟩:=hrel;obtain⟨f',C,aa,Q,N,F,y⟩:=HV.out;obtain⟨p,L⟩:=ex (posAt a first i)
  rw[L]at F y;have qS:wr.cell? ⟨sb,0,none⟩=some (.string ⟨s.toArray⟩):=(C.blk HS.out d.out.1.2 d.out.1.1).cell 0;have qA:wr.cell? ⟨ab,0,none⟩=some (.int .i64 (p:Int)):=F.cell 0;have qAF:∀j,wr.frozen? ⟨ab,j,none⟩=false:=F.frozen;have qF:wr.cell? ⟨fb,0,none⟩=some (.func (.func 89) #[] #[.pointer (some ⟨ab,0,none⟩),.pointer (some ⟨sb,0,none⟩)]):=(C.blk P.out d.out.2.1.2 d.out.2.1.1).cell 0;have qF1:∀v,(wr.setCell ⟨ab,0,none⟩ v).cell? ⟨fb,0,none⟩=some (.func (.func 89) #[] #[.pointer (some ⟨ab,0,none⟩),.pointer (some ⟨sb,0,none⟩)]):=fun v=>((C.blk P.out d.out.2.1.2 d.out.2.1.1).far d.out.2.1.1 v).cell 0
  have G:=hid L;have m:Hid (KM mb ab w wr/\Blk wr mb 96 (mC sh f' nn z)/\(∀j,j<i->fldAt s a first c j=some (f' (o+j)))/\(∀j,j<o\/o+n<=j->f' j=f j)/\Blk wr ab 3 #[.int .i64 (p:Int)]/\Blk wr sb 9 #[.string ⟨s.toArray⟩]):=hid ⟨C,aa,Q,N,F,C.blk HS.out d.out.1.2 d.out.1.1⟩;clear C aa Q N F L HV;have t:Hid (∀(W:World) (q:Nat) (x:Option Nat),q<=s.length->x=none->fldAt s a first c i=x->i<n->KM mb ab wr W->Blk W mb 96 (mC sh f' nn z)->Blk W ab 3 #[.int .i64 (q:Int)]->FldPost s a first c o n mb ab sh f nn z w (.returned (.bool false)) W):=hid (fun W q x hq hx ag ad I J H=>⟨m.out.1.trans I,f',J,.inr ⟨rfl,⟨i,ad,ag.trans hx⟩,q,hq,H⟩⟩);have Z:Hid (∀(W:World) (v:Nat),fldAt s a first c i=some v->KM mb ab wr W->Blk W mb 96 (mC sh f' nn z)->Blk W ab 3 #[.int .i64 (posAt a first (i+1):Int)]->i<n->posAt a first (i+1)<=s.length->∃i':Nat,i'<=n/\Value.int .i64 ((i:Int)+1)=.int .i64 (i':Int)/\Hid (∃f'':Nat->Nat,KM mb ab w (W.setCell ⟨mb,1+o+i,none⟩ (.int .i64 (v:Int)))/\Blk (W.setCell ⟨mb,1+o+i,none⟩ (.int .i64 (v:Int))) mb 96 (mC sh f'' nn z)/\(∀j,j<i'->fldAt s a first c j=some (f'' (o+j)))/\(∀j,j<o\/o+n<=j->f'' j=f j)/\Blk (W.setCell ⟨mb,1+o+i,none⟩ (.int .i64 (v:Int))) ab 3 #[.int .i64 (posAt a first i':Int)]/\posAt a first i'<=s.length)):=hid (fun W v u I J H ad y=>by
   refine⟨i+1,by omega,rfl,hid ⟨fset f' (o+i) v,m.out.1.trans (I.trans (KM.ofM (Kept1.set _ _))),?_,?_,?_,?_,y⟩⟩
   .have:=J.set_ (1+o+i) (.int .i64 (v:Int));rw[show 1+o+i=1+(o+i)from by omega]at this ⊢;rwa[zx7 (by omega)]at this
   .intro j hj;by_cases e:j=i
    .subst e;rw[u];simp[fset]
    .rw[m.out.2.2.1 j (by omega)];simp[fset,e]
   .intro j hj;rw[<-m.out.2.2.2.1 j hj];unfold fset;rw[if_neg (by omega)]
   .exact H.far d.out.2.2.symm _)
  by_cases hlt:i<n
  .have S:(i:Int)<(n:Int):=by omega
   by_cases h0:i=0
   .have af:(i:Int)=0:=by omega
    have ae:¬(0:Int)<(i:Int):=by omega
    subst h0;go_wp2_with fail;refine(R.out _ p first hfirst y m.out.2.2.2.2.1 m.out.2.2.2.2.2).mono ?_;rintro e B ⟨l,⟨v,u,rfl,h⟩|⟨u,rfl,p2,hp2,h⟩⟩
    .have r:=l.blk m.out.2.1 d.out.2.2;have qm:B.cell? ⟨mb,1+o,none⟩=some (.int .i64 (f' o:Int)):=by rw[r.cell];exact zul (i:=o) (by omega)
     have ah:∀j,B.frozen? ⟨mb,j,none⟩=false:=r.frozen;have D:Hid (fldAt s a first c 0=some v/\Blk B ab 3 #[.int .i64 (posAt a first 1:Int)]/\posAt a first 1<=s.length):=hid (by
      have K:p=a:=by rw[<-G.out];rfl
      subst K;rw[zp2];exact⟨by simpa[fldAt]using u,h,(zcw u (by omega)).2.2⟩)
     have E:=hid (And.intro l r);clear l u h r;go_wp2;go_roundw
     case rel=>
      obtain⟨i',g1,g2,g3⟩:=Z.out B v D.out.1 (KM.ofA E.out.1) E.out.2 D.out.2.1 hlt D.out.2.2;exact⟨i',g1,by simpa using g2,g3⟩
     case measure=>simp[intOf];omega
    .have D:Hid (FldPost s a first c o n mb ab sh f nn z w (.returned (.bool false)) B):=hid (t.out B p2 _ hp2 rfl (by
      have K:p=a:=by rw[<-G.out];rfl
      subst K;simpa[fldAt]using u) hlt (KM.ofA l) (l.blk m.out.2.1 d.out.2.2) h)
     clear l u h;go_wp2;go_ret;exact D.out
   .have af:¬(i:Int)=0:=by omega
    have ae:(0:Int)<(i:Int):=by omega
    by_cases hps:p<s.length
    .have Y:¬(s.length:Int)<=(p:Int):=by omega
     obtain⟨b,hb⟩:∃b:Nat,(s[p]'hps).toNat=b:=⟨_,rfl⟩
     have hbv:(((⟨s.toArray⟩:ByteArray)[p]'(by simpa[ByteArray.size]using hps)).toNat:Int)=(b:Int):=by rw[<-hb];rfl
     have hbl:b<256:=by rw[<-hb];exact(s[p]'hps).toNat_lt
     have HB:=hid hb;clear hb;by_cases hbc:b=c
     .have T:(b:Int)=(c:Int):=by omega
      go_wp2_with fail;refine(R.out _ (p+1) 2 (by omega) (by omega) (m.out.2.2.2.2.1.set_ 0 _) (m.out.2.2.2.2.2.far d.out.1.1 _)).mono ?_;rintro e B ⟨l,⟨v,u,rfl,h⟩|⟨u,rfl,p2,hp2,h⟩⟩
      .have A:=(Kept1.set (g:=ab) (w:=wr) 0 (.int .i64 ((p+1:Nat):Int))).trans l;have r:=A.blk m.out.2.1 d.out.2.2;have qm:B.cell? ⟨mb,1+o+i,none⟩=some (.int .i64 (f' (o+i):Int)):=by rw[r.cell,show 1+o+i=1+(o+i)from by omega];exact zul (by omega)
       have ah:∀j,B.frozen? ⟨mb,j,none⟩=false:=r.frozen;have D:Hid (fldAt s a first c i=some v/\Blk B ab 3 #[.int .i64 (posAt a first (i+1):Int)]/\posAt a first (i+1)<=s.length):=hid (by
        rw[zp1 (by omega),G.out];refine⟨?_,h,(zcw u (by omega)).2.2⟩;unfold fldAt;rw[if_neg h0,G.out,if_pos (zk6 hps HB.out hbc)];exact u)
       have E:=hid (And.intro A r);clear l A u h r;go_wp2;go_roundw
       case rel=>
        exact Z.out B v D.out.1 (KM.ofA E.out.1) E.out.2 D.out.2.1 hlt D.out.2.2
       case measure=>simp[intOf];omega
      .have A:=(Kept1.set (g:=ab) (w:=wr) 0 (.int .i64 ((p+1:Nat):Int))).trans l;have D:Hid (FldPost s a first c o n mb ab sh f nn z w (.returned (.bool false)) B):=hid (t.out B p2 _ hp2 rfl (by
        unfold fldAt;rw[if_neg h0,G.out,if_pos (zk6 hps HB.out hbc)];exact u) hlt (KM.ofA A) (A.blk m.out.2.1 d.out.2.2) h)
       clear l A u h;go_wp2;go_ret;exact D.out
     .have T:¬(b:Int)=(c:Int):=by omega
      go_wp2;go_ret;exact t.out wr p _ y rfl (by unfold fldAt;rw[if_neg h0,G.out,zv3 hps HB.out hc hbc];rfl) hlt (KM.refl _ _ _) m.out.2.1 m.out.2.2.2.2.1
    .have Y:(s.length:Int)<=(p:Int):=by omega
     go_wp2;go_ret;exact t.out wr p _ y rfl (by unfold fldAt;rw[if_neg h0,G.out,zg7 (by omega)];rfl) hlt (KM.refl _ _ _) m.out.2.1 m.out.2.2.2.2.1
  .obtain rfl:i=n:=by omega
   have S:¬(i:Int)<(i:Int):=by omega
   clear hlt;go_wp2;go_ret;exact⟨m.out.1,f',m.out.2.1,.inl ⟨rfl,m.out.2.2.1,m.out.2.2.2.1,by rw[G.out];exact m.out.2.2.2.2.1,by rw[G.out];exact y⟩⟩
def mZ:Array Value:=#[.int .i64 0,.int .i64 0,.int .i64 0,.int .i64 0,.int .i64 0,.int .i64 0,.int .i64 0,.int .i64 0,.int .i64 0,.int .i64 0,.int .u8 0]
structure RMem (s:Gr.Str) (w:World) (sb rb mb ab fb:Nat) (sh:Nat) (f:Nat->Nat) (nn z p:Nat) (wx:World):Prop where
 b:Below w.heap.size w wx
 n:w.heap.size<=rb
 nm:w.heap.size<=mb
 na:w.heap.size<=ab
 mr:mb≠rb
 s:Blk wx sb 9 #[.string ⟨s.toArray⟩]
 r:Blk wx rb 96 mZ
 m:Blk wx mb 96 (mC sh f nn z)
 a:Blk wx ab 3 #[.int .i64 (p:Int)]
 f:Blk wx fb 133 #[.func (.func 89) #[] #[.pointer (some ⟨ab,0,none⟩),.pointer (some ⟨sb,0,none⟩)]]
theorem RMem.up {s:Gr.Str} {w:World} {sb rb mb ab fb sh:Nat} {f:Nat->Nat} {nn z p:Nat} {wx wy:World} (h:RMem s w sb rb mb ab fb sh f nn z p wx) (hb:Below wx.heap.size wx wy):RMem s w sb rb mb ab fb sh f nn z p wy:=
 ⟨h.b.trans (hb.mono h.b.size),h.n,h.nm,h.na,h.mr,h.s.below hb h.s.lt,h.r.below hb h.r.lt,h.m.below hb h.m.lt,h.a.below hb h.a.lt,h.f.below hb h.f.lt⟩
theorem WL.hc2 {g:Nat} {t:TypeId} {w0:World} {cs cs':Array Value} (y:WL g t w0 cs) (e:cs=cs'):Blk y.w g t cs':=by subst e;exact y.hc
def RPost (T:Option (Array Value)) (w:World) (e:Ending) (w':World):Prop:=Below w.heap.size w w'/\∃(sh:Nat) (f:Nat->Nat) (nn z:Nat),e=.returned (.tuple #[.agg (mC sh f nn z),.bool T.isSome])/\∀x,T=some x->x=mC sh f nn z
theorem zbb {w:World} {g:Nat} {t:TypeId} {c0 c1 c2 c3 c4 c5 c6 c7 c8 c9 c10 v0 v1 v2 v3 v4 v5 v6 v7 v8 v9 v10:Value} (h:Blk w g t #[c0,c1,c2,c3,c4,c5,c6,c7,c8,c9,c10]):Blk (((((((((((w.setCell ⟨g,0,none⟩ (v0)).setCell ⟨g,1,none⟩ (v1)).setCell ⟨g,2,none⟩ (v2)).setCell ⟨g,3,none⟩ (v3)).setCell ⟨g,4,none⟩ (v4)).setCell ⟨g,5,none⟩ (v5)).setCell ⟨g,6,none⟩ (v6)).setCell ⟨g,7,none⟩ (v7)).setCell ⟨g,8,none⟩ (v8)).setCell ⟨g,9,none⟩ (v9)).setCell ⟨g,10,none⟩ (v10)) g t #[v0,v1,v2,v3,v4,v5,v6,v7,v8,v9,v10]:=by
 have a:=(((((((((((h.set_ 0 v0).set_ 1 v1).set_ 2 v2).set_ 3 v3).set_ 4 v4).set_ 5 v5).set_ 6 v6).set_ 7 v7).set_ 8 v8).set_ 9 v9).set_ 10 v10)
 simp only[List.setIfInBounds_toArray,List.set_cons_zero,List.set_cons_succ]at a;exact a
theorem kb11 {w0 w:World} {g:Nat} (h:KB g w0 w) {v0 v1 v2 v3 v4 v5 v6 v7 v8 v9 v10:Value}:KB g w0 (((((((((((w.setCell ⟨g,0,none⟩ (v0)).setCell ⟨g,1,none⟩ (v1)).setCell ⟨g,2,none⟩ (v2)).setCell ⟨g,3,none⟩ (v3)).setCell ⟨g,4,none⟩ (v4)).setCell ⟨g,5,none⟩ (v5)).setCell ⟨g,6,none⟩ (v6)).setCell ⟨g,7,none⟩ (v7)).setCell ⟨g,8,none⟩ (v8)).setCell ⟨g,9,none⟩ (v9)).setCell ⟨g,10,none⟩ (v10)):=
 (((((((((((h.set 0 _).set 1 _).set 2 _).set 3 _).set 4 _).set 5 _).set 6 _).set 7 _).set 8 _).set 9 _).set 10 _)
theorem zco {w0 w:World} {g B:Nat} (h:Below B w0 w) (hB:B<=g) {v0 v1 v2 v3 v4 v5 v6 v7 v8 v9 v10:Value}:Below B w0 (((((((((((w.setCell ⟨g,0,none⟩ (v0)).setCell ⟨g,1,none⟩ (v1)).setCell ⟨g,2,none⟩ (v2)).setCell ⟨g,3,none⟩ (v3)).setCell ⟨g,4,none⟩ (v4)).setCell ⟨g,5,none⟩ (v5)).setCell ⟨g,6,none⟩ (v6)).setCell ⟨g,7,none⟩ (v7)).setCell ⟨g,8,none⟩ (v8)).setCell ⟨g,9,none⟩ (v9)).setCell ⟨g,10,none⟩ (v10)):=
 (((((((((((h.setCell (p:=⟨g,0,none⟩) hB _).setCell (p:=⟨g,1,none⟩) hB _).setCell (p:=⟨g,2,none⟩) hB _).setCell (p:=⟨g,3,none⟩) hB _).setCell (p:=⟨g,4,none⟩) hB _).setCell (p:=⟨g,5,none⟩) hB _).setCell (p:=⟨g,6,none⟩) hB _).setCell (p:=⟨g,7,none⟩) hB _).setCell (p:=⟨g,8,none⟩) hB _).setCell (p:=⟨g,9,none⟩) hB _).setCell (p:=⟨g,10,none⟩) hB _)
theorem zx8 (s:Gr.Str) (_hl:s.length<=1073741823) (w wx:World) (sb rb mb ab fb sh:Nat) (f:Nat->Nat) (nn z p:Nat) (T:Option (Array Value)) (HM:Hid (RMem s w sb rb mb ab fb sh f nn z p wx)) (HT:Hid (T=if p=s.length then some (mC sh f nn z)else none)) {u3 u8 u9 u10 u11 u12 u13 u14 u15 u16 u17 u18 u19 u20 u21 u22 u23 u24 u25 u26 u27 u28 u29 u30 u31 u32 u33 u34 u35 u36 u37 u38 u39 u40 u41 u42 u43 u44 u45 u46 u47 u48 u49 u50 u51 u52 u53 u54 u55 u56 u57 u58 u59 u60 u61 u62 u63 u64 u65 u66 u67 u68 u69 u70 u71 u72 u73 u74 u75 u76 u77 u78 u79 u80 u81 u82 u83 u84 u85 u86 u87 u88 u89 u90 u91 u92 u93 u94 u95 u96 u97 u98 u99 u100 u101 u102 u103 u104 u105 u106 u107 u108 u109 u110 u111 u112 u113 u114 u115 u116 u117 u118 u119 u120 u121 u122 u123 u124 u125 u126 u127 u128 u129 u130 u131 u132 u133 u134 u135 u136 u137 u138 u139 u140 u141 u142 u143 u144 u145 u146 u147 u148 u149 u150 u151 u152 u153 u154:Value}:
 Code.wp prog (tl 10 (f58.body.getD .skip)) (bodyPost prog f58 (RPost T w)) {tmps:=List.toArray (.string ⟨s.toArray⟩::.pointer (some ⟨sb,0,none⟩)::.pointer (some ⟨rb,0,none⟩)::u3::.pointer (some ⟨mb,0,none⟩)::.pointer (some ⟨ab,0,none⟩)::.pointer (some ⟨fb,0,none⟩)::.func (.func 90) #[] #[.pointer (some ⟨ab,0,none⟩),.pointer (some ⟨sb,0,none⟩),.pointer (some ⟨fb,0,none⟩)]::u8::u9::u10::u11::u12::u13::u14::u15::u16::u17::u18::u19::u20::u21::u22::u23::u24::u25::u26::u27::u28::u29::u30::u31::u32::u33::u34::u35::u36::u37::u38::u39::u40::u41::u42::u43::u44::u45::u46::u47::u48::u49::u50::u51::u52::u53::u54::u55::u56::u57::u58::u59::u60::u61::u62::u63::u64::u65::u66::u67::u68::u69::u70::u71::u72::u73::u74::u75::u76::u77::u78::u79::u80::u81::u82::u83::u84::u85::u86::u87::u88::u89::u90::u91::u92::u93::u94::u95::u96::u97::u98::u99::u100::u101::u102::u103::u104::u105::u106::u107::u108::u109::u110::u111::u112::u113::u114::u115::u116::u117::u118::u119::u120::u121::u122::u123::u124::u125::u126::u127::u128::u129::u130::u131::u132::u133::u134::u135::u136::u137::u138::u139::u140::u141::u142::u143::u144::u145::u146::u147::u148::u149::u150::u151::u152::u153::u154::[]),defers:=[]} wx:=by
 generalize hc0:tl 10 (f58.body.getD .skip)=c0;simp only[tl,f58,Option.getD_some]at hc0;subst hc0;obtain⟨q,i⟩:=ex (decide ((p:Int)=(s.length:Int)))
 have hokb:((p:Int)==(s.length:Int))=q:=by rw[<-i];rfl
 have o:Hid (T=if q=true then some (mC sh f nn z)else none):=hid (by
  rw[HT.out,<-i];by_cases h:p=s.length
  .rw[if_pos h,if_pos (by simp[h])]
  .rw[if_neg h,if_neg (by simp;omega)])
 clear i HT;go_upto_region 36 with fail;obtain⟨Z,A⟩:∃Z:Bool->Array Value,Z=fun b=>if b=true then mC sh f nn z else mZ:=⟨_,rfl⟩
 have d:Hid (Z false=mZ/\Z true=mC sh f nn z):=hid (by rw[A];exact⟨rfl,rfl⟩);clear A;have l:Hid (∃y:WL rb 96 wx (Z false),{wx with drawn:=wx.drawn+1}=y.w):=hid ⟨⟨wx.drewN 1,(KB.refl _ _).drewN 1,by rw[d.out.1];exact HM.out.r.drewN 1⟩,rfl⟩;have g:Hid (∀y:WL rb 96 wx (Z false),∃z':WL rb 96 wx (Z true),(((((((((((y.w.setCell ⟨rb,0,none⟩ (.int .i64 (sh:Int))).setCell ⟨rb,1,none⟩ (.int .i64 (f 0:Int))).setCell ⟨rb,2,none⟩ (.int .i64 (f 1:Int))).setCell ⟨rb,3,none⟩ (.int .i64 (f 2:Int))).setCell ⟨rb,4,none⟩ (.int .i64 (f 3:Int))).setCell ⟨rb,5,none⟩ (.int .i64 (f 4:Int))).setCell ⟨rb,6,none⟩ (.int .i64 (f 5:Int))).setCell ⟨rb,7,none⟩ (.int .i64 (f 6:Int))).setCell ⟨rb,8,none⟩ (.int .i64 (f 7:Int))).setCell ⟨rb,9,none⟩ (.int .i64 (nn:Int))).setCell ⟨rb,10,none⟩ (.int .u8 (z:Int)))=z'.w):=hid (fun y=>⟨⟨_,kb11 y.h,by
  have B:=WL.hc2 y d.out.1;rw[d.out.2];exact zbb B⟩,rfl⟩)
 have t:Hid (∀b,Nonempty (WL rb 96 wx (Z b))):=hid (fun b=>by
  obtain⟨y,_⟩:=l.out;cases b with
  |false=>exact⟨y⟩
  |true=>obtain⟨z',_⟩:=g.out y;exact⟨z'⟩)
 have c:Hid (∀b,∀y:WL rb 96 wx (Z b),Blk y.w mb 96 (mC sh f nn z)/\Blk y.w ab 3 #[.int .i64 (p:Int)]/\Blk y.w sb 9 #[.string ⟨s.toArray⟩]):=hid (fun b y=>⟨y.h.blk HM.out.m HM.out.mr,y.h.blk HM.out.a (HM.out.a.ne_ HM.out.r (by decide)),y.h.blk HM.out.s (HM.out.s.ne_ HM.out.r (by decide))⟩);refine zba (aF:=?aF) 5 (by kernel_rfl) _ rfl rfl rfl rfl rfl (by kernel_rfl) (by kernel_rfl) (by kernel_rfl) (by kernel_rfl) (by kernel_rfl) (fun b W=>∃y:WL rb 96 wx (Z b),W=y.w) l.out (fun b=>?h1) ?h2 ?h3
 case h1=>
  have q0:∀y:WL rb 96 wx (Z b),y.w.cell? ⟨mb,0,none⟩=some (.int .i64 (sh:Int)):=fun y=>(c.out b y).1.cell 0
  have q1:∀y:WL rb 96 wx (Z b),y.w.cell? ⟨mb,1,none⟩=some (.int .i64 (f 0:Int)):=fun y=>(c.out b y).1.cell 1
  have q2:∀y:WL rb 96 wx (Z b),y.w.cell? ⟨mb,2,none⟩=some (.int .i64 (f 1:Int)):=fun y=>(c.out b y).1.cell 2
  have q3:∀y:WL rb 96 wx (Z b),y.w.cell? ⟨mb,3,none⟩=some (.int .i64 (f 2:Int)):=fun y=>(c.out b y).1.cell 3
  have q4:∀y:WL rb 96 wx (Z b),y.w.cell? ⟨mb,4,none⟩=some (.int .i64 (f 3:Int)):=fun y=>(c.out b y).1.cell 4
  have q5:∀y:WL rb 96 wx (Z b),y.w.cell? ⟨mb,5,none⟩=some (.int .i64 (f 4:Int)):=fun y=>(c.out b y).1.cell 5
  have q6:∀y:WL rb 96 wx (Z b),y.w.cell? ⟨mb,6,none⟩=some (.int .i64 (f 5:Int)):=fun y=>(c.out b y).1.cell 6
  have q7:∀y:WL rb 96 wx (Z b),y.w.cell? ⟨mb,7,none⟩=some (.int .i64 (f 6:Int)):=fun y=>(c.out b y).1.cell 7
  have q8:∀y:WL rb 96 wx (Z b),y.w.cell? ⟨mb,8,none⟩=some (.int .i64 (f 7:Int)):=fun y=>(c.out b y).1.cell 8
  have q9:∀y:WL rb 96 wx (Z b),y.w.cell? ⟨mb,9,none⟩=some (.int .i64 (nn:Int)):=fun y=>(c.out b y).1.cell 9
  have q10:∀y:WL rb 96 wx (Z b),y.w.cell? ⟨mb,10,none⟩=some (.int .u8 (z:Int)):=fun y=>(c.out b y).1.cell 10
  have hne:=t.out b;have qA:∀y:WL rb 96 wx (Z b),y.w.cell? ⟨ab,0,none⟩=some (.int .i64 (p:Int)):=fun y=>(c.out b y).2.1.cell 0
  have qS:∀y:WL rb 96 wx (Z b),y.w.cell? ⟨sb,0,none⟩=some (.string ⟨s.toArray⟩):=fun y=>(c.out b y).2.2.cell 0
  simp only[List.set_cons_succ,List.set_cons_zero,nopOf,List.getElem_toArray,List.getElem_cons_succ,List.getElem_cons_zero]
  iterate 7 (go_big_quiet_step (fail))
  refine wpQuiet_nil ?_;rfl
 case h2=>
  rintro _ ⟨y,rfl⟩;obtain⟨z',C⟩:=g.out y;have e:Blk y.w rb 96 #[.int .i64 0,.int .i64 0,.int .i64 0,.int .i64 0,.int .i64 0,.int .i64 0,.int .i64 0,.int .i64 0,.int .i64 0,.int .i64 0,.int .u8 0]:=WL.hc2 y d.out.1;have f0:∀j,y.w.frozen? ⟨rb,j,none⟩=false:=e.frozen;obtain⟨c0,c1,c2,c3,c4,c5,c6,c7,c8,c9,c10⟩:=zag e;refine⟨z'.w,?_,z',rfl⟩;rw[<-C];simp only[List.getElem_toArray,List.getElem_cons_succ,List.getElem_cons_zero];go_simp
 case h3=>
 rintro _ ⟨y,rfl⟩;have e:Blk y.w rb 96 (mC sh f nn z):=WL.hc2 y d.out.2;obtain⟨e0,e1,e2,e3,e4,e5,e6,e7,e8,e9,e10⟩:=zag e;go_wp2_with fail;have u:Below w.heap.size w y.w:=HM.out.b.trans (y.h.below HM.out.n HM.out.b.size);refine bodyPost_ret (v:=.tuple #[.agg #[.int .i64 (sh:Int),.int .i64 (f 0:Int),.int .i64 (f 1:Int),.int .i64 (f 2:Int),.int .i64 (f 3:Int),.int .i64 (f 4:Int),.int .i64 (f 5:Int),.int .i64 (f 6:Int),.int .i64 (f 7:Int),.int .i64 (nn:Int),.int .u8 (z:Int)],.bool q]) (by rw[results_cell_tmp rfl];go_simp) rfl ?_;unfold RPost;refine⟨u,sh,f,nn,z,?_,fun x k=>?_⟩
 .rw[o.out];cases q<;>rfl
 .rw[o.out]at k;split at k
  .injection k with k;exact k.symm
  .cases k
end Go.Proofs.YtpgmfihonmoliaaGreatDoor
