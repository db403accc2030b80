import Derived.Test.YtpjmhafmeieloaaGreatDoorZ04
import Derived.Laws.CopyOwn
import Derived.Lib.AppendIntMem
namespace Go.Proofs.YtpjmhafmeieloaaGreatDoor
open Gr
open _root_.Go.Proofs.Tryz
open _root_.Go.Lib (hid)
set_option maxRecDepth 100000
set_option maxHeartbeats 16000000
open Go.RowKit
theorem infoByteS:(prog.info? 5).map (·.size)=some 1:=by kernel_rfl
theorem zmw (W:World) (B g n c:Nat) (A:Option Addr) (l:List UInt8) (ty:TypeId) (hl:l.length=n) (hb:Blk W g 5 (ucells (List.replicate n 0))) (hr:RowAt byteL W B A l):
 ∃W',(Builtin.copy_ #[78,78] ty #[.slice (some ⟨g,0,none⟩) n n,.slice A n c]).run prog W=.ok (.int .i64 n) W'/\Kept1 g W W'/\Blk W' g 5 (ucells l):=by
 by_cases h0:n=0
 .subst h0;obtain rfl:=List.eq_nil_of_length_eq_zero hl;exact⟨W,run_copy_none (P:=prog) W 78 78 ty 5 _ A 0 0 0 c underlying78 infoByteS rfl,Kept1.refl _ _,hb⟩
 .obtain⟨d,rfl,hlt,f⟩:=hr.2 (by omega);have a:(byteL.all l).length=n:=by rw[Lay.all_len];show l.length*1=n;omega
  have b:=run_copy_row (P:=prog) W 78 78 ty 5 g 0 n n d n c (ucells (List.replicate n 0)) 5 (byteL.all l) underlying78 infoByteS hb (by rw[a];exact(Nat.min_self n).symm) f (by rw[a];simp[ucells]) (byteL.all_one l);have e:((ucells (List.replicate n 0)).toList.take 0++byteL.all l++(ucells (List.replicate n 0)).toList.drop (0+(byteL.all l).length)).toArray=ucells l:=by
   rw[a,<-zas];simp[ucells]
  rw[e,a]at b;exact⟨_,b,⟨rfl,rfl,rfl,size_setRow _ _ _,fun k h=>setRow_other _ _ _ _ h⟩,setRow_heap _ _ _ _ _ _ hb⟩
theorem zg8 (l:List UInt8) (k:Nat):(byteL.all l).drop k=byteL.all (l.drop k):=by
 rw[<-zas,<-zas];simp[ucells,List.map_drop]
theorem zg9 (l:List UInt8) (k:Nat):(byteL.all l).take k=byteL.all (l.take k):=by
 rw[<-zas,<-zas];simp[ucells,List.map_take]
theorem zsz {w:World} {B:Nat} {A:Option Addr} {l:List UInt8} (h:RowAt byteL w B A l) {k cap:Nat} (hk:k<=l.length) (hc:l.length<=cap):RowAt byteL w B (if cap=k then A else A.map (·.add (k*1))) (l.drop k):=by
 have:=Reads.cut h hk hc;show Reads w B 1 _ _ _;rw[show byteL.sz=1 from rfl,Nat.mul_one,zg8]at this;rw[Nat.mul_one,List.length_drop];exact this
theorem zp5 {w:World} {B:Nat} {A:Option Addr} {l:List UInt8} (h:RowAt byteL w B A l) {k:Nat} (hk:k<=l.length):RowAt byteL w B A (l.take k):=by
 refine⟨byteL.all_len _,fun c=>?_⟩;have b:(l.take k).length=k:=by simp;omega
 rw[b]at c;obtain⟨e,d,g,f⟩:=h.2 (by omega);refine⟨e,d,g,fun j u a=>f j u ?_⟩;rw[<-zg9]at a;rw[List.getElem?_take]at a;split at a
 .exact a
 .cases a
theorem zmx (a:Option Addr) (n c:Nat) (h1:1<=n) (w:World):(Instr.slice 78 (.slice a n c) (some (.int .i64 1)) none none).run prog w=.ok (.slice (if c=1 then a else a.map (·.add (1*1))) (n-1) (c-1)) w:=by
 obtain⟨e,z,d,hz0,b,hz2,hz3⟩:=byteT.info;rw[zh7 (P:=prog) 78 5 e underlying78 d a n c 1 (by omega) (by omega) w,b];rfl
def NumAt (x:Gr.Dn) (A:Option Addr) (c:Nat) (w:World):Prop:=(x.d=[]/\A=none/\c=0)\/∃g,A=some ⟨g,0,none⟩/\c=x.d.length/\Blk w g 5 (ucells (d8 x.d))
theorem NumAt.row {x:Gr.Dn} {A:Option Addr} {c:Nat} {w:World} (h:NumAt x A c w):RowAt byteL w w.heap.size A (d8 x.d):=by
 rcases h with⟨b,rfl,_⟩|⟨g,rfl,_,a⟩
 .rw[b];exact RowAt.nil
 .exact RowAt.ofBlk a (zas _) a.lt
theorem NumAt.keep {x:Gr.Dn} {A:Option Addr} {c:Nat} {w w':World} (h:NumAt x A c w) (hk:∀g cs,Blk w g 5 cs->Blk w' g 5 cs):NumAt x A c w':=by
 rcases h with h1|⟨g,h1,h2,hb⟩
 .exact .inl h1
 .exact .inr ⟨g,h1,h2,hk _ _ hb⟩
theorem NumAt.alloc {x:Gr.Dn} {A:Option Addr} {c:Nat} {w:World} (h:NumAt x A c w) (o:Obj):NumAt x A c (w.alloc o):=h.keep (fun _ _ a=>a.alloc o)
theorem NumAt.set_ {x:Gr.Dn} {A:Option Addr} {c:Nat} {w:World} (h:NumAt x A c w) {k i:Nat} {t:TypeId} {cs:Array Value} (hk:Blk w k t cs) (ht:5≠t) (u:Value):NumAt x A c (w.setCell ⟨k,i,none⟩ u):=h.keep (fun _ _ a=>a.far (a.ne_ hk ht) u)
def NumVal (x:Gr.Dn) (v:Value) (w:World):Prop:=∃A c,v=.agg #[.bool x.neg,.slice A x.d.length c,.int .i64 x.e]/\NumAt x A c w
def zlb (x:Gr.Dn) (w:World) (e:Ending) (w':World):Prop:=∃v,e=.returned v/\NumVal x v w'/\Below w.heap.size w w'
theorem zyb {d:List Nat} {k:Nat} (h:k<d.length):(d8 d)[k]'(by simpa[d8]using h)=UInt8.ofNat d[k]:=by simp[d8]
theorem zwb {w:World} {B:Nat} {A:Option Addr} {d:List Nat} {k v:Nat} (h:RowAt byteL w B A (d8 d)) (hk:k<d.length) (hv:d[k]=v) (hl:v<10):∃ad,A=some ad/\ad.block<B/\w.cell? (ad.add k)=some (.int .u8 (v:Int)):=by
 obtain⟨ad,b,a,c⟩:=zxr h (show k<(d8 d).length by simpa[d8]using hk);refine⟨ad,b,a,?_⟩;rw[c,zyb hk,hv,UInt8.toNat_ofNat',Nat.mod_eq_of_lt (by omega)]
theorem zp6 (d:List Nat):(0::d).dropWhile isZ=d.dropWhile isZ:=rfl
theorem zus (v:Nat) (d:List Nat) (h:v≠0):(v::d).dropWhile isZ=v::d:=by
 rw[List.dropWhile_cons,if_neg];simpa[isZ]using h
theorem zha (d:List Nat) (v:Nat):Gr.rz (d++[v])=if v=0 then Gr.rz d else d++[v]:=by
 unfold Gr.rz;rw[List.reverse_append,List.reverse_cons,List.reverse_nil,List.nil_append,List.singleton_append,List.dropWhile_cons];by_cases h:v=0
 .rw[if_pos (by simpa[isZ]using h),if_pos h]
 .rw[if_neg (by simpa[isZ]using h),if_neg h];simp
theorem zs0 (neg:Bool) (A:Option Addr) (c:Nat) (d:List Nat) (E:Int) (hl:d.length<=1073741823) (hc:d.length<=c) (hd:∀v∈d,v<10) (hE0:-1152921504606846976<=E) (hE1:E<=1152921504606846976) (w:World) (B:Nat) (hB:B<=w.heap.size) (h:RowAt byteL w B A (d8 d)):
 Calls prog 67 #[.bool neg,.slice A d.length c,.int .i64 E] w (zlb (norm neg d E) w):=by
 obtain⟨r,hr⟩:=ex (norm neg d E)
 have HR:=hid hr;rw[hr];clear hr;have T:=hid h;have HD:=hid hd;clear h hd;go_enter func67,ntmps67;go_upto_region 1 with fail;obtain⟨i,F⟩:=ex (w.alloc (.cells #[.bool false,.slice none 0 0,.int .i64 0] 84))
 obtain⟨b,y⟩:=ex w.heap.size
 have a:Hid (Blk i b 84 #[.bool false,.slice none 0 0,.int .i64 0]/\Below b w i/\i.heap.size=b+1):=hid (by rw[<-F,<-y];exact⟨Blk.new _ _ _,(Below.refl _ _).alloc (Nat.le_refl _) _,by simp⟩);have N:=hid y;have ai:B<=b:=by omega
 (try rw[F]);(try rw[y]);clear F y;have p0:∀j,i.frozen? ⟨b,j,none⟩=false:=a.out.1.frozen;obtain⟨q0,q1,q2⟩:=cells3 a.out.1;go_loop [1] (fun s1=>∃(A1:Option Addr) (c1:Nat) (m:List Nat),s1=.slice A1 m.length c1/\Hid (m.length<=c1/\RowAt byteL i B A1 (d8 m)/\m.dropWhile isZ=d.dropWhile isZ/\(∀v∈m,v<10)/\m.length<=1073741823)) (fun s1=>match s1 with| .slice _ n _=>n|_=>0)
 case atStart=>exact⟨A,c,d,rfl,hid ⟨hc,T.out.below (a.out.2.1.mono ai),rfl,HD.out,hl⟩⟩
 case round=>
  obtain⟨A1,c1,m,rfl,HV⟩:=hrel;cases m with
  |nil=>
   have HF:Hid (r=zeroD):=hid (by
    rw[<-HR.out];unfold norm;rw[if_pos (show d.dropWhile isZ=[]from HV.out.2.2.1.symm)])
   go_wp2_with fail;go_loop [1,2] (fun s1 s2=>s1=.slice A1 0 c1/\s2=.int .i64 E) (fun _ _=>0)
   case atStart=>exact⟨rfl,rfl⟩
   case round=>
    obtain⟨rfl,rfl⟩:=hrel;go_wp2_with fail;have g:=((a.out.1.set_ 0 (.bool false)).set_ 1 (.slice none 0 0)).set_ 2 (.int .i64 0);have e0:=g.cell 0;have e1:=g.cell 1;have e2:=g.cell 2;refine bodyPost_ret (v:=.agg #[.bool false,.slice none 0 0,.int .i64 0]) (by simp[results,results67,go_sem,e0,e1,e2]) rfl ?_;rw[HF.out];exact⟨_,rfl,⟨none,0,rfl,.inl ⟨rfl,rfl,rfl⟩⟩,by rw[N.out];exact((a.out.2.1.setCell (p:=⟨b,0,none⟩) (by simp) _).setCell (p:=⟨b,1,none⟩) (by simp) _).setCell (p:=⟨b,2,none⟩) (by simp) _⟩
  |cons v m=>
   obtain⟨e,Q,h3,Y,h5⟩:=HV.out;have S:v<10:=Y v (.head _);have hlc:m.length+1<=c1:=e;obtain⟨t,rfl,_,Z⟩:=zwb Q (show 0<(v::m).length by simp) rfl S;rw[show t.add 0=t from rfl]at Z;have aa:(0:Int)<((v::m).length:Int):=by simp
   have ag:=zmx (some t) (v::m).length c1 (by simp);by_cases hz:v=0
   .subst hz;have ah:(((0:Nat):Int)==0)=true:=rfl;have D:Hid (m.length<=c1-1/\RowAt byteL i B (if c1=1 then some t else(some t).map (·.add (1*1))) (d8 m)/\m.dropWhile isZ=d.dropWhile isZ/\(∀v∈m,v<10)/\m.length<=1073741823):=hid ⟨by omega,zsz Q (k:=1) (by simp[d8]) (by simpa[d8]using e),by rw[<-h3,zp6],fun v hv=>Y v (.tail _ hv),by simp at h5;omega⟩;clear e Q h3 Y h5;go_wp2;go_round
    case rel=>exact⟨_,_,m,rfl,D⟩
    case measure=>simp
   .have hz1:¬((v:Int)=0):=by omega
    have ah:((v:Int)==0)=false:=by simpa using hz
    obtain⟨M,hM⟩:=ex (v::m)
    have K:Hid (M.length<=c1/\RowAt byteL i B (some t) (d8 M)/\(∀v∈M,v<10)/\M.length<=1073741823/\M.head?=some v/\M≠[]/\r=⟨neg,Gr.rz M,E+((M.length-(Gr.rz M).length:Nat):Int)⟩):=hid (by
     rw[<-hM];refine⟨e,Q,Y,h5,rfl,by simp,?_⟩;rw[<-HR.out];unfold norm;rw[<-h3,zus v m hz,if_neg (by simp)])
    rw[hM];rw[hM]at aa;clear e Q h3 Y h5 ag hM;go_wp2_with fail;go_loop [1,2] (fun s1 s2=>∃k:Nat,0<k/\k<=M.length/\s1=.slice (some t) k c1/\s2=.int .i64 (E+((M.length-k:Nat):Int))/\Hid (Gr.rz (M.take k)=Gr.rz M)) (fun s1 _=>match s1 with| .slice _ n _=>n|_=>0)
    case atStart=>exact⟨M.length,by omega,Nat.le_refl _,rfl,by simp,hid (by rw[List.take_length])⟩
    case round=>
     clear Z;obtain⟨k,hk0,hkM,rfl,rfl,V⟩:=hrel;obtain⟨j,rfl⟩:∃j,k=j+1:=⟨k-1,by omega⟩
     have x:j<M.length:=by omega
     obtain⟨u,O⟩:=ex (M[j])
     have R:u<10:=by rw[<-O];exact K.out.2.2.1 _ (List.getElem_mem x)
     obtain⟨ad',q,_,Z⟩:=zwb K.out.2.1 x O R;injection q with q
     subst q;have HT:=hid (show M.take (j+1)=M.take j++[u] by rw[List.take_succ_eq_append_getElem x,O]);have hcut:=fun W=>zig (some t) (j+1) c1 j (by have:=K.out.1;omega) W
     have HU:=hid O;clear O;have hML:M.length<=1073741823:=K.out.2.2.2.1;have hjI:(j:Int)<=1073741822:=by omega
     have hj0I:(0:Int)<=(j:Int):=by omega
     by_cases hz2:u=0
     .subst hz2;have af:0<j:=by
       rcases Nat.eq_zero_or_pos j with h0|h0
       .subst h0;have e:=K.out.2.2.2.2.1;rw[List.head?_eq_getElem?,List.getElem?_eq_getElem x,HU.out]at e;injection e with e
        exact absurd e.symm hz
       .exact h0
      have ac:(((0:Nat):Int)==0)=true:=rfl;have D:Hid (Gr.rz (M.take j)=Gr.rz M):=hid (by rw[<-V.out,HT.out,zha,if_pos rfl]);go_wp2;go_round
      case rel=>exact⟨j,af,by omega,rfl,by go_num,D⟩
      case measure=>simp
     .have U:¬((u:Int)=0):=by omega
      have ac:((u:Int)==0)=false:=by simpa using hz2
      have HF:Hid (r=⟨neg,M.take (j+1),E+((M.length-(j+1):Nat):Int)⟩):=hid (by
       have e:=V.out;rw[HT.out,zha,if_neg hz2,<-HT.out]at e;rw[K.out.2.2.2.2.2.2,<-e,List.length_take,Nat.min_eq_left (by omega)])
      have hmk:∀W:World,(Instr.makeSlice 78 (.int .i64 ((j:Int)+1)) (.int .i64 ((j:Int)+1))).run prog W=.ok (.slice (some ⟨W.heap.size,0,none⟩) (j+1) (j+1)) (W.alloc (.cells (ucells (List.replicate (j+1) 0)) 5)):=fun W=>by
       have:=zcy (j+1) (by omega) W;rwa[show(((j+1:Nat)):Int)=(j:Int)+1 from by omega]at this
      have hnz:¬(((j+1:Nat):Int)=0):=by omega
      have hnzb:(((j+1:Nat):Int)==0)=false:=by rw[beq_eq_false_iff_ne];omega
      go_upto_region 9 with fail;obtain⟨w2,l⟩:=ex (i.alloc (.cells (ucells (List.replicate (j+1) 0)) 5))
      obtain⟨s,f⟩:=ex i.heap.size
      have H:Below s i w2:=by rw[<-l,<-f];exact(Below.refl _ _).alloc (Nat.le_refl _) _
      have L:Blk w2 s 5 (ucells (List.replicate (j+1) 0)):=by rw[<-l,<-f];exact Blk.new _ _ _
      have ak:s=b+1:=by rw[<-f];exact a.out.2.2
      have P:RowAt byteL w2 B (some t) (d8 (M.take (j+1))):=by
       have:=zp5 K.out.2.1 (k:=j+1) (by rw[zya];omega);rw[show(d8 M).take (j+1)=d8 (M.take (j+1))from by simp[d8,List.map_take]]at this;exact this.below (H.mono (by omega))
      obtain⟨X,ae,I,g⟩:=zmw w2 B s (j+1) c1 (some t) (d8 (M.take (j+1))) 3 (by simp[d8];omega) L P;have J:Below s i X:=H.trans (I.below (Nat.le_refl _));have U:X.heap.size=s+1:=by rw[I.size,<-l,World.size_alloc,f]
      have G:Hid (Blk X b 84 #[.bool false,.slice none 0 0,.int .i64 0]):=hid (a.out.1.below J (by omega));have ab:=hid g;have aj:Hid (Below b w X):=hid (a.out.2.1.trans (J.mono (by omega)));have o:b≠s:=by omega
      rw[l];(try rw[f]);clear l f H L P I g J U ak;go_upto_region 10 with fail;clear ae p0 q0 q1 q2 Z;have p0:∀j,X.frozen? ⟨b,j,none⟩=false:=G.out.frozen;obtain⟨q0,q1,q2⟩:=cells3 G.out;go_wp2_with fail;have C:=((G.out.set_ 0 (.bool neg)).set_ 1 (.slice (some ⟨s,0,none⟩) (j+1) (j+1))).set_ 2 (.int .i64 (E+((M.length-(j+1):Nat):Int)));have e0:=C.cell 0;have e1:=C.cell 1;have e2:=C.cell 2;refine bodyPost_ret (v:=.agg #[.bool neg,.slice (some ⟨s,0,none⟩) (j+1) (j+1),.int .i64 (E+((M.length-(j+1):Nat):Int))]) (by simp[results,results67,go_sem,e0,e1,e2]) rfl ?_;rw[HF.out];have z:(M.take (j+1)).length=j+1:=by rw[List.length_take];omega
      refine⟨_,rfl,⟨some ⟨s,0,none⟩,j+1,by rw[z],.inr ⟨s,rfl,z.symm,?_⟩⟩,by rw[N.out];exact((aj.out.setCell (p:=⟨b,0,none⟩) (by simp) _).setCell (p:=⟨b,1,none⟩) (by simp) _).setCell (p:=⟨b,2,none⟩) (by simp) _⟩;exact((ab.out.far o.symm _).far o.symm _).far o.symm _
theorem zp7 (x:Gr.Dn) (A:Option Addr) (c:Nat) (hl:x.d.length<=1073741823) (w:World):
 Calls prog 69 #[.agg #[.bool x.neg,.slice A x.d.length c,.int .i64 x.e]] w fun e w'=>e=.returned (.int .i64 (lim x:Nat))/\Below w.heap.size w w':=by
 obtain⟨neg,d,e⟩:=x;simp only at hl ⊢;have g:Below w.heap.size w (w.alloc (.cells #[.bool neg,.slice A d.length c,.int .i64 e] 84)):=(Below.refl _ _).alloc (Nat.le_refl _) _;have b:=hid g;clear g;by_cases h1:400<d.length
 .have a:Hid (lim ⟨neg,d,e⟩=6):=hid (by unfold lim;rw[if_pos h1]);have f:(400:Int)<(d.length:Int):=by omega
  go_enter func69,ntmps69;go_wp2;go_ret;rw[a.out];exact⟨rfl,b.out⟩
 .have f:¬(400:Int)<(d.length:Int):=by omega
  by_cases h2:e< -2000
  .have a:Hid (lim ⟨neg,d,e⟩=2):=hid (by unfold lim;rw[if_neg h1,if_pos (.inl h2)]);go_enter func69,ntmps69;go_wp2;go_ret;rw[a.out];exact⟨rfl,b.out⟩
  .by_cases h3:2000<e
   .have a:Hid (lim ⟨neg,d,e⟩=2):=hid (by unfold lim;rw[if_neg h1,if_pos (.inr h3)]);go_enter func69,ntmps69;go_wp2;go_ret;rw[a.out];exact⟨rfl,b.out⟩
   .have a:Hid (lim ⟨neg,d,e⟩=0):=hid (by unfold lim;rw[if_neg h1,if_neg (fun h=>h.elim h2 h3)]);go_enter func69,ntmps69;go_wp2;go_ret;rw[a.out];exact⟨rfl,b.out⟩
def signS (neg:Bool):Gr.Str:=if neg=true then[45]else[]
theorem zs1 (neg:Bool) (A:Option Addr) (n c:Nat) (e:Int) (w:World):
 Calls prog 129 #[.agg #[.bool neg,.slice A n c,.int .i64 e]] w fun e' w'=>e'=.returned (.string ⟨(signS neg).toArray⟩)/\Below w.heap.size w w':=by
 have a:Below w.heap.size w (w.alloc (.cells #[.bool neg,.slice A n c,.int .i64 e] 84)):=(Below.refl _ _).alloc (Nat.le_refl _) _;have b:=hid a;clear a;cases neg
 all_goals
  go_enter func129,ntmps129;go_wp2;go_ret;exact⟨rfl,b.out⟩
theorem zd3 (w:World) (s:List UInt8) (A:Option Addr) (c:Nat) {B:Nat} (h:RowAt byteL w B A s):(convert 78 9 (.slice A s.length c)).run prog w=.ok (.string ⟨s.toArray⟩) w:=by
 cases s with
 |nil=>
  cases A with
  |none=>exact run_convert_bytes_nil (P:=prog) w 78 5 underlying78 underlying5 0 c 9 underlying9
  |some a=>exact run_convert_bytes_back (P:=prog) w 78 9 5 a c [] underlying78 underlying5 underlying9 (fun j d=>by simp at d)
 |cons b r=>
  obtain⟨g,rfl,_,_⟩:=h.get (k:=0) (by simp);refine run_convert_bytes_back (P:=prog) w 78 9 5 g c (b::r) underlying78 underlying5 underlying9 (fun j d=>?_);obtain⟨ad',e,_,f,_⟩:=h.get d;cases e;have:=f _ rfl;simpa[byteL]using this
theorem zmy (neg:Bool) (A:Option Addr) (d:List Nat) (c:Nat) (E:Int) (hl:d.length<=1073741823) (hd:∀v∈d,v<10) (w:World) (h:RowAt byteL w w.heap.size A (d8 d)):
 Calls prog 130 #[.agg #[.bool neg,.slice A d.length c,.int .i64 E]] w fun e' w'=>e'=.returned (.string ⟨(d.map Gr.ch).toArray⟩)/\Below w.heap.size w w':=by
 have H:=fun W=>zcy d.length (by omega) W
 have P:=hid hd;have m:=hid h;clear hd h;go_enter func130,ntmps130;go_upto_region 2 with fail;obtain⟨F,b⟩:=ex (w.alloc (.cells #[.bool neg,.slice A d.length c,.int .i64 E] 84))
 have t:Blk F w.heap.size 84 #[.bool neg,.slice A d.length c,.int .i64 E]:=by rw[<-b];exact Blk.new _ _ _
 have q:Below w.heap.size w F:=by rw[<-b];exact(Below.refl _ _).alloc (Nat.le_refl _) _
 have e:F.heap.size=w.heap.size+1:=by rw[<-b];simp
 obtain⟨a,l⟩:=ex w.heap.size
 (try rw[b]);(try rw[l]);rw[l]at t q e m;obtain⟨u,g⟩:=ex (F.alloc (.cells (ucells (List.replicate d.length 0)) 5))
 have y:Blk u (a+1) 5 (ucells (List.replicate d.length 0)):=by rw[<-g,<-e];exact Blk.new _ _ _
 have p:Below (a+1) F u:=by rw[<-g,<-e];exact(Below.refl _ _).alloc (Nat.le_refl _) _
 have s:Hid (Blk u a 84 #[.bool neg,.slice A d.length c,.int .i64 E]/\Blk u (a+1) 5 (ucells (List.replicate d.length 0))/\Below a w u):=hid ⟨t.below p (by omega),y,q.trans (p.mono (by omega))⟩;have K:=hid l;(try rw[e]);(try rw[g]);clear b l t q e g y p H;have O:u.cell? ⟨a,1,none⟩=some (.slice A d.length c):=s.out.1.cell 1;go_wp2_with fail;clear O;go_loopw [13] (fun s13 wr=>∃k:Nat,k<=d.length/\s13=.int .i64 k/\Hid (Blk wr (a+1) 5 (ucells ((d.take k).map Gr.ch++List.replicate (d.length-k) 0))/\Below a w wr)) (fun s13 _=>d.length-(intOf s13).toNat)
 case atStart=>exact⟨0,by omega,rfl,hid ⟨by simpa using s.out.2.1,s.out.2.2⟩⟩
 case round=>
  obtain⟨k,hk,rfl,n⟩:=hrel;by_cases hlt:k<d.length
  .have C:(k:Int)<(d.length:Int):=by omega
   obtain⟨v,G⟩:=ex (d[k])
   have z:v<10:=by rw[<-G];exact P.out _ (List.getElem_mem hlt)
   obtain⟨ad,B,_,y0⟩:=zwb (m.out.below n.out.2) hlt G z;subst B;have pfd:∀j,wr.frozen? ⟨a+1,j,none⟩=false:=n.out.1.frozen;have f:((d.take k).map Gr.ch).length=k:=by simp;omega
   obtain⟨N,zd⟩:∃N,wr.cell? ⟨a+1,k,none⟩=some N:=by
    rw[n.out.1.cell];refine⟨_,Array.getElem?_eq_getElem (i:=k) ?_⟩;simp[ucells];omega
   have x:Hid ((d.take (k+1)).map Gr.ch=(d.take k).map Gr.ch++[Gr.ch v]/\((d.take k).map Gr.ch).length=k):=hid ⟨by
    rw[List.take_succ_eq_append_getElem hlt,List.map_append,G];rfl,f⟩
   have hvI:(v:Int)<10:=by omega
   clear G f;go_wp2_with fail;obtain⟨o,r⟩:∃o:UInt8,o=Gr.ch v:=⟨_,rfl⟩
   have D:48+(v:Int)=(o.toNat:Int):=by rw[r];unfold Gr.ch;rw[UInt8.toNat_ofNat'];omega
   rw[D];have Q:Hid (Blk (wr.setCell ⟨a+1,k,none⟩ (.int .u8 (o.toNat:Int))) (a+1) 5 (ucells ((d.take (k+1)).map Gr.ch++List.replicate (d.length-(k+1)) 0))/\Below a w (wr.setCell ⟨a+1,k,none⟩ (.int .u8 (o.toNat:Int)))):=hid ⟨by
    have I:=n.out.1.set_ k (.int .u8 (o.toNat:Int));rw[zd0]at I;have L:=zla ((d.take k).map Gr.ch) (d.length-k) o (by omega);rw[x.out.2]at L;rw[L]at I;rw[x.out.1,<-r,show d.length-(k+1)=d.length-k-1 from by omega];exact I,n.out.2.setCell (by simp) _⟩
   clear D r;go_roundw
   case rel=>exact⟨k+1,by omega,by go_num,Q⟩
   case measure=>simp[intOf];omega
  .have C:¬(k:Int)<(d.length:Int):=by omega
   have M:RowAt byteL wr (a+2) (some ⟨a+1,0,none⟩) (d.map Gr.ch):=by
    have:=n.out.1;rw[show k=d.length from by omega,List.take_length,Nat.sub_self,List.replicate_zero,List.append_nil]at this;exact RowAt.ofBlk this (zas _) (by omega)
   have J:=zd3 wr _ (some ⟨a+1,0,none⟩) d.length M;rw[List.length_map]at J;clear M;go_wp2;go_ret;exact⟨rfl,by rw[K.out];exact n.out.2⟩
theorem zdo (neg:Bool):(signS neg).length<=1:=by cases neg<;>decide
theorem zs2 (x:Gr.Dn) (A:Option Addr) (c:Nat) (hl:x.d.length<=1073741823) (hd:∀v∈x.d,v<10) (w:World) (h:RowAt byteL w w.heap.size A (d8 x.d)):
 Calls prog 96 #[.agg #[.bool x.neg,.slice A x.d.length c,.int .i64 x.e]] w fun e' w'=>e'=.returned (.string ⟨(coef x).toArray⟩)/\Below w.heap.size w w':=by
 obtain⟨neg,d,E⟩:=x;simp only at hl hd h ⊢;have i:=hid h;have z:=hid hd;clear h hd;obtain⟨r,s⟩:=ex (coef ⟨neg,d,E⟩)
 have u:=hid s;rw[s];clear s;go_enter func96,ntmps96;go_upto_region 1 with fail;obtain⟨b,j⟩:=ex (w.alloc (.cells #[.bool neg,.slice A d.length c,.int .i64 E] 84))
 obtain⟨f,g⟩:=ex w.heap.size
 have a:Hid (Blk b f 84 #[.bool neg,.slice A d.length c,.int .i64 E]/\Below f w b/\b.heap.size=f+1):=hid (by rw[<-j,<-g];exact⟨Blk.new _ _ _,(Below.refl _ _).alloc (Nat.le_refl _) _,by simp⟩);have k:=hid g;rw[g]at i;(try rw[j]);(try rw[g]);clear j g;have y:b.cell? ⟨f,1,none⟩=some (.slice A d.length c):=a.out.1.cell 1;by_cases h0:d=[]
 .subst h0;have q:Hid (r=[48]):=hid (by rw[<-u.out];rfl);go_wp2;go_ret;rw[q.out,k.out];exact⟨rfl,a.out.2.1⟩
 .have hlp:=List.length_pos_iff.2 h0;have h1:¬((d.length:Int)=0):=by omega
  have h1b:((d.length:Int)==0)=false:=by simpa using h0
  have q:Hid (r=signS neg++d.map Gr.ch):=hid (by rw[<-u.out];unfold coef;rw[if_neg h0];rfl);go_upto_region 3 with fail;clear y;have m:b.heap.size=f+1:=a.out.2.2;have t:Hid (∀W:WB b.heap.size b,Calls prog 129 #[.agg #[.bool neg,.slice A d.length c,.int .i64 E]] W.w (fun e l=>e=.returned (.string ⟨(signS neg).toArray⟩)/\Below b.heap.size b l)/\Calls prog 130 #[.agg #[.bool neg,.slice A d.length c,.int .i64 E]] W.w (fun e l=>e=.returned (.string ⟨(d.map Gr.ch).toArray⟩)/\Below b.heap.size b l)):=hid (fun W=>⟨(zs1 neg A d.length c E W.w).mono (fun _ _ ⟨o,n⟩=>⟨o,W.h.trans (n.mono W.h.size)⟩),(zmy neg A d c E hl z.out W.w (((i.out.below a.out.2.1).below (W.h.mono (by omega))).more (by have:=W.h.size;omega))).mono (fun _ _ ⟨o,n⟩=>⟨o,W.h.trans (n.mono W.h.size)⟩)⟩);have p0:∀W:WB b.heap.size b,W.w.cell? ⟨f,0,none⟩=some (.bool neg):=fun W=>(W.h.cell (p:=⟨f,0,none⟩) (by simp;omega)).trans (a.out.1.cell 0)
  have p1:∀W:WB b.heap.size b,W.w.cell? ⟨f,1,none⟩=some (.slice A d.length c):=fun W=>(W.h.cell (p:=⟨f,1,none⟩) (by simp;omega)).trans (a.out.1.cell 1)
  have p2:∀W:WB b.heap.size b,W.w.cell? ⟨f,2,none⟩=some (.int .i64 E):=fun W=>(W.h.cell (p:=⟨f,2,none⟩) (by simp;omega)).trans (a.out.1.cell 2)
  clear m;have hadd:=fun W=>zac (signS neg) (d.map Gr.ch) (by have:=zdo neg;rw[List.length_map];omega) W
  refine zaa b.heap.size b (by kernel_rfl) (by kernel_rfl) (Below.refl _ _) ?_
  repeat (go_big_quiet_step ((first| (with_reducible refine Calls.grow (t.out _).1)| (with_reducible refine Calls.grow (t.out _).2))))
  refine wpQuiet_nil ?_;rintro _ ⟨B,rfl⟩;go_wp2;go_ret;rw[q.out,k.out];exact⟨rfl,a.out.2.1.trans (B.h.mono (by have:=a.out.2.2;omega))⟩
theorem zhb (n:Int) (h0:-9223372036854775808<=n) (h1:n<=9223372036854775807) (w:World) (hT:UT w):
 Calls prog 97 #[.int .i64 n] w fun e w'=>e=.returned (.string ⟨(Lib.itoa n).toArray⟩)/\Below w.heap.size w w':=
 (strconv_Itoa n h0 h1 w hT.pow).mono (fun _ _ ⟨e,k,os,h⟩=>⟨e,by rw[h];exact Lib.below_grow _ _ (Nat.le_refl _) _ _⟩)
theorem zhc (n:Int) (h0:-9223372036854775808<=n) (h1:n<=9223372036854775807):(Lib.itoa n).length<=21:=by
 have:=zc6 n 19 (by omega);omega
theorem zp8 (x:Gr.Dn) (A:Option Addr) (c:Nat) (hl:x.d.length<=1073741823) (hd:∀v∈x.d,v<10) (h0:-9223372036854775808<=x.e) (h1:x.e<=9223372036854775807) (w:World) (hT:UT w) (h:RowAt byteL w w.heap.size A (d8 x.d)):
 Calls prog 70 #[.agg #[.bool x.neg,.slice A x.d.length c,.int .i64 x.e]] w fun e' w'=>e'=.returned (.string ⟨(Gr.text x).toArray⟩)/\Below w.heap.size w w':=by
 have k:=hid (fun(W:World) (hW:RowAt byteL W W.heap.size A (d8 x.d))=>zs2 x A c hl hd W hW);have C:(coef x).length<=1073741825:=by
  unfold coef;split
  .simp
  .have:=zdo x.neg;unfold signS at this;rw[List.length_append,List.length_map];omega
 have n:=zhc x.e h0 h1;obtain⟨r,s⟩:=ex (coef x)
 obtain⟨I,l⟩:=ex (Gr.text x)
 have F:Hid (I=r++101::Lib.itoa x.e):=hid (by rw[<-l,<-s];rfl);rw[s]at k C;rw[l];clear s l;obtain⟨neg,d,E⟩:=x;simp only at hl h0 h1 h k n F ⊢;obtain⟨t,H⟩:=ex (Lib.itoa E)
 have m:=hid (fun(W:World) (hW:UT W)=>zhb E h0 h1 W hW);rw[H]at n F m;clear H;have j:=hid h;have o:=hid hT;clear h hd hT;go_enter func70,ntmps70;go_upto_region 1 with fail;obtain⟨a,i⟩:=ex (w.alloc (.cells #[.bool neg,.slice A d.length c,.int .i64 E] 84))
 obtain⟨g,f⟩:=ex w.heap.size
 have b:Hid (Blk a g 84 #[.bool neg,.slice A d.length c,.int .i64 E]/\Below g w a/\a.heap.size=g+1):=hid (by rw[<-i,<-f];exact⟨Blk.new _ _ _,(Below.refl _ _).alloc (Nat.le_refl _) _,by simp⟩);have q:Hid (UT a):=hid (UT.stays _ _ o.out (by rw[<-i];exact(Below.refl _ _).alloc (Nat.le_refl _) _));have B:=hid f;rw[f]at j;(try rw[i]);(try rw[f]);clear i f;have y:a.heap.size=g+1:=b.out.2.2;have G:Hid (∀W:WB a.heap.size a,Calls prog 96 #[.agg #[.bool neg,.slice A d.length c,.int .i64 E]] W.w (fun e u=>e=.returned (.string ⟨r.toArray⟩)/\Below a.heap.size a u)/\Calls prog 97 #[.int .i64 E] W.w (fun e u=>e=.returned (.string ⟨t.toArray⟩)/\Below a.heap.size a u)):=hid (fun W=>⟨(k.out W.w (((j.out.below b.out.2.1).below (W.h.mono (by omega))).more (by have:=W.h.size;omega))).mono (fun _ _ ⟨D,z⟩=>⟨D,W.h.trans (z.mono W.h.size)⟩),(m.out W.w (UT.stays _ _ q.out W.h)).mono (fun _ _ ⟨D,z⟩=>⟨D,W.h.trans (z.mono W.h.size)⟩)⟩);have p0:∀W:WB a.heap.size a,W.w.cell? ⟨g,0,none⟩=some (.bool neg):=fun W=>(W.h.cell (p:=⟨g,0,none⟩) (by simp;omega)).trans (b.out.1.cell 0)
 have p1:∀W:WB a.heap.size a,W.w.cell? ⟨g,1,none⟩=some (.slice A d.length c):=fun W=>(W.h.cell (p:=⟨g,1,none⟩) (by simp;omega)).trans (b.out.1.cell 1)
 have p2:∀W:WB a.heap.size a,W.w.cell? ⟨g,2,none⟩=some (.int .i64 E):=fun W=>(W.h.cell (p:=⟨g,2,none⟩) (by simp;omega)).trans (b.out.1.cell 2)
 have hadd:=fun W=>zac r [101] (by simp;omega) W
 have hadd2:=fun W=>zac (r++[101]) t (by simp;omega) W
 clear y;refine zaa a.heap.size a (by kernel_rfl) (by kernel_rfl) (Below.refl _ _) ?_
 repeat (go_big_quiet_step ((first| (with_reducible refine Calls.grow (G.out _).1)| (with_reducible refine Calls.grow (G.out _).2))))
 refine wpQuiet_nil ?_;rintro _ ⟨J,rfl⟩;go_wp2;go_ret;rw[F.out,B.out];exact⟨rfl,b.out.2.1.trans (J.h.mono (by have:=b.out.2.2;omega))⟩
def rdg (s:Gr.Str) (k:Nat):Gr.Str:=(s.drop k).takeWhile Gr.dig
def zj7 (s:Gr.Str) (k:Nat) (w:World) (e:Ending) (w':World):Prop:=∃A c,e=.returned (.tuple #[.slice A (rdg s k).length c,.int .i64 ((k+(rdg s k).length:Nat):Int)])/\OwnRow intL w' w.heap.size 3 (.slice A (rdg s k).length c) (vals (rdg s k))/\Below w.heap.size w w'
theorem zbc (s:Gr.Str):(vals s).length=s.length:=by simp[vals]
theorem zq7 (s:Gr.Str) (k m:Nat) (h:((s.drop k).take m).all Gr.dig=true) (hm:k+m<=s.length) (hn:∀h2:k+m<s.length,Gr.dig (s[k+m]'h2)=false):rdg s k=(s.drop k).take m:=by
 unfold rdg;have a:s.drop k=(s.drop k).take m++s.drop (k+m):=by
  rw[<-List.drop_drop];exact(List.take_append_drop m (s.drop k)).symm
 rw[a,List.takeWhile_append_of_pos (by simpa using h)];have h2:(s.drop (k+m)).takeWhile Gr.dig=[]:=by
  rcases Nat.lt_or_ge (k+m) s.length with h3|h3
  .rw[List.drop_eq_getElem_cons h3,List.takeWhile_cons,hn h3];rfl
  .rw[List.drop_eq_nil_of_le h3];rfl
 rw[h2,List.append_nil,List.take_append_of_le_length (by simp;omega),List.take_take,Nat.min_self]
theorem zj8 {s:Gr.Str} {k m c:Nat} {A:Option Addr} {w w':World} (h:rdg s k=(s.drop k).take m) (_:0<=m) (hm:k+m<=s.length) (ho:OwnRow intL w' w.heap.size 3 (.slice A m c) (vals ((s.drop k).take m))) (hb:Below w.heap.size w w'):
 zj7 s k w (.returned (.tuple #[.slice A m c,.int .i64 ((k+m:Nat):Int)])) w':=by
 have a:(rdg s k).length=m:=by rw[h];simp;omega
 unfold zj7;rw[a,h];exact⟨A,c,rfl,ho,hb⟩
theorem zdf (s:Gr.Str) (hl:s.length<=1073741823) (k:Nat) (hk:k<=s.length) (w:World):
 Calls prog 146 #[.string ⟨s.toArray⟩,.int .i64 (k:Int)] w (zj7 s k w):=by
 go_enter func146,ntmps146;go_wp2_with fail;go_loopw [1,6] (fun s1 s6 wr=>∃(m:Nat) (A:Option Addr) (c:Nat),k+m<=s.length/\s1=.int .i64 ((k+m:Nat):Int)/\s6=.slice A m c/\Hid (((s.drop k).take m).all Gr.dig=true/\OwnRow intL wr w.heap.size 3 (.slice A m c) (vals ((s.drop k).take m))/\Below w.heap.size w wr)) (fun s1 _ _=>s.length-(intOf s1).toNat)
 case atStart=>exact⟨0,none,0,by omega,rfl,rfl,hid ⟨by simp,OwnRow.nil,Below.refl _ _⟩⟩
 case round=>
  obtain⟨m,A,c,n,rfl,rfl,a⟩:=hrel;have g:(vals ((s.drop k).take m)).length=m:=by simp[vals];omega
  have l:=hid g;have i:Hid (w.heap.size<=wr.heap.size):=hid a.out.2.2.size;clear g;by_cases hlt:k+m<s.length
  .have r:((k+m:Nat):Int)<(s.length:Int):=by omega
   obtain⟨b,o⟩:∃b:Nat,(s[k+m]'(by omega)).toNat=b:=⟨_,rfl⟩
   have hbv:(((⟨s.toArray⟩:ByteArray)[k+m]'(by simpa[ByteArray.size]using hlt)).toNat:Int)=(b:Int):=by rw[<-o];rfl
   have hbl:b<256:=by rw[<-o];exact(s[k+m]'hlt).toNat_lt
   have h:Hid (Gr.dig (s[k+m]'hlt)=(decide (48<=b) && decide (b<=57))/\Gr.dv (s[k+m]'hlt)=b-48):=hid ⟨by
    rw[Bool.eq_iff_iff,zbh,o];simp,by unfold Gr.dv;rw[o]⟩
   clear o;by_cases hd:48<=b/\b<=57
   .obtain⟨f,y⟩:=hd;have p:(48:Int)<=(b:Int):=by omega
    have z:(b:Int)<=57:=by omega
    have q:Hid ((s.drop k).take (m+1)=(s.drop k).take m++[s[k+m]'hlt]):=hid (by
     rw[List.take_succ_eq_append_getElem (by simp;omega),List.getElem_drop])
    go_upto_region 3 with fail;obtain⟨x,I⟩:∃x:Nat,b-48=x:=⟨_,rfl⟩
    have D:(b:Int)-48=(x:Int):=by omega
    have J:=hid I;clear I;go_wp2_with (at_builtin;go_must (refine zab _ rfl (.tmp 23) (.tmp 29) 34 3 8 rfl intT w.heap.size (.slice A m c) (vals ((s.drop k).take m)) rfl (a.out.2.1.alloc _) _ _ 1 [x] rfl (RowAt.lit1 _ _ (by first|rfl| (rw[D];rfl)) _ ?_) ?_ ?_ ?_))
    any_goals (first|rfl| (have:=l.out;simp;omega)| (rw[World.size_alloc];have:=i.out;omega))
    intro v' C d E B;have t:Below w.heap.size w C:=(a.out.2.2.alloc i.out _).trans ((a.out.2.1.alloc _).grown_below E (by rw[World.size_alloc];have:=i.out;omega));obtain⟨H,F,j,_⟩:=d.form;have e:(vals ((s.drop k).take m)++[x]).length=m+1:=by rw[List.length_append,l.out];rfl
    rw[e]at j;subst j;have v:Hid (((s.drop k).take (m+1)).all Gr.dig=true/\OwnRow intL C w.heap.size 3 (.slice H (m+1) F) (vals ((s.drop k).take (m+1)))/\Below w.heap.size w C):=hid ⟨by
     rw[q.out,List.all_append,a.out.1];simp[h.out.1,f,y],by
     rw[q.out,show vals ((s.drop k).take m++[s[k+m]'hlt])=vals ((s.drop k).take m)++[x]from by simp[vals,h.out.2,J.out]];exact d,t⟩
    clear d E B t e;go_wp2;go_roundw
    case rel=>exact⟨m+1,H,F,by omega,by go_num,rfl,v⟩
    case measure=>simp[intOf];omega
   .have u:Hid (rdg s k=(s.drop k).take m):=hid (zq7 s k m a.out.1 n (fun G=>by rw[h.out.1];by_cases f:48<=b<;>simp[f]<;>omega));by_cases f:48<=b
    .have p:(48:Int)<=(b:Int):=by omega
     have z:¬(b:Int)<=57:=by omega
     go_wp2;go_ret2;exact zj8 u.out (by omega) n a.out.2.1 a.out.2.2
    .have p:¬(48:Int)<=(b:Int):=by omega
     go_wp2;go_ret2;exact zj8 u.out (by omega) n a.out.2.1 a.out.2.2
  .have r:¬((k+m:Nat):Int)<(s.length:Int):=by omega
   have u:Hid (rdg s k=(s.drop k).take m):=hid (zq7 s k m a.out.1 n (fun G=>absurd G hlt));go_wp2;go_ret2;exact zj8 u.out (by omega) n a.out.2.1 a.out.2.2
theorem zdg (n:Nat) (hn:n<=4611686018427387904) (w:World):Calls prog 149 #[.int .i64 (n:Int)] w fun e w'=>e=.returned (.string ⟨(Lib.decDigits n).toArray⟩)/\Below w.heap.size w w':=by
 induction n using Nat.strongRecOn generalizing w with
 |_ n ih=>
  have h0:¬(n:Int)<0:=by omega
  by_cases h9:9<n
  .have q:(9:Int)<(n:Int):=by omega
   have k:=hid (fun W=>ih (n /10) (by omega) (by omega) W);have d:=hid (fun W=>ih (n%10) (by omega) (by omega) W);have z:=hid (zav (u:=n) (by omega));have y:((n:Int) /10)=((n /10:Nat):Int):=by omega
   have A:((n:Int)%10)=((n%10:Nat):Int):=by omega
   have v:(Lib.decDigits (n /10)).length<=20:=by rw[Lib.decDigits_length];exact zbn 19 _ (by omega)
   have r:(Lib.decDigits (n%10)).length<=20:=by rw[Lib.decDigits_length];exact zbn 19 _ (by omega)
   have m:=fun W=>zac (Lib.decDigits (n /10)) (Lib.decDigits (n%10)) (by omega) W
   have C:Lib.decDigits n=Lib.decDigits (n /10)++Lib.decDigits (n%10):=by rw[z.out,Lib.decDigits_one (i:=n%10) (by omega)]
   obtain⟨D,a⟩:=ex (Lib.decDigits (n /10))
   obtain⟨E,b⟩:=ex (Lib.decDigits (n%10))
   have x:Hid (Lib.decDigits n=D++E):=hid (by rw[C,a,b]);rw[a,b]at m;rw[a,<-y]at k;rw[b,<-A]at d;have HN:=hid hn;have hnI:(n:Int)<=4611686018427387904:=by omega
   clear ih y A v r C a b z hn;go_enter func149,ntmps149;go_wp2_with fail;refine(k.out _).mono ?_;rintro e w1 ⟨rfl,h⟩;have o:=hid h;clear h;go_wp2_with fail;refine(d.out _).mono ?_;rintro e w2 ⟨rfl,l⟩;have t:=hid (o.out.trans (l.mono o.out.size));clear l;go_wp2;go_ret;rw[x.out];exact⟨rfl,t.out⟩
  .have q:¬(9:Int)<(n:Int):=by omega
   obtain⟨c,s⟩:∃c:UInt8,c=UInt8.ofNat (48+n):=⟨_,rfl⟩
   have g:(48:Int)+(n:Int)=(c.toNat:Int):=by rw[s,UInt8.toNat_ofNat'];omega
   have x:Hid (Lib.decDigits n=[c]):=hid (by rw[s];exact Lib.decDigits_one (by omega));have f:=fun W=>zd3 (B:=w.heap.size+1) W [c] (some ⟨w.heap.size,0,none⟩) 1
   have p:=hid f;have hn9:(n:Int)<=9:=by omega
   have hn0:(0:Int)<=(n:Int):=by omega
   clear ih s f hn;go_enter func149,ntmps149;go_upto_region 5 with fail;have j:(convert 78 9 (.slice (some ⟨w.heap.size,0,none⟩) 1 1)).run prog (w.alloc (.cells #[.int .u8 (c.toNat:Int)] 5))=.ok (.string ⟨[c].toArray⟩) (w.alloc (.cells #[.int .u8 (c.toNat:Int)] 5)):=p.out (w.alloc (.cells #[.int .u8 (c.toNat:Int)] 5)) (RowAt.lit1 c _ rfl _ rfl);rw[<-g]at j;clear g;go_wp2;go_ret;rw[x.out];exact⟨rfl,(Below.refl _ _).alloc (Nat.le_refl _) _⟩
theorem zj9 (n:Int) (h0:-4611686018427387904<=n) (h1:n<=4611686018427387904) (w:World):Calls prog 149 #[.int .i64 n] w fun e w'=>e=.returned (.string ⟨(Lib.itoa n).toArray⟩)/\Below w.heap.size w w':=by
 by_cases hn:n<0
 .have d:=hid (fun W=>zdg n.natAbs (by omega) W);rw[show(n.natAbs:Int)=-n from by omega]at d;have b:(Lib.decDigits n.natAbs).length<=20:=by rw[Lib.decDigits_length];exact zbn 19 _ (by omega)
  have hadd:=fun W=>zac [45] (Lib.decDigits n.natAbs) (by simp;omega) W
  have f:Hid (Lib.itoa n=[45]++Lib.decDigits n.natAbs):=hid (by unfold Lib.itoa;rw[if_pos hn];rfl);clear b;go_enter func149,ntmps149;go_wp2_with fail;refine(d.out _).mono ?_;rintro e w1 ⟨rfl,a⟩;have c:=hid a;clear a;go_wp2;go_ret;rw[f.out];exact⟨rfl,c.out⟩
 .have:=zdg n.toNat (by omega) w;rw[show(n.toNat:Int)=n from by omega]at this;unfold Lib.itoa;rw[if_neg hn];exact this
end Go.Proofs.YtpjmhafmeieloaaGreatDoor
