import Derived.Test.YtoigpackhninoaaGreatDoorZ08
namespace Go.Proofs.YtoigpackhninoaaGreatDoor
open Gr
open _root_.Go.Proofs.Tryz
open _root_.Go.Lib (hid)
set_option maxRecDepth 100000
set_option maxHeartbeats 16000000
namespace Gr
structure Ni where
 kind:Int
 text:Str
 ord:Bool
 keys:List Int
 items:List Int
def Ni.nd (x:Ni):Nd:=⟨x.kind,x.text,x.ord,x.keys.map Int.toNat,x.items.map Int.toNat⟩
def inR (n:Nat) (x:Int):Bool:=decide (0<=x) && decide (x<(n:Int))
def rng (n:Nat) (x:Ni):Bool:=(x.keys++x.items).all (inR n)
def indB (is:List Ni) (root:Int):Bool:=inR is.length root && is.all (rng is.length)
end Gr
open Go.RowKit
theorem zsr (l:List Int) (h0:∀x∈l,0<=x):intL.all (l.map Int.toNat)=intI.all l:=by
 induction l with
 |nil=>rfl
 |cons x l ih=>
  have a:intI.all (x::l)=intI.enc x++intI.all l:=rfl;have b:intL.all (x.toNat::l.map Int.toNat)=intL.enc x.toNat++intL.all (l.map Int.toNat):=rfl;have hx:=h0 x (.head _);rw[List.map_cons,a,b,ih (fun y c=>h0 y (.tail _ c))];show[Value.int .i64 ((x.toNat:Nat):Int)]++_=[Value.int .i64 x]++_;rw[show((x.toNat:Nat):Int)=x from by omega]
theorem zks {w:World} {B:Nat} {A:Option Addr} {l:List Int} (h:RowAt intI w B A l) (h0:∀x∈l,0<=x):RowAt intL w B A (l.map Int.toNat):=by
 unfold RowAt at h ⊢;rw[zsr l h0,List.length_map];exact h
theorem ze1 {w:World} {B:Nat} {A:Option Addr} {l:List Int} {k:Nat} (h:RowAt intI w B A l) (hk:k<l.length):∃ad,A=some ad/\ad.block<B/\w.cell? (ad.add k)=some (.int .i64 l[k]):=by
 obtain⟨ad,a,b,c,_⟩:=h.get hk;refine⟨ad,a,b,?_⟩;have:=c (.int .i64 l[k]) rfl;rwa[show k*intI.sz=k from Nat.mul_one k]at this
structure IAt (w:World) (B:Nat) (A:Option Addr) (vs:List NV) (ns:List Gr.Ni):Prop where
 row:RowAt nodeL w B A vs
 len:vs.length=ns.length
 kind:∀j (h:j<vs.length) (h2:j<ns.length),vs[j].kind=ns[j].kind/\vs[j].text=ns[j].text/\vs[j].ord=ns[j].ord
 nums:∀j (h:j<vs.length) (h2:j<ns.length),RowAt intI w B vs[j].k.a ns[j].keys/\vs[j].k.n=ns[j].keys.length/\RowAt intI w B vs[j].i.a ns[j].items/\vs[j].i.n=ns[j].items.length
theorem IAt.below {w w':World} {B:Nat} {A:Option Addr} {vs:List NV} {ns:List Gr.Ni} (h:IAt w B A vs ns) (hb:Below B w w'):IAt w' B A vs ns:=
 ⟨h.row.below hb,h.len,h.kind,fun j f e=>let⟨a,b,c,d⟩:=h.nums j f e;⟨a.below hb,b,c.below hb,d⟩⟩
theorem IAt.more {w:World} {B B':Nat} {A:Option Addr} {vs:List NV} {ns:List Gr.Ni} (h:IAt w B A vs ns) (hB:B<=B'):IAt w B' A vs ns:=
 ⟨h.row.more hB,h.len,h.kind,fun j f e=>let⟨a,b,c,d⟩:=h.nums j f e;⟨a.more hB,b,c.more hB,d⟩⟩
theorem IAt.toG {w:World} {B:Nat} {A:Option Addr} {vs:List NV} {ns:List Gr.Ni} (h:IAt w B A vs ns) (h0:∀x∈ns,∀y∈x.keys++x.items,0<=y):GAt w B A vs (ns.map Gr.Ni.nd):=by
 refine⟨h.row,by simp[h.len],fun j g e=>?_,fun j g e=>?_⟩
 ·rw[List.length_map]at e;rw[List.getElem_map];exact h.kind j g e
 ·rw[List.length_map]at e;rw[List.getElem_map];obtain⟨a,b,c,d⟩:=h.nums j g e;have i:=h0 _ (List.getElem_mem e);exact⟨zks a (fun y f=>i y (List.mem_append_left _ f)),by rw[b];simp[Gr.Ni.nd],zks c (fun y f=>i y (List.mem_append_right _ f)),by rw[d];simp[Gr.Ni.nd]⟩
theorem zbu {is:List Gr.Ni} (h:is.all (rng is.length)=true):(∀x∈is,∀y∈x.keys++x.items,0<=y)/\Refs (is.map Gr.Ni.nd):=by
 have d:∀x∈is,∀y∈x.keys++x.items,0<=y/\y<(is.length:Int):=by
  intro x a y b;have:=List.all_eq_true.1 (List.all_eq_true.1 h x a) y b;simpa[inR]using this
 refine⟨fun x a y b=>(d x a y b).1,fun x a r c=>?_⟩;obtain⟨y,b,rfl⟩:=List.mem_map.1 a;rw[List.length_map];rw[Gr.Ni.nd,<-List.map_append]at c;obtain⟨z,e,rfl⟩:=List.mem_map.1 c;have:=d y b z e;omega
theorem IAt.node {w:World} {B:Nat} {A:Option Addr} {vs:List NV} {ns:List Gr.Ni} (h:IAt w B A vs ns) {j:Nat} (hj:j<ns.length):∃(ad:Addr) (k i:SV),A=some ad/\ad.block<B/\w.cell? (ad.add (j*5))=some (.int .i64 ns[j].kind)/\w.cell? {block:=(ad.add (j*5)).block,off:=(ad.add (j*5)).off+1}=some (.string ⟨ns[j].text.toArray⟩)/\w.cell? {block:=(ad.add (j*5)).block,off:=(ad.add (j*5)).off+2}=some (.bool ns[j].ord)/\
 w.cell? {block:=(ad.add (j*5)).block,off:=(ad.add (j*5)).off+3}=some (.slice k.a k.n k.c)/\w.cell? {block:=(ad.add (j*5)).block,off:=(ad.add (j*5)).off+4}=some (.slice i.a i.n i.c)/\RowAt intI w B k.a ns[j].keys/\k.n=ns[j].keys.length/\RowAt intI w B i.a ns[j].items/\i.n=ns[j].items.length:=by
 have b:j<vs.length:=by rw[h.len];exact hj
 obtain⟨ad,t,o,e,f,d,g,p⟩:=znx h.row b;obtain⟨v,q,l⟩:=h.kind j b hj;obtain⟨m,s,r,u⟩:=h.nums j b hj;rw[v]at e;rw[q]at f;rw[l]at d;exact⟨ad,vs[j].k,vs[j].i,t,o,e,f,d,g,p,m,s,r,u⟩
theorem zb3 {α:Type} (f:α->Bool) (l:List α) (k:Nat) (h:k<l.length):(l.take (k+1)).all f=((l.take k).all f && f l[k]):=by
 rw[List.take_succ_eq_append_getElem h,List.all_append];simp
theorem ze2 (A:Option Addr) (c:Nat) (root:Int) (vs:List NV) (ns:List Gr.Ni) (hl:ns.length<=1073741823) (hks:∀n∈ns,n.keys.length<=1073741823/\n.items.length<=1073741823) (w:World) (h:IAt w w.heap.size A vs ns):
 Calls prog 33 #[.agg #[.slice A ns.length c,.int .i64 root]] w fun e w'=>e=.returned (.bool (indB ns root))/\Below w.heap.size w w':=by
 have H:=hid h;obtain⟨D,a⟩:=ex (inR ns.length root)
 have l:=hid a;unfold inR at a;clear h;go_enter func33,ntmps33;go_upto_region 1 with fail;go_cut [3] (fun s3 wx=>s3=.bool D/\∃w1,w1=wx/\w1=w.alloc (.cells #[.slice A ns.length c,.int .i64 root] 24))
 case first=>
  by_cases h1:0<=root
  ·by_cases h2:root<(ns.length:Int)
   ·obtain rfl:D=true:=by rw[<-a];simp[h1,h2]
    clear a l;go_wp2;go_meet;exact⟨rfl,_,rfl,rfl⟩
   ·obtain rfl:D=false:=by rw[<-a];simp[h2]
    clear a l;go_wp2;go_meet;exact⟨rfl,_,rfl,rfl⟩
  ·obtain rfl:D=false:=by rw[<-a];simp[h1]
   clear a l;go_wp2;go_meet;exact⟨rfl,_,rfl,rfl⟩
 case rest=>
  obtain⟨rfl,w1,rfl,I⟩:=hcut;have l1:Below w.heap.size w w1:=by rw[I];exact(Below.refl _ _).alloc (Nat.le_refl _) _
  have b1:Blk w1 w.heap.size 24 #[.slice A ns.length c,.int .i64 root]:=by rw[I];exact Blk.new _ _ _
  have R:w1.cell? ⟨w.heap.size,0,none⟩=some (.slice A ns.length c):=b1.cell 0;obtain⟨F,q⟩:=ex w.heap.size
  have HGB:=hid q;have L1:=hid l1;have i:=hid b1;have H1:=hid (H.out.below l1);rw[q]at R i H1;(try rw[q]);have u:Hid (F<w1.heap.size):=hid i.out.lt;clear I l1 b1 q a;go_upto_region 3 with fail;clear R;go_loopw [3,24] (fun s3 s24 wr=>∃(j:Nat) (b:Bool),j<=ns.length/\s24=.int .i64 j/\s3=.bool b/\Hid (b=(D && (ns.take j).all (rng ns.length))/\Below w1.heap.size w1 wr)) (fun _ s24 _=>ns.length-(intOf s24).toNat)
  case atStart=>exact⟨0,D,by omega,rfl,rfl,hid ⟨by simp,Below.refl _ _⟩⟩
  case round=>
   obtain⟨j,b,hj,rfl,rfl,o⟩:=hrel;obtain⟨f,ab⟩:∃f,f=wr:=⟨_,rfl⟩
   subst ab;by_cases hlt:j<ns.length
   ·have L:(j:Int)<(ns.length:Int):=by omega
    obtain⟨ad,ks,is,rfl,M,c0,c1,c2,c3,c4,r1,r2,r3,r4⟩:=(H1.out.below (o.out.2.mono (by have:=u.out;omega))).node hlt;obtain⟨G,kn,K⟩:=ks;obtain⟨E,aa,J⟩:=is;have N:ns[j]∈ns:=List.getElem_mem hlt;obtain⟨Q,S⟩:=hks _ N;have P:Hid ((ns.take (j+1)).all (rng ns.length)=((ns.take j).all (rng ns.length) && (ns[j].keys++ns[j].items).all (inR ns.length))):=hid (by rw[zb3 _ _ _ hlt];rfl);obtain⟨n,hn⟩:=ex (ns[j])
    rw[hn]at c0 c1 c2 r1 r2 r3 r4 Q S P;obtain rfl:kn=n.keys.length:=r2;obtain rfl:aa=n.items.length:=r4;have R:f.cell? ⟨F,0,none⟩=some (.slice (some ad) ns.length c):=(i.out.below o.out.2 u.out).cell 0;have z:=hid (And.intro r1 r3);have v:Hid (F<f.heap.size/\w1.heap.size<=f.heap.size):=hid ⟨by have:=o.out.2.size;have:=u.out;omega,o.out.2.size⟩;clear r1 r3 N hn M;go_upto_region 5 with fail;obtain⟨C,m⟩:=ex (f.alloc (.cells #[.int .i64 n.kind,.string ⟨n.text.toArray⟩,.bool n.ord,.slice G n.keys.length K,.slice E n.items.length J] 35))
    have b5:Blk C f.heap.size 35 #[.int .i64 n.kind,.string ⟨n.text.toArray⟩,.bool n.ord,.slice G n.keys.length K,.slice E n.items.length J]:=by rw[<-m];exact Blk.new _ _ _
    have l5:Below f.heap.size f C:=by rw[<-m];exact(Below.refl _ _).alloc (Nat.le_refl _) _
    have s3:C.cell? ⟨f.heap.size,3,none⟩=some (.slice G n.keys.length K):=b5.cell 3;have s4:C.cell? ⟨f.heap.size,4,none⟩=some (.slice E n.items.length J):=b5.cell 4;(try rw[m]);have L5:=hid l5;clear m b5 l5 c0 c1 c2 c3 c4 R;go_upto_region 6 with fail;obtain⟨k,p⟩:=ex (C.alloc (.cells #[.slice G n.keys.length K,.slice E n.items.length J] 33))
    have b6:Blk k C.heap.size 33 #[.slice G n.keys.length K,.slice E n.items.length J]:=by rw[<-p];exact Blk.new _ _ _
    have T:Below f.heap.size f k:=by rw[<-p];exact L5.out.alloc L5.out.size _
    (try rw[p]);have U:=hid b6;have R:k.cell? ⟨F,0,none⟩=some (.slice (some ad) ns.length c):=((i.out.below o.out.2 u.out).below T v.out.1).cell 0;have O:Hid (RowAt intI k F G n.keys/\RowAt intI k F E n.items):=hid ⟨z.out.1.below (T.mono (by have:=v.out;omega)),z.out.2.below (T.mono (by have:=v.out;omega))⟩;have L6:Hid (Below w1.heap.size w1 k):=hid (o.out.2.trans (T.mono v.out.2));clear p b6 T s3 s4;go_loop [3,34] (fun s3 s34=>∃(r:Nat) (b2:Bool),r<=2/\s34=.int .i64 r/\s3=.bool b2/\Hid (b2=(b && (if r=0 then[]else if r=1 then n.keys else n.keys++n.items).all (inR ns.length)))) (fun _ s34=>2-(intOf s34).toNat)
    case atStart=>exact⟨0,b,by omega,rfl,rfl,hid (by simp)⟩
    case round=>
     obtain⟨r,b2,hr2,rfl,rfl,HR⟩:=hrel;by_cases hrl:r<2
     ·have W:(r:Int)<2:=by omega
      obtain⟨Z,d,cx,e1,X⟩:∃Z d cx,k.cell? ⟨C.heap.size,r,none⟩=some (.slice Z (d:List Int).length cx)/\Hid (RowAt intI k F Z d/\(if r+1=0 then[]else if r+1=1 then n.keys else n.keys++n.items)=(if r=0 then[]else if r=1 then n.keys else n.keys++n.items)++d/\d.length<=1073741823):=by
       obtain rfl|rfl:r=0\/r=1:=by omega
       ·exact⟨G,n.keys,K,U.out.cell 0,hid ⟨O.out.1,by simp,Q⟩⟩
       ·exact⟨E,n.items,J,U.out.cell 1,hid ⟨O.out.2,by simp,S⟩⟩
      have hxl:=X.out.2.2;go_upto_region 9 with fail;clear e1;go_loop [3,40] (fun s3 s40=>∃(y:Nat) (b3:Bool),y<=d.length/\s40=.int .i64 y/\s3=.bool b3/\Hid (b3=(b2 && (d.take y).all (inR ns.length)))) (fun _ s40=>d.length-(intOf s40).toNat)
      case atStart=>exact⟨0,b2,by omega,rfl,rfl,hid (by simp)⟩
      case round=>
       obtain⟨y,b3,hy,rfl,rfl,t⟩:=hrel;by_cases hyl:y<d.length
       ·have V:(y:Int)<(d.length:Int):=by omega
        obtain⟨x,Y⟩:=ex (d[y])
        obtain⟨adx,rfl,hadx,y0⟩:=ze1 X.out.1 hyl;rw[Y]at y0;have s:Hid ((d.take (y+1)).all (inR ns.length)=((d.take y).all (inR ns.length) && (decide (0<=x) && decide (x<(ns.length:Int))))):=hid (by rw[zb3 _ _ _ hyl,Y];rfl);clear Y;cases b3 with
        |false=>
         have g:Hid (false=(b2 && (d.take (y+1)).all (inR ns.length))):=hid (by rw[s.out,<-Bool.and_assoc,<-t.out];rfl);clear t;go_wp2;go_round
         case rel=>exact⟨y+1,false,by omega,by go_num,rfl,g⟩
         case measure=>simp[intOf];omega
        |true=>
         by_cases h1:0<=x
         ·by_cases h2:x<(ns.length:Int)
          ·have g:Hid (true=(b2 && (d.take (y+1)).all (inR ns.length))):=hid (by rw[s.out,<-Bool.and_assoc,<-t.out];simp[h1,h2]);clear t;go_wp2;go_round
           case rel=>exact⟨y+1,true,by omega,by go_num,rfl,g⟩
           case measure=>simp[intOf];omega
          ·have g:Hid (false=(b2 && (d.take (y+1)).all (inR ns.length))):=hid (by rw[s.out,<-Bool.and_assoc,<-t.out];simp[h2]);clear t;go_wp2;go_round
           case rel=>exact⟨y+1,false,by omega,by go_num,rfl,g⟩
           case measure=>simp[intOf];omega
         ·have g:Hid (false=(b2 && (d.take (y+1)).all (inR ns.length))):=hid (by rw[s.out,<-Bool.and_assoc,<-t.out];simp[h1]);clear t;go_wp2;go_round
          case rel=>exact⟨y+1,false,by omega,by go_num,rfl,g⟩
          case measure=>simp[intOf];omega
       ·have V:¬(y:Int)<(d.length:Int):=by omega
        have g:Hid (b3=(b && (if r+1=0 then[]else if r+1=1 then n.keys else n.keys++n.items).all (inR ns.length))):=hid (by
         rw[X.out.2.1,List.all_append,<-Bool.and_assoc,<-HR.out];have:=t.out;rwa[show y=d.length from by omega,List.take_length]at this)
        go_wp2;go_round
        case rel=>exact⟨r+1,b3,by omega,by go_num,rfl,g⟩
        case measure=>simp[intOf];omega
     ·have W:¬(r:Int)<2:=by omega
      have g:Hid (b2=(D && (ns.take (j+1)).all (rng ns.length))/\Below w1.heap.size w1 k):=hid ⟨by
       have:=HR.out;rw[show r=2 from by omega]at this;rw[P.out,<-Bool.and_assoc,<-o.out.1];exact this,L6.out⟩
      go_wp2;go_roundw
      case rel=>exact⟨j+1,b2,by omega,by go_num,rfl,g⟩
      case measure=>simp[intOf];omega
   ·have L:¬(j:Int)<(ns.length:Int):=by omega
    have B:Hid (indB ns root=b/\Below w.heap.size w f):=hid ⟨by
     have:=o.out.1;rw[show j=ns.length from by omega,List.take_length]at this;unfold indB;rw[l.out,this],L1.out.trans (o.out.2.mono L1.out.size)⟩
    go_wp2;go_ret;rw[B.out.1];exact⟨rfl,B.out.2⟩
open Go.RowKit
abbrev SK:=Int×Gr.Str
def skv (k:SK):Value:=.agg #[.int .i64 k.1,.string ⟨k.2.toArray⟩]
theorem zhy:(prog.fieldsOf 91).toList.map (fun f=>(f.name,f.type,f.offset))=[("Index",3,0),("Key",9,1)]:=by kernel_rfl
theorem zpc:prog.underlying 91=some (.struct (prog.fieldsOf 91)):=by kernel_rfl
theorem zss:prog.stoodInHeld 91=false:=by kernel_rfl
theorem zhz:prog.plainKey 3=true:=by kernel_rfl
theorem zh0:prog.plainKey 9=true:=by kernel_rfl
theorem zxp (a b:SK) (w:World):(Op.equal 91 (skv a) (skv b)).run prog w=.ok (a==b) w:=by
 unfold Op.equal Op.maxDepth skv;rw[run_equalIn_struct w 9999 91 _ _ zpc zss];have c:=zhy;obtain⟨i,d⟩:=ex ((prog.fieldsOf 91).toList)
 rw[d]at c ⊢;obtain⟨f,g,rfl⟩:∃f g,i=[f,g]:=by
  rcases i with _|⟨f,_|⟨g,_|⟨h,r⟩⟩⟩
  ·simp at c
  ·simp at c
  ·exact⟨f,g,rfl⟩
  ·simp at c
 simp only[List.map_cons,List.map_nil,List.cons.injEq,Prod.mk.injEq,and_true]at c;obtain⟨⟨o,m,p⟩,k,l,j⟩:=c;simp only[Op.eqFields,o,k,m,l,p,j];have n:∀(x y:Value),(part 3 #[x,y] 0).run prog w=.ok x w:=fun x y=>run_part_plain w zhz rfl
 have q:∀(x y:Value),(part 9 #[x,y] 1).run prog w=.ok y w:=fun x y=>run_part_plain w zh0 rfl
 have e:(a==b)=((a.1==b.1) && (a.2==b.2)):=rfl;have e2:((⟨a.2.toArray⟩:ByteArray).toList==(⟨b.2.toArray⟩:ByteArray).toList)=(a.2==b.2):=by rw[ByteArray.toList_eq,ByteArray.toList_eq]
 rw[e];simp[n,q,run_equalIn_int w 9998 3 .i64 .i64 a.1 b.1 underlying3,run_equalIn_string w 9998 9 _ _ underlying9];by_cases h:a.1=b.1<;>by_cases h2:a.2=b.2<;>simp[h,h2]
structure MapAt (w:World) (D b:Nat) (gl:List (SK×List Nat)) (vs:List Value) (es:Array MapEntry):Prop where
 blk:w.heap[b]? =some (.map es gl.length)
 lv:vs.length=gl.length
 le:es.size=gl.length
 at_:∀i (h:i<es.size) (h1:i<gl.length) (h2:i<vs.length),es[i]=⟨skv gl[i].1,vs[i],i⟩
 own:∀i (h1:i<vs.length) (h2:i<gl.length),OwnRow intL w D 3 vs[i] gl[i].2
 ap:∀i j (h1:i<vs.length) (h2:j<vs.length),i≠j->∀k,vs[i].ownBlock=some k->vs[j].ownBlock≠some k
 nd:(gl.map (·.1)).Nodup
 lo:b<D
 hd:D<=w.heap.size
theorem zpd (em:Bool) (n:Nat) (k:SK) (w:World):(Instr.checkKey em (n+1+1) 91 (skv k)).run prog w=.ok () w:=by
 unfold skv;have a:=zhy;have q:∀(x y:Value),(part 3 #[x,y] 0).run prog w=.ok x w:=fun x y=>run_part_plain w zhz rfl
 have u:∀(x y:Value),(part 9 #[x,y] 1).run prog w=.ok y w:=fun x y=>run_part_plain w zh0 rfl
 have i:∀(x:Int),(Instr.checkKey em (n+1) 3 (.int .i64 x)).run prog w=.ok () w:=fun x=>by simp[Instr.checkKey,run_underlying underlying3]
 have d:∀(x:ByteArray),(Instr.checkKey em (n+1) 9 (.string x)).run prog w=.ok () w:=fun x=>by simp[Instr.checkKey,run_underlying underlying9]
 generalize hn:n+1=m at i d;rw[Instr.checkKey];simp only[Sem.run_bind,run_underlying zpc,Result.andThen_ok];rw[<-Array.forIn_toList];obtain⟨e,c⟩:=ex ((prog.fieldsOf 91).toList)
 rw[c]at a ⊢;obtain⟨f,g,rfl⟩:∃f g,e=[f,g]:=by
  rcases e with _|⟨f,_|⟨g,_|⟨h,r⟩⟩⟩
  ·simp at a
  ·simp at a
  ·exact⟨f,g,rfl⟩
  ·simp at a
 simp only[List.map_cons,List.map_nil,List.cons.injEq,Prod.mk.injEq,and_true]at a;obtain⟨⟨s,p,t⟩,l,o,j⟩:=a;simp[List.forIn_cons,s,p,t,l,o,j,q,u,i,d]
theorem zej (em:Bool) (k:SK) (w:World):(Instr.checkKey em 10000 91 (skv k)).run prog w=.ok () w:=zpd em 9998 k w
theorem zxq (k:SK) (W:World):∀(gl:List (SK×List Nat)) (vs:List Value) (es:List MapEntry) (m:Nat),es.length=gl.length->vs.length=gl.length->(∀i (h:i<es.length) (h1:i<gl.length) (h2:i<vs.length),es[i].key=skv gl[i].1/\es[i].val=vs[i])->
 (∃j,∃(h1:j<gl.length) (h2:j<vs.length),gl[j].1=k/\(Instr.findAsking 91 (skv k) es m).run prog W=.ok (some (m+j,vs[j])) W)\/((∀g∈gl,g.1≠k)/\(Instr.findAsking 91 (skv k) es m).run prog W=.ok none W):=by
 intro gl
 induction gl with
 |nil=>
  intro vs es m h1 h2 _;obtain rfl:=List.eq_nil_of_length_eq_zero h1;exact .inr ⟨by simp,by simp[Instr.findAsking]⟩
 |cons g gl ih=>
  intro vs es m h1 h2 n
  match es,vs,h1,h2 with
  |e::es,v::vs,h1,h2=>
   obtain⟨f,o⟩:=n 0 (by simp) (by simp) (by simp);simp only[List.getElem_cons_zero]at f o;by_cases hk:g.1=k
   ·refine .inl ⟨0,by simp,by simp,by simpa using hk,?_⟩;simp[Instr.findAsking,f,zxp,hk,o]
   ·have l:(k==g.1)=false:=by simpa using fun e=>hk e.symm
    have p:(Instr.findAsking 91 (skv k) (e::es) m).run prog W=(Instr.findAsking 91 (skv k) es (m+1)).run prog W:=by
     simp[Instr.findAsking,f,zxp,l]
    rw[p];rcases ih vs es (m+1) (by simpa using h1) (by simpa using h2) (fun i a b c=>by
     have:=n (i+1) (by simp;omega) (by simp;omega) (by simp;omega);simpa using this)with⟨j,a,b,c,d⟩|⟨a,b⟩
    ·refine .inl ⟨j+1,by simp;omega,by simp;omega,by simpa using c,?_⟩;rw[d];simp;omega
    ·grind
section
variable {w w2:World} {D b:Nat} {gl:List (SK×List Nat)} {vs:List Value} {es:Array MapEntry}
theorem MapAt.find (h:MapAt w D b gl vs es) (k:SK) (W:World):(∃j,∃(h1:j<gl.length) (h2:j<vs.length),gl[j].1=k/\(Instr.findKey 91 (skv k) es.toList).run prog W=.ok (some (j,vs[j])) W)\/((∀g∈gl,g.1≠k)/\(Instr.findKey 91 (skv k) es.toList).run prog W=.ok none W):=by
 rw[run_findKey_eq W (k:=91) (by rw[zpc])];have:=zxq k W gl vs es.toList 0 (by simpa using h.le) h.lv (fun i a h1 h2=>by
  have:=h.at_ i (by simpa using a) h1 h2;simp only[Array.getElem_toList,this];exact⟨trivial,trivial⟩)
 simpa using this
theorem MapAt.look (h:MapAt w D b gl vs es) (k:SK):(∃j,∃(h1:j<gl.length) (h2:j<vs.length),gl[j].1=k/\(Instr.lookup 89 (.map (some b)) (skv k) false).run prog w=.ok vs[j] w)\/((∀g∈gl,g.1≠k)/\(Instr.lookup 89 (.map (some b)) (skv k) false).run prog w=.ok (.slice none 0 0) w):=by
 rcases h.find k w with⟨j,h1,h2,c,a⟩|⟨h1,h2⟩
 ·refine .inl ⟨j,h1,h2,c,?_⟩;simp[Instr.lookup,run_underlying underlying89,MapKept.run_getObj_map h.blk,zej,a]
 ·refine .inr ⟨h1,?_⟩;simp[Instr.lookup,run_underlying underlying89,MapKept.run_getObj_map h.blk,zej,h2]
theorem Kept1.heap {w:World} {g:Nat} (o:Obj):Kept1 g w {w with heap:=w.heap.setIfInBounds g o}:=by
 refine⟨rfl,rfl,rfl,by simp,fun k a=>?_⟩;show(w.heap.setIfInBounds g o)[k]? =_;rw[Array.getElem?_setIfInBounds_ne (Ne.symm a)]
theorem zgw {w:World} {g:Nat} {o o':Obj} (h:w.heap[g]? =some o):({w with heap:=w.heap.setIfInBounds g o'}:World).heap[g]? =some o':=by
 grind
theorem OwnRow.kept1 {α:Type} {L:Lay α} {w w':World} {base g:Nat} {E:TypeId} {v:Value} {l:List α} (h:OwnRow L w base E v l) (hk:Kept1 g w w') (hg:g<base):OwnRow L w' base E v l:=by
 have hlt:=h.lt;refine⟨h.1,h.2.imp id ?_⟩;rintro⟨e,a,d,i,c,f,r⟩;exact⟨e,a,d,i,c,(hk.block e (by omega)).trans f,r⟩
theorem MapAt.entry (h:MapAt w D b gl vs es) (k:SK):∃(w1:World) (gl1:List (SK×List Nat)) (vs1:List Value) (es1:Array MapEntry) (j:Nat),∃(h1:j<gl1.length) (h2:j<vs1.length),(Instr.mapEntry 89 (.map (some b)) (skv k)).run prog w=.ok (.tuple #[vs1[j],.int .i64 (j:Int)]) w1/\Kept1 b w w1/\MapAt w1 D b gl1 vs1 es1/\gl1[j].1=k/\
 (gl1=gl\/((∀g∈gl,g.1≠k)/\gl1=gl++[(k,[])])):=by
 rcases h.find k w with⟨j,h1,h2,p,x⟩|⟨h1,h2⟩
 ·have f:j<es.size:=by rw[h.le];exact h1
  have n:(es[j]?.map (·.key)).getD (skv k)=skv k:=by
   rw[Array.getElem?_eq_getElem f,h.at_ j f h1 h2];simp[p]
  have hborn:(es[j]?.map (·.born)).getD 0=j:=by
   rw[Array.getElem?_eq_getElem f,h.at_ j f h1 h2];simp
  have m:(Instr.keyThatStays (skv k) (skv k)).run prog w=.ok (skv k) w:=by
   have:Instr.sameBits 10000 (skv k) (skv k)=true:=by
    show Instr.sameBits (9999+1) (skv k) (skv k)=true;unfold skv;rw[Instr.sameBits];simp[Instr.sameBits,(MapKept.bytes_beq _ _).2 rfl]
   simp[Instr.keyThatStays,this]
  have o:es.modify j (fun e=>{e with key:=skv k})=es:=by
   apply Array.ext
   ·simp
   ·intro i a c;rw[Array.getElem_modify];split
    ·subst i;rw[h.at_ j f h1 h2,p]
    ·rfl
  refine⟨{w with heap:=w.heap.setIfInBounds b (.map es gl.length)},gl,vs,es,j,h1,h2,?_,Kept1.heap _,?_,p,.inl rfl⟩
  ·simp[Instr.mapEntry,run_underlying underlying89,MapKept.run_getObj_map h.blk,zej,x,n,m,o,MapKept.run_setObj_map _ h.blk,goInt];rw[Array.getElem?_eq_getElem f,h.at_ j f h1 h2];simp
  ·exact⟨zgw h.blk,h.lv,h.le,h.at_,fun i a c=>(h.own i a c).kept1 (Kept1.heap _) h.lo,h.ap,h.nd,h.lo,by have:=h.hd;simpa using this⟩
 ·have hb:=h.lo;refine⟨{w with heap:=w.heap.setIfInBounds b (.map (es.push ⟨skv k,.slice none 0 0,gl.length⟩) (gl.length+1))},gl++[(k,[])],vs++[.slice none 0 0],es.push ⟨skv k,.slice none 0 0,gl.length⟩,gl.length,by simp,by simp[h.lv],?_,Kept1.heap _,?_,by simp,.inr ⟨h1,rfl⟩⟩
  ·have:(vs++[Value.slice none 0 0])[gl.length]'(by simp[h.lv])=.slice none 0 0:=by simp[<-h.lv]
   simp[Instr.mapEntry,run_underlying underlying89,MapKept.run_getObj_map h.blk,zej,h2,MapKept.run_setObj_map _ h.blk,goInt,this]
  ·refine⟨?_,by simp[h.lv],by simp[h.le],?_,?_,?_,?_,h.lo,by have:=h.hd;simpa using this⟩
   ·rw[zgw h.blk];simp
   ·intro i a c d;simp only[Array.size_push,List.length_append,List.length_cons,List.length_nil,h.le]at a c d;by_cases hi:i<gl.length
    ·rw[Array.getElem_push_lt (by rw[h.le];exact hi),h.at_ i (by rw[h.le];exact hi) hi (by rw[h.lv];exact hi),List.getElem_append_left hi,List.getElem_append_left (by rw[h.lv];exact hi)]
    ·have l:i=gl.length:=by omega
     subst l;have u:(es.push ⟨skv k,.slice none 0 0,gl.length⟩)[gl.length]'(by simp[h.le])=⟨skv k,.slice none 0 0,gl.length⟩:=by
      simp[Array.getElem_push,h.le]
     rw[u];have r:(vs++[Value.slice none 0 0])[gl.length]'(by simp[h.lv])=.slice none 0 0:=by simp[<-h.lv]
     rw[r];simp
   ·intro i a c;simp only[List.length_append,List.length_cons,List.length_nil]at a c;by_cases hi:i<gl.length
    ·have s:i<vs.length:=by rw[h.lv];exact hi
     rw[List.getElem_append_left s,List.getElem_append_left hi];exact(h.own i s hi).kept1 (Kept1.heap _) h.lo
    ·have l:i=gl.length:=by omega
     subst l;have r:(vs++[Value.slice none 0 0])[gl.length]'(by simp[h.lv])=.slice none 0 0:=by simp[<-h.lv]
     rw[r];simp only[List.getElem_concat_length];exact OwnRow.nil
   ·intro i j a c q g e;simp only[List.length_append,List.length_cons,List.length_nil]at a c;by_cases hi:i<vs.length
    ·rw[List.getElem_append_left hi]at e;by_cases hj:j<vs.length
     ·rw[List.getElem_append_left hj];exact h.ap i j hi hj q g e
     ·have f:j=vs.length:=by omega
      subst f;simp[Value.ownBlock]
    ·have l:i=vs.length:=by omega
     subst l;simp[Value.ownBlock]at e
   ·rw[List.map_append,List.nodup_append];refine⟨h.nd,by simp,?_⟩;intro a y c t;simp at t;subst t;obtain⟨g,v,rfl⟩:=List.mem_map.1 y;exact h1 g v
theorem MapAt.store (h:MapAt w D b gl vs es) {j:Nat} (h1:j<gl.length) (h2:j<vs.length) {v2:Value} {l:List Nat} (ho:OwnRow intL w2 D 3 v2 l) (hg:w.grownBy w2 (vs[j]).ownBlock) (hat:v2.ownBlock=(vs[j]).ownBlock\/v2.ownBlock=some w.heap.size):
 ∃w3 es3,(Instr.entryStore 89 (.map (some b)) (.int .i64 (j:Int)) v2).run prog w2=.ok () w3/\Kept1 b w2 w3/\MapAt w3 D b (gl.set j (gl[j].1,l)) (vs.set j v2) es3:=by
 have o:=h.lo;have hsz:=hg.size;have n:j<es.size:=by rw[h.le];exact h1
 have m:w2.heap[b]? =some (.map es gl.length):=(hg.block b (by have:=h.hd;omega) (fun e=>by have:=((h.own j h2 h1).lt b e.symm).1;omega)).trans h.blk;have q:es.findIdx? (fun e=>((e.born:Nat):Int)==(j:Int))=some j:=by
  rw[Array.findIdx?_eq_some_iff_getElem];refine⟨n,by rw[h.at_ j n h1 h2];simp,fun i f=>?_⟩;rw[h.at_ i (by omega) (by omega) (by have:=h.lv;omega)];simp;omega
 have hap:∀i (a:i<vs.length),i≠j->∀k,v2.ownBlock=some k->vs[i].ownBlock≠some k:=by
  intro i a p k e s;rcases hat with h3|h3
  ·exact h.ap i j a h2 p k s (h3.symm.trans e)
  ·have:=((h.own i a (by have:=h.lv;omega)).lt k s).2;rw[h3]at e;injection e with e;omega
 refine⟨{w2 with heap:=w2.heap.setIfInBounds b (.map (es.modify j fun e=>{e with val:=v2}) gl.length)},es.modify j fun e=>{e with val:=v2},?_,Kept1.heap _,?_⟩
 ·simp[Instr.entryStore,MapKept.run_getObj_map m,asInt,asIntOf,q,MapKept.run_setObj_map _ m]
 ·refine⟨by rw[zgw m];simp,by simp[h.lv],by simp[h.le],?_,?_,?_,?_,o,by have:=h.hd;simp;omega⟩
  ·intro i a c d;simp only[Array.size_modify,List.length_set]at a c d;rw[Array.getElem_modify];by_cases f:i=j
   ·subst f;simp only[if_true,List.getElem_set_self];rw[h.at_ i n h1 h2]
   ·rw[if_neg (by omega),List.getElem_set_ne (by omega),List.getElem_set_ne (by omega),h.at_ i (by rw[h.le];simpa using c) (by simpa using c) (by simpa using d)]
  ·intro i a c;have r:i<vs.length:=by simpa using a
   have t:i<gl.length:=by simpa using c
   by_cases f:i=j
   ·subst f;simp only[List.getElem_set_self];exact ho.kept1 (Kept1.heap _) o
   ·simp only[List.getElem_set_ne (Ne.symm f)];exact((h.own i r t).off hg (fun k e s=>h.ap i j r h2 f k e s.symm)).kept1 (Kept1.heap _) o
  ·intro i u a c p g e;have r:i<vs.length:=by simpa using a
   have t:u<vs.length:=by simpa using c
   by_cases f:i=j
   ·grind
   ·simp only[List.getElem_set_ne (Ne.symm f)]at e;by_cases hj:u=j
    ·grind
    ·simp only[List.getElem_set_ne (Ne.symm hj)];exact h.ap i u r t p g e
  ·have:(gl.set j (gl[j].1,l)).map (·.1)=gl.map (·.1):=by
    apply List.ext_getElem
    ·simp
    ·grind
   rw[this];exact h.nd
end
structure GI (kd:Nat->SK) (P:List Nat) (gl:List (SK×List Nat)):Prop where
 grp:∀g∈gl,g.2=P.filter (fun x=>kd x==g.1)
 all:∀x∈P,∃g∈gl,g.1=kd x
theorem GI.nil (kd:Nat->SK):GI kd [] []:=⟨fun _ h=>(by cases h),fun _ h=>(by cases h)⟩
theorem GI.none {kd:Nat->SK} {P:List Nat} {gl:List (SK×List Nat)} (h:GI kd P gl) {k:SK} (hk:∀g∈gl,g.1≠k):P.filter (fun x=>kd x==k)=[]:=by
 rw[List.filter_eq_nil_iff];intro x a e;obtain⟨g,c,d⟩:=h.all x a;exact hk g c (d.trans (by simpa using e))
theorem GI.next {kd:Nat->SK} {P:List Nat} {gl gl1:List (SK×List Nat)} (h:GI kd P gl) {x j:Nat} (h1:j<gl1.length) (hk:gl1[j].1=kd x) (hor:gl1=gl\/((∀g∈gl,g.1≠kd x)/\gl1=gl++[(kd x,[])])) (hn:(gl1.map (·.1)).Nodup):
 GI kd (P++[x]) (gl1.set j (gl1[j].1,gl1[j].2++[x])):=by
 have k:GI kd P gl1:=by
  rcases hor with rfl|⟨h2,rfl⟩
  ·exact h
  ·refine⟨fun g hg=>?_,fun y hy=>?_⟩
   ·rcases List.mem_append.1 hg with hg|hg
    ·exact h.grp g hg
    ·simp at hg;subst hg;exact(h.none h2).symm
   ·obtain⟨g,hg,d⟩:=h.all y hy;exact⟨g,List.mem_append_left _ hg,d⟩
 have hj:=k.grp _ (List.getElem_mem h1);refine⟨fun g hg=>?_,fun y hy=>?_⟩
 ·obtain⟨i,c,rfl⟩:=List.getElem_of_mem hg;simp only[List.length_set]at c;by_cases hij:i=j
  ·grind
  ·simp only[List.getElem_set_ne (Ne.symm hij),List.filter_append];rw[<-k.grp _ (List.getElem_mem c)];have f:gl1[i].1≠kd x:=fun e=>by
    have hn':=List.pairwise_iff_getElem.1 (show(gl1.map (·.1)).Pairwise (· ≠·)from hn);rcases Nat.lt_or_gt_of_ne hij with h3|h3
    ·grind
    ·grind
   simp[Ne.symm f]
 ·have a:∀g∈gl1,∃g'∈gl1.set j (gl1[j].1,gl1[j].2++[x]),g'.1=g.1:=by
   intro g hg;obtain⟨i,c,rfl⟩:=List.getElem_of_mem hg;refine⟨(gl1.set j (gl1[j].1,gl1[j].2++[x]))[i]'(by simpa using c),List.getElem_mem _,?_⟩;by_cases hij:i=j
   ·subst hij;simp
   ·grind
  rcases List.mem_append.1 hy with hy|hy
  ·obtain⟨g,hg,d⟩:=k.all y hy;obtain⟨g',h3,l⟩:=a g hg;exact⟨g',h3,l.trans d⟩
  ·grind
theorem zc0 (ns:List Gr.Nd) (f:Nat) (l:List Nat) (z:Nat):twice1 ns f (l++[z])=(twice1 ns f l || l.any (fun x=>sameF ns f z x)):=by
 induction l with
 |nil=>rfl
 |cons x l ih=>
  rw[List.cons_append];show((l++[z]).any (fun y=>sameF ns f y x) || twice1 ns f (l++[z]))=((l.any (fun y=>sameF ns f y x) || twice1 ns f l) || (x::l).any (fun x=>sameF ns f z x))
  rw[ih];simp only[List.any_append,List.any_cons,List.any_nil,Bool.or_false];cases l.any (fun y=>sameF ns f y x)<;>cases sameF ns f z x<;>cases twice1 ns f l<;>simp
theorem zjm (ns:List Gr.Nd) (f:Nat) (l m:List Nat) (h:twice1 ns f l=true):twice1 ns f (l++m)=true:=by
 induction m generalizing l with
 |nil=>simpa using h
 |cons x m ih=>
  rw[show l++x::m=(l++[x])++m from by simp];exact ih _ (by rw[zc0,h];rfl)
theorem zjn (ns:List Gr.Nd) (f:Nat) (l:List Nat) (k:Nat) (h:twice1 ns f (l.take k)=true):twice1 ns f l=true:=by
 have:=zjm ns f (l.take k) (l.drop k) h;rwa[List.take_append_drop]at this
def kdOf (ns:List Gr.Nd) (x:Nat):SK:=((ns.getD x ⟨0,[],false,[],[]⟩).kind,(ns.getD x ⟨0,[],false,[],[]⟩).text)
theorem zvm {ns:List Gr.Nd} {f i j:Nat} (h:sameF ns f i j=true):kdOf ns i=kdOf ns j:=by
 cases f with
 |zero=>cases h
 |succ f=>
  unfold sameF at h;split at h
  ·rename_i a b ha hb;have c:ns.getD i ⟨0,[],false,[],[]⟩=a:=by rw[List.getD_eq_getElem?_getD,ha];rfl
   have d:ns.getD j ⟨0,[],false,[],[]⟩=b:=by rw[List.getD_eq_getElem?_getD,hb];rfl
   unfold kdOf;rw[c,d];split at h
   ·cases h
   ·rename_i hn;simp only[not_or,Classical.not_not]at hn;rw[hn.1,hn.2.1]
  ·cases h
theorem MapAt.later {w w':World} {D b:Nat} {gl:List (SK×List Nat)} {vs:List Value} {es:Array MapEntry} (h:MapAt w D b gl vs es) (hb:Below w.heap.size w w'):MapAt w' D b gl vs es:=
 ⟨(hb.block b (by have:=h.lo;have:=h.hd;omega)).trans h.blk,h.lv,h.le,h.at_,fun i a c=>(h.own i a c).later hb,h.ap,h.nd,h.lo,Nat.le_trans h.hd hb.size⟩
theorem MapAt.lookL {w:World} {D b:Nat} {gl:List (SK×List Nat)} {vs:List Value} {es:Array MapEntry} (h:MapAt w D b gl vs es) {kd:Nat->SK} {P:List Nat} (hg:GI kd P gl) (k:SK):
 ∃A c,(Instr.lookup 89 (.map (some b)) (skv k) false).run prog w=.ok (.slice A (P.filter (fun x=>kd x==k)).length c) w/\RowAt intL w w.heap.size A (P.filter (fun x=>kd x==k)):=by
 rcases h.look k with⟨j,a,d,l,i⟩|⟨a,d⟩
 ·obtain⟨A,c,g,f⟩:=(h.own j d a).form;have e:=hg.grp _ (List.getElem_mem a);rw[l]at e;rw[e]at g f;exact⟨A,c,by rw[i,g],f⟩
 ·rw[hg.none a];exact⟨none,0,d,RowAt.nil⟩
theorem zpe (F:Nat) (A:Option Addr) (c:Nat) (root:Int) (vs:List NV) (ns:List Gr.Nd) (hr:Refs ns) (hl:ns.length<=1073741823) (hks:∀n∈ns,n.keys.length<=1073741823/\n.items.length<=1073741823)
 (hsame:∀x∈allKeys ns,∀y∈allKeys ns,∀W,GAt W W.heap.size A vs ns->Calls prog 64 #[.agg #[.slice A ns.length c,.int .i64 root],.int .i64 x,.int .i64 y] W fun e W'=>e=.returned (.bool (sameF ns F x y))/\Below W.heap.size W W')
 (w:World) (h:GAt w w.heap.size A vs ns):
 Calls prog 38 #[.agg #[.slice A ns.length c,.int .i64 root]] w fun e w'=>e=.returned (.bool (twice ns F))/\Below w.heap.size w w':=by
 have H:=hid h;have az:=hid hsame;have hmm:= @run_makeMap prog;clear h hsame;go_enter func38,ntmps38;go_upto_region 1 with fail;obtain⟨w1,ae⟩:=ex (w.alloc (.cells #[.slice A ns.length c,.int .i64 root] 24))
 (try rw[ae]);have l1:Below w.heap.size w w1:=by rw[<-ae];exact(Below.refl _ _).alloc (Nat.le_refl _) _
 have b1:Blk w1 w.heap.size 24 #[.slice A ns.length c,.int .i64 root]:=by rw[<-ae];exact Blk.new _ _ _
 obtain⟨gb,af⟩:=ex w.heap.size
 have d:=hid af;have L1:=hid l1;(try rw[af]);rw[af]at b1;have aC:=hid b1;have H1:=hid (H.out.below l1);have g0:w1.cell? ⟨gb,0,none⟩=some (.slice A ns.length c):=b1.cell 0;have p:Hid (gb<w1.heap.size):=hid b1.lt;clear ae af l1 b1;go_upto_region 2 with fail;clear g0;go_loopw [14] (fun s14 wr=>∃j:Nat,j<=ns.length/\s14=.int .i64 j/\Hid (Below w1.heap.size w1 wr/\(ns.take j).any (fun x=>twice1 ns F x.keys)=false)) (fun s14 _=>ns.length-(intOf s14).toNat)
 case atStart=>exact⟨0,by omega,rfl,hid ⟨Below.refl _ _,by simp⟩⟩
 case round=>
  obtain⟨j,hj,rfl,J⟩:=hrel;obtain⟨K,bk⟩:∃K,K=wr:=⟨_,rfl⟩
  subst bk;by_cases hlt:j<ns.length
  ·have aP:(j:Int)<(ns.length:Int):=by omega
   have ag:Hid (gb<K.heap.size/\w1.heap.size<=K.heap.size):=hid ⟨by have:=J.out.1.size;have:=p.out;omega,J.out.1.size⟩;obtain⟨ad,ks,is,rfl,X⟩:=(H1.out.below (J.out.1.mono (by have:=p.out;have:=d.out;omega))).node hlt;obtain⟨ka,kn,kc⟩:=ks;obtain⟨ia,a3,ic⟩:=is;have N:ns[j]∈ns:=List.getElem_mem hlt;obtain⟨bf,a7⟩:=hks _ N;have aB:Hid (∀x∈ns[j].keys,x∈allKeys ns/\x<ns.length):=hid (fun x hx=>⟨List.mem_flatMap.2 ⟨_,N,hx⟩,hr _ N x (List.mem_append_left _ hx)⟩);have ar:Hid ((ns.take (j+1)).any (fun x=>twice1 ns F x.keys)=twice1 ns F ns[j].keys/\(twice1 ns F ns[j].keys=true->twice ns F=true)):=hid ⟨by
    rw[List.take_succ_eq_append_getElem hlt,List.any_append,J.out.2];simp,fun e=>List.any_eq_true.2 ⟨_,N,e⟩⟩
   obtain⟨n,hn⟩:=ex (ns[j])
   rw[hn]at X bf a7 aB ar;obtain rfl:kn=n.keys.length:=X.kn;obtain rfl:a3=n.items.length:=X.inn;have x0:=X.c0;have x1:=X.c1;have x2:=X.c2;have x3:=X.c3;have x4:=X.c4;have be:=hid X.keys;clear X N hn;go_upto_region 5 with fail;obtain⟨B,C⟩:=ex ((K.alloc (.cells #[.int .i64 n.kind,.string ⟨n.text.toArray⟩,.bool n.ord,.slice ka n.keys.length kc,.slice ia n.items.length ic] 35)).alloc (.map #[] 0))
   obtain⟨lb,u⟩:=ex K.heap.size
   have b5:Blk B lb 35 #[.int .i64 n.kind,.string ⟨n.text.toArray⟩,.bool n.ord,.slice ka n.keys.length kc,.slice ia n.items.length ic]:=by rw[<-C,<-u];exact(Blk.new _ _ _).alloc _
   have m5:B.heap[lb+1]? =some (.map #[] 0):=by
    rw[<-C,<-u];have:=heap_alloc_new (K.alloc (.cells #[.int .i64 n.kind,.string ⟨n.text.toArray⟩,.bool n.ord,.slice ka n.keys.length kc,.slice ia n.items.length ic] 35)) (.map #[] 0);rw[World.size_alloc]at this;exact this
   have l5:Below K.heap.size K B:=by rw[<-C];exact((Below.refl _ _).alloc (Nat.le_refl _) _).alloc (by simp) _
   have aa:B.heap.size=lb+1+1:=by rw[<-C,<-u];simp
   obtain⟨q,ac⟩:=ex (lb+1)
   rw[ac]at m5 aa;have am:MapAt B (q+1) q [] [] #[]:=⟨m5,rfl,rfl,fun i h=>by simp at h,fun i h=>by simp at h,fun i j h=>by simp at h,by simp,by omega,by omega⟩
   obtain⟨D,hD⟩:=ex (q+1)
   rw[hD]at am aa;have a:Hid (gb<lb/\lb+1=q/\q+1=D/\K.heap.size=lb/\B.heap.size=D):=hid ⟨by have:=ag.out;omega,ac,hD,u,aa⟩;have s3:B.cell? ⟨lb,3,none⟩=some (.slice ka n.keys.length kc):=b5.cell 3;have ba:=hid am;have HB5:=hid b5;have L5:Hid (Below lb K B):=hid (by rw[<-u];exact l5);have bl:Hid (RowAt intL B gb ka n.keys):=hid (by
    have h1:=be.out;rw[d.out]at h1;exact h1.below (l5.mono (by have:=ag.out;omega)))
   rw[C];(try rw[u]);rw[ac];clear C b5 m5 l5 aa ac am hD u x0 x1 x2 x3 x4;go_upto_region 6 with fail;clear s3;go_loopw [22] (fun s22 wr=>∃k:Nat,k<=n.keys.length/\s22=.int .i64 k/\Hid (Below q B wr/\(∃gl vs es,MapAt wr D q gl vs es/\GI (kdOf ns) (n.keys.take k) gl)/\twice1 ns F (n.keys.take k)=false)) (fun s22 _=>n.keys.length-(intOf s22).toNat)
   case atStart=>exact⟨0,by omega,rfl,hid ⟨Below.refl _ _,⟨_,_,_,ba.out,by simpa using GI.nil _⟩,by simp[twice1]⟩⟩
   case round=>
    obtain⟨k,hk,rfl,HV⟩:=hrel;obtain⟨Q,a6⟩:∃Q,Q=wr:=⟨_,rfl⟩
    subst a6;by_cases hlk:k<n.keys.length
    ·have aK:(k:Int)<(n.keys.length:Int):=by omega
     obtain⟨x,hx⟩:=ex (n.keys[k])
     obtain⟨ap,aw⟩:=aB.out n.keys[k] (List.getElem_mem hlk);rw[hx]at ap aw;have aD:Below gb B Q:=HV.out.1.mono (by have:=a.out;omega);obtain⟨adk,rfl,hadk,y0⟩:=zae (bl.out.below aD) hlk;rw[hx]at y0;have hxI:(x:Int)<(ns.length:Int):=by omega
     have g0:Q.cell? ⟨gb,0,none⟩=some (.slice (some ad) ns.length c):=(((aC.out.below J.out.1 p.out).below L5.out a.out.1).below HV.out.1 (by have:=a.out;omega)).cell 0;have aM:GAt Q w.heap.size (some ad) vs ns:=((H1.out.below (J.out.1.mono (by have:=p.out;have:=d.out;omega))).below (L5.out.mono (by have:=d.out;have:=a.out;omega))).below (HV.out.1.mono (by have:=d.out;have:=a.out;omega));obtain⟨ad',kx,ix,T,hX⟩:=aM.node aw;injection T with T
     subst T;have aA:kdOf ns x=(ns[x].kind,ns[x].text):=by unfold kdOf;rw[List.getD_eq_getElem?_getD,List.getElem?_eq_getElem aw];rfl
     obtain⟨nx,aN⟩:=ex (ns[x])
     rw[aN]at hX aA;have z0:=hX.c0;have z1:=hX.c1;have aU:=hid aA;have bb:=hid ap;have HX:=hid hx;clear hX aA aN ap hx aD aM;go_upto_region 8 with fail;go_region_held3 (fun w'=>w'.cell? ⟨gb,0,none⟩=some (.slice (some ad) ns.length c)/\w'.cell? (ad.add (x*5))=some (.int .i64 nx.kind)/\w'.cell? {block:=(ad.add (x*5)).block,off:=(ad.add (x*5)).off+1}=some (.string ⟨nx.text.toArray⟩)) (go_keep) (fail);go_upto_region 9 with fail;obtain⟨M,R⟩:=ex ((Q.alloc (.cells #[.int .i64 nx.kind,.string ⟨nx.text.toArray⟩] 91)).drew)
     obtain⟨sb,O⟩:=ex Q.heap.size
     have b8:Blk M sb 91 #[.int .i64 nx.kind,.string ⟨nx.text.toArray⟩]:=by rw[<-R,<-O];exact(Blk.new _ _ _).drew
     have l8:Below Q.heap.size Q M:=by rw[<-R];exact below_drewN ((Below.refl _ _).alloc (Nat.le_refl _) _) 1
     have aG:M.heap.size=sb+1:=by rw[<-R,<-O];simp[World.drew]
     obtain⟨gl,vl,es,hM,V⟩:=HV.out.2.1;have an:=hM.later l8;obtain⟨AL,cL,f,av⟩:=an.lookL V (kdOf ns x);have ao:∀y∈(n.keys.take k).filter (fun y=>kdOf ns y==kdOf ns x),y∈n.keys.take k:=fun y hy=>(List.mem_filter.1 hy).1
     have t:((n.keys.take k).filter (fun y=>kdOf ns y==kdOf ns x)).any (fun y=>sameF ns F x y)=false->(n.keys.take k).any (fun y=>sameF ns F x y)=false:=by
      intro h1;rw[List.any_eq_false]at h1 ⊢;intro y hy h2;exact h1 y (List.mem_filter.2 ⟨hy,by have:=zvm h2;simp[this]⟩) h2
     have bh:((n.keys.take k).filter (fun y=>kdOf ns y==kdOf ns x)).length<=1073741823:=Nat.le_trans (List.length_filter_le _ _) (Nat.le_trans (List.length_take_le _ _) (by omega));obtain⟨L,hL⟩:=ex ((n.keys.take k).filter (fun y=>kdOf ns y==kdOf ns x))
     rw[hL]at f av ao t bh;rw[aU.out]at f;unfold skv at f;simp only at f;obtain⟨t0,t1⟩:=cells2 b8;have a9:Hid (∃gl vs es,MapAt M D q gl vs es/\GI (kdOf ns) (n.keys.take k) gl):=hid ⟨gl,vl,es,an,V⟩;have a0:Hid (Q.heap.size=sb/\M.heap.size=sb+1/\D<=sb):=hid ⟨O,aG,by have:=hM.hd;omega⟩;have aW:Hid (Below q B M/\twice1 ns F (n.keys.take k)=false):=hid ⟨HV.out.1.trans (l8.mono (by have:=hM.hd;have:=a.out;omega)),HV.out.2.2⟩;have aQ:=hid b8;have bd:=hid av;have a5:=hid ao;have bg:=hid t;rw[R];(try rw[O]);clear R O b8 l8 aG hM V an av ao t hL g0 z0 z1 y0;go_upto_region 10 with fail;clear f t0 t1;go_loopw [43] (fun s43 wr=>∃r:Nat,r<=L.length/\s43=.int .i64 r/\Hid (Below M.heap.size M wr/\(L.take r).any (fun y=>sameF ns F x y)=false)) (fun s43 _=>L.length-(intOf s43).toNat)
     case atStart=>exact⟨0,by omega,rfl,hid ⟨Below.refl _ _,by simp⟩⟩
     case round=>
      obtain⟨r,hr2,rfl,Y⟩:=hrel;obtain⟨o,bm⟩:∃o,o=wr:=⟨_,rfl⟩
      subst bm;have s:Below q B o:=aW.out.1.trans (Y.out.1.mono (by have:=a0.out;have:=a.out;omega));by_cases hrl:r<L.length
      ·have aJ:(r:Int)<(L.length:Int):=by omega
       obtain⟨y,hy⟩:=ex (L[r])
       have aq:y∈n.keys.take k:=by rw[<-hy];exact a5.out _ (List.getElem_mem hrl)
       have aO:y∈n.keys:=List.mem_of_mem_take aq;obtain⟨aT,hyn⟩:=aB.out y aO;obtain⟨adl,rfl,_,y0⟩:=zae (bd.out.below Y.out.1) hrl;rw[hy]at y0;have aX:=(((aC.out.below J.out.1 p.out).below L5.out a.out.1).below s (by have:=a.out;omega))
       obtain⟨g0,g1⟩:=cells2 aX;have aH:GAt o o.heap.size (some ad) vs ns:=(((H1.out.below (J.out.1.mono (by have:=p.out;have:=d.out;omega))).below (L5.out.mono (by have:=d.out;have:=a.out;omega))).below (s.mono (by have:=d.out;have:=a.out;omega))).more (by have:=Y.out.1.size;have:=a0.out;have:=a.out;have:=d.out;omega);have HC:=hid (az.out x bb.out y aT o aH);have aY:Hid ((L.take (r+1)).any (fun y=>sameF ns F x y)=sameF ns F x y):=hid (by rw[List.take_succ_eq_append_getElem hrl,List.any_append,Y.out.2,hy];simp);have aE:Hid (sameF ns F x y=true->twice ns F=true):=hid (fun e=>ar.out.2 (by
        refine zjn ns F n.keys (k+1) ?_;rw[zaj _ _ hlk,zc0,HX.out];have:(n.keys.take k).any (fun z=>sameF ns F x z)=true:=List.any_eq_true.2 ⟨y,aq,e⟩;rw[this];simp))
       obtain⟨b,hb⟩:=ex (sameF ns F x y)
       rw[hb]at HC aY aE;have aS:Hid (Below w.heap.size w o):=hid ((L1.out.trans (J.out.1.mono (by have:=p.out;have:=d.out;omega))).trans ((L5.out.mono (by have:=d.out;have:=a.out;omega)).trans (s.mono (by have:=d.out;have:=a.out;omega))));have aZ:Hid (w.heap.size<=o.heap.size/\M.heap.size<=o.heap.size):=hid ⟨aS.out.size,Y.out.1.size⟩;clear aX aH hy aO aq aT hb s;go_wp2_with fail;refine HC.out.mono ?_;rintro e w9 ⟨rfl,ab⟩;cases b with
       |true=>
        have ai:Hid (twice ns F=true/\Below w.heap.size w w9):=hid ⟨aE.out rfl,aS.out.trans (ab.mono aZ.out.1)⟩;clear ab;go_wp2;go_ret;rw[ai.out.1];exact⟨rfl,ai.out.2⟩
       |false=>
        have U:Hid (Below M.heap.size M w9/\(L.take (r+1)).any (fun y=>sameF ns F x y)=false):=hid ⟨Y.out.1.trans (ab.mono aZ.out.2),aY.out⟩;clear ab;go_wp2;go_roundw
        case rel=>exact⟨r+1,by omega,by go_num,U⟩
        case measure=>simp[intOf];omega
      ·have aJ:¬(r:Int)<(L.length:Int):=by omega
       have aF:twice1 ns F (n.keys.take (k+1))=false:=by
        rw[zaj _ _ hlk,zc0,HX.out,aW.out.2,bg.out (by
         have:=Y.out.2;rwa[show r=L.length from by omega,List.take_length]at this)]
        rfl
       obtain⟨gl,vl,es,hM,V⟩:=a9.out;have aI:=(hM.later Y.out.1).later ((Below.refl o.heap.size o).alloc (Nat.le_refl _) (.cells #[.int .i64 x] 3));obtain⟨wE,m,ax,a2,jj,Z,q2,hE,I,l,S,E⟩:=aI.entry (kdOf ns x);obtain⟨t0,t1⟩:=cells2 (aQ.out.below Y.out.1 aQ.out.lt);have hq:=(l.own jj q2 Z)
       obtain⟨Aj,cj,v,bi⟩:=hq.form;clear bi;rw[v]at hE hq;rw[aU.out]at hE;unfold skv at hE;simp only at hE;have a1:m[jj].2.length<=1073741823:=by
        have aj:∀g∈gl,g.2.length<=k:=fun g hg=>by
         rw[V.grp g hg];exact Nat.le_trans (List.length_filter_le _ _) (List.length_take_le _ _)
        have:∀g∈m,g.2.length<=k:=by
         rcases E with rfl|⟨_,rfl⟩
         ·exact aj
         ·intro g hg;rcases List.mem_append.1 hg with hg|hg
          ·exact aj g hg
          ·simp at hg;subst hg;simp
        have:=this _ (List.getElem_mem Z);omega
       obtain⟨lj,G⟩:=ex (m[jj].2)
       rw[G]at hE hq v a1;have ak:o.heap.size≠q:=by have:=hM.lo;have:=hM.hd;have:=Y.out.1.size;omega
       have P:RowAt intL wE (o.heap.size+1) (some ⟨o.heap.size,0,none⟩) [x]:=RowAt.ofBlk (I.blk (Blk.new o 3 #[.int .i64 x]) ak) rfl (by omega);have HE:Hid (∃(Z:jj<m.length) (q2:jj<ax.length),Kept1 q (o.alloc (.cells #[.int .i64 x] 3)) wE/\MapAt wE D q m ax a2/\m[jj].1=kdOf ns x/\(m=gl\/((∀g∈gl,g.1≠kdOf ns x)/\m=gl++[(kdOf ns x,[])]))/\m[jj].2=lj/\ax[jj]=.slice Aj lj.length cj/\GI (kdOf ns) (n.keys.take k) gl):=hid ⟨Z,q2,I,l,S,E,G,v,V⟩;have a4:=hid aF;have HQ:=hid hq;have aV:=hid P;have bj:Hid (D<=wE.heap.size):=hid l.hd;have bc:=hid s;have a8:Hid (q<=o.heap.size):=hid (by have:=s.size;have:=a.out;omega);clear hM V aI I l S E G v hq P aF s ak Z q2;go_wp2_with (at_builtin;go_must (refine zab _ rfl (.tmp 54) (.tmp 56) 33 3 8 rfl intT D (.slice Aj lj.length cj) lj rfl HQ.out _ _ 1 [x] rfl aV.out ?_ ?_ ?_))
       any_goals (first|exact bj.out| (simp;omega))
       intro v' w3 ah hg ay;obtain⟨Z,q2,I,l,S,E,G,v,V⟩:=HE.out;rw[<-v]at hg ay;obtain⟨w4,es3,hST,aR,aL⟩:=l.store Z q2 ah hg ay;have au:=V.next Z S E l.nd;rw[G]at au;have U:Hid (Below q B w4/\(∃gl vs es,MapAt w4 D q gl vs es/\GI (kdOf ns) (n.keys.take (k+1)) gl)/\twice1 ns F (n.keys.take (k+1))=false):=hid ⟨
        (((bc.out.alloc a8.out _).trans (I.below (Nat.le_refl _))).trans (((l.own jj q2 Z).grown_below hg l.hd).mono (by have:=a.out;omega))).trans (aR.below (Nat.le_refl _)),
        ⟨_,_,_,aL,by rw[zaj _ _ hlk,HX.out];exact au⟩,a4.out⟩
       clear ah hg ay I l S E G v V aR aL au Z q2;go_wp2;go_roundw
       case rel=>exact⟨k+1,by omega,by go_num,U⟩
       case measure=>simp[intOf];omega
    ·have aK:¬(k:Int)<(n.keys.length:Int):=by omega
     have U:Hid (Below w1.heap.size w1 Q/\(ns.take (j+1)).any (fun x=>twice1 ns F x.keys)=false):=hid ⟨(J.out.1.trans (L5.out.mono (by have:=ag.out;have:=a.out;omega))).trans (HV.out.1.mono (by have:=ag.out;have:=a.out;omega)),by
      have:=HV.out.2.2;rw[show k=n.keys.length from by omega,List.take_length]at this;rw[ar.out.1,this]⟩
     go_wp2;go_roundw
     case rel=>exact⟨j+1,by omega,by go_num,U⟩
     case measure=>simp[intOf];omega
  ·have aP:¬(j:Int)<(ns.length:Int):=by omega
   have al:Hid (twice ns F=false/\Below w.heap.size w K):=hid ⟨by
    have:=J.out.2;rw[show j=ns.length from by omega,List.take_length]at this;exact this,L1.out.trans (J.out.1.mono (by have:=p.out;have:=d.out;omega))⟩
   go_wp2;go_ret;rw[al.out.1];exact⟨rfl,al.out.2⟩
end Go.Proofs.YtoigpackhninoaaGreatDoor
