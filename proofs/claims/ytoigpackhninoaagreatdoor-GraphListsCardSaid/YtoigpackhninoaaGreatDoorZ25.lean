import Derived.Test.YtoigpackhninoaaGreatDoorGrRLong
import Derived.Test.YtoigpackhninoaaGreatDoorGrRShift
namespace Go.Proofs.YtoigpackhninoaaGreatDoor
open Gr
open _root_.Go.Proofs.Tryz
open _root_.Go.Lib (hid)
set_option maxRecDepth 100000
set_option maxHeartbeats 16000000
open Go.RowKit
def slL:Lay SV:={enc:=fun x=>[x.v],sz:=1,len:=fun _=>rfl,one:=fun x u hu=>by simp at hu;subst hu;rfl,pos:=by omega}
theorem slT:SliceT prog slL 82 62 24:=zbx slL 82 62 (.slice none 0 0) 24 underlying82 (by kernel_rfl) rfl (by omega)
structure RD (w wr:World) (gc:Array Value) (v:Value) (R:List SV) (ns:List Gr.Nd):Prop where
 below:Below w.heap.size w wr
 gbox:Blk wr w.heap.size 24 gc
 own:OwnRow slL wr (w.heap.size+1) 62 v R
 hd:w.heap.size+1<=wr.heap.size
 rows:∀j (hj:j<R.length),∃ob,R[j]=⟨some ⟨ob,0,none⟩,ns.length,ns.length⟩/\Blk wr ob 4 (bcells (marks ns j))
theorem zuq {w:World} {base:Nat} {v:Value} {R:List SV} {k:Nat} {cs:Array Value} (h:OwnRow slL w base 62 v R) (hb:Blk w k 4 cs):some k≠v.ownBlock:=by
 rcases h.2 with⟨rfl,_⟩|⟨g,cap,cur,rfl,_,a,_⟩
 ·exact fun e=>by cases e
 ·intro e;have e:some k=some g:=e;injection e with e
  subst e;have hb:w.heap[k]? =some (.cells cs 4 (0,0)):=hb;rw[hb]at a;injection a with a
  injection a with _ a _
  exact absurd a (by decide)
section
variable {w wr w2:World} {gc:Array Value} {v v':Value} {R:List SV} {ns:List Gr.Nd} {A:Option Addr} {c:Nat}
theorem RD.later (h:RD w wr gc v R ns) (hb:Below wr.heap.size wr w2):RD w w2 gc v R ns:=
 ⟨h.below.trans (hb.mono h.below.size),h.gbox.below hb h.gbox.lt,h.own.later hb,Nat.le_trans h.hd hb.size,fun j d=>by
  obtain⟨e,b,a⟩:=h.rows j d;exact⟨e,b,a.below hb a.lt⟩⟩
theorem RD.alloc (h:RD w wr gc v R ns) (o:Obj):RD w (wr.alloc o) gc v R ns:=h.later ((Below.refl _ _).alloc (Nat.le_refl _) _)
theorem RD.grown (h:RD w wr gc v R ns) {ob:Nat} (hob:Blk wr ob 4 (bcells (marks ns R.length))) (ho:OwnRow slL w2 (w.heap.size+1) 62 v' (R++[⟨some ⟨ob,0,none⟩,ns.length,ns.length⟩])) (hg:wr.grownBy w2 v.ownBlock):RD w w2 gc v' (R++[⟨some ⟨ob,0,none⟩,ns.length,ns.length⟩]) ns:=
 ⟨h.below.trans ((h.own.grown_below hg h.hd).mono (by omega)),h.gbox.grown hg (fun e=>absurd (h.own.lt _ e.symm).1 (by omega)),ho,Nat.le_trans h.hd (h.own.grown_below hg h.hd).size,fun j g=>by
  by_cases hjl:j<R.length
  ·obtain⟨b,f,d⟩:=h.rows j hjl;exact⟨b,by rw[List.getElem_append_left hjl];exact f,d.grown hg (zuq h.own d)⟩
  ·have a:j=R.length:=by simp at g;omega
   subst a;exact⟨ob,by rw[List.getElem_concat_length rfl],hob.grown hg (zuq h.own hob)⟩⟩
theorem RD.rch (h:RD w wr gc (.slice A R.length c) R ns) (hl:R.length=ns.length) (hn:0<ns.length):∃ra,A=some ra/\RchAt wr wr.heap.size ra ns:=by
 obtain⟨A',c',e,b⟩:=h.own.form;injection e with e1 _ e2
 subst e1;obtain⟨ra,d,g,_⟩:=b.get (k:=0) (by omega);refine⟨ra,d,g,fun v hv=>?_⟩;obtain⟨i,l,f⟩:=h.rows v (by omega);obtain⟨ra2,a,h6,j,_⟩:=b.get (k:=v) (by omega);rw[d]at a;injection a with a
 subst a;refine⟨i,f.lt,?_,f⟩;have:=j (R[v].v) rfl;rw[show v*slL.sz=v from Nat.mul_one v,l]at this;exact this
end
namespace Gr
def treeI (ns:List Nd) (u k:Nat):Bool:=(((ns[u]?.map Nd.items).getD []).take k).all (fun x=>!(mkd (marks ns x) u))
def treeN (ns:List Nd) (i:Nat):Bool:=(List.range i).all (fun u=>((ns[u]?.map Nd.items).getD []).all (fun x=>!(mkd (marks ns x) u)))
theorem zni (ns:List Nd) (u:Nat):treeI ns u 0=true:=by unfold treeI;simp
theorem znj {ns:List Nd} {u k:Nat} (hu:u<ns.length) (hk:k<ns[u].items.length):treeI ns u (k+1)=(treeI ns u k && !(mkd (marks ns ns[u].items[k]) u)):=by
 unfold treeI;rw[List.getElem?_eq_getElem hu];simp only[Option.map_some,Option.getD_some];rw[List.take_succ_eq_append_getElem hk,List.all_append];simp
theorem znk {ns:List Nd} {i k:Nat} (hi:i<ns.length) (hk:ns[i].items.length<=k):treeN ns (i+1)=(treeN ns i && treeI ns i k):=by
 unfold treeN treeI;rw[List.range_succ,List.all_append];simp only[List.all_cons,List.all_nil,Bool.and_true];rw[List.getElem?_eq_getElem hi];simp only[Option.map_some,Option.getD_some];rw[List.take_of_length_le hk]
end Gr
theorem znl (A:Option Addr) (c:Nat) (r:Nat) (vs:List NV) (ns:List Gr.Nd) (hw:WellF ns r) (hnl:ns.length<=1000) (hks:∀n∈ns,n.keys.length<=1000/\n.items.length<=1000) (w:World) (h:GAt w w.heap.size A vs ns):
 Calls prog 23 #[.agg #[.slice A ns.length c,.int .i64 r]] w fun e w'=>e=.returned (.tuple #[.int .i64 (depth ns r).1,.bool (depth ns r).2])/\Below w.heap.size w w':=by
 have H:=hid h;obtain⟨F,hF,Y,T⟩:=hw.depth;have HW:=hid hw;have HF:=hid hF;have aD:=hid Y;have aE:=hid T;have av:=hw.root;have X:=hF.le_n hw.refs (F r) r (Nat.le_refl _) hw.root;obtain⟨gc,E⟩:∃gc:Array Value,#[.slice A ns.length c,.int .i64 r]=gc:=⟨_,rfl⟩
 have o:Hid (gc[0]? =some (.slice A ns.length c)/\gc[1]? =some (.int .i64 r)):=hid (by rw[<-E];exact⟨rfl,rfl⟩);obtain⟨w1,K⟩:=ex (w.alloc (.cells #[.slice A ns.length c,.int .i64 r] 24))
 have ao:Hid (RD w w1 gc (.slice none 0 0) [] ns):=hid (by rw[<-K,<-E];exact⟨(Below.refl _ _).alloc (Nat.le_refl _) _,Blk.new _ _ _,OwnRow.nil,by simp,fun j u=>by simp at u⟩);have am:=hid (fun a ha W t=>zd2 A c a (r:Int) vs ns hw.refs hnl hks ha W t);clear h E hw hF Y T;go_enter func23,ntmps23;go_upto_region 3 with fail;(try rw[K]);clear K;go_loopw [4,5] (fun s4 s5 wr=>∃(i:Nat) (R:List SV) (AL:Option Addr) (cL:Nat),i<=ns.length/\R.length<=ns.length/\s5=.int .i64 i/\s4=.slice AL R.length cL/\Hid (RD w wr gc (.slice AL R.length cL) R ns/\R.length=i)) (fun _ s5 _=>ns.length-(intOf s5).toNat)
 case atStart=>exact⟨0,[],none,0,by omega,by simp,rfl,rfl,hid ⟨ao.out,rfl⟩⟩
 case round=>
  obtain⟨i,R,AL,cL,hi,hRl,rfl,rfl,d⟩:=hrel;obtain⟨b,aC⟩:∃b,b=wr:=⟨_,rfl⟩
  subst aC;have g0:b.cell? ⟨w.heap.size,0,none⟩=some (.slice A ns.length c):=by rw[d.out.1.gbox.cell];exact o.out.1
  have g1:b.cell? ⟨w.heap.size,1,none⟩=some (.int .i64 r):=by rw[d.out.1.gbox.cell];exact o.out.2
  have hib:i<=1000:=by omega
  by_cases hlt:i<ns.length
  ·have P:(i:Int)<(ns.length:Int):=by omega
   have HC:=hid (am.out i hlt b ((H.out.below d.out.1.below).more d.out.1.below.size));go_wp2_with fail;refine HC.out.mono ?_;rintro e w2 ⟨J,rfl,aw,B,ab⟩;have f:Hid (RD w w2 gc (.slice AL R.length cL) R ns/\Blk w2 J 4 (bcells (marks ns i))/\w.heap.size+1<=w2.heap.size):=hid ⟨d.out.1.later B,ab,Nat.le_trans d.out.1.hd B.size⟩;clear aw B ab g0 g1;go_wp2_with (at_builtin;go_must (refine zab _ rfl (.tmp 16) (.tmp 20) 82 62 24 rfl slT (w.heap.size+1) (.slice AL R.length cL) R rfl (f.out.1.own.alloc _) _ _ 1 ([⟨some ⟨J,0,none⟩,ns.length,ns.length⟩]:List SV) rfl (RowAt.lit1 _ _ rfl _ ?_) ?_ ?_ ?_))
   any_goals (first|rfl| (have:=f.out.2.2;omega)| (have:=f.out.2.2;simp;omega)| (rw[World.size_alloc];have:=f.out.2.2;omega))
   intro v' w5 l hg aB;have C:Hid (RD w w5 gc v' (R++([⟨some ⟨J,0,none⟩,ns.length,ns.length⟩]:List SV)) ns/\(R++([⟨some ⟨J,0,none⟩,ns.length,ns.length⟩]:List SV)).length=i+1):=hid ⟨(f.out.1.alloc _).grown (by rw[d.out.2];exact f.out.2.1.alloc _) l hg,by simp[d.out.2]⟩;obtain⟨A5,c5,M,_⟩:=l.form;obtain⟨R5,ak⟩:=ex (R++([⟨some ⟨J,0,none⟩,ns.length,ns.length⟩]:List SV))
   rw[ak]at C M;subst M;clear l hg aB ak;go_wp2;go_roundw
   case rel=>exact⟨i+1,R5,A5,c5,by omega,by rw[C.out.2];omega,by go_num,rfl,C⟩
   case measure=>simp[intOf];omega
  ·have P:¬(i:Int)<(ns.length:Int):=by omega
   obtain⟨ra,rfl,N⟩:=d.out.1.rch (by rw[d.out.2];omega) (by omega);have V:=hid N;have O:Hid (R.length=ns.length):=hid (by rw[d.out.2];omega);obtain⟨rl,g⟩:=ex R.length
   have hrlI:(ns.length:Int)<=(rl:Int):=by have:=O.out;omega
   have af:Hid (rl=ns.length):=hid (by rw[<-g];exact O.out);have U:Hid (Below w.heap.size w b):=hid d.out.1.below;have ah:=hid ((H.out.below d.out.1.below).more d.out.1.below.size);(try rw[g]);clear N g;go_upto_region 8 with fail;go_loop [6,7] (fun s6 s7=>∃k:Nat,k<=ns.length/\s7=.int .i64 k/\s6=.bool (treeN ns k)) (fun _ s7=>ns.length-(intOf s7).toNat)
   case atStart=>exact⟨0,by omega,rfl,rfl⟩
   case round=>
    obtain⟨k,hk,rfl,rfl⟩:=hrel;by_cases hlk:k<ns.length
    ·have aj:(k:Int)<(ns.length:Int):=by omega
     have D:ns[k]∈ns:=List.getElem_mem hlk;obtain⟨aq,ax⟩:=hks _ D;have p:=hid (HW.out.refs _ D);have Z:Hid (∀j (u:j<ns[k].items.length),treeI ns k (j+1)=(treeI ns k j && !(mkd (marks ns ns[k].items[j]) k))):=hid (fun j u=>znj hlk u);have aa:Hid (∀j,ns[k].items.length<=j->treeN ns (k+1)=(treeN ns k && treeI ns k j)):=hid (fun j u=>znk hlk u);obtain⟨ad,ks,an,rfl,hN⟩:=ah.out.node hlk;obtain⟨ka,kn,kc⟩:=ks;obtain⟨ia,ar,ic⟩:=an;obtain⟨n,hn⟩:=ex (ns[k])
     rw[hn]at hN ax p;have ai:Hid (∀j (u:j<n.items.length),treeI ns k (j+1)=(treeI ns k j && !(mkd (marks ns n.items[j]) k))):=hid (by subst hn;exact Z.out);have s:Hid (∀j,n.items.length<=j->treeN ns (k+1)=(treeN ns k && treeI ns k j)):=hid (by subst hn;exact aa.out);obtain rfl:ar=n.items.length:=hN.inn;have x4:=hN.c4;have ap:Hid (RowAt intL b b.heap.size ia n.items):=hid hN.items;obtain⟨tn,G⟩:=ex (treeN ns k)
     (try rw[G]);rw[G]at s;have hkb:k<=1000:=by omega
     clear hN hn D aq G Z aa;go_upto_region 11 with fail;go_loop [6,8] (fun s6 s8=>∃j:Nat,j<=n.items.length/\s8=.int .i64 j/\s6=.bool (tn && treeI ns k j)) (fun _ s8=>n.items.length-(intOf s8).toNat)
     case atStart=>exact⟨0,by omega,rfl,by rw[zni,Bool.and_true]⟩
     case round=>
      obtain⟨j,u,rfl,rfl⟩:=hrel;obtain⟨tb,z⟩:=ex (tn && treeI ns k j)
      (try rw[z]);have al:=hid z;clear z;by_cases hlj:j<n.items.length
      ·have ac:(j:Int)<(n.items.length:Int):=by omega
       obtain⟨y,hy⟩:=ex (n.items[j])
       obtain⟨adi,rfl,_,y0⟩:=zae ap.out hlj;rw[hy]at y0;have ag:y<ns.length:=p.out y (List.mem_append_right _ (by rw[<-hy];exact List.getElem_mem hlj));have hyI:(y:Int)<(rl:Int):=by omega
       obtain⟨oy,au,ry,bY⟩:=V.out.row y ag;obtain⟨q,hq⟩:=ex ((marks ns y).getD k false)
       have y2:b.cell? ⟨oy,k,none⟩=some (.bool q):=by rw[bY.cell,zah (by rw[zbe HW.out.refs ag];exact hlk),hq]
       have Q:Hid ((tn && treeI ns k (j+1))=(tb && !q)):=hid (by rw[ai.out j hlj,<-Bool.and_assoc,al.out,hy];unfold mkd;rw[hq]);have hjb:j<=1000:=by omega
       clear bY au hy hq;cases tb with
       |false=>
        go_wp2;go_round
        case rel=>exact⟨j+1,by omega,by go_num,by rw[Q.out];rfl⟩
        case measure=>simp[intOf];omega
       |true=>
        go_wp2;go_round
        case rel=>exact⟨j+1,by omega,by go_num,by rw[Q.out];rfl⟩
        case measure=>simp[intOf];omega
      ·have ac:¬(j:Int)<(n.items.length:Int):=by omega
       have HE:Hid (treeN ns (k+1)=tb):=hid (by rw[s.out j (by omega),al.out]);go_wp2;go_round
       case rel=>exact⟨k+1,by omega,by go_num,by rw[HE.out]⟩
       case measure=>simp[intOf];omega
    ·have aj:¬(k:Int)<(ns.length:Int):=by omega
     have ae:Hid (treeN ns k=(depth ns r).2):=hid (by
      obtain rfl:k=ns.length:=by omega
      rw[aE.out];rfl)
     obtain⟨tr,x⟩:=ex (treeN ns k)
     (try rw[x]);rw[x]at ae;obtain⟨S,m⟩:=ex (F r)
     have aF:Hid ((depth ns r).1=(S:Int)-1):=hid (by rw[aD.out,m]);have L:Hid (S<=ns.length):=hid (by rw[<-m];exact X);have hmk:=zbz ns.length (by omega);have az:Hid (∀W od,Below b.heap.size b W->b.heap.size<=od->Blk W od 3 (icells (List.replicate ns.length 0))->Calls prog 54 #[.agg #[.slice A ns.length c,.int .i64 r],.slice (some ra) rl cL,.slice (some ⟨od,0,none⟩) ns.length ns.length,.int .i64 r] W fun e w'=>e=.returned (.int .i64 S)/\Below b.heap.size b w'):=hid (fun W od t I hB=>by
      rw[af.out];refine(zi0 A c cL od (r:Int) vs ns ra F HW.out.refs HF.out hnl hks (F r+1) r (List.replicate ns.length 0) W (by omega) av ⟨(ah.out.below t).more I,?_⟩ (DOk.zero F ns.length) hB).mono ?_
      ·have:=V.out.below t;exact⟨Nat.lt_of_lt_of_le this.lt I,fun v hv=>by
        obtain⟨J,h1,h2⟩:=this.row v hv;exact⟨J,by omega,h2⟩⟩
      ·rintro e w' ⟨h1,h2,_⟩;exact⟨by rw[h1,m],t.trans (h2.below I t.size)⟩)
     have hfb:S<=1000:=by have:=L.out;omega
     clear m x hlk hk X;go_upto_region 14 with fail;have ay:Hid (∀W,Below b.heap.size b W->W.cell? ⟨w.heap.size,0,none⟩=some (.slice A ns.length c)/\W.cell? ⟨w.heap.size,1,none⟩=some (.int .i64 r)):=hid (fun W t=>by
      have:=d.out.1.gbox.below t d.out.1.gbox.lt;exact⟨by rw[this.cell];exact o.out.1,by rw[this.cell];exact o.out.2⟩)
     go_cut [2,3] (fun s2 s3 wx=>s2=.int .i64 ((S:Int)-1)/\s3=.bool tr/\Hid (Below b.heap.size b wx))
     case first=>
      go_region_held3 (fun w'=>w'.cell? ⟨w.heap.size,0,none⟩=some (.slice A ns.length c)/\w'.cell? ⟨w.heap.size,1,none⟩=some (.int .i64 r))
       (first|go_keep|exact ay.out _ (by(first|assumption|exact Below.refl _ _|exact(Below.refl _ _).drew|exact Below.drew (by assumption)))) (first
       | (go_at_call 54;(with_reducible refine(az.out _ _ ?_ ?_ ?_).mono ?_);exact((Below.refl _ _).alloc (Nat.le_refl _) _).drew;exact Nat.le_refl _;exact Blk.new _ _ _;rintro e1 wc1 ⟨rfl,aA⟩))
      all_goals
       go_wp2;go_meet
      exact⟨by rw[IntWalk.i64_in _ (by omega)],rfl,hid aA⟩
     case rest=>
      obtain⟨rfl,rfl,HX⟩:=hcut;go_wp2;go_ret2;exact⟨by rw[aF.out,ae.out]<;>rfl,U.out.trans (HX.out.mono U.out.size)⟩
theorem zla (vs us:List NV) (j:Nat) (b:Bool):ints (vs++us) j b=if j<vs.length then ints vs j b else ints us (j-vs.length) b:=by
 unfold ints;by_cases h:j<vs.length
 ·rw[if_pos h,List.getElem?_append_left h]
 ·rw[if_neg h,List.getElem?_append_right (by omega)]
theorem zm8 (vs us:List Gr.Nd) (j:Nat) (b:Bool):intsOf (vs++us) j b=if j<vs.length then intsOf vs j b else intsOf us (j-vs.length) b:=by
 unfold intsOf;by_cases h:j<vs.length
 ·rw[if_pos h,List.getElem?_append_left h]
 ·rw[if_neg h,List.getElem?_append_right (by omega)]
theorem Rows.append {B B':Nat} {w:World} {vs us:List NV} {ns ms:List Gr.Nd} (h:Rows B w vs ns) (hlt:∀j b g,(ints vs j b).v.ownBlock=some g->g<B') (h2:Rows B' w us ms) (hB:B<=B'):Rows B w (vs++us) (ns++ms):=by
 have f:=h.len;have d:=h2.len;refine⟨by simp[f,d],fun j k l=>?_,fun j b=>?_,fun j b i e g c a=>?_⟩
 ·by_cases hj:j<vs.length
  ·rw[List.getElem_append_left hj,List.getElem_append_left (by omega)];exact h.kind j hj (by omega)
  ·rw[List.getElem_append_right (by omega),List.getElem_append_right (by omega)];simp only[f];exact h2.kind _ (by rw[List.length_append]at k;omega) (by rw[List.length_append]at l;omega)
 ·rw[zla,zm8,<-f];by_cases hj:j<vs.length
  ·rw[if_pos hj,if_pos hj];exact h.own j b
  ·rw[if_neg hj,if_neg hj];exact(h2.own _ b).lower hB
 ·rw[zla]at c a;by_cases hj:j<vs.length
  ·rw[if_pos hj]at c;by_cases hj':i<vs.length
   ·rw[if_pos hj']at a;exact h.apart j b i e g c a
   ·rw[if_neg hj']at a;have:=hlt _ _ _ c;have:=((h2.own _ e).lt g a).1;omega
  ·rw[if_neg hj]at c;by_cases hj':i<vs.length
   ·rw[if_pos hj']at a;have:=hlt _ _ _ a;have:=((h2.own _ b).lt g c).1;omega
   ·rw[if_neg hj']at a;have:=h2.apart _ b _ e g c a;exact⟨by omega,this.2⟩
abbrev rootC (kind:Int) (ord:Bool) (x y:SV):Array Value:=#[.int .i64 kind,.string ⟨#[]⟩,.bool ord,x.v,y.v]
structure LsM (w0 wr:World) (h:Nat) (vO:Value) (kind:Int) (ord:Bool) (vs:List NV) (sk si:SV) (ks is:List Nat) (ns:List Gr.Nd):Prop where
 below:Below h w0 wr
 row:OwnRow nodeL wr (h+1) 35 vO (⟨kind,[],ord,SV.nil,SV.nil⟩::vs)
 rows:Rows (h+1) wr (⟨kind,[],ord,sk,si⟩::vs) (⟨kind,[],ord,ks,is⟩::ns)
 box:Blk wr h 35 (rootC kind ord sk si)
 hd:h+1<=wr.heap.size
section
variable {w0 wr w2 w3:World} {h:Nat} {vO v':Value} {kind:Int} {ord:Bool} {vs us:List NV} {sk si:SV} {ks is:List Nat} {ns ms:List Gr.Nd}
theorem LsM.later (H:LsM w0 wr h vO kind ord vs sk si ks is ns) (hb:Below wr.heap.size wr w2):LsM w0 w2 h vO kind ord vs sk si ks is ns:=
 ⟨H.below.trans (hb.mono (by have:=H.hd;omega)),H.row.later hb,H.rows.later hb,H.box.below hb H.box.lt,Nat.le_trans H.hd hb.size⟩
theorem LsM.growI (H:LsM w0 wr h vO kind ord vs sk si ks is ns) {x:SV} {l:List Nat} (ho:OwnRow intL w2 (h+1) 3 x.v l) (hg:wr.grownBy w2 si.v.ownBlock) (hat:x.v.ownBlock=si.v.ownBlock\/x.v.ownBlock=some wr.heap.size):
 LsM w0 (w2.setCell ⟨h,4,none⟩ x.v) h vO kind ord vs sk x ks l ns:=by
 have d:OwnRow intL wr (h+1) 3 si.v is:=H.rows.own 0 true;have b:KeptT 35 wr w2:=KeptT.grown hg d (by decide);have f:Below (h+1) wr w2:=d.grown_below hg H.hd;have a:Below h wr (w2.setCell ⟨h,4,none⟩ x.v):=(f.mono (Nat.le_succ h)).setCell (p:=⟨h,4,none⟩) (Nat.le_refl h) _;have c:Blk w2 h 35 (rootC kind ord sk si):=b _ _ H.box;refine⟨H.below.trans a,(H.row.kept b).setCell (fun e=>by have:=(H.row.lt _ e).1;simp at this;omega) _,?_,c.set_ 4 _,Nat.le_trans H.hd a.size⟩;have:=H.rows.grow (w':=w2) 0 true ⟨kind,[],ord,sk,x⟩ ⟨kind,[],ord,ks,l⟩ (by simp) ⟨rfl,rfl,rfl⟩ ⟨rfl,rfl,rfl⟩ rfl rfl ho hg hat;exact this.kept (KeptT.setCell (p:=⟨h,4,none⟩) c (by decide) _)
theorem LsM.push (H:LsM w0 wr h vO kind ord vs sk si ks is ns) (hb:Below wr.heap.size wr w2) (ht:Rows wr.heap.size w2 us ms) (ho:OwnRow nodeL w3 (h+1) 35 v' ((⟨kind,[],ord,SV.nil,SV.nil⟩::vs)++us)) (hg:w2.grownBy w3 vO.ownBlock):
 LsM w0 w3 h v' kind ord (vs++us) sk si ks is (ns++ms):=by
 have a:=H.later hb;have d:KeptT 3 w2 w3:=KeptT.grown hg a.row (by decide);have c:Below (h+1) w2 w3:=a.row.grown_below hg a.hd;refine⟨a.below.trans (c.mono (Nat.le_succ h)),ho,?_,a.box.grown hg (fun e=>by have:=(a.row.lt h e.symm).1;omega),Nat.le_trans a.hd c.size⟩;exact((H.rows.later hb).append (fun j b g e=>((H.rows.own j b).lt g e).2) ht H.hd).kept d
theorem LsM.fin (H:LsM w0 wr h vO kind ord vs sk si ks is ns):∃g c,vO=.slice (some ⟨g,0,none⟩) (vs.length+1) c/\(∀i,wr.frozen? ⟨g,i,none⟩=false)/\(wr.cell? ⟨g,0,none⟩=some (.int .i64 kind)/\wr.cell? ⟨g,1,none⟩=some (.string ⟨#[]⟩)/\wr.cell? ⟨g,2,none⟩=some (.bool ord)/\wr.cell? ⟨g,3,none⟩=some (.slice none 0 0)/\wr.cell? ⟨g,4,none⟩=some (.slice none 0 0))/\
 (∀W,W=((((wr.setCell ⟨g,0,none⟩ (.int .i64 kind)).setCell ⟨g,1,none⟩ (.string ⟨#[]⟩)).setCell ⟨g,2,none⟩ (.bool ord)).setCell ⟨g,3,none⟩ sk.v).setCell ⟨g,4,none⟩ si.v->Below h w0 W/\Tab (h+1) W vO (⟨kind,[],ord,sk,si⟩::vs) (⟨kind,[],ord,ks,is⟩::ns)):=by
 obtain⟨g,j,rest,m,hcap,a,hbg,d⟩:=H.row.row (by simp);refine⟨g,j,m,a.frozen,⟨a.cell 0,a.cell 1,a.cell 2,a.cell 3,a.cell 4⟩,fun W l=>?_⟩;have f:=zm5 a 0 (by simp) ⟨kind,[],ord,sk,si⟩;simp only[Nat.zero_mul,Nat.zero_add]at f;rw[<-l]at f;have e:∀(w1:World) (cs:Array Value) (i:Nat) (u:Value),Blk w1 g 35 cs->KeptT 3 w1 (w1.setCell ⟨g,i,none⟩ u):=fun w1 cs i u a=>KeptT.setCell (p:=⟨g,i,none⟩) a (by decide) u
 have k:KeptT 3 wr W:=by
  rw[l];exact((((e _ _ _ _ a).trans (e _ _ _ _ (a.set_ 0 _))).trans (e _ _ _ _ ((a.set_ 0 _).set_ 1 _))).trans (e _ _ _ _ (((a.set_ 0 _).set_ 1 _).set_ 2 _))).trans (e _ _ _ _ ((((a.set_ 0 _).set_ 1 _).set_ 2 _).set_ 3 _))
 have b:h<=g:=by omega
 refine⟨?_,d _ _ (by simp) f,H.rows.kept k⟩;rw[l];exact((((H.below.setCell (p:=⟨g,0,none⟩) b _).setCell (p:=⟨g,1,none⟩) b _).setCell (p:=⟨g,2,none⟩) b _).setCell (p:=⟨g,3,none⟩) b _).setCell (p:=⟨g,4,none⟩) b _
end
namespace Gr
def lstepI (p:List Nat×List Nd) (g:List Ni×Int):List Nat×List Nd:=(p.1++[g.2.toNat+(p.2.length+1)],p.2++(g.1.map Ni.nd).map (shN (p.2.length+1)))
def listI (gs:List (List Ni×Int)):List Nat×List Nd:=gs.foldl lstepI ([],[])
theorem zm9 (gs:List (List Ni×Int)) (p:List Nat×List Nd):gs.foldl lstep (⟨9,[],false,[],p.1⟩::p.2)=⟨9,[],false,[],(gs.foldl lstepI p).1⟩::(gs.foldl lstepI p).2:=by
 induction gs generalizing p with
 |nil=>rfl
 |cons g gs ih=>
  rw[List.foldl_cons,List.foldl_cons,<-ih];rfl
theorem zdl (gs:List (List Ni×Int)):listN gs=⟨9,[],false,[],(listI gs).1⟩::(listI gs).2:=zm9 gs ([],[])
structure FewG (g:List Ni×Int):Prop where
 len:g.1.length<=40
 each:∀y∈g.1,y.text.length<=100/\y.keys.length<=80/\y.items.length<=80
structure GoodG (g:List Ni×Int):Prop extends FewG g where
 refs:Refs (g.1.map Ni.nd)
 root:g.2.toNat<g.1.length
structure LOk (p:List Nat×List Nd) (k:Nat):Prop where
 il:p.1.length=k
 nl:p.2.length<=k*40
 refs:Refs (⟨9,[],false,[],p.1⟩::p.2)
 each:∀x∈p.2,x.keys.length<=80/\x.items.length<=80/\x.text.length<=100
theorem zto {gs:List Nd} (h:Refs gs) (d:Nat):∀x∈gs.map (shN d),∀r∈x.keys++x.items,r<d+gs.length:=by
 intro x b r a;obtain⟨y,c,rfl⟩:=List.mem_map.1 b;have a:r∈y.keys.map (· +d)++y.items.map (· +d):=a;rw[<-List.map_append]at a;obtain⟨u,e,rfl⟩:=List.mem_map.1 a;have:=h y c u e;omega
theorem zwm {g:List Ni×Int} (h:FewG g) (d:Nat):∀x∈(g.1.map Ni.nd).map (shN d),x.keys.length<=80/\x.items.length<=80/\x.text.length<=100:=by
 intro x a;obtain⟨y,c,rfl⟩:=List.mem_map.1 a;obtain⟨z,b,rfl⟩:=List.mem_map.1 c;have:=h.each z b;simp only[shN,Ni.nd,List.length_map];omega
theorem LOk.step {p:List Nat×List Nd} {k:Nat} (h:LOk p k) {g:List Ni×Int} (hg:GoodG g):LOk (lstepI p g) (k+1):=by
 obtain⟨d,h2,b,c⟩:=h;have hl:=hg.len;have a:(lstepI p g).2.length=p.2.length+g.1.length:=by simp[lstepI]
 refine⟨by simp[lstepI,d],by rw[a];omega,fun x hx r hr=>?_,fun x hx=>?_⟩
 ·rw[List.length_cons,a];rcases List.mem_cons.1 hx with rfl|hx
  ·have hr:r∈p.1++[g.2.toNat+(p.2.length+1)]:=hr;rcases List.mem_append.1 hr with hr|hr
   ·have:=b _ List.mem_cons_self r (by simpa using hr);rw[List.length_cons]at this;omega
   ·rw[List.mem_singleton.1 hr];have:=hg.root;omega
  ·rcases List.mem_append.1 hx with hx|hx
   ·have:=b x (List.mem_cons_of_mem _ hx) r hr;rw[List.length_cons]at this;omega
   ·have:=zto hg.refs _ x hx r hr;rw[List.length_map]at this;omega
 ·rcases List.mem_append.1 hx with hx|hx
  ·exact c x hx
  ·exact zwm hg.toFewG _ x hx
theorem zlb (gs:List (List Ni×Int)) (h:∀g∈gs,GoodG g):LOk (listI gs) gs.length:=by
 have b:∀(gs:List (List Ni×Int)) (p:List Nat×List Nd) (k:Nat),(∀g∈gs,GoodG g)->LOk p k->LOk (gs.foldl lstepI p) (k+gs.length):=by
  intro gs
  induction gs with
  |nil=>intro p k _ h;exact h
  |cons g gs ih=>
   intro p k c h;have:=ih (lstepI p g) (k+1) (fun x a=>c x (List.mem_cons_of_mem _ a)) (h.step (c g List.mem_cons_self));rw[List.length_cons,show k+(gs.length+1)=k+1+gs.length by omega];exact this
 have:=b gs ([],[]) 0 h ⟨rfl,by simp,fun x a r d=>by simp at a;subst a;simp at d,fun x a=>by simp at a⟩;rwa[Nat.zero_add]at this
end Gr
end Go.Proofs.YtoigpackhninoaaGreatDoor
