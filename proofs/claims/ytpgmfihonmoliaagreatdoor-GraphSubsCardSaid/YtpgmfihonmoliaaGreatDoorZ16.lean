import Derived.Test.YtpgmfihonmoliaaGreatDoorZ15
namespace Go.Proofs.YtpgmfihonmoliaaGreatDoor
open Gr
open _root_.Go.Proofs.Tryz
open _root_.Go.Lib (hid)
set_option maxRecDepth 100000
set_option maxHeartbeats 16000000
namespace Gr
def shN (d:Nat) (x:Nd):Nd:=⟨x.kind,x.text,x.ord,x.keys.map (· +d),x.items.map (· +d)⟩
end Gr
open Go.RowKit
theorem zb5 {w:World} {B g n:Nat} {l:List Nat} (h:Blk w g 3 (icells l)) (hB:B<=g) (hn:l.length=n) (hm:n<=maxLen):OwnRow intL w B 3 (.slice (some ⟨g,0,none⟩) n n) l:=by
 subst hn;refine⟨intL.all_len l,.inr ⟨g,l.length,icells l,rfl,hB,h,Nat.le_refl _,hm,by simp[icells,intL],?_⟩⟩;rw[<-zkq,List.take_of_length_le (by rw[intL.all_len];exact Nat.le_refl _)]
structure ShBox (w wx:World) (nb:Nat) (n:Gr.Nd) (d g1 g2:Nat):Prop where
 box:Blk wx nb 38 #[.int .i64 n.kind,.string ⟨n.text.toArray⟩,.bool n.ord,.slice (some ⟨g1,0,none⟩) n.keys.length n.keys.length,.slice (some ⟨g2,0,none⟩) n.items.length n.items.length]
 b1:Blk wx g1 3 (icells (n.keys.map (· +d)))
 b2:Blk wx g2 3 (icells (n.items.map (· +d)))
 lo1:w.heap.size<=g1
 lo2:w.heap.size<=g2
 ne_:g1≠g2
 below:Below w.heap.size w wx
def zsl (B:Nat) (r:Int) (ms:List Gr.Nd) (w:World) (e:Ending) (w':World):Prop:=∃v' vs',e=.returned (.tuple #[v',.int .i64 r])/\Tab B w' v' vs' ms/\Below B w w'/\∀t,t≠38->KeptT t w w'
theorem zh4 (B:Nat) (A:Option Addr) (c root:Nat) (us:List NV) (gs:List Gr.Nd) (v:Value) (vs:List NV) (ns:List Gr.Nd) (hgl:gs.length<=1073741823) (hnl:ns.length+gs.length<=1073741823) (hks:NH gs) (hrb:Refs gs) (hroot:root<gs.length) (w:World) (h:GAt w B A us gs) (hv:Tab B w v vs ns) (hB:B<=w.heap.size):
 Calls prog 23 #[v,.agg #[.slice A gs.length c,.int .i64 root]] w (zsl B ((root:Int)+(ns.length:Int)) (ns++gs.map (shN ns.length)) w):=by
 obtain⟨A0,c0,rfl,aO⟩:=hv.at_;obtain⟨d,hd⟩:=ex ns.length
 have HD:=hid hd;obtain⟨q,J⟩:=ex (w.alloc (.cells #[.slice A gs.length c,.int .i64 root] 24))
 have l1:Below w.heap.size w q:=by rw[<-J];exact(Below.refl _ _).alloc (Nat.le_refl _) _
 have b1:Blk q w.heap.size 24 #[.slice A gs.length c,.int .i64 root]:=by rw[<-J];exact Blk.new _ _ _
 obtain⟨gb,aa⟩:=ex w.heap.size
 have aR:Hid (B<=q.heap.size):=hid (Nat.le_trans hB l1.size);have aH:Hid (Below B w q):=hid (l1.mono hB);have ai:=hid (hv.later l1);have Q:=hid (h.below (l1.mono hB));have hdl:d+gs.length<=1073741823:=by omega
 rw[aa]at b1;rw[hd]at ai;have aI:=hid b1;have aG:Hid (∀t,KeptT t w q):=hid (fun t=>KeptT.later l1);have g0:q.cell? ⟨gb,0,none⟩=some (.slice A gs.length c):=b1.cell 0;clear hv aO l1 b1 h hB;go_enter func23,ntmps23;go_upto_region 1 with fail;(try rw[J]);(try rw[aa]);(try rw[hd]);clear J aa hd;go_upto_region 3 with fail;clear g0;go_loopw [0,14] (fun s0 s14 wr=>∃(j:Nat) (A1:Option Addr) (c1:Nat) (vs1:List NV),j<=gs.length/\s14=.int .i64 j/\s0=.slice A1 (d+j) c1/\Hid (Tab B wr (.slice A1 (d+j) c1) vs1 (ns++(gs.take j).map (shN d))/\Below B q wr/\(∀t,t≠38->KeptT t q wr)/\q.heap.size<=wr.heap.size)) (fun _ s14 _=>gs.length-(intOf s14).toNat)
 case atStart=>exact⟨0,A0,c0,vs,by omega,rfl,rfl,hid ⟨by simpa using ai.out,Below.refl _ _,fun t _=>KeptT.refl _ _,Nat.le_refl _⟩⟩
 case round=>
  obtain⟨j,A1,c1,vs1,hj,rfl,rfl,G⟩:=hrel;obtain⟨a,aQ⟩:∃a,a=wr:=⟨_,rfl⟩
  subst aQ;by_cases hlt:j<gs.length
  .have ar:(j:Int)<(gs.length:Int):=by omega
   obtain⟨ad,ks,is,rfl,r⟩:=(Q.out.below G.out.2.1).node hlt;obtain⟨S,kn,kc⟩:=ks;obtain⟨U,aJ,ic⟩:=is;have X:gs[j]∈gs:=List.getElem_mem hlt;obtain⟨ag,ak,aC⟩:=hks _ X;have H:=hrb _ X;obtain⟨n,hn⟩:=ex (gs[j])
   have aB:Hid ((gs.take (j+1)).map (shN d)=(gs.take j).map (shN d)++[shN d n]):=hid (by rw[List.take_succ_eq_append_getElem hlt,List.map_append,hn];rfl);rw[hn]at r ag ak aC H;obtain rfl:kn=n.keys.length:=r.kn;obtain rfl:aJ=n.items.length:=r.inn;have x0:=r.c0;have x1:=r.c1;have x2:=r.c2;have x3:=r.c3;have x4:=r.c4;have al:Hid (RowAt intL a B S n.keys/\RowAt intL a B U n.items):=hid ⟨r.keys,r.items⟩;have b:Hid (B<=a.heap.size):=hid (Nat.le_trans aR.out G.out.2.2.2);have aw:Hid ((∀x∈n.keys,x<=1152921504606846976)/\(∀x∈n.items,x<=1152921504606846976)):=hid ⟨fun x hx=>by have:=H x (List.mem_append_left _ hx);omega,fun x hx=>by have:=H x (List.mem_append_right _ hx);omega⟩;clear r X hn H;go_upto_region 5 with fail;obtain⟨k,E⟩:=ex (a.alloc (.cells #[.int .i64 n.kind,.string ⟨n.text.toArray⟩,.bool n.ord,.slice S n.keys.length kc,.slice U n.items.length ic] 38))
   obtain⟨l,o⟩:=ex a.heap.size
   have s:Blk k l 38 #[.int .i64 n.kind,.string ⟨n.text.toArray⟩,.bool n.ord,.slice S n.keys.length kc,.slice U n.items.length ic]:=by rw[<-E,<-o];exact Blk.new _ _ _
   have l5:Below l a k:=by rw[<-E,<-o];exact(Below.refl _ _).alloc (Nat.le_refl _) _
   have ae:k.heap.size=l+1:=by rw[<-E,<-o];simp
   rw[E];(try rw[o]);have ab:=hid l5;have aq:=hid s;have f:Hid (k.heap.size=l+1/\a.heap.size=l):=hid ⟨ae,o⟩;have y3:k.cell? ⟨l,3,none⟩=some (.slice S n.keys.length kc):=s.cell 3;have y4:k.cell? ⟨l,4,none⟩=some (.slice U n.items.length ic):=s.cell 4;have yf:∀i,k.frozen? ⟨l,i,none⟩=false:=s.frozen;have HY:Hid (∀W,Below k.heap.size k W->W.cell? ⟨l,3,none⟩=some (.slice S n.keys.length kc)/\W.cell? ⟨l,4,none⟩=some (.slice U n.items.length ic)/\∀i,W.frozen? ⟨l,i,none⟩=false):=hid (fun W u=>⟨(s.below u s.lt).cell 3,(s.below u s.lt).cell 4,(s.below u s.lt).frozen⟩);clear E o s l5 ae x0 x1 x2 x3 x4;have aD:Hid (∀W,Below k.heap.size k W->Calls prog 46 #[.slice S n.keys.length kc,.int .i64 d] W fun e K=>Below k.heap.size k K/\Below W.heap.size W K/\∃g,g=W.heap.size/\e=.returned (.slice (some ⟨g,0,none⟩) n.keys.length n.keys.length)/\Blk K g 3 (icells (n.keys.map (· +d)))):=hid (fun W u=>by
    have hb:Below B a W:=(ab.out.mono (by have:=f.out;have:=b.out;omega)).trans (u.mono (by have:=f.out;have:=b.out;omega));refine(ze4 S kc d n.keys ag aw.out.1 (by omega) W B (by have:=hb.size;have:=b.out;omega) (al.out.1.below hb)).mono ?_;rintro e K ⟨rfl,h1,h2⟩;exact⟨u.trans (h1.mono u.size),h1,_,rfl,rfl,h2⟩)
   have aP:Hid (∀W,Below k.heap.size k W->Calls prog 46 #[.slice U n.items.length ic,.int .i64 d] W fun e K=>Below k.heap.size k K/\Below W.heap.size W K/\∃g,g=W.heap.size/\e=.returned (.slice (some ⟨g,0,none⟩) n.items.length n.items.length)/\Blk K g 3 (icells (n.items.map (· +d)))):=hid (fun W u=>by
    have hb:Below B a W:=(ab.out.mono (by have:=f.out;have:=b.out;omega)).trans (u.mono (by have:=f.out;have:=b.out;omega));refine(ze4 U ic d n.items ak aw.out.2 (by omega) W B (by have:=hb.size;have:=b.out;omega) (al.out.2.below hb)).mono ?_;rintro e K ⟨rfl,h1,h2⟩;exact⟨u.trans (h1.mono u.size),h1,_,rfl,rfl,h2⟩)
   go_cut [8] (fun s8 wx=>s8=.pointer (some ⟨l,0,none⟩)/\∃g1 g2 wy,wy=wx/\Hid (ShBox a wy l n d g1 g2))
   case first=>
    go_region_with ((first
     | (go_at_call 46;(with_reducible refine(aD.out _ ?_).mono ?_);(first|assumption|exact Below.refl _ _|exact(Below.refl _ _).drew|exact Below.drew (by assumption));rintro e1 aA ⟨aN,hc1,g1,au,rfl,z⟩;obtain⟨q13,q14,q1f⟩:=HY.out aA aN;have Q:=hid au;clear au)
     | (go_at_call 46;(with_reducible refine(aP.out _ ?_).mono ?_);(first|assumption|exact Below.refl _ _|exact(Below.refl _ _).drew|exact Below.drew (by assumption));rintro e2 aF ⟨Z,az,g2,aj,rfl,ac⟩;obtain⟨q23,q24,q2f⟩:=HY.out aF Z;have aL:=hid aj;clear aj)))
    all_goals
     go_wp2;go_meet;have e1:g1=l+1:=by have:=Q.out;have h2:=f.out;rw[show k.drew.heap.size=k.heap.size from rfl]at this;omega
     have e2:g1<g2:=by have:=aL.out;have:=z.lt;omega
     refine⟨rfl,g1,g2,_,rfl,hid ⟨((aq.out.below Z aq.out.lt).set_ 3 _).set_ 4 _,((z.below az z.lt).far (by simp;omega) _).far (by simp;omega) _,(ac.far (by simp;omega) _).far (by simp;omega) _,by have:=f.out;omega,by have:=f.out;omega,by omega,?_⟩⟩;have hw:a.heap.size=l:=f.out.2;rw[hw];exact((ab.out.trans (Z.mono (by have:=f.out;omega))).setCell (by simp) _).setCell (by simp) _
   case rest=>
    obtain⟨rfl,g1,g2,P,rfl,I⟩:=hcut;obtain⟨z0,z1,z2,z3,z4⟩:=cells5 I.out.box;have T:Below a.heap.size a P:=I.out.below;have R:=hid (G.out.1.later T);have ah:a.heap.size<P.heap.size:=by have:=I.out.b2.lt;have:=I.out.lo2;omega
    obtain⟨x,av⟩:∃x:NV,x=⟨n.kind,n.text,n.ord,⟨some ⟨g1,0,none⟩,n.keys.length,n.keys.length⟩,⟨some ⟨g2,0,none⟩,n.items.length,n.items.length⟩⟩:=⟨_,rfl⟩
    have C:=R.out.row;have am:vs1.length=d+j:=by
     have:=R.out.rows.len;rw[this,List.length_append,List.length_map,List.length_take,HD.out];omega
    have m:Hid (OwnRow nodeL P B 38 (.slice A1 (d+j) c1) vs1):=hid C;have ap:=hid am;have y:Hid (B<=P.heap.size):=hid (by have:=b.out;omega);have p:=hid av;have ax:=hid T;have aK:=hid ah;clear C am av T ah y3 y4 yf;go_wp2_with (at_builtin;go_must (refine zaa _ rfl (.tmp 28) (.tmp 30) 22 38 80 rfl nodeT B (.slice A1 (d+j) c1) vs1 rfl (m.out.alloc _) _ _ 1 [x] rfl (RowAt.lit1 _ _ (by rw[p.out];rfl) _ ?_) ?_ ?_ ?_))
    any_goals (first|rfl| (have:=ap.out;have:=y.out;simp;omega))
    intro v' M D hg aM;obtain⟨A2,c2,ao,_⟩:=D.form;have af:(vs1++[x]).length=d+(j+1):=by rw[List.length_append,ap.out];rfl
    rw[af]at ao;subst ao;have L:KeptT 3 P M:=(KeptT.alloc _ _ _).trans (KeptT.grown hg (m.out.alloc _) (by decide));have ay:∀t,t≠38->KeptT t P M:=fun t N=>(KeptT.alloc _ _ _).trans (KeptT.grown hg (m.out.alloc _) (Ne.symm N))
    have Y:Below B P M:=((Below.refl B P).alloc y.out _).trans ((m.out.alloc _).grown_below hg (by rw[World.size_alloc];have:=y.out;omega));have an:a.heap.size<=g1/\a.heap.size<=g2:=⟨I.out.lo1,I.out.lo2⟩
    have O:Tab B M (.slice A2 (d+(j+1)) c2) (vs1++[x]) (ns++(gs.take (j+1)).map (shN d)):=by
     rw[aB.out,<-List.append_assoc];refine⟨D,(R.out.rows.kept L).snoc x (shN d n) (by rw[p.out];exact⟨rfl,rfl,rfl⟩) ?_ ?_ ?_ ?_⟩
     .rw[p.out];exact zb5 (L _ _ I.out.b1) (by have:=b.out;omega) (by simp[shN]) (by simp only[maxLen];omega)
     .rw[p.out];exact zb5 (L _ _ I.out.b2) (by have:=b.out;omega) (by simp[shN]) (by simp only[maxLen];omega)
     .intro g e1 e2;rw[p.out]at e1 e2;simp[SV.v,Value.ownBlock]at e1 e2;have:=I.out.ne_;omega
     .intro j' b' g e1;have:=((G.out.1.rows.own j' b').lt g e1).2;rw[p.out];constructor<;>(intro e2;simp[SV.v,Value.ownBlock]at e2;omega)
    have aE:Hid (Tab B M (.slice A2 (d+(j+1)) c2) (vs1++[x]) (ns++(gs.take (j+1)).map (shN d))/\Below B q M/\(∀t,t≠38->KeptT t q M)/\q.heap.size<=M.heap.size):=hid ⟨O,(G.out.2.1.trans (ax.out.mono b.out)).trans Y,fun t N=>((G.out.2.2.1 t N).trans (KeptT.later ax.out)).trans (ay t N),by have:=G.out.2.2.2;have:=aK.out;have:=Y.size;omega⟩;clear D hg aM af L ay Y O an z0 z1 z2 z3 z4;go_wp2;go_roundw
    case rel=>exact⟨j+1,A2,c2,vs1++[x],by omega,by go_num,rfl,aE⟩
    case measure=>simp[intOf];omega
  .have ar:¬(j:Int)<(gs.length:Int):=by omega
   have V:j=gs.length:=by omega
   have F:Hid (Tab B a (.slice A1 (d+j) c1) vs1 (ns++gs.map (shN d))/\Below B w a/\∀t,t≠38->KeptT t w a):=hid ⟨by
    have:=G.out.1;rwa[V,List.take_length,<-V]at this,aH.out.trans G.out.2.1,fun t N=>(aG.out t).trans (G.out.2.2.1 t N)⟩
   clear V;have g1:a.cell? ⟨gb,1,none⟩=some (.int .i64 root):=(G.out.2.2.1 _ (by decide) _ _ aI.out).cell 1;have hdd:d<=1073741823:=by omega
   have hrr:root<=1073741823:=by omega
   go_upto_region 8 with fail;go_quiet (fail);go_wp2;go_ret2;rw[HD.out];exact⟨_,vs1,rfl,F.out.1.later (below_drewN (Below.refl _ _) _),below_drewN F.out.2.1 _,fun t N=>(F.out.2.2 t N).trans (KeptT.drewN _ _ _)⟩
namespace Gr
def Nd.ni (x:Nd):Ni:=⟨x.kind,x.text,x.ord,x.keys.map Int.ofNat,x.items.map Int.ofNat⟩
theorem zy3 (x:Nd):x.ni.nd=x:=by
 cases x;simp[Nd.ni,Ni.nd,Function.comp_def]
theorem zlm (ns:List Nd):(ns.map Nd.ni).map Ni.nd=ns:=by
 rw[List.map_map]
 conv=>rhs;rw[<-List.map_id ns]
 exact List.map_congr_left (fun x _=>zy3 x)
theorem zw5 (ns:List Nd) (root:Nat) (hr:Refs ns) (hroot:root<ns.length):indB (ns.map Nd.ni) (root:Int)=true:=by
 unfold indB inR;simp only[List.length_map,Bool.and_eq_true,decide_eq_true_eq];refine⟨⟨by omega,by omega⟩,?_⟩;rw[List.all_map,List.all_eq_true];intro x a;show rng ns.length x.ni=true;unfold rng;rw[show x.ni.keys++x.ni.items=(x.keys++x.items).map Int.ofNat from by simp[Nd.ni],List.all_map,List.all_eq_true];intro y b;have:=hr x a y b;simp[inR];omega
end Gr
open Go.RowKit
theorem zw6 (l:List Nat):intI.all (l.map Int.ofNat)=intL.all l:=by
 induction l with
 |nil=>rfl
 |cons x l ih=>
  have b:intI.all (Int.ofNat x::l.map Int.ofNat)=intI.enc (Int.ofNat x)++intI.all (l.map Int.ofNat):=rfl;have a:intL.all (x::l)=intL.enc x++intL.all l:=rfl;rw[List.map_cons,b,a,ih];rfl
theorem zfl {w:World} {B:Nat} {A:Option Addr} {l:List Nat} (h:RowAt intL w B A l):RowAt intI w B A (l.map Int.ofNat):=by
 unfold RowAt at h ⊢;rw[zw6,List.length_map];exact h
theorem GAt.toI {w:World} {B:Nat} {A:Option Addr} {vs:List NV} {ns:List Gr.Nd} (h:GAt w B A vs ns):IAt w B A vs (ns.map Gr.Nd.ni):=by
 refine⟨h.row,by simp[h.len],fun j f e=>?_,fun j f e=>?_⟩
 .rw[List.length_map]at e;rw[List.getElem_map];exact h.kind j f e
 .rw[List.length_map]at e;rw[List.getElem_map];obtain⟨a,b,c,d⟩:=h.nums j f e;exact⟨zfl a,by rw[b];simp[Gr.Nd.ni],zfl c,by rw[d];simp[Gr.Nd.ni]⟩
def checkG (sclr:Int->Gr.Str->Bool) (ns:List Gr.Nd) (root:Nat):Nat:=if ns.length>4096 then 7 else checkN sclr ns root
theorem zrp (T:World->Prop) (hT:Stays T) (sclr:Int->Gr.Str->Bool) (A:Option Addr) (c root:Nat) (vs:List NV) (ns:List Gr.Nd) (hks:NH ns) (hsc:ScalsOk T sclr ns) (hl:ns.length<=1073741823) (hr:Refs ns) (hroot:root<ns.length) (w:World) (hTw:T w) (h:GAt w w.heap.size A vs ns):
 Calls prog 15 #[.agg #[.slice A ns.length c,.int .i64 root]] w fun e w'=>e=.returned (.int .i64 (checkG sclr ns root:Nat))/\Below w.heap.size w w':=by
 have:=ze0 T hT sclr A c (root:Int) vs (ns.map Gr.Nd.ni) (by rw[zlm];exact hks) (by rw[zlm];exact hsc) (by simpa using hl) w hTw h.toI;rw[List.length_map]at this;have e:checkI sclr (ns.map Gr.Nd.ni) (root:Int)=checkG sclr ns root:=by
  unfold checkI checkG;rw[List.length_map,zlm,zw5 ns root hr hroot];by_cases h1:ns.length>4096
  .rw[if_pos h1,if_pos h1]
  .rw[if_neg h1,if_neg h1,if_neg (by simp;intro e;rw[e]at hroot;simp at hroot),Int.toNat_natCast]
 rw[e]at this;exact this
def ChkOk (w:World) (g:Value) (chk:Nat):Prop:=∀W,Below w.heap.size w W->Calls prog 15 #[g] W fun e w'=>e=.returned (.int .i64 (chk:Nat))/\Below W.heap.size W w'
theorem ChkOk.later {w w':World} {g:Value} {chk:Nat} (h:ChkOk w g chk) (hb:Below w.heap.size w w'):ChkOk w' g chk:=fun W a=>h W (hb.trans (a.mono hb.size))
def gZero:Value:=.agg #[.slice none 0 0,.int .i64 0]
theorem zkc (A:Option Addr) (n c:Nat) (root:Int) (chk:Nat) (w:World) (h:ChkOk w (.agg #[.slice A n c,.int .i64 root]) chk):
 Calls prog 24 #[.agg #[.slice A n c,.int .i64 root]] w fun e w'=>e=.returned (.tuple #[if chk=0 then .agg #[.slice A n c,.int .i64 root]else gZero,.int .i64 (chk:Nat)])/\Below w.heap.size w w':=by
 have C:=hid h;clear h;go_enter func24,ntmps24;go_upto_region 1 with fail;obtain⟨k,b⟩:=ex ((w.alloc (.cells #[.slice A n c,.int .i64 root] 24)).alloc (.cells #[.slice none 0 0,.int .i64 0] 24))
 obtain⟨p,a⟩:=ex w.heap.size
 have s:Blk k p 24 #[.slice A n c,.int .i64 root]:=by rw[<-b,<-a];exact(Blk.new _ _ _).alloc _
 have x:Blk k (p+1) 24 #[.slice none 0 0,.int .i64 0]:=by rw[<-b,<-a];have:=Blk.new (w.alloc (.cells #[.slice A n c,.int .i64 root] 24)) 24 #[.slice none 0 0,.int .i64 0];rwa[World.size_alloc]at this
 have r:Below p w k:=by rw[<-b,<-a];exact((Below.refl _ _).alloc (Nat.le_refl _) _).alloc (by simp) _
 have u:=hid r;have l:=hid a;have t:Hid (ChkOk k (.agg #[.slice A n c,.int .i64 root]) chk):=hid (C.out.later (by rw[a];exact r));have g:=hid s;have o:=hid x;obtain⟨z,B⟩:=cells2 s;(try rw[b]);(try rw[a]);clear b a s x r;go_wp2_with fail;refine(t.out k (Below.refl _ _)).mono ?_;rintro e y ⟨rfl,d⟩;have j:=g.out.below d g.out.lt;have f:=o.out.below d o.out.lt;have q:Hid (Below p w y):=hid (u.out.trans (d.mono (by have:=g.out.lt;omega)));obtain⟨k0,k1⟩:=cells2 j;obtain⟨d0,d1⟩:=cells2 f;have df:∀i,y.frozen? ⟨p+1,i,none⟩=false:=f.frozen;have m:=hid f;clear d j f z B;by_cases h0:chk=0
 .subst h0;go_wp2_with fail;have e0:=((m.out.set_ 0 (.slice A n c)).set_ 1 (.int .i64 root)).cell 0;have e1:=((m.out.set_ 0 (.slice A n c)).set_ 1 (.int .i64 root)).cell 1;refine bodyPost_ret (v:=.tuple #[.agg #[.slice A n c,.int .i64 root],.int .i64 0]) (by rw[results_cell_tmp rfl];go_simp) rfl ⟨rfl,?_⟩;rw[l.out];exact(q.out.setCell (by simp) _).setCell (by simp) _
 .have h0I:((chk:Int)==0)=false:=by rw[beq_eq_false_iff_ne];omega
  go_wp2_with fail;refine bodyPost_ret (v:=.tuple #[gZero,.int .i64 chk]) (by rw[results_cell_tmp rfl];go_simp;rfl) rfl ⟨by first|rfl|rw[if_neg h0],?_⟩;rw[l.out];exact(q.out.setCell (by simp) _).setCell (by simp) _
theorem ztz (A:Option Addr) (n c:Nat) (root:Int) (chk:Nat) (w:World) (h:ChkOk w (.agg #[.slice A n c,.int .i64 root]) chk):
 Calls prog 14 #[.agg #[.slice A n c,.int .i64 root]] w fun e w'=>e=.returned (.int .i64 (if chk=0 then(n:Int)else 0))/\Below w.heap.size w w':=by
 obtain⟨j,a⟩:=ex (w.alloc (.cells #[.slice A n c,.int .i64 root] 24))
 have m:Below w.heap.size w j:=by rw[<-a];exact(Below.refl _ _).alloc (Nat.le_refl _) _
 have l:Hid (ChkOk j (.agg #[.slice A n c,.int .i64 root]) chk):=hid (h.later m);have f:=hid m;clear h m;go_enter func14,ntmps14;go_upto_region 1 with fail;have k:Blk j w.heap.size 24 #[.slice A n c,.int .i64 root]:=by rw[<-a];exact Blk.new _ _ _
 obtain⟨q,p⟩:=cells2 k;have g:=hid k;(try rw[a]);clear a k;go_wp2_with fail;refine(l.out j (Below.refl _ _)).mono ?_;rintro e o ⟨rfl,b⟩;have i:Hid (Below w.heap.size w o):=hid (f.out.trans (b.mono f.out.size));have d:=g.out.below b g.out.lt;have k0:o.cell? ⟨w.heap.size,0,none⟩=some (.slice A n c):=d.cell 0;clear b d q p;by_cases h0:chk=0
 .subst h0;go_wp2;go_ret;exact⟨rfl,i.out⟩
 .have h0I:((chk:Int)==0)=false:=by rw[beq_eq_false_iff_ne];omega
  go_wp2;go_ret;exact⟨by first|rfl| (rw[if_neg h0];rfl),i.out⟩
def DepOk (w:World) (g:Value) (p:Int×Bool):Prop:=∀W,Below w.heap.size w W->Calls prog 25 #[g] W fun e w'=>e=.returned (.tuple #[.int .i64 p.1,.bool p.2])/\Below W.heap.size W w'
theorem zrq (A:Option Addr) (n c:Nat) (root:Int) (chk:Nat) (p:Int×Bool) (w:World) (h:ChkOk w (.agg #[.slice A n c,.int .i64 root]) chk) (hd:chk=0->DepOk w (.agg #[.slice A n c,.int .i64 root]) p):
 Calls prog 13 #[.agg #[.slice A n c,.int .i64 root]] w fun e w'=>e=.returned (.tuple #[.int .i64 (if chk=0 then p.1 else 0),.bool (if chk=0 then p.2 else false)])/\Below w.heap.size w w':=by
 obtain⟨l,a⟩:=ex (w.alloc (.cells #[.slice A n c,.int .i64 root] 24))
 have o:Below w.heap.size w l:=by rw[<-a];exact(Below.refl _ _).alloc (Nat.le_refl _) _
 have s:Hid (ChkOk l (.agg #[.slice A n c,.int .i64 root]) chk):=hid (h.later o);have j:=hid o;have x:=hid hd;clear h o hd;go_enter func13,ntmps13;go_upto_region 1 with fail;have r:Blk l w.heap.size 24 #[.slice A n c,.int .i64 root]:=by rw[<-a];exact Blk.new _ _ _
 obtain⟨u,y⟩:=cells2 r;have i:=hid r;(try rw[a]);clear a r;go_wp2_with fail;refine(s.out l (Below.refl _ _)).mono ?_;rintro e t ⟨rfl,d⟩;have k:Below w.heap.size w t:=j.out.trans (d.mono j.out.size);have b:=hid k;have f:=i.out.below d i.out.lt;obtain⟨k0,k1⟩:=cells2 f;clear d f u y k;by_cases h0:chk=0
 .have m:=hid (x.out h0 t b.out);subst h0;go_wp2_with fail;refine m.out.mono ?_;rintro e v ⟨rfl,g⟩;have q:Hid (Below w.heap.size w v):=hid (b.out.trans (g.mono b.out.size));clear g;go_wp2;go_ret2;exact⟨rfl,q.out⟩
 .have h0I:((chk:Int)==0)=false:=by rw[beq_eq_false_iff_ne];omega
  go_wp2;go_ret2;exact⟨by first|rfl| (rw[if_neg h0,if_neg h0];rfl),b.out⟩
def zw7 (w:World) (kind:Int) (text:Gr.Str) (r:Bool) (e:Ending) (w':World):Prop:=
 Below w.heap.size w w'/\(r=false->e=.returned (.tuple #[gZero,.int .i64 3]))/\(r=true->∃g,w.heap.size<=g/\e=.returned (.tuple #[.agg #[.slice (some ⟨g,0,none⟩) 1 1,.int .i64 0],.int .i64 0])/\Blk w' g 38 #[.int .i64 kind,.string ⟨text.toArray⟩,.bool false,.slice none 0 0,.slice none 0 0])
theorem zd5 (T:World->Prop) (hT:Stays T) (kind:Int) (text:Gr.Str) (r:Bool) (hk:0<=kind) (hk8:kind<=8) (hs:ScalOk T kind text r) (w:World) (hTw:T w):
 Calls prog 11 #[.int .i64 kind,.string ⟨text.toArray⟩] w (zw7 w kind text r):=by
 have c1:¬kind<0:=by omega
 have c2:¬(8:Int)<kind:=by omega
 obtain⟨s,c⟩:=ex (w.alloc (.cells #[.slice none 0 0,.int .i64 0] 24))
 obtain⟨d,b⟩:=ex w.heap.size
 have x:Below d w s:=by rw[<-c,<-b];exact(Below.refl _ _).alloc (Nat.le_refl _) _
 have A:Blk s d 24 #[.slice none 0 0,.int .i64 0]:=by rw[<-c,<-b];exact Blk.new _ _ _
 have C:=hid (hs s (hT _ _ hTw (by rw[b];exact x)));have z:=hid x;have j:=hid A;have g:=hid b;clear hs hTw x A;go_enter func11,ntmps11;go_upto_region 1 with fail;(try rw[c]);(try rw[b]);clear c b;go_wp2_with fail;refine C.out.mono ?_;rintro e f ⟨rfl,k⟩;have a:=j.out.below k j.out.lt;have p:Hid (Below d w f):=hid (z.out.trans (k.mono (by have:=j.out.lt;omega)));have u:=hid a;have df:∀i,f.frozen? ⟨d,i,none⟩=false:=a.frozen;have df2:∀o i,(f.alloc o).frozen? ⟨d,i,none⟩=false:=fun o=>(a.alloc o).frozen
 obtain⟨d0,d1⟩:=cells2 a;have d2:∀o,(f.alloc o).cell? ⟨d,0,none⟩=some (.slice none 0 0):=fun o=>(a.alloc o).cell 0
 have d3:∀o,(f.alloc o).cell? ⟨d,1,none⟩=some (.int .i64 0):=fun o=>(a.alloc o).cell 1
 have t:Hid (d<f.heap.size):=hid a.lt;clear k a;cases r with
 |false=>
  go_wp2_with fail;refine bodyPost_ret (v:=.tuple #[gZero,.int .i64 3]) (by rw[results_cell_tmp rfl];go_simp;rfl) rfl ⟨?_,fun _=>rfl,fun h=>nomatch h⟩;rw[g.out];exact(p.out.setCell (by simp) _).setCell (by simp) _
 |true=>
  go_wp2_with fail;obtain⟨o,B⟩:=ex (Obj.cells #[Value.int IntKind.i64 kind,Value.string {data:=List.toArray text},Value.bool false,Value.slice none 0 0,Value.slice none 0 0] 38)
  rw[B];obtain⟨q,n⟩:=ex f.heap.size
  rw[n];have l:=((u.out.alloc o).set_ 0 (.slice (some ⟨q,0,none⟩) 1 1)).set_ 1 (.int .i64 0);have e0:=l.cell 0;have e1:=l.cell 1;have m:=p.out;have HSZ2:=t.out;have y:Blk (f.alloc o) q 38 #[.int .i64 kind,.string ⟨text.toArray⟩,.bool false,.slice none 0 0,.slice none 0 0]:=by rw[<-n,<-B];exact Blk.new _ _ _
  refine bodyPost_ret (v:=.tuple #[.agg #[.slice (some ⟨q,0,none⟩) 1 1,.int .i64 0],.int .i64 0]) ?_ rfl (And.intro ?_ (And.intro (fun h=>nomatch h) (fun _=>⟨q,?_,rfl,?_⟩)))
  .rw[results_cell_tmp rfl];go_simp
  .rw[g.out];exact((m.alloc (by omega) o).setCell (by simp) _).setCell (by simp) _
  .rw[g.out];omega
  .exact(y.far (by simp;omega) _).far (by simp;omega) _
open Go.RowKit
theorem Tab.push {B:Nat} {w1 w2:World} {g n cap k:Nat} {x:NV} {vl:List NV} {m:Gr.Nd} {nl:List Gr.Nd} {v:Value} (h:Tab B w1 (.slice (some ⟨g,0,none⟩) n cap) (x::vl) (m::nl))
 (hown:OwnRow intL w2 B 3 v (m.items++[k])) (hg:w1.grownBy w2 x.i.v.ownBlock) (hat:v.ownBlock=x.i.v.ownBlock\/v.ownBlock=some w1.heap.size):
 ∃i:SV,v=i.v/\Tab B (w2.setCell ⟨g,4,none⟩ v) (.slice (some ⟨g,0,none⟩) n cap) ({x with i:=i}::vl) ({m with items:=m.items++[k]}::nl)/\(∀t,t≠38->t≠3->KeptT t w1 (w2.setCell ⟨g,4,none⟩ v))/\(B<=w1.heap.size->Below B w1 (w2.setCell ⟨g,4,none⟩ v)):=by
 obtain⟨A,c,u,_⟩:=hown.form;have w:ints (x::vl) 0 true=x.i:=rfl;have y:intsOf (m::nl) 0 true=m.items:=rfl;have j:=h.rows.own 0 true;rw[w,y]at j;have l:KeptT 38 w1 w2:=KeptT.grown hg j (by decide);obtain⟨z,f,rest,hv',hcap,E,o,d⟩:=h.row.row (by simp);obtain⟨rfl,rfl,rfl⟩:g=z/\n=(x::vl).length/\cap=f:=by
  grind
 have b:=l _ _ E;have r:=zma b 0 (by simp) ⟨A,(m.items++[k]).length,c⟩;have a:v=(⟨A,(m.items++[k]).length,c⟩:SV).v:=u;rw[<-a,Nat.zero_mul,Nat.zero_add]at r;have q:KeptT 3 w2 (w2.setCell ⟨g,4,none⟩ v):=KeptT.setCell (p:=⟨g,4,none⟩) b (by decide) v;refine⟨⟨A,(m.items++[k]).length,c⟩,a,⟨d _ _ (by simp) r,?_⟩,?_,?_⟩
 .have F:=h.rows.grow (w':=w2) 0 true {x with i:=⟨A,(m.items++[k]).length,c⟩} {m with items:=m.items++[k]} (by simp) ⟨rfl,rfl,rfl⟩ ⟨rfl,rfl,rfl⟩ rfl rfl (by rw[if_pos rfl,if_pos rfl,<-a];exact hown) hg (by rw[if_pos rfl,<-a];exact hat);exact F.kept q
 .intro t D C;exact(KeptT.grown hg j (fun e=>C e.symm)).trans (KeptT.setCell (p:=⟨g,4,none⟩) b D v)
 .intro s;exact(j.grown_below hg s).setCell o v
theorem Tab.one {B:Nat} {w:World} {g:Nat} {kind:Int} {text:Gr.Str} {ord:Bool} (h:Blk w g 38 #[.int .i64 kind,.string ⟨text.toArray⟩,.bool ord,.slice none 0 0,.slice none 0 0]) (hB:B<=g):
 Tab B w (.slice (some ⟨g,0,none⟩) 1 1) [⟨kind,text,ord,SV.nil,SV.nil⟩] [⟨kind,text,ord,[],[]⟩]:=by
 have a:=(Rows.nil B w).snoc ⟨kind,text,ord,SV.nil,SV.nil⟩ ⟨kind,text,ord,[],[]⟩ ⟨rfl,rfl,rfl⟩ OwnRow.nil OwnRow.nil (fun g h=>by simp[SV.nil,SV.v,Value.ownBlock]at h) (fun j b g h=>by simp[ints,SV.nil,SV.v,Value.ownBlock]at h);refine⟨⟨nodeL.all_len _,.inr ⟨g,1,_,rfl,hB,h,Nat.le_refl _,by decide,rfl,rfl⟩⟩,a⟩
structure GArg where
 a:Option Addr
 c:Nat
 root:Int
 vs:List NV
 is:List Gr.Ni
def GArg.v (x:GArg):Value:=.agg #[.slice x.a x.is.length x.c,.int .i64 x.root]
def argL:Lay GArg:={enc:=fun x=>[.slice x.a x.is.length x.c,.int .i64 x.root],sz:=2,len:=fun _=>rfl,one:=fun x u hu=>by simp at hu;rcases hu with rfl|rfl<;>rfl,pos:=by omega}
theorem zu0 {w:World} {B:Nat} {A:Option Addr} {l:List GArg} {k:Nat} (h:RowAt argL w B A l) (hk:k<l.length):∃ad,A=some ad/\ad.block<B/\w.cell? (ad.add (k*2))=some (.slice l[k].a l[k].is.length l[k].c)/\
 w.cell? {block:=(ad.add (k*2)).block,off:=(ad.add (k*2)).off+1}=some (.int .i64 l[k].root):=by
 obtain⟨ad,b,f,e,d⟩:=h.get hk;exact⟨ad,b,f,e _ rfl,d 1 _ (by omega) rfl⟩
structure GsAt (w:World) (B:Nat) (A:Option Addr) (l:List GArg):Prop where
 row:RowAt argL w B A l
 each:∀x∈l,IAt w B x.a x.vs x.is
theorem GsAt.below {w w':World} {B:Nat} {A:Option Addr} {l:List GArg} (h:GsAt w B A l) (hb:Below B w w'):GsAt w' B A l:=⟨h.row.below hb,fun x a=>(h.each x a).below hb⟩
namespace Gr
def push0 (k:Nat):List Nd->List Nd
 | []=>[]
 |m::l=>{m with items:=m.items++[k]}::l
def lstep (ns:List Nd) (g:List Ni×Int):List Nd:=push0 (g.2.toNat+ns.length) (ns++(g.1.map Ni.nd).map (shN ns.length))
def listN (gs:List (List Ni×Int)):List Nd:=gs.foldl lstep [⟨9,[],false,[],[]⟩]
end Gr
def GArg.p (x:GArg):List Gr.Ni×Int:=(x.is,x.root)
def GArg.chk (sclr:Int->Gr.Str->Bool) (x:GArg):Nat:=checkI sclr x.is x.root
theorem zym {sclr:Int->Gr.Str->Bool} {x:GArg} (h:x.chk sclr=0):x.is.length<=4096/\0<x.is.length/\indB x.is x.root=true:=by
 unfold GArg.chk checkI at h;by_cases h1:x.is.length>4096
 .rw[if_pos h1]at h;cases h
 .grind
theorem zyn {is:List Gr.Ni} {root:Int} (h:indB is root=true):∃r:Nat,root=(r:Int)/\r<is.length/\(∀x∈is,∀y∈x.keys++x.items,0<=y)/\Refs (is.map Gr.Ni.nd):=by
 unfold indB at h;rw[Bool.and_eq_true]at h;have a:=h.1;simp only[inR,Bool.and_eq_true,decide_eq_true_eq]at a;refine⟨root.toNat,by omega,by omega,?_,?_⟩
 .exact(za4 h.2).1
 .exact(za4 h.2).2
def zt1 (sclr:Int->Gr.Str->Bool) (l:List GArg) (w:World) (e:Ending) (w':World):Prop:=
 Below w.heap.size w w'/\(l.any (fun x=>x.chk sclr != 0)=true->e=.returned (.tuple #[gZero,.int .i64 3]))/\(l.any (fun x=>x.chk sclr != 0)=false->
  (checkG sclr (listN (l.map GArg.p)) 0≠0->e=.returned (.tuple #[gZero,.int .i64 (checkG sclr (listN (l.map GArg.p)) 0:Nat)]))/\
  (checkG sclr (listN (l.map GArg.p)) 0=0->∃A c vs,e=.returned (.tuple #[.agg #[.slice A (listN (l.map GArg.p)).length c,.int .i64 0],.int .i64 0])/\GAt w' w'.heap.size A vs (listN (l.map GArg.p))))
def ArgsOk (sclr:Int->Gr.Str->Bool) (w:World) (l:List GArg):Prop:=∀x∈l,ChkOk w x.v (x.chk sclr)
theorem zkd {α:Type} (f:α->Bool) (l:List α) (k:Nat) (hk:k<l.length) (h:f l[k]=true):l.any f=true:=List.any_eq_true.2 ⟨_,List.getElem_mem hk,h⟩
theorem zt2 (T:World->Prop) (hT:Stays T) (sclr:Int->Gr.Str->Bool) (A:Option Addr) (c:Nat) (l:List GArg) (hl:l.length<=100000) (hks:∀x∈l,NH (x.is.map Gr.Ni.nd)) (hsc:∀x∈l,ScalsOk T sclr (x.is.map Gr.Ni.nd)) (w:World) (hTw:T w) (h:GsAt w w.heap.size A l) (hck:ArgsOk sclr w l)
 (hck2:l.any (fun x=>x.chk sclr != 0)=false->∀W A c vs,T W->GAt W W.heap.size A vs (listN (l.map GArg.p))->ChkOk W (.agg #[.slice A (listN (l.map GArg.p)).length c,.int .i64 0]) (checkG sclr (listN (l.map GArg.p)) 0)):
 Calls prog 12 #[.slice A l.length c] w (zt1 sclr l w):=by
 obtain⟨w1,ak⟩:=ex (w.alloc (.cells #[.slice none 0 0,.int .i64 0] 24))
 obtain⟨d,y⟩:=ex w.heap.size
 have an:w1.heap.size=d+1:=by rw[<-ak,<-y];simp
 have l1:Below d w w1:=by rw[<-ak,<-y];exact(Below.refl _ _).alloc (Nat.le_refl _) _
 have b1:Blk w1 d 24 #[.slice none 0 0,.int .i64 0]:=by rw[<-ak,<-y];exact Blk.new _ _ _
 obtain⟨E,Y⟩:=ex (w1.alloc (.cells #[.int .i64 9,.string ⟨#[]⟩,.bool false,.slice none 0 0,.slice none 0 0] 38))
 have l2:Below (d+1) w1 E:=by rw[<-Y];exact(Below.refl _ _).alloc (by omega) _
 have b2:Blk E (d+1) 38 #[.int .i64 9,.string ⟨(([]:Gr.Str)).toArray⟩,.bool false,.slice none 0 0,.slice none 0 0]:=by rw[<-Y,<-an];exact Blk.new _ _ _
 have be:=Tab.one (B:=d+1) b2 (Nat.le_refl _);have ar:Below d w E:=l1.trans (l2.mono (by omega));have bu:=hid be;have bi:=hid ar;have a9:Hid (GsAt E d A l):=hid (by have:=h.below (by rw[y];exact ar);rwa[y]at this);have bz:Hid (ArgsOk sclr E l):=hid (fun x R=>(hck x R).later (by rw[y];exact ar));have F:Hid (Blk E d 24 #[.slice none 0 0,.int .i64 0]):=hid (b1.below l2 (by omega));have bl:Hid (∀W,Below d w W->T W):=hid (fun W hW=>hT _ _ hTw (by rw[y];exact hW));have am:Hid (E.heap.size=d+2):=hid (by rw[<-Y];simp[an]);have aE:=hid y;have bF:=hid hks;have HSC:=hid hsc;have bm:=hid hck2;clear hTw h hck hck2 hks hsc l1 l2 b1 b2 be ar;go_enter func12,ntmps12;go_upto_region 1 with fail;(try rw[ak]);(try rw[y]);go_upto_region 2 with fail;(try rw[Y]);(try rw[an]);clear ak y Y an;go_upto_region 3 with fail;go_loopw [14] (fun s14 wr=>∃(j:Nat),j<=l.length/\s14=.int .i64 j/\Hid ((l.take j).any (fun x=>x.chk sclr != 0)=false/\Below E.heap.size E wr)) (fun s14 _=>l.length-(intOf s14).toNat)
 case atStart=>exact⟨0,by omega,rfl,hid ⟨rfl,Below.refl _ _⟩⟩
 case round=>
  obtain⟨j,hj,rfl,HW⟩:=hrel;obtain⟨wq,bG⟩:∃wq,wq=wr:=⟨_,rfl⟩
  subst bG;have aN:=F.out.below HW.out.2 F.out.lt;have al:=hid aN;by_cases hlt:j<l.length
  .have M:(j:Int)<(l.length:Int):=by omega
   obtain⟨ad,rfl,aS,a0,a1⟩:=zu0 (a9.out.below (HW.out.2.mono (by have:=am.out;omega))).row hlt;obtain⟨x,R⟩:=ex (l[j])
   have O:x∈l:=by rw[<-R];exact List.getElem_mem hlt
   have aT:Hid ((l.take (j+1)).any (fun x=>x.chk sclr != 0)=((l.take j).any (fun x=>x.chk sclr != 0) || x.chk sclr != 0)):=hid (by rw[List.take_succ_eq_append_getElem hlt,List.any_append,R];simp);have ax:Hid (x.chk sclr≠0->l.any (fun x=>x.chk sclr != 0)=true):=hid (fun h=>zkd _ l j hlt (by rw[R];simpa using h));rw[R]at a0 a1;obtain⟨ck,hck⟩:=ex (x.chk sclr)
   have bA:Hid (ChkOk wq (.agg #[.slice x.a x.is.length x.c,.int .i64 x.root]) ck):=hid (by rw[<-hck];exact(bz.out x O).later HW.out.2);rw[hck]at aT ax;clear R hck aN;obtain⟨w6,C⟩:=ex (wq.alloc (.cells #[.slice x.a x.is.length x.c,.int .i64 x.root] 24))
   obtain⟨nb,f⟩:=ex wq.heap.size
   have l6:Below nb wq w6:=by rw[<-C,<-f];exact(Below.refl _ _).alloc (Nat.le_refl _) _
   have b6:Blk w6 nb 24 #[.slice x.a x.is.length x.c,.int .i64 x.root]:=by rw[<-C,<-f];exact Blk.new _ _ _
   obtain⟨c0,I⟩:=cells2 b6;have aC:E.heap.size<=nb:=by rw[<-f];exact HW.out.2.size
   have ae:Hid (Below E.heap.size E w6):=hid (HW.out.2.trans (l6.mono aC));have bD:Hid (ChkOk w6 (.agg #[.slice x.a x.is.length x.c,.int .i64 x.root]) ck):=hid (bA.out.later (by rw[f];exact l6));have HB6:Hid (Blk w6 d 24 #[.slice none 0 0,.int .i64 0]):=hid (F.out.below ae.out F.out.lt);clear l6 b6 aC;go_upto_region 5 with fail;(try rw[C]);(try rw[f]);clear C f a0 a1;go_wp2_with fail;refine(bD.out w6 (Below.refl _ _)).mono ?_;rintro e Q ⟨rfl,u⟩;have aA:=ae.out.size;have S:=ae.out.trans (u.mono aA);have ah:=hid S;have D:=F.out.below S F.out.lt;have aj:=hid D;obtain⟨d0,d1⟩:=cells2 D;have df:∀i,Q.frozen? ⟨d,i,none⟩=false:=D.frozen;clear u S D aA c0 I;by_cases h0:ck=0
   .subst h0;go_wp2;go_roundw
    case rel=>exact⟨j+1,by omega,by go_num,hid ⟨by rw[aT.out,HW.out.1];rfl,ah.out⟩⟩
    case measure=>simp[intOf];omega
   .have bs:((ck:Int)==0)=false:=by rw[beq_eq_false_iff_ne];omega
    have bp:=hid (ax.out h0);go_wp2_with fail;refine bodyPost_ret (v:=.tuple #[gZero,.int .i64 3]) (by rw[results_cell_tmp rfl];go_simp;rfl) rfl (And.intro ?_ (And.intro (fun _=>rfl) (fun N=>?_)))
    .rw[aE.out];exact((bi.out.trans (ah.out.mono (by have:=am.out;omega))).setCell (by simp) _).setCell (by simp) _
    .rw[bp.out]at N;cases N
  .have M:¬(j:Int)<(l.length:Int):=by omega
   have K:Hid (l.any (fun x=>x.chk sclr != 0)=false):=hid (by have:=HW.out.1;rwa[List.take_of_length_le (by omega)]at this);have aF:Hid (Tab (d+1) wq (.slice (some ⟨d+1,0,none⟩) 1 1) [⟨9,[],false,SV.nil,SV.nil⟩] [⟨9,[],false,[],[]⟩]/\Below (d+1) E wq):=hid ⟨bu.out.later HW.out.2,HW.out.2.mono (by have:=am.out;omega)⟩;clear aN HW al;go_upto_region 9 with fail;go_loopw [4,25] (fun s4 s25 wr=>∃(j:Nat) (A1:Option Addr) (n1 I:Nat) (vs1:List NV),j<=l.length/\s25=.int .i64 j/\s4=.slice A1 n1 I/\Hid (Tab (d+1) wr (.slice A1 n1 I) vs1 (listN ((l.take j).map GArg.p))/\Below (d+1) E wr/\(listN ((l.take j).map GArg.p)).length<=1+j*4096/\0<(listN ((l.take j).map GArg.p)).length/\∀m,(listN ((l.take j).map GArg.p)).head?=some m->m.items.length<=j)) (fun _ s25 _=>l.length-(intOf s25).toNat)
   case atStart=>exact⟨0,_,_,_,_,by omega,rfl,rfl,hid ⟨aF.out.1,aF.out.2,by simp[listN],by simp[listN],by simp[listN]⟩⟩
   case round=>
    clear hlt M hj;clear aF;obtain⟨j,A1,n1,I,vs1,hj,rfl,rfl,L⟩:=hrel;obtain⟨wp,bq⟩:∃wp,wp=wr:=⟨_,rfl⟩
    subst bq;have a3:Below d w wp:=bi.out.trans (L.out.2.1.mono (by omega));have ba:=hid a3;have al:=hid (F.out.below L.out.2.1 (by omega));clear a3;by_cases hlt:j<l.length
    .have M:(j:Int)<(l.length:Int):=by omega
     have aR:=hid (a9.out.below (L.out.2.1.mono (by omega)));obtain⟨ad,rfl,aS,a0,a1⟩:=zu0 aR.out.row hlt;obtain⟨x,R⟩:=ex (l[j])
     have O:x∈l:=by rw[<-R];exact List.getElem_mem hlt
     rw[R]at a0 a1;have ay:x.chk sclr=0:=by
      have:=K.out;rw[List.any_eq_false]at this;have:=this x O;simpa using this
     obtain⟨bo,bE,bg⟩:=zym ay;obtain⟨r,hr,bx,a2,aI⟩:=zyn bg;rw[hr]at a1;obtain⟨o,s⟩:=ex (listN ((l.take j).map GArg.p))
     obtain⟨gs,aa⟩:=ex (x.is.map Gr.Ni.nd)
     have aY:x.is.length=gs.length:=by rw[<-aa];simp
     have U:Hid (listN ((l.take (j+1)).map GArg.p)=push0 (r+o.length) (o++gs.map (shN o.length))):=hid (by
      rw[List.take_succ_eq_append_getElem hlt,R,List.map_append];unfold listN at s ⊢;rw[List.foldl_append,s];show lstep o x.p=_;unfold lstep GArg.p;rw[aa,hr,Int.toNat_natCast])
     have ai:=(aR.out.each x O).toG a2;rw[aa]at ai aI;have aO:=bF.out x O;rw[aa]at aO;rw[s]at L;rw[aY]at a0;have aZ:=L.out.2.2.1;have bb:=L.out.2.2.2.1;have bB:=hid L.out.2.2.2.2;obtain⟨w6,C⟩:=ex (wp.alloc (.cells #[.slice x.a gs.length x.c,.int .i64 r] 24))
     obtain⟨nb,f⟩:=ex wp.heap.size
     have l6:Below nb wp w6:=by rw[<-C,<-f];exact(Below.refl _ _).alloc (Nat.le_refl _) _
     have b6:Blk w6 nb 24 #[.slice x.a gs.length x.c,.int .i64 r]:=by rw[<-C,<-f];exact Blk.new _ _ _
     obtain⟨z0,z1⟩:=cells2 b6;have a4:d+2<=nb:=by rw[<-f];have:=am.out;have:=L.out.2.1.size;omega
     have a8:=zh4 (d+1) x.a x.c r x.vs gs (.slice A1 n1 I) vs1 o (by omega) (by omega) aO aI (by omega) w6 ((ai.below (l6.mono (by omega))).more (by omega)) (L.out.1.later (by rw[f];exact l6)) (by have:=b6.lt;omega);have br:=hid a8;have ae:=hid (l6.mono (show d+1<=nb by omega));have P:Hid (o.length<=1+j*4096/\gs.length<=4096/\0<o.length/\d+2<=w6.heap.size):=hid ⟨aZ,by omega,bb,by have:=b6.lt;omega⟩;clear l6 b6 a8 ai aO aI bo bE bg bx a2 ay aY aa s R O hr a4 aZ bb;go_upto_region 12 with fail;(try rw[C]);(try rw[f]);clear C f a0 a1;go_wp2_with fail;refine br.out.mono ?_;rintro e Q ⟨v7,ao,rfl,J,u,_⟩;have ab:ao≠[]:=by
      intro e;have:=J.rows.len;rw[e]at this;have:=P.out.2.2.1;simp at *;omega
     obtain⟨g,a5,rest,bh,af,ac,a7,_⟩:=J.row.row ab;obtain⟨nn,au⟩:=ex ao.length
     rw[au]at bh af;subst bh;obtain⟨G,vl,rfl⟩:∃G vl,ao=G::vl:=by cases ao with
      |nil=>exact absurd rfl ab
      |cons a b=>exact⟨a,b,rfl⟩
     have z:=J.rows.len;obtain⟨m,nl,V⟩:∃m nl,o++gs.map (shN o.length)=m::nl:=by
      cases h:o++gs.map (shN o.length)with
      |nil=>rw[h]at z;cases z
      |cons a b=>exact⟨a,b,rfl⟩
     have hnn0:0<nn:=by rw[<-au];simp
     have hnn0I:(0:Int)<(nn:Int):=by omega
     have HNN:Hid (nn=o.length+gs.length):=hid (by rw[<-au,z];simp);rw[V]at J;have aL:=hid V;have aq:=hid J;have aQ:=hid ac;have HBG:=hid a7;have ap:=hid u;have HCAP:=hid af;have k4:Q.cell? ⟨g,4,none⟩=some (.slice G.i.a G.i.n G.i.c):=ac.cell 4;have aP:OwnRow intL Q (d+1) 3 (.slice G.i.a G.i.n G.i.c) m.items:=J.rows.own 0 true;have a6:=hid aP;have aB:Hid (m.items.length<=j):=hid (bB.out m (by
      have h2:=aL.out;cases s:o with
      |nil=>have:=P.out.2.2.1;rw[s]at this;simp at this
      |cons a b=>rw[s]at h2;simp at h2;simp[h2.1]))
     obtain⟨k,hk⟩:=ex (r+o.length)
     have bf:(r:Int)+(o.length:Int)=(k:Int):=by omega
     rw[hk]at U;rw[bf];clear J ac a7 u V z ab aP af au hk bf z0 z1;go_upto_region 13 with fail;go_wp2_with (at_builtin;go_must (refine zaa _ rfl (.tmp 39) (.tmp 41) 36 3 8 rfl intT (d+1) (.slice G.i.a G.i.n G.i.c) m.items rfl (a6.out.alloc _) _ _ 1 [k] rfl (RowAt.lit1 _ _ rfl _ ?_) ?_ ?_ ?_))
     any_goals (first|rfl| (have:=aB.out;have:=ap.out.size;have:=P.out.2.2.2;simp;omega))
     intro v8 w8 ag hg bd;obtain⟨A8,c8,bk,_⟩:=ag.form;obtain⟨q,hq⟩:=ex ((m.items++[k]).length)
     rw[hq]at bk;subst bk;clear hq;obtain⟨i,hi,aJ,bw,aG⟩:=(aq.out.later ((Below.refl Q.heap.size Q).alloc (Nat.le_refl _) _)).push ag hg (by rw[World.size_alloc];exact bd);have aU:KeptT 38 Q w8:=(KeptT.alloc _ _ _).trans (KeptT.grown hg (a6.out.alloc _) (by decide));have aD:=aU _ _ aQ.out;have k40:w8.cell? ⟨g,4,none⟩=some (.slice G.i.a G.i.n G.i.c):=aD.cell 4;have k4f:∀i,w8.frozen? ⟨g,i,none⟩=false:=aD.frozen;obtain⟨w9,aM⟩:=ex (w8.setCell ⟨g,4,none⟩ (.slice A8 q c8))
     rw[aM]at aJ aG;have az:=aG (by rw[World.size_alloc];have:=ap.out.size;have:=P.out.2.2.2;omega);have av:Below (d+1) E w9:=((((L.out.2.1.trans ae.out).trans ap.out).alloc (by have:=ap.out.size;have:=P.out.2.2.2;omega) _).trans az)
     have bn:Hid (Tab (d+1) w9 (.slice (some ⟨g,0,none⟩) nn a5) ({G with i:=i}::vl) (listN ((l.take (j+1)).map GArg.p))/\Below (d+1) E w9/\(listN ((l.take (j+1)).map GArg.p)).length<=1+(j+1)*4096/\0<(listN ((l.take (j+1)).map GArg.p)).length/\∀m,(listN ((l.take (j+1)).map GArg.p)).head?=some m->m.items.length<=j+1):=hid (by
      rw[U.out,aL.out];have V:=congrArg List.length aL.out;simp only[List.length_append,List.length_map,List.length_cons]at V;have h1:=P.out;refine⟨aJ,av,?_,?_,?_⟩
      .simp only[push0,List.length_cons];omega
      .simp[push0]
      .intro m' aX;simp[push0]at aX;subst aX;simp;exact aB.out)
     clear ag hg bd hi aJ bw aG aU aD az av k4;go_wp2_with fail;(try rw[aM]);(try clear aM);go_roundw
     case rel=>exact⟨j+1,some ⟨g,0,none⟩,nn,a5,_,by omega,by go_num,rfl,bn⟩
     case measure=>simp[intOf];omega
    .have M:¬(j:Int)<(l.length:Int):=by omega
     have bv:j=l.length:=by omega
     have bc:l.take j=l:=List.take_of_length_le (by omega);rw[bc]at L;obtain⟨o,s⟩:=ex (listN (l.map GArg.p))
     rw[s]at L;obtain⟨A9,c9,aK,X⟩:=L.out.1.at_;injection aK with e1 e2 e3
     subst e1 e2 e3;obtain⟨ck,hck⟩:=ex (checkG sclr o 0)
     have bj:=hid (bm.out K.out);rw[s,hck]at bj;have H:Hid (listN (l.map GArg.p)=o/\checkG sclr o 0=ck):=hid ⟨s,hck⟩;have aV:ChkOk wp (.agg #[.slice A1 o.length I,.int .i64 0]) ck:=bj.out wp A1 I vs1 (bl.out wp ba.out) X;have aH:=zkc A1 o.length I 0 ck wp aV;unfold gZero at aH;have bt:=hid aH;have HG9:=hid X;clear bv bc s hck aV aH X;go_upto_region 15 with fail;go_wp2_with fail;refine bt.out.mono ?_;rintro e Q ⟨rfl,u⟩;have D:=al.out.below u al.out.lt;have aw:=ba.out.trans (u.mono (by have:=al.out.lt;omega));have ah:=hid aw;have aj:=hid D;have aq:=hid (L.out.1.later u);obtain⟨d0,d1⟩:=cells2 D;have df:∀i,Q.frozen? ⟨d,i,none⟩=false:=D.frozen;clear u D aw;by_cases h0:ck=0
     .subst h0;go_wp2_with fail;have aW:∀t,t≠24->KeptT t Q ((Q.setCell ⟨d,0,none⟩ (.slice A1 o.length I)).setCell ⟨d,1,none⟩ (.int .i64 0)):=fun t ht=>(KeptT.setCell (p:=⟨d,0,none⟩) aj.out ht _).trans (KeptT.setCell (p:=⟨d,1,none⟩) (aj.out.set_ 0 _) ht _)
      have Z:=(aj.out.set_ 0 (.slice A1 o.length I)).set_ 1 (.int .i64 0);have e0:=Z.cell 0;have e1:=Z.cell 1;have bC:Tab (d+1) ((Q.setCell ⟨d,0,none⟩ (.slice A1 o.length I)).setCell ⟨d,1,none⟩ (.int .i64 0)) (.slice A1 o.length I) vs1 o:=⟨aq.out.row.kept (aW _ (by decide)),aq.out.rows.kept (aW _ (by decide))⟩
      obtain⟨A9,c9,aK,X⟩:=bC.at_;injection aK with f1 f2 f3
      subst f1 f3;refine bodyPost_ret (v:=.tuple #[.agg #[.slice A1 o.length I,.int .i64 0],.int .i64 0]) (by rw[results_cell_tmp rfl];go_simp) rfl (And.intro ?_ (And.intro (fun N=>?_) (fun _=>And.intro (fun N=>?_) (fun _=>?_))))
      .rw[aE.out];exact(ah.out.setCell (by simp) _).setCell (by simp) _
      .rw[K.out]at N;cases N
      .rw[H.out.1,H.out.2]at N;exact absurd rfl N
      .rw[H.out.1];exact⟨A1,I,vs1,rfl,X⟩
     .have bs:((ck:Int)==0)=false:=by rw[beq_eq_false_iff_ne];omega
      go_wp2_with fail;have Z:=(aj.out.set_ 0 (.slice none 0 0)).set_ 1 (.int .i64 0);have e0:=Z.cell 0;have e1:=Z.cell 1;refine bodyPost_ret (v:=.tuple #[gZero,.int .i64 ck]) (by rw[results_cell_tmp rfl];go_simp;rfl) rfl (And.intro ?_ (And.intro (fun N=>?_) (fun _=>And.intro (fun _=>?_) (fun N=>?_))))
      .rw[aE.out];exact(ah.out.setCell (by simp) _).setCell (by simp) _
      .rw[K.out]at N;cases N
      .rw[H.out.1,H.out.2]
      .rw[H.out.1,H.out.2]at N;exact absurd N h0
namespace Gr
theorem zwz {l:List Str} {k:Nat} (h:k<l.length) (hm:l[k]∈l.take k):dupS l=true:=by
 rw[<-Bool.not_eq_false];intro c;have d:=(zdy l).1 c;obtain⟨j,f,a⟩:=List.mem_iff_getElem.1 hm;rw[List.length_take]at f;rw[List.getElem_take]at a;have h2:j<k:=by omega
 exact absurd a (fun e=>absurd ((List.getElem_inj d).1 e) (by omega))
theorem zkb {l:List Str} {k:Nat} (h:k<l.length) (hn:(l.take k).Nodup) (hm:l[k]∉l.take k):(l.take (k+1)).Nodup:=by
 rw[List.take_succ_eq_append_getElem h,List.nodup_append];refine⟨hn,by simp,fun a d b c=>?_⟩;rw[List.mem_singleton]at c;subst c;exact fun e=>hm (e▸d)
theorem zyh {l:List Str} {k:Nat} (h:l.length<=k) (hn:(l.take k).Nodup):dupS l=false:=by
 rw[List.take_of_length_le h]at hn;exact(zdy l).2 hn
theorem znj {ns:List Nd} {f i:Nat} (h:i<ns.length) (hd:dupS (ns[i].keys.map (printF ns f))=true):rtwice ns f=true:=by
 unfold rtwice;rw[List.any_eq_true];exact⟨_,List.getElem_mem h,hd⟩
theorem zrk {ns:List Nd} {f i:Nat} (h:ns.length<=i) (ha:∀j,j<i->∀(hj:j<ns.length),dupS (ns[j].keys.map (printF ns f))=false):rtwice ns f=false:=by
 unfold rtwice;rw[List.any_eq_false];intro x a;obtain⟨j,hj,rfl⟩:=List.mem_iff_getElem.1 a;rw[ha j (by omega) hj];decide
def mt (ns:List Nd) (v i:Nat):Bool:=mkd (marks ns v) i && mkd (marks ns i) v
def lwt (ns:List Nd) (v k:Nat):Nat:=(List.range k).countP (mt ns v)
theorem zty (ns:List Nd) (v k:Nat):lwt ns v (k+1)=lwt ns v k+(if mt ns v k=true then 1 else 0):=by
 unfold lwt;rw[List.range_succ,List.countP_append,List.countP_singleton]
theorem zyi (ns:List Nd) (v k:Nat):lwt ns v k<=k:=by
 unfold lwt;exact Nat.le_trans List.countP_le_length (by simp)
def seen (ns:List Nd) (v k:Nat) (P:List Nat) (x:Nat):Prop:=(∃u,u<k/\mt ns v u=true/\x∈succ ns u/\mkd (marks ns x) v=false)\/(x∈P/\mkd (marks ns x) v=false)
structure LBest (ns:List Nd) (F:Nat->Nat) (v k:Nat) (P:List Nat) (b:Nat):Prop where
 ge:∀x,seen ns v k P x->F x<=b
 at_:b=0\/∃x,seen ns v k P x/\b=F x
section
variable {ns:List Nd} {F:Nat->Nat} {v k b:Nat} {P:List Nat}
theorem LBest.start:LBest ns F v 0 [] 0:=⟨by
 rintro x (⟨u,hu,_⟩|⟨h,_⟩)
 .omega
 .simp at h,.inl rfl⟩
theorem LBest.skip (h:LBest ns F v k [] b) (hm:mt ns v k=false):LBest ns F v (k+1) [] b:=by
 have e:∀x,seen ns v (k+1) [] x↔seen ns v k [] x:=by
  intro x;unfold seen;constructor
  .grind
  .grind
 exact⟨fun x a=>h.ge x ((e x).1 a),h.at_.imp id (fun⟨x,h1,h2⟩=>⟨x,(e x).2 h1,h2⟩)⟩
theorem LBest.next (h:LBest ns F v k P b) (hm:mt ns v k=true) (hP:P=succ ns k):LBest ns F v (k+1) [] b:=by
 have e:∀x,seen ns v (k+1) [] x↔seen ns v k P x:=by
  intro x;unfold seen;constructor
  .grind
  .grind
 exact⟨fun x a=>h.ge x ((e x).1 a),h.at_.imp id (fun⟨x,h1,h2⟩=>⟨x,(e x).2 h1,h2⟩)⟩
theorem LBest.old (h:LBest ns F v k P b) {y:Nat} (hy:mkd (marks ns y) v=true):LBest ns F v k (P++[y]) b:=by
 have e:∀x,seen ns v k (P++[y]) x↔seen ns v k P x:=by
  intro x;unfold seen;constructor
  .grind
  .grind
 exact⟨fun x a=>h.ge x ((e x).1 a),h.at_.imp id (fun⟨x,h1,h2⟩=>⟨x,(e x).2 h1,h2⟩)⟩
theorem LBest.new (h:LBest ns F v k P b) {y:Nat} (hy:mkd (marks ns y) v=false):LBest ns F v k (P++[y]) (max b (F y)):=by
 have e:∀x,seen ns v k (P++[y]) x↔seen ns v k P x\/x=y:=by
  intro x;unfold seen;constructor
  .grind
  .grind
 refine⟨fun x a=>?_,?_⟩
 .rcases(e x).1 a with h1|rfl
  .exact Nat.le_trans (h.ge x h1) (Nat.le_max_left _ _)
  .exact Nat.le_max_right _ _
 .rcases Nat.le_total b (F y)with h1|h1
  .grind
  .rw[Nat.max_eq_left h1];exact h.at_.imp id (fun⟨x,h2,h3⟩=>⟨x,(e x).2 (.inl h2),h3⟩)
theorem zll (hr:Refs ns) (hv:v<ns.length) {i:Nat} (hi:i<ns.length):mt ns v i=true↔Reach (succ ns) v i/\Reach (succ ns) i v:=by
 unfold mt;rw[Bool.and_eq_true,zay hr hv,zay hr hi]
theorem zrl (hr:Refs ns) {x:Nat} (hx:x<ns.length):mkd (marks ns x) v=false↔¬Reach (succ ns) x v:=by
 rw[<-zay hr hx,Bool.not_eq_true]
open Classical in
theorem zyj (hr:Refs ns) (hv:v<ns.length):lwt ns v ns.length=wt (succ ns) ns.length v:=by
 unfold lwt wt;apply List.countP_congr;intro i a;rw[zll hr hv (List.mem_range.1 a),decide_eq_true_eq]
theorem LBest.last (hr:Refs ns) (hv:v<ns.length) (hF:LongR (succ ns) ns.length F) (h:LBest ns F v ns.length [] b):lwt ns v ns.length+b=F v:=by
 rw[zyj hr hv];have c:∀x,seen ns v ns.length [] x->wt (succ ns) ns.length v+F x<=F v:=by
  rintro x (⟨u,hu,h1,h2,h3⟩|⟨h1,_⟩)
  .have a:=(zll hr hv hu).1 h1;exact hF.up v u hv hu a.1 a.2 x h2 ((zrl hr (hr.succ u x h2)).1 h3)
  .simp at h1
 have hle:wt (succ ns) ns.length v+b<=F v:=by
  rcases h.at_ with h1|⟨x,h1,rfl⟩
  .subst h1;rcases hF.att v hv with h2|⟨u,_,_,_,x,_,_,h2⟩
   .omega
   .omega
  .exact c x h1
 rcases hF.att v hv with h2|⟨u,hu,h3,a,x,hx,hn,h2⟩
 .omega
 .have:=h.ge x (.inl ⟨u,hu,(zll hr hv hu).2 ⟨h3,a⟩,hx,(zrl hr (hr.succ u x hx)).2 hn⟩);omega
theorem LongR.lt (hF:LongR (succ ns) ns.length F) (hr:Refs ns) (hv:v<ns.length) {u x:Nat} (hu:u<ns.length) (hm:mt ns v u=true) (hx:x∈succ ns u) (hn:mkd (marks ns x) v=false):F x<F v:=by
 have a:=(zll hr hv hu).1 hm;have:=hF.up v u hv hu a.1 a.2 x hx ((zrl hr (hr.succ u x hx)).1 hn);have:=zkt (succ ns) ns.length v hv;omega
theorem LongR.pos (hF:LongR (succ ns) ns.length F) (hv:v<ns.length):0<F v:=by
 have:=zkt (succ ns) ns.length v hv;rcases hF.att v hv with h2|⟨_,_,_,_,_,_,_,h2⟩<;>omega
end
def rtree (ns:List Nd):Bool:=(List.range ns.length).all (fun u=>((ns[u]?.map Nd.items).getD []).all (fun x=>!(mkd (marks ns x) u)))
theorem zrm {ns:List Nd} (hr:Refs ns):rtree ns=true↔∀(u:Nat) (hu:u<ns.length),∀x∈ns[u].items,¬Reach (succ ns) x u:=by
 unfold rtree;rw[List.all_eq_true];constructor
 .intro h u hu x a;have:=h u (List.mem_range.2 hu);rw[List.getElem?_eq_getElem hu,List.all_eq_true]at this;have:=this x a;rw[Bool.not_eq_true']at this;exact(zrl hr (hr _ (List.getElem_mem hu) x (List.mem_append_right _ a))).1 this
 .intro h u hu;have hu:=List.mem_range.1 hu;rw[List.getElem?_eq_getElem hu,List.all_eq_true];intro x a;rw[Bool.not_eq_true'];exact(zrl hr (hr _ (List.getElem_mem hu) x (List.mem_append_right _ a))).2 (h u hu x a)
structure WellF (ns:List Nd) (r:Nat):Prop where
 root:r<ns.length
 refs:Refs ns
 ok:NodesOk ns
 all:∀v,v<ns.length->Reach (succ ns) r v
 one:∀x,x<ns.length->mkd (inKeys ns) x=true->(counts ns r).getD x 0=1
theorem zf9 {sclr:Int->Str->Bool} (hs:∀k t,sclr k t=true->0<=k/\k<=8) {is:List Ni} {root:Int} (h:rwell sclr is root=true):∃r:Nat,root=(r:Int)/\WellF (is.map Ni.nd) r/\is.all (rng is.length)=true:=by
 unfold rwell at h;split at h
 .cases h
 .rename_i h2;split at h
  .cases h
  .rename_i h3;rw[Bool.not_eq_false]at h3;have c:inR is.length root=true:=by
    grind
   have a:is.all (rng is.length)=true:=List.all_eq_true.2 (fun x f=>ze8 (List.all_eq_true.1 h3 x f));obtain⟨_,d⟩:=za4 a;have e:(is.map Ni.nd).length=is.length:=by simp
   unfold inR at c;rw[Bool.and_eq_true,decide_eq_true_eq,decide_eq_true_eq]at c;have g:root.toNat<(is.map Ni.nd).length:=by rw[e];omega
   have j:∀i,i<(is.map Ni.nd).length->rnode (is.map Ni.nd) root.toNat i=true:=fun i n=>List.all_eq_true.1 h i (List.mem_range.2 (by rw[e]at n;exact n))
   refine⟨root.toNat,by omega,⟨g,d,?_,?_,?_⟩,a⟩
   .intro x f;obtain⟨y,m,rfl⟩:=List.mem_map.1 f;have:=List.all_eq_true.1 h3 y m;rw[zgu sclr is.length y (List.all_eq_true.1 a y m)]at this;exact zid hs this
   .intro v o;have:=j v o;unfold rnode at this;rw[Bool.and_eq_true]at this;exact(zay d g v).1 this.1
   .intro x f l;have:=j x f;unfold rnode at this;rw[Bool.and_eq_true,l,Bool.true_and,Bool.not_eq_true']at this;simpa using this.2
section
variable {ns:List Nd} {r:Nat}
theorem WellF.tall (h:WellF ns r):∀k∈allKeys ns,k<ns.length/\Tall' ns ns.length k:=fun k c=>by
 obtain⟨a,b⟩:=zez h.refs h.root h.all h.one k c;exact⟨a,zo2 ns _ _ b⟩
theorem WellF.keep (h:WellF ns r):∀u,mkd (inKeys ns) u=true->∀v∈succ ns u,mkd (inKeys ns) v=true:=by
 intro u c v d;obtain⟨k,a,e⟩:=(zal h.refs u).1 c;exact(zal h.refs v).2 ⟨k,a,e.trans (.one d)⟩
theorem WellF.key (h:WellF ns r):∀k∈allKeys ns,mkd (inKeys ns) k=true:=fun k a=>(zal h.refs k).2 ⟨k,a,.refl _⟩
theorem WellF.count (h:WellF ns r):∀x,mkd (inKeys ns) x=true->(Gr.refs ns).count x<=1:=by
 intro x c;by_cases hxl:x<ns.length
 .have:=h.one x hxl c;rw[zb4 hxl]at this;split at this<;>omega
 .have:¬x∈Gr.refs ns:=by
   intro d;obtain⟨n,a,e⟩:=List.mem_flatMap.1 d;exact hxl (h.refs n a x e)
  rw[List.count_eq_zero.2 this];omega
theorem zyk {ns:List Nd} (b:Nat) (hb:∀x∈ns,x.text.length+30<=b):∀k,k<=ns.length->wtS ns (List.range k)<=k*b:=by
 intro k
 induction k with
 |zero=>intro _;simp[wtS]
 |succ k ih=>
  intro hk;have h1:=ih (by omega);have h2:=hb _ (List.getElem_mem (show k<ns.length by omega));have e:wtS ns (List.range (k+1))=wtS ns (List.range k)+wtN ns k:=by unfold wtS;rw[List.range_succ];simp
  have a:wtN ns k=ns[k].text.length+30:=by unfold wtN;rw[List.getElem?_eq_getElem (by omega)];rfl
  rw[e,a,Nat.succ_mul];omega
theorem WellF.plen (h:WellF ns r) (hn:ns.length<=1000) (hb:∀x∈ns,x.text.length<=1000/\x.items.length<=1000) (f i:Nat) (hf:f<=ns.length) (hi:i<ns.length) (hk:mkd (inKeys ns) i=true):(printF ns f i).length<=2000000000:=by
 have h1:=zrc h.refs h.ok (fun x a=>⟨by have:=hb x a;omega,by have:=hb x a;omega⟩) h.keep h.count f i hi hk;have c:=zyk 1030 (fun x a=>by have:=hb x a;omega) ns.length (Nat.le_refl _);have h3:f*wtS ns (List.range ns.length)<=1000*(1000*1030):=Nat.mul_le_mul (by omega) (Nat.le_trans c (Nat.mul_le_mul hn (Nat.le_refl _)));omega
theorem WellF.depth (h:WellF ns r):∃F:Nat->Nat,LongR (succ ns) ns.length F/\(Gr.depth ns r).1=(F r:Int)-1/\(Gr.depth ns r).2=rtree ns:=by
 obtain⟨F,a,d,c⟩:=ze7 h.refs h.root h.all;refine⟨F,a,d,?_⟩;rw[Bool.eq_iff_iff,c,zrm h.refs,zmf h.refs h.root h.all h.one]
end
def few (is:List Ni):Bool:=
 decide (is.length<=40) && (is.all (fun n=>decide (n.text.length<=100/\n.keys.length<=80/\n.items.length<=80)) && (decide ((is.map (fun n=>n.keys.length+n.items.length)).sum<=240) && decide ((is.map (fun n=>n.text.length)).sum<=300)))
theorem zw0 {is:List Ni} (h:few is=true):is.length<=40:=by
 unfold few at h;rw[Bool.and_eq_true,decide_eq_true_eq]at h;exact h.1
theorem zw1 {is:List Ni} (h:few is=true):∀n∈is,n.text.length<=100/\n.keys.length<=80/\n.items.length<=80:=by
 unfold few at h;rw[Bool.and_eq_true,Bool.and_eq_true]at h;intro n a;exact of_decide_eq_true (List.all_eq_true.1 h.2.1 n a)
def fsum (is:List Ni) (k:Nat):Nat:=((is.take k).map (fun n=>n.keys.length+n.items.length)).sum
def fbyt (is:List Ni) (k:Nat):Nat:=((is.take k).map (fun n=>n.text.length)).sum
theorem zrn {is:List Ni} {k:Nat} (h:k<is.length):fsum is (k+1)=fsum is k+(is[k].keys.length+is[k].items.length):=by
 unfold fsum;rw[List.take_succ_eq_append_getElem h,List.map_append,List.sum_append];rfl
theorem zro {is:List Ni} {k:Nat} (h:k<is.length):fbyt is (k+1)=fbyt is k+is[k].text.length:=by
 unfold fbyt;rw[List.take_succ_eq_append_getElem h,List.map_append,List.sum_append];rfl
theorem zw2 {is:List Ni} (h:¬is.length<=40):few is=false:=by
 unfold few;rw[decide_eq_false h];rfl
theorem zw3 {is:List Ni} {k:Nat} (h:k<is.length) (hn:¬(is[k].text.length<=100/\is[k].keys.length<=80/\is[k].items.length<=80)):few is=false:=by
 unfold few;have:is.all (fun n=>decide (n.text.length<=100/\n.keys.length<=80/\n.items.length<=80))=false:=by
  grind
 rw[this];simp
theorem zw4 {is:List Ni} {k:Nat} (h:is.length<=k) (h1:is.length<=40) (h2:∀j,j<k->∀(hj:j<is.length),is[j].text.length<=100/\is[j].keys.length<=80/\is[j].items.length<=80):few is=(decide (fsum is k<=240) && decide (fbyt is k<=300)):=by
 unfold few fsum fbyt;rw[List.take_of_length_le h,decide_eq_true h1,Bool.true_and];have:is.all (fun n=>decide (n.text.length<=100/\n.keys.length<=80/\n.items.length<=80))=true:=by
  rw[List.all_eq_true];intro x a;obtain⟨j,hj,rfl⟩:=List.mem_iff_getElem.1 a;exact decide_eq_true (h2 j (by omega) hj)
 rw[this,Bool.true_and]
end Gr
theorem zw9 (A:Option Addr) (c:Nat) (root:Int) (vs:List NV) (is:List Gr.Ni) (hz:Sz is) (w:World) (h:IAt w w.heap.size A vs is):
 Calls prog 4 #[.agg #[.slice A is.length c,.int .i64 root]] w fun e w'=>e=.returned (.bool (Gr.few is))/\Below w.heap.size w w':=by
 have H:=hid h;have HZ:=hid hz;obtain⟨s,m⟩:=ex (w.alloc (.cells #[.slice A is.length c,.int .i64 root] 24))
 have b1:Blk s w.heap.size 24 #[.slice A is.length c,.int .i64 root]:=by rw[<-m];exact Blk.new _ _ _
 have L1:Hid (Below w.heap.size w s):=hid (by rw[<-m];exact(Below.refl _ _).alloc (Nat.le_refl _) _);have g0:s.cell? ⟨w.heap.size,0,none⟩=some (.slice A is.length c):=b1.cell 0;have F:=hid b1;have af:=hz.1;clear h b1 hz;go_enter func4,ntmps4;go_upto_region 1 with fail;(try rw[m]);clear m;by_cases h40:is.length<=40
 .have K:¬(40:Int)<(is.length:Int):=by omega
  go_upto_region 5 with fail;clear g0 af;go_loopw [3,4,5] (fun s3 s4 s5 wr=>∃i:Nat,i<=is.length/\s5=.int .i64 i/\s3=.int .i64 (fsum is i:Nat)/\s4=.int .i64 (fbyt is i:Nat)/\fsum is i<=160*i/\fbyt is i<=100*i/\Hid (Below s.heap.size s wr/\∀j,j<i->∀(hj:j<is.length),is[j].text.length<=100/\is[j].keys.length<=80/\is[j].items.length<=80)) (fun _ _ s5 _=>is.length-(intOf s5).toNat)
  case atStart=>exact⟨0,by omega,rfl,rfl,rfl,by simp[fsum],by simp[fbyt],hid ⟨Below.refl _ _,fun j hj=>by omega⟩⟩
  case round=>
   obtain⟨i,hi,rfl,rfl,rfl,V,ab,E⟩:=hrel;have a:Hid (Below w.heap.size w wr):=hid (L1.out.trans (E.out.1.mono L1.out.size));have R:Hid (Blk wr w.heap.size 24 #[.slice A is.length c,.int .i64 root]):=hid (F.out.below E.out.1 F.out.lt);have g0:wr.cell? ⟨w.heap.size,0,none⟩=some (.slice A is.length c):=R.out.cell 0;have u:=hid (fun h=>zrn (is:=is) (k:=i) h);have B:=hid (fun h=>zro (is:=is) (k:=i) h);obtain⟨M,l⟩:=ex (fsum is i)
   obtain⟨N,q⟩:=ex (fbyt is i)
   rw[l]at V u;rw[q]at ab B;have P:=hid l;have T:=hid q;(try rw[l]);(try rw[q]);clear l q;by_cases hlt:i<is.length
   .have I:(i:Int)<(is.length:Int):=by omega
    have L:is[i]∈is:=List.getElem_mem hlt;obtain⟨ac,aa,Q⟩:=HZ.out.2 _ L;have o:=hid (zw3 hlt);have r:Hid ((is[i].text.length<=100/\is[i].keys.length<=80/\is[i].items.length<=80)->∀j,j<i+1->∀(hj:j<is.length),is[j].text.length<=100/\is[j].keys.length<=80/\is[j].items.length<=80):=hid (fun h j hj ag=>by
     rcases Nat.lt_or_ge j i with h1|h1
     .exact E.out.2 j h1 ag
     .obtain rfl:j=i:=by omega
      exact h)
    have x:=hid (u.out hlt);have y:=hid (B.out hlt);obtain⟨ad,ks,ae,rfl,G,c0,c1,c2,c3,c4,r1,r2,r3,r4⟩:=(H.out.below a.out).node hlt;obtain⟨Z,kn,Y⟩:=ks;obtain⟨W,S,X⟩:=ae;obtain⟨n,hn⟩:=ex (is[i])
    rw[hn]at c0 c1 c2 r2 r4 ac aa Q o r x y;obtain rfl:kn=n.keys.length:=r2;obtain rfl:S=n.items.length:=r4;have hib:i<=40:=by omega
    clear hn L r1 r3 G u B;go_upto_region 8 with fail;obtain⟨C,z⟩:=ex (wr.alloc (.cells #[.int .i64 n.kind,.string ⟨n.text.toArray⟩,.bool n.ord,.slice Z n.keys.length Y,.slice W n.items.length X] 38))
    obtain⟨O,t⟩:=ex wr.heap.size
    have f:Hid (Blk C O 38 #[.int .i64 n.kind,.string ⟨n.text.toArray⟩,.bool n.ord,.slice Z n.keys.length Y,.slice W n.items.length X]/\Below wr.heap.size wr C):=hid (by rw[<-z,<-t];exact⟨Blk.new _ _ _,(Below.refl _ _).alloc (Nat.le_refl _) _⟩);(try rw[z]);(try rw[t]);have s1:C.cell? ⟨O,1,none⟩=some (.string ⟨n.text.toArray⟩):=f.out.1.cell 1;have s3:C.cell? ⟨O,3,none⟩=some (.slice Z n.keys.length Y):=f.out.1.cell 3;have s4:C.cell? ⟨O,4,none⟩=some (.slice W n.items.length X):=f.out.1.cell 4;have g:Hid (Below s.heap.size s C/\Below w.heap.size w C):=hid ⟨E.out.1.trans (f.out.2.mono E.out.1.size),a.out.trans (f.out.2.mono a.out.size)⟩;clear z t c0 c1 c2 c3 c4 g0;have v:(100:Int)<(n.text.length:Int)\/¬(100:Int)<(n.text.length:Int):=by omega
    have d:(80:Int)<(n.keys.length:Int)\/¬(80:Int)<(n.keys.length:Int):=by omega
    have D:(80:Int)<(n.items.length:Int)\/¬(80:Int)<(n.items.length:Int):=by omega
    rcases v with h1|h1
    .have b:Hid (Gr.few is=false):=hid (o.out (by omega));clear d D;go_wp2;go_ret;exact⟨by rw[b.out]<;>rfl,g.out.2⟩
    .rcases d with h2|h2
     .have b:Hid (Gr.few is=false):=hid (o.out (by omega));clear D;go_wp2;go_ret;exact⟨by rw[b.out]<;>rfl,g.out.2⟩
     .rcases D with h3|h3
      .have b:Hid (Gr.few is=false):=hid (o.out (by omega));go_wp2;go_ret;exact⟨by rw[b.out]<;>rfl,g.out.2⟩
      .have J:Hid (fsum is (i+1)<=160*(i+1)/\fbyt is (i+1)<=100*(i+1)):=hid (by rw[x.out,y.out];omega);have U:=hid (r.out (by omega));go_wp2;go_roundw
       case rel=>exact⟨i+1,by omega,by go_num,by rw[x.out];go_num,by rw[y.out];go_num,J.out.1,J.out.2,hid ⟨g.out.1,U.out⟩⟩
       case measure=>simp[intOf];omega
   .have I:¬(i:Int)<(is.length:Int):=by omega
    have HE:Hid (Gr.few is=(decide (M<=240) && decide (N<=300))):=hid (by
     have:=zw4 (k:=i) (by omega) h40 E.out.2;rwa[P.out,T.out]at this)
    have v:(M:Int)<=240\/¬(M:Int)<=240:=by omega
    have d:(N:Int)<=300\/¬(N:Int)<=300:=by omega
    rcases v with h1|h1
    .rcases d with h2|h2
     .have b:Hid (Gr.few is=true):=hid (by rw[HE.out,decide_eq_true (by omega),decide_eq_true (by omega)];rfl);go_wp2;go_ret;exact⟨by rw[b.out]<;>rfl,a.out⟩
     .have b:Hid (Gr.few is=false):=hid (by rw[HE.out,decide_eq_false (p:=N<=300) (by omega)];simp);go_wp2;go_ret;exact⟨by rw[b.out]<;>rfl,a.out⟩
    .have b:Hid (Gr.few is=false):=hid (by rw[HE.out,decide_eq_false (p:=M<=240) (by omega)];simp);clear d;go_wp2;go_ret;exact⟨by rw[b.out]<;>rfl,a.out⟩
 .have K:(40:Int)<(is.length:Int):=by omega
  have b:Hid (Gr.few is=false):=hid (zw2 h40);go_wp2;go_ret;exact⟨by rw[b.out]<;>rfl,L1.out⟩
namespace Gr
def atL (m:List Bool):List Nat:=(List.range m.length).map (fun i=>(m.take i).count true)
theorem zcb (m:List Bool):(atL m).length=m.length:=by simp[atL]
theorem zc9 {m:List Bool} {i:Nat} (h:i<m.length):(atL m).getD i 0=(m.take i).count true:=by
 simp[atL,List.getD_eq_getElem?_getD,h]
theorem zxo (m:List Bool) (x:Nat):(atL m).getD x 0<=m.length:=by
 by_cases h:x<m.length
 .rw[zc9 h];exact Nat.le_trans List.count_le_length (by rw[List.length_take];omega)
 .rw[List.getD_eq_getElem?_getD,List.getElem?_eq_none (by rw[zcb];omega)];exact Nat.zero_le _
def mvN (M:List Nat) (x:Nd):Nd:=⟨x.kind,x.text,x.ord,x.keys.map (fun y=>M.getD y 0),x.items.map (fun y=>M.getD y 0)⟩
def keptT (ns:List Nd) (m:List Bool) (j:Nat):List Nd:=(((ns.zip m).take j).filter (fun p=>p.2)).map (fun p=>mvN (atL m) p.1)
def keptN (ns:List Nd) (m:List Bool):List Nd:=keptT ns m ns.length
theorem zcv {ns:List Nd} {m:List Bool} {j:Nat} (h:j<ns.length) (h2:j<m.length):keptT ns m (j+1)=if m[j]=true then keptT ns m j++[mvN (atL m) ns[j]]else keptT ns m j:=by
 have a:j<(ns.zip m).length:=by rw[List.length_zip];omega
 unfold keptT;rw[List.take_succ_eq_append_getElem a,List.filter_append,List.map_append,List.getElem_zip];by_cases hm:m[j]=true
 .rw[if_pos hm];simp[hm]
 .rw[if_neg hm];simp[hm]
theorem zig {ns:List Nd} {m:List Bool} {j:Nat} (h:m.length=ns.length) (hj:j<=ns.length):(keptT ns m j).length=(m.take j).count true:=by
 induction j with
 |zero=>simp[keptT]
 |succ j ih=>
  have a:j<ns.length:=by omega
  rw[zcv a (by omega),List.take_succ_eq_append_getElem (by omega),List.count_append];have:=ih (by omega);by_cases hm:m[j]=true
  .rw[if_pos hm,List.length_append,this,hm];rfl
  .rw[if_neg hm,this];rw[Bool.not_eq_true]at hm;rw[hm];rfl
theorem zo5 {ns:List Nd} {m:List Bool} {P:Nd->Prop} (h:∀x∈ns,P (mvN (atL m) x)):∀x∈keptN ns m,P x:=by
 intro x a;unfold keptN keptT at a;obtain⟨p,c,rfl⟩:=List.mem_map.1 a;have b:=List.mem_of_mem_take (List.mem_filter.1 c).1;exact h _ (List.of_mem_zip b).1
end Gr
theorem zgv (L:List Nat) (n i:Nat) (hL:L.length=n) (h:i<n):(L.take i++List.replicate (n-i) 0).set i (L.getD i 0)=L.take (i+1)++List.replicate (n-(i+1)) 0:=by
 have e:(L.take i).length=i:=by simp;omega
 obtain⟨k,a⟩:∃k,n-i=k+1:=⟨n-i-1,by omega⟩
 rw[a,List.replicate_succ,List.set_append_right _ _ (by rw[e];exact Nat.le_refl _),e,Nat.sub_self,List.set_cons_zero,List.take_succ_eq_append_getElem (by omega),show n-(i+1)=k by omega,List.getD_eq_getElem?_getD,List.getElem?_eq_getElem (by omega),Option.getD_some,List.append_assoc];rfl
theorem zgw (L:List Nat) (n i:Nat) (hL:L.length=n) (h:i<n):i<(L.take i++List.replicate (n-i) 0).length:=by simp;omega
theorem zo6 (A:Option Addr) (c:Nat) (l:List Nat) (hl:l.length<=1073741823) (bb ab n:Nat) (M:List Nat) (hM:M.length=n) (hMx:∀x,M.getD x 0<=1073741823) (hx:∀x∈l,x<n) (w:World) (B:Nat) (hB:B<=w.heap.size) (h:RowAt intL w B A l) (hbb:Blk w bb 36 #[.slice (some ⟨ab,0,none⟩) n n]) (hab:Blk w ab 3 (icells M)):
 Calls prog 32 #[.slice A l.length c,.pointer (some ⟨bb,0,none⟩)] w fun e w'=>e=.returned (.slice (some ⟨w.heap.size,0,none⟩) l.length l.length)/\Below w.heap.size w w'/\Blk w' w.heap.size 3 (icells (l.map (fun x=>M.getD x 0))):=by
 have D:=fun W=>za3 l.length (by omega) W
 have J:=hid (And.intro hx hM);have o:Hid (∀W,Below w.heap.size w W->RowAt intL W B A l/\Blk W bb 36 #[.slice (some ⟨ab,0,none⟩) n n]/\Blk W ab 3 (icells M)):=hid (fun W z=>⟨h.below (z.mono hB),hbb.below z hbb.lt,hab.below z hab.lt⟩);have HMX:=hid hMx;clear h hbb hab hx hM hMx;go_enter func32,ntmps32;go_upto_region 3 with fail;obtain⟨q,a⟩:=ex (w.alloc (.cells (icells (List.replicate l.length 0)) 3))
 obtain⟨g,f⟩:=ex w.heap.size
 have K:Below g w q:=by rw[<-a,<-f];exact(Below.refl _ _).alloc (Nat.le_refl _) _
 have G:Blk q g 3 (icells (List.replicate l.length 0)):=by rw[<-a,<-f];exact Blk.new _ _ _
 have k:Hid (Below g w q/\Blk q g 3 (icells (List.replicate l.length 0))):=hid ⟨K,G⟩;rw[f]at o;have P:=hid f;(try rw[a]);(try rw[f]);clear a f K G D;go_loopw [12] (fun s12 wr=>∃i:Nat,i<=l.length/\s12=.int .i64 i/\Hid (Below g w wr/\Blk wr g 3 (icells ((l.map (fun x=>M.getD x 0)).take i++List.replicate (l.length-i) 0)))) (fun s12 _=>l.length-(intOf s12).toNat)
 case atStart=>exact⟨0,by omega,rfl,hid ⟨k.out.1,by simpa using k.out.2⟩⟩
 case round=>
  obtain⟨i,hi,rfl,d⟩:=hrel;obtain⟨b,E⟩:∃b,b=wr:=⟨_,rfl⟩
  subst E;by_cases hlt:i<l.length
  .have j:(i:Int)<(l.length:Int):=by omega
   obtain⟨O,N,F⟩:=o.out b d.out.1;obtain⟨ad,rfl,_,Q⟩:=zaf O hlt;obtain⟨y,r⟩:=ex (l[i])
   have C:y<n:=by rw[<-r];exact J.out.1 _ (List.getElem_mem hlt)
   have hynI:(y:Int)<(n:Int):=by omega
   rw[r]at Q;obtain⟨v,t⟩:=ex (M.getD y 0)
   have z0:b.cell? ⟨bb,0,none⟩=some (.slice (some ⟨ab,0,none⟩) n n):=N.cell 0;have z1:b.cell? ⟨ab,y,none⟩=some (.int .i64 (v:Int)):=by rw[F.cell,zab (by rw[J.out.2];exact C),t]
   obtain⟨L,s⟩:=ex ((l.map (fun x=>M.getD x 0)).take i++List.replicate (l.length-i) 0)
   have u:Hid (L.set i v=(l.map (fun x=>M.getD x 0)).take (i+1)++List.replicate (l.length-(i+1)) 0):=hid (by
    rw[<-s,<-zgv _ l.length i (by simp) hlt,List.getD_eq_getElem?_getD,List.getElem?_map,List.getElem?_eq_getElem hlt,r,Option.map_some,Option.getD_some,t])
   have m:i<L.length:=by rw[<-s];exact zgw _ _ _ (by simp) hlt
   rw[s]at d;have q0:b.cell? ⟨g,i,none⟩=some (.int .i64 ((L.getD i 0:Nat):Int)):=by rw[d.out.2.cell,zab m]
   have qf:∀i,b.frozen? ⟨g,i,none⟩=false:=d.out.2.frozen;clear O N F r t s m;go_wp2;go_roundw
   case rel=>exact⟨i+1,by omega,by go_num,hid ⟨d.out.1.setCell (p:=⟨g,i,none⟩) (Nat.le_refl _) _,by rw[<-u.out,<-zam];exact d.out.2.set_ i _⟩⟩
   case measure=>simp[intOf];omega
  .have j:¬(i:Int)<(l.length:Int):=by omega
   have I:Hid (Below g w b/\Blk b g 3 (icells (l.map (fun x=>M.getD x 0)))):=hid (by
    have H:=d.out;rw[List.take_of_length_le (by rw[List.length_map];omega),show l.length-i=0 by omega,List.replicate_zero,List.append_nil]at H;exact H)
   go_wp2;go_ret;rw[P.out];exact⟨rfl,I.out.1,I.out.2⟩
structure KBx (w wx:World) (nb:Nat) (n:Gr.Nd) (kl il:List Nat) (g1 g2:Nat):Prop where
 box:Blk wx nb 38 #[.int .i64 n.kind,.string ⟨n.text.toArray⟩,.bool n.ord,.slice (some ⟨g1,0,none⟩) n.keys.length n.keys.length,.slice (some ⟨g2,0,none⟩) n.items.length n.items.length]
 b1:Blk wx g1 3 (icells kl)
 b2:Blk wx g2 3 (icells il)
 lo1:w.heap.size<=g1
 lo2:w.heap.size<=g2
 ne_:g1≠g2
 below:Below w.heap.size w wx
structure KKM (w0 wr:World) (ob:Nat) (ra:Nat) (v:Value) (vs:List NV) (ms:List Gr.Nd):Prop where
 below:Below ob w0 wr
 box:Blk wr ob 24 #[v,.int .i64 (ra:Nat)]
 tab:Tab (ob+1) wr v vs ms
 hd:ob+1<=wr.heap.size
theorem KKM.later {w0 wr w2:World} {ob ra:Nat} {v:Value} {vs:List NV} {ms:List Gr.Nd} (H:KKM w0 wr ob ra v vs ms) (hb:Below wr.heap.size wr w2):KKM w0 w2 ob ra v vs ms:=
 ⟨H.below.trans (hb.mono (by have:=H.hd;omega)),H.box.below hb H.box.lt,H.tab.later hb,Nat.le_trans H.hd hb.size⟩
def zku (ns:List Gr.Nd) (root:Nat) (w:World) (e:Ending) (w':World):Prop:=
 Below w.heap.size w w'/\∃A2 c2 vs2,e=.returned (.agg #[.slice A2 (Gr.keptN ns (marks ns root)).length c2,.int .i64 ((Gr.atL (marks ns root)).getD root 0:Nat)])/\∀W',KeptT 38 w' W'->KeptT 3 w' W'->GAt W' W'.heap.size A2 vs2 (Gr.keptN ns (marks ns root))
theorem zsn (A:Option Addr) (c root:Nat) (vs:List NV) (ns:List Gr.Nd) (hr:Refs ns) (hl:ns.length<=1000) (hks:∀n∈ns,n.keys.length<=1000/\n.items.length<=1000) (hroot:root<ns.length) (w:World) (h:GAt w w.heap.size A vs ns):
 Calls prog 16 #[.agg #[.slice A ns.length c,.int .i64 root]] w (zku ns root w):=by
 have bg:=fun W=>zbm ns.length (by omega) W
 have bl:=fun W=>za3 ns.length (by omega) W
 have r:=hid (zav hr hroot);have a3:=hid hr;have HG:Hid (∀W,Below w.heap.size w W->GAt W w.heap.size A vs ns):=hid (fun W J=>h.below J);have aq:Hid (∀(mb:Nat) (W:World),Below w.heap.size w W->w.heap.size<=mb->Blk W mb 4 (bcells (List.replicate ns.length false))->Calls prog 27 #[.agg #[.slice A ns.length c,.int .i64 (root:Nat)],.int .i64 (root:Nat),.slice (some ⟨mb,0,none⟩) ns.length ns.length] W fun e w'=>e=.returned (.tuple #[])/\za9 W w' (fun k=>k=mb)/\Blk w' mb 4 (bcells (marks ns root))):=hid (fun mb W J hm hb=>zc4 mb A c (root:Int) vs ns w.heap.size hr (by omega) (fun n hn=>by have:=hks n hn;omega) (List.replicate ns.length false) root W (h.below J) hm hb (by simp) hroot (zc3 _));have bB:=hid hks;obtain⟨m,hm⟩:=ex (marks ns root)
 have bA:=hid hm;rw[hm]at r aq;have bm:(root:Int)<(ns.length:Int):=by omega
 clear h hks hr hm;go_enter func16,ntmps16;go_upto_region 1 with fail;obtain⟨w1,ac⟩:=ex ((w.alloc (.cells #[.slice A ns.length c,.int .i64 root] 24)).alloc (.cells #[.slice none 0 0,.int .i64 0] 24))
 obtain⟨d,H⟩:=ex w.heap.size
 have b1:Blk w1 d 24 #[.slice A ns.length c,.int .i64 root]:=by rw[<-ac,<-H];exact(Blk.new _ _ _).alloc _
 have b2:Blk w1 (d+1) 24 #[.slice none 0 0,.int .i64 0]:=by rw[<-ac,<-H];have:=Blk.new (w.alloc (.cells #[.slice A ns.length c,.int .i64 root] 24)) 24 #[.slice none 0 0,.int .i64 0];rwa[World.size_alloc]at this
 have l1:Below d w w1:=by rw[<-ac,<-H];exact((Below.refl _ _).alloc (Nat.le_refl _) _).alloc (by simp) _
 have an:w1.heap.size=d+2:=by rw[<-ac,<-H];simp
 have g0:w1.cell? ⟨d,0,none⟩=some (.slice A ns.length c):=b1.cell 0;rw[H]at HG aq;have bn:=hid H;(try rw[ac]);(try rw[H]);clear ac H;go_upto_region 2 with fail;obtain⟨w2,ag⟩:=ex (w1.alloc (.cells (bcells (List.replicate ns.length false)) 4))
 have b3:Blk w2 (d+2) 4 (bcells (List.replicate ns.length false)):=by rw[<-ag,<-an];exact Blk.new _ _ _
 have l2:Below (d+2) w1 w2:=by rw[<-ag];exact(Below.refl _ _).alloc (by omega) _
 have aY:w2.heap.size=d+3:=by rw[<-ag];simp[an]
 have am:Hid (Blk w2 d 24 #[.slice A ns.length c,.int .i64 root]/\Blk w2 (d+1) 24 #[.slice none 0 0,.int .i64 0]):=hid ⟨b1.below l2 (by omega),b2.below l2 (by omega)⟩;have L2:Hid (Below d w w2):=hid (l1.trans (l2.mono (by omega)));have aw:=hid (aq.out (d+2) w2 L2.out (by omega) b3);have ax:=hid aY;obtain⟨q0,q1⟩:=cells2 am.out.1;(try rw[ag]);(try rw[an]);clear ag g0 b1 b2 b3 l1 l2 an aY aq bg;go_wp2_with fail;refine aw.out.mono ?_;rintro e w3 ⟨rfl,aS,a6⟩;have L3:Hid (Below d w w3):=hid (L2.out.trans (aS.below (by have:=ax.out;omega) (fun k hk=>by omega)));have al:Below (d+2) w2 w3:=aS.below (by have:=ax.out;omega) (fun k hk=>by omega);have aH:Hid (Blk w3 d 24 #[.slice A ns.length c,.int .i64 root]/\Blk w3 (d+1) 24 #[.slice none 0 0,.int .i64 0]/\Blk w3 (d+2) 4 (bcells m)):=hid ⟨am.out.1.below al (by omega),am.out.2.below al (by omega),a6⟩;have aP:Hid (d+3<=w3.heap.size):=hid (by have:=al.size;have:=ax.out;omega);have g0:w3.cell? ⟨d,0,none⟩=some (.slice A ns.length c):=aH.out.1.cell 0;clear aS a6 al q0 q1 aw am;go_upto_region 6 with fail;obtain⟨n,hn⟩:=ex ns.length
 rw[hn]at r bm hroot hl;obtain⟨o,Y⟩:=ex w3.heap.size
 obtain⟨w4,aa⟩:=ex ((w3.alloc (.cells (icells (List.replicate n 0)) 3)).alloc (.cells #[.slice (some ⟨o,0,none⟩) n n] 36))
 have l4:Below o w3 w4:=by rw[<-aa,<-Y];exact((Below.refl _ _).alloc (Nat.le_refl _) _).alloc (by simp) _
 have b4:Blk w4 o 3 (icells (List.replicate n 0)):=by rw[<-aa,<-Y];exact(Blk.new _ _ _).alloc _
 have b5:Blk w4 (o+1) 36 #[.slice (some ⟨o,0,none⟩) n n]:=by
  rw[<-aa];have:=Blk.new (w3.alloc (.cells (icells (List.replicate n 0)) 3)) 36 #[.slice (some ⟨o,0,none⟩) n n];rwa[World.size_alloc,Y]at this
 have u:Hid (d+3<=o/\w4.heap.size=o+2):=hid ⟨by have:=aP.out;omega,by rw[<-aa];simp[Y]⟩;have L4:Hid (Below d w w4):=hid (L3.out.trans (l4.mono (by have:=aP.out;omega)));have Z:Hid (Blk w4 d 24 #[.slice A n c,.int .i64 root]/\Blk w4 (d+1) 24 #[.slice none 0 0,.int .i64 0]/\Blk w4 (d+2) 4 (bcells m)):=hid (by
  have I:=aH.out;rw[hn]at I;have:=u.out;exact⟨I.1.below l4 (by omega),I.2.1.below l4 (by omega),I.2.2.below l4 (by omega)⟩)
 have aA:=hid (And.intro b4 b5);have ah:=hid hn;(try rw[hn]);(try rw[Y]);(try rw[aa]);clear aa Y g0 l4 b4 b5 aP aH bl hn;go_loopw [5,27] (fun s5 s27 wr=>∃(j k:Nat),j<=n/\k<=j/\s27=.int .i64 j/\s5=.int .i64 k/\Hid (k=(m.take j).count true/\Below o w4 wr/\Blk wr (o+1) 36 #[.slice (some ⟨o,0,none⟩) n n]/\Blk wr o 3 (icells ((Gr.atL m).take j++List.replicate (n-j) 0)))) (fun _ s27 _=>n-(intOf s27).toNat)
 case atStart=>exact⟨0,0,by omega,by omega,rfl,rfl,hid ⟨rfl,Below.refl _ _,aA.out.2,by simpa using aA.out.1⟩⟩
 case round=>
  obtain⟨j,k,hj,bs,rfl,rfl,HW⟩:=hrel;obtain⟨D,bE⟩:∃D,D=wr:=⟨_,rfl⟩
  subst bE;by_cases hlt:j<n
  .have T:(j:Int)<(n:Int):=by omega
   have B:j<m.length:=by rw[r.out];exact hlt
   obtain⟨b,hb⟩:=ex (m[j])
   have z0:D.cell? ⟨d+2,j,none⟩=some (.bool b):=by
    rw[(Z.out.2.2.below HW.out.2.1 (by have:=u.out;omega)).cell,zae B,List.getD_eq_getElem?_getD,List.getElem?_eq_getElem B,hb];rfl
   have z1:D.cell? ⟨o+1,0,none⟩=some (.slice (some ⟨o,0,none⟩) n n):=HW.out.2.2.1.cell 0;have aB:(Gr.atL m).length=n:=by rw[Gr.zcb,r.out]
   have a2:(Gr.atL m).getD j 0=k:=by rw[Gr.zc9 B];exact HW.out.1.symm
   obtain⟨L,hL⟩:=ex ((Gr.atL m).take j++List.replicate (n-j) 0)
   have av:Hid (L.set j k=(Gr.atL m).take (j+1)++List.replicate (n-(j+1)) 0):=hid (by rw[<-hL,<-zgv _ n j aB hlt,a2]);have aV:j<L.length:=by rw[<-hL];exact zgw _ _ _ aB hlt
   rw[hL]at HW;have q0:D.cell? ⟨o,j,none⟩=some (.int .i64 ((L.getD j 0:Nat):Int)):=by rw[HW.out.2.2.2.cell,zab aV]
   have qf:∀i,D.frozen? ⟨o,i,none⟩=false:=HW.out.2.2.2.frozen;have aZ:Hid ((m.take (j+1)).count true=k+(if b=true then 1 else 0)):=hid (by
    rw[List.take_succ_eq_append_getElem B,List.count_append,hb,<-HW.out.1];cases b<;>rfl)
   have ap:Hid (Below o w4 (D.setCell ⟨o,j,none⟩ (.int .i64 k))/\Blk (D.setCell ⟨o,j,none⟩ (.int .i64 k)) (o+1) 36 #[.slice (some ⟨o,0,none⟩) n n]/\Blk (D.setCell ⟨o,j,none⟩ (.int .i64 k)) o 3 (icells ((Gr.atL m).take (j+1)++List.replicate (n-(j+1)) 0))):=hid
    ⟨HW.out.2.1.setCell (p:=⟨o,j,none⟩) (Nat.le_refl _) _,HW.out.2.2.1.far (by simp) _,by rw[<-av.out,<-zam];exact HW.out.2.2.2.set_ j _⟩
   clear hb aB a2 hL aV B;cases b with
   |false=>
    have aD:Hid (k=(m.take (j+1)).count true):=hid (by rw[aZ.out];rfl);go_wp2;go_roundw
    case rel=>exact⟨j+1,k,by omega,by omega,by go_num,rfl,hid ⟨aD.out,ap.out⟩⟩
    case measure=>simp[intOf];omega
   |true=>
    have aD:Hid (k+1=(m.take (j+1)).count true):=hid (by rw[aZ.out];rfl);go_wp2;go_roundw
    case rel=>exact⟨j+1,k+1,by omega,by omega,by go_num,by go_num,hid ⟨aD.out,ap.out⟩⟩
    case measure=>simp[intOf];omega
  .have T:¬(j:Int)<(n:Int):=by omega
   have HE:Hid (Below o w4 D/\Blk D (o+1) 36 #[.slice (some ⟨o,0,none⟩) n n]/\Blk D o 3 (icells (Gr.atL m))):=hid (by
    have I:=HW.out;rw[List.take_of_length_le (l:=Gr.atL m) (by rw[Gr.zcb,r.out];omega),show n-j=0 by omega,List.replicate_zero,List.append_nil]at I;exact I.2)
   obtain⟨V,au⟩:=ex ((Gr.atL m).getD root 0)
   have hrab:V<=1000:=by
    rw[<-au,Gr.zc9 (by rw[r.out];exact hroot)];have:=List.count_le_length (a:=true) (l:=m.take root);rw[List.length_take]at this;have:=r.out;omega
   have aL:=Z.out.1.below HE.out.1 (by have:=u.out;omega);have z0:D.cell? ⟨o+1,0,none⟩=some (.slice (some ⟨o,0,none⟩) n n):=HE.out.2.1.cell 0;have z1:D.cell? ⟨d,1,none⟩=some (.int .i64 root):=aL.cell 1;have z2:D.cell? ⟨d,0,none⟩=some (.slice A n c):=aL.cell 0;have z3:D.cell? ⟨o,root,none⟩=some (.int .i64 (V:Int)):=by rw[HE.out.2.2.cell,zab (by rw[Gr.zcb,r.out];exact hroot),au]
   have bv:=hid au;clear au aL HW;go_upto_region 13 with fail;obtain⟨s,M⟩:=ex D.heap.size
   obtain⟨E,ak⟩:=ex (D.alloc (.cells #[.slice none 0 0,.int .i64 (V:Nat)] 24))
   have l5:Below s D E:=by rw[<-ak,<-M];exact(Below.refl _ _).alloc (Nat.le_refl _) _
   have b5:Blk E s 24 #[.slice none 0 0,.int .i64 (V:Nat)]:=by rw[<-ak,<-M];exact Blk.new _ _ _
   have N:Hid (o+2<=s/\E.heap.size=s+1):=hid ⟨by have:=HE.out.1.size;have:=u.out;omega,by rw[<-ak,<-M];simp⟩;have L5:Hid (Below d w E):=hid ((L4.out.trans (HE.out.1.mono (by have:=u.out;omega))).trans (l5.mono (by have:=u.out;have:=N.out;omega)));have ai:Hid (Blk E d 24 #[.slice A n c,.int .i64 root]/\Blk E (d+1) 24 #[.slice none 0 0,.int .i64 0]/\Blk E (d+2) 4 (bcells m)/\Blk E (o+1) 36 #[.slice (some ⟨o,0,none⟩) n n]/\Blk E o 3 (icells (Gr.atL m))):=hid (by
    have I:=u.out;have h2:=N.out;exact⟨(Z.out.1.below HE.out.1 (by omega)).below l5 (by omega),(Z.out.2.1.below HE.out.1 (by omega)).below l5 (by omega),(Z.out.2.2.below HE.out.1 (by omega)).below l5 (by omega),HE.out.2.1.below l5 (by omega),HE.out.2.2.below l5 (by omega)⟩)
   have aU:Hid (KKM E E s V (.slice none 0 0) [] []):=hid ⟨Below.refl _ _,b5,⟨OwnRow.nil,Rows.nil _ _⟩,by have:=N.out;omega⟩;have y0:E.cell? ⟨d,0,none⟩=some (.slice A n c):=ai.out.1.cell 0;(try rw[ak]);(try rw[M]);clear ak M l5 b5 z0 z1 z2 z3 HE Z aA hlt T hj bs;go_upto_region 15 with fail;clear y0;go_loopw [50] (fun s50 wr=>∃(j:Nat) (A1:Option Addr) (n1 c1:Nat) (vs1:List NV),j<=n/\s50=.int .i64 j/\Hid (KKM E wr s V (.slice A1 n1 c1) vs1 (Gr.keptT ns m j))) (fun s50 _=>n-(intOf s50).toNat)
   case atStart=>exact⟨0,none,0,0,[],by omega,rfl,hid (by unfold Gr.keptT;simpa using aU.out)⟩
   case round=>
    obtain⟨j,A1,n1,c1,vs1,hj,rfl,HV⟩:=hrel;obtain⟨C,bq⟩:∃C,C=wr:=⟨_,rfl⟩
    subst bq;clear aU;by_cases hlt:j<n
    .have T:(j:Int)<(n:Int):=by omega
     have bp:Hid (∀W,Below s E W->Below d w W):=hid (fun W J=>L5.out.trans (J.mono (by have:=u.out;have:=N.out;omega)));have aM:j<ns.length:=by rw[ah.out];exact hlt
     obtain⟨ad,ks,is,rfl,hN⟩:=(HG.out C (bp.out C HV.out.below)).node aM;obtain⟨ka,kn,kc⟩:=ks;obtain⟨ia,bt,ic⟩:=is;have aJ:ns[j]∈ns:=List.getElem_mem aM;obtain⟨aX,a7⟩:=bB.out _ aJ;have ao:=a3.out _ aJ;have B:j<m.length:=by rw[r.out];exact hlt
     have Q:=Gr.zcv aM B;obtain⟨f,aI⟩:=ex (ns[j])
     obtain⟨b,hb⟩:=ex (m[j])
     rw[aI,hb]at Q;rw[aI]at hN aX a7 ao;have av:=hid Q;obtain rfl:kn=f.keys.length:=hN.kn;obtain rfl:bt=f.items.length:=hN.inn;have x0:=hN.c0;have x1:=hN.c1;have x2:=hN.c2;have x3:=hN.c3;have x4:=hN.c4;have a9:Hid ((∀x∈f.keys,x<n)/\∀x∈f.items,x<n):=hid ⟨fun x hx=>by rw[<-ah.out];exact ao x (List.mem_append_left _ hx),fun x hx=>by rw[<-ah.out];exact ao x (List.mem_append_right _ hx)⟩;have aG:Hid (RowAt intL C d ka f.keys/\RowAt intL C d ia f.items):=hid ⟨hN.keys,hN.items⟩;have aC:Blk C (d+2) 4 (bcells m):=ai.out.2.2.1.below HV.out.below (by have:=u.out;have:=N.out;omega);have a1:m.getD j false=b:=by rw[List.getD_eq_getElem?_getD,List.getElem?_eq_getElem B,hb];rfl
     have a5:Hid (∀W,Below C.heap.size C W->W.cell? ⟨d+2,j,none⟩=some (.bool b)):=hid (fun W J=>by rw[(aC.below J aC.lt).cell,zae B,a1]);clear hN aJ aI hb ao Q aC a1 B;go_upto_region 17 with fail;obtain⟨F,af⟩:=ex (C.alloc (.cells #[.int .i64 f.kind,.string ⟨f.text.toArray⟩,.bool f.ord,.slice ka f.keys.length kc,.slice ia f.items.length ic] 38))
     obtain⟨K,G⟩:=ex C.heap.size
     have b6:Blk F K 38 #[.int .i64 f.kind,.string ⟨f.text.toArray⟩,.bool f.ord,.slice ka f.keys.length kc,.slice ia f.items.length ic]:=by rw[<-af,<-G];exact Blk.new _ _ _
     have l6:Below K C F:=by rw[<-af,<-G];exact(Below.refl _ _).alloc (Nat.le_refl _) _
     have a0:F.heap.size=K+1:=by rw[<-af,<-G];simp
     (try rw[af]);(try rw[G]);have ar:=hid l6;have y:=hid b6;have O:Hid (F.heap.size=K+1/\C.heap.size=K/\s+1<=K):=hid ⟨a0,G,by rw[<-G];exact HV.out.hd⟩;have z0:F.cell? ⟨d+2,j,none⟩=some (.bool b):=a5.out F (by rw[G];exact l6);clear af G b6 l6 a0 x0 x1 x2 x3 x4;cases b with
     |false=>
      have br:Hid (KKM E F s V (.slice A1 n1 c1) vs1 (Gr.keptT ns m (j+1))):=hid (by
       rw[av.out,if_neg Bool.false_ne_true];exact HV.out.later (by rw[O.out.2.1];exact ar.out))
      go_wp2;go_roundw
      case rel=>exact⟨j+1,A1,n1,c1,vs1,by omega,by go_num,br⟩
      case measure=>simp[intOf];omega
     |true=>
      have y3:F.cell? ⟨K,3,none⟩=some (.slice ka f.keys.length kc):=y.out.cell 3;have y4:F.cell? ⟨K,4,none⟩=some (.slice ia f.items.length ic):=y.out.cell 4;have yf:∀i,F.frozen? ⟨K,i,none⟩=false:=y.out.frozen;have HY:Hid (∀W,Below F.heap.size F W->W.cell? ⟨K,3,none⟩=some (.slice ka f.keys.length kc)/\W.cell? ⟨K,4,none⟩=some (.slice ia f.items.length ic)/\∀i,W.frozen? ⟨K,i,none⟩=false):=hid (fun W J=>⟨(y.out.below J y.out.lt).cell 3,(y.out.below J y.out.lt).cell 4,(y.out.below J y.out.lt).frozen⟩);have aE:Hid (∀(l:List Nat) (a:Option Addr) (cc:Nat),l.length<=1000->(∀x∈l,x<n)->RowAt intL C d a l->∀W,Below F.heap.size F W->Calls prog 32 #[.slice a l.length cc,.pointer (some ⟨o+1,0,none⟩)] W fun e w'=>Below F.heap.size F w'/\Below W.heap.size W w'/\∃g,g=W.heap.size/\e=.returned (.slice (some ⟨g,0,none⟩) l.length l.length)/\Blk w' g 3 (icells (l.map (fun x=>(Gr.atL m).getD x 0)))):=hid (fun l a cc hl1 bu hr W J=>by
       have h6:=O.out;have aF:Below s E W:=HV.out.below.trans ((ar.out.mono (by omega)).trans (J.mono (by omega)));have hsz:=aF.size;have h7:=N.out;have h8:=u.out;refine(zo6 a cc l (by omega) (o+1) o n (Gr.atL m) (by rw[Gr.zcb,r.out]) (fun x=>Nat.le_trans (Gr.zxo m x) (by rw[r.out];omega)) bu W d (by omega) (hr.below ((ar.out.mono (by omega)).trans (J.mono (by omega)))) (ai.out.2.2.2.1.below aF (by omega)) (ai.out.2.2.2.2.below aF (by omega))).mono ?_;rintro e w' ⟨rfl,I,h2⟩;exact⟨J.trans (I.mono J.size),I,_,rfl,rfl,h2⟩)
      have ay:=hid (aE.out f.keys ka kc aX a9.out.1 aG.out.1);have aQ:=hid (aE.out f.items ia ic a7 a9.out.2 aG.out.2);obtain⟨kl,R⟩:=ex (f.keys.map (fun x=>(Gr.atL m).getD x 0))
      obtain⟨il,S⟩:=ex (f.items.map (fun x=>(Gr.atL m).getD x 0))
      have be:Hid (Gr.mvN (Gr.atL m) f=⟨f.kind,f.text,f.ord,kl,il⟩):=hid (by unfold Gr.mvN;rw[R,S]);have aW:Hid (kl.length=f.keys.length/\il.length=f.items.length):=hid ⟨by rw[<-R,List.length_map],by rw[<-S,List.length_map]⟩;rw[R]at ay;rw[S]at aQ;clear R S aE;go_upto_region 18 with fail;clear z0;go_cut [] (fun wx=>∃g1 g2 wy,wy=wx/\Hid (KBx C wy K f kl il g1 g2))
      case first=>
       go_region_with ((first
        | (go_at_call 32;(with_reducible refine(ay.out _ ?_).mono ?_);(first|assumption|exact Below.refl _ _|exact(Below.refl _ _).drew|exact Below.drew (by assumption));rintro e1 bi ⟨bC,hc1,g1,ba,rfl,aj⟩;obtain⟨q13,q14,q1f⟩:=HY.out bi bC;have bk:=hid ba;clear ba)
        | (go_at_call 32;(with_reducible refine(aQ.out _ ?_).mono ?_);(first|assumption|exact Below.refl _ _|exact(Below.refl _ _).drew|exact Below.drew (by assumption));rintro e2 bo ⟨aN,bh,g2,a4,rfl,aT⟩;obtain⟨q23,q24,q2f⟩:=HY.out bo aN;have bw:=hid a4;clear a4)))
       all_goals
        go_wp2;go_meet;have e1:g1=K+1:=by have:=bk.out;have h2:=O.out;rw[show F.drew.heap.size=F.heap.size from rfl]at this;omega
        have e2:g1<g2:=by have:=bw.out;have:=aj.lt;omega
        refine⟨g1,g2,_,rfl,hid ⟨((y.out.below aN y.out.lt).set_ 3 _).set_ 4 _,((aj.below bh aj.lt).far (by simp;omega) _).far (by simp;omega) _,(aT.far (by simp;omega) _).far (by simp;omega) _,by have:=O.out;omega,by have:=O.out;omega,by omega,?_⟩⟩;have hw:C.heap.size=K:=O.out.2.1;rw[hw];exact((ar.out.trans (aN.mono (by have:=O.out;omega))).setCell (by simp) _).setCell (by simp) _
      case rest=>
       obtain⟨g1,g2,w7,rfl,HX⟩:=hcut;obtain⟨z0,z1,z2,z3,z4⟩:=cells5 HX.out.box;have q:Hid (KKM E w7 s V (.slice A1 n1 c1) vs1 (Gr.keptT ns m j)):=hid (HV.out.later HX.out.below);have o0:w7.cell? ⟨s,0,none⟩=some (.slice A1 n1 c1):=q.out.box.cell 0;obtain⟨x,bb⟩:∃x:NV,x=⟨f.kind,f.text,f.ord,⟨some ⟨g1,0,none⟩,f.keys.length,f.keys.length⟩,⟨some ⟨g2,0,none⟩,f.items.length,f.items.length⟩⟩:=⟨_,rfl⟩
       have ae:=hid bb;have bd:Hid (vs1.length<=1000):=hid (by
        have I:=q.out.tab.rows.len;rw[Gr.zig (by rw[r.out,ah.out]) (by omega)]at I;have:=List.count_le_length (a:=true) (l:=m.take j);rw[List.length_take]at this;omega)
       clear bb y3 y4 yf ay aQ HY aG a5;go_wp2_with (at_builtin;go_must (refine zaa _ rfl (.tmp 70) (.tmp 72) 22 38 80 rfl nodeT (s+1) (.slice A1 n1 c1) vs1 rfl (q.out.tab.row.alloc _) _ _ 1 [x] rfl (RowAt.lit1 _ _ (by rw[ae.out];rfl) _ ?_) ?_ ?_ ?_))
       any_goals (first|rfl| (have:=bd.out;have:=q.out.hd;simp;omega))
       intro v8 w8 U hg bz;obtain⟨A2,c2,a8,_⟩:=U.form;obtain⟨n2,bc⟩:=ex ((vs1++[x]).length)
       rw[bc]at a8;subst a8;have aR:∀t,t≠38->KeptT t w7 w8:=fun t ht=>(KeptT.alloc _ _ _).trans (KeptT.grown hg (q.out.tab.row.alloc _) (Ne.symm ht))
       have az:Below (s+1) w7 w8:=((Below.refl (s+1) w7).alloc q.out.hd _).trans ((q.out.tab.row.alloc _).grown_below hg (by rw[World.size_alloc];have:=q.out.hd;omega));have z:=aR _ (by decide) _ _ q.out.box;have o8:w8.cell? ⟨s,0,none⟩=some (.slice A1 n1 c1):=z.cell 0;have f8:∀i,w8.frozen? ⟨s,i,none⟩=false:=z.frozen;have ap:Hid (KKM E (w8.setCell ⟨s,0,none⟩ (.slice A2 n2 c2)) s V (.slice A2 n2 c2) (vs1++[x]) (Gr.keptT ns m (j+1))):=hid (by
        have aO:=(aR 3 (by decide)).trans (KeptT.setCell (p:=⟨s,0,none⟩) z (by decide) (.slice A2 n2 c2));refine⟨(q.out.below.trans (az.mono (Nat.le_succ _))).setCell (p:=⟨s,0,none⟩) (Nat.le_refl _) _,z.set_ 0 _,⟨U.setCell (fun e=>by have:=(U.lt _ e).1;simp at this;omega) _,?_⟩,Nat.le_trans q.out.hd (by have:=az.size;simp;omega)⟩;rw[av.out,if_pos (by trivial),be.out];have hlo:=HX.out.lo1;have hlo2:=HX.out.lo2;have hhd:=HV.out.hd;have hbd:=bd.out;refine(q.out.tab.rows.kept aO).snoc x ⟨f.kind,f.text,f.ord,kl,il⟩ (by rw[ae.out];exact⟨rfl,rfl,rfl⟩) ?_ ?_ ?_ ?_
        .rw[ae.out];exact zb5 (aO _ _ HX.out.b1) (by omega) aW.out.1 (by simp only[maxLen];omega)
        .rw[ae.out];exact zb5 (aO _ _ HX.out.b2) (by omega) aW.out.2 (by simp only[maxLen];omega)
        .intro g e1 e2;rw[ae.out]at e1 e2;simp[SV.v,Value.ownBlock]at e1 e2;have:=HX.out.ne_;omega
        .intro j' b' g e1;have:=((HV.out.tab.rows.own j' b').lt g e1).2;rw[ae.out];constructor<;>(intro e2;simp[SV.v,Value.ownBlock]at e2;omega))
       clear U hg bz aR az z bc z0 z1 z2 z3 z4 o0;go_wp2;go_roundw
       case rel=>exact⟨j+1,A2,n2,c2,vs1++[x],by omega,by go_num,ap⟩
       case measure=>simp[intOf];omega
    .have T:¬(j:Int)<(n:Int):=by omega
     have X:Hid (KKM E C s V (.slice A1 n1 c1) vs1 (Gr.keptN ns m)):=hid (by
      have I:=HV.out;rw[show j=ns.length by rw[ah.out];omega]at I;exact I)
     have M:d+1<s:=by have:=u.out;have:=N.out;omega
     obtain⟨o0,o1⟩:=cells2 X.out.box;have z:=ai.out.2.1.below X.out.below M;have aK:=hid z;obtain⟨d0,d1⟩:=cells2 z;have df:∀i,C.frozen? ⟨d+1,i,none⟩=false:=z.frozen;clear z HV;go_wp2_with fail;have bj:Blk ((C.setCell ⟨d+1,0,none⟩ (.slice A1 n1 c1)).setCell ⟨d+1,1,none⟩ (.int .i64 (V:Nat))) (d+1) 24 #[.slice A1 n1 c1,.int .i64 (V:Nat)]:=(aK.out.set_ 0 _).set_ 1 _;refine bodyPost_ret (v:=.agg #[.slice A1 n1 c1,.int .i64 (V:Nat)]) (results_cell_row (P:=prog) rfl _ _ (d+1) 24 _ (0,0) _ rfl bj underlying24 rfl (by kernel_rfl)) rfl ⟨?_,?_⟩
     .rw[bn.out];exact((L5.out.trans (X.out.below.mono (by omega))).setCell (by simp) _).setCell (by simp) _
     .rw[bA.out,bv.out];obtain⟨A9,c9,bx,_⟩:=X.out.tab.at_;injection bx with e1 e2 e3
      subst e1;refine⟨A1,c1,vs1,by rw[<-e2],fun W' kN kI=>?_⟩;have hk:∀t,t≠24->KeptT t C ((C.setCell ⟨d+1,0,none⟩ (.slice A1 n1 c1)).setCell ⟨d+1,1,none⟩ (.int .i64 (V:Nat))):=fun t ht=>(KeptT.setCell (p:=⟨d+1,0,none⟩) aK.out ht _).trans (KeptT.setCell (p:=⟨d+1,1,none⟩) (aK.out.set_ 0 _) ht _)
      have ht:Tab (s+1) W' (.slice A1 n1 c1) vs1 (Gr.keptN ns m):=⟨X.out.tab.row.kept ((hk _ (by decide)).trans kN),X.out.tab.rows.kept ((hk _ (by decide)).trans kI)⟩
      obtain⟨A8,c8,bD,bf⟩:=ht.at_;injection bD with e1 e2 e3
      subst e1;exact bf
namespace Gr
section
variable {kind:Int} {text:Str} {ns:List Nd} {r:Nat}
end
end Gr
end Go.Proofs.YtpgmfihonmoliaaGreatDoor
