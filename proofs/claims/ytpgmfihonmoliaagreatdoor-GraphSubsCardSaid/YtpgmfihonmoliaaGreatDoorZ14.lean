import Derived.Test.YtpgmfihonmoliaaGreatDoorZ13
namespace Go.Proofs.YtpgmfihonmoliaaGreatDoor
open Gr
open _root_.Go.Proofs.Tryz
open _root_.Go.Lib (hid)
set_option maxRecDepth 100000
set_option maxHeartbeats 16000000
open Go.RowKit
def NH (ns:List Gr.Nd):Prop:=∀n∈ns,n.keys.length<=1073741823/\n.items.length<=1073741823/\n.text.length<=1073741823
theorem zl3 (ns:List Gr.Nd) (h:NH ns):(Gr.refs ns).length<=ns.length*2147483646:=by
 induction ns with
 |nil=>simp[Gr.refs]
 |cons x l ih=>
  have h1:=ih (fun n a=>h n (.tail _ a));obtain⟨h2,h3,_⟩:=h x (.head _);have e:Gr.refs (x::l)=(x.keys++x.items)++Gr.refs l:=rfl;rw[e,List.length_append,List.length_append,List.length_cons,Nat.add_mul];omega
theorem zoe {ns:List Gr.Nd} {i:Nat} (h:i<ns.length):ns.getD i ⟨0,[],false,[],[]⟩=ns[i]:=by
 rw[List.getD_eq_getElem?_getD,List.getElem?_eq_getElem h];rfl
theorem zfo (k:Nat) (f:Nat->Bool):(List.range (k+1)).all f=((List.range k).all f && f k):=by
 rw[List.range_succ,List.all_append];simp
theorem zfp (k:Nat) (f:Nat->Bool):(List.range (k+1)).any f=((List.range k).any f || f k):=by
 rw[List.range_succ,List.any_append];simp
def ScalsOk (T:World->Prop) (sclr:Int->Gr.Str->Bool) (ns:List Gr.Nd):Prop:=∀x∈ns,x.kind≠9->x.kind≠10->x.kind≠11->x.ord=false->x.keys=[]->x.items=[]->ScalOk T x.kind x.text (sclr x.kind x.text)
section
variable (sclr:Int->Gr.Str->Bool) (ns:List Gr.Nd) (root:Nat)
def ok1 (i:Nat):Bool:=(marks ns root).getD i false && formB sclr (ns.getD i ⟨0,[],false,[],[]⟩)
def bad2 (i:Nat):Bool:=(inKeys ns).getD i false && (counts ns root).getD i 0 != 1
theorem zof:checkN sclr ns root=if(List.range ns.length).all (ok1 sclr ns root)=false then 3 else if(List.range ns.length).any (bad2 ns root)=true then 3 else if twice ns ns.length=true then 8 else if(depth ns root).1>32 then 5 else 0:=by
 unfold checkN;have b:(List.range ns.length).all (ok1 sclr ns root)=(List.range ns.length).all (fun i=>(marks ns root).getD i false && formB sclr (ns.getD i ⟨0,[],false,[],[]⟩)):=rfl;have a:(List.range ns.length).any (bad2 ns root)=(List.range ns.length).any (fun i=>(inKeys ns).getD i false && (counts ns root).getD i 0 != 1):=rfl;rw[b,a];cases(List.range ns.length).all (fun i=>(marks ns root).getD i false && formB sclr (ns.getD i ⟨0,[],false,[],[]⟩))<;>simp
end
theorem zyt {sclr:Int->Gr.Str->Bool} {ns:List Gr.Nd} {root:Nat} (h:(List.range ns.length).all (ok1 sclr ns root)=true):Gr.KF ns/\(∀i,i<ns.length->mkd (marks ns root) i=true):=by
 rw[List.all_eq_true]at h;refine⟨fun n e d=>?_,fun i c=>?_⟩
 .obtain⟨i,c,rfl⟩:=List.getElem_of_mem e;have a:=h i (List.mem_range.2 c);unfold ok1 at a;rw[zoe c,Bool.and_eq_true]at a;have b:=a.2;unfold formB at b;rw[d]at b;simp at b;exact b.2
 .have a:=h i (List.mem_range.2 c);unfold ok1 at a;rw[Bool.and_eq_true]at a;exact a.1
theorem zl4 (T:World->Prop) (hT:Stays T) (sclr:Int->Gr.Str->Bool) (A:Option Addr) (c root:Nat) (vs:List NV) (is:List Gr.Ni) (ns:List Gr.Nd) (hns:is.map Gr.Ni.nd=ns) (hn0:0<ns.length) (hn:ns.length<=4096) (hks:NH ns) (hin:indB is (root:Int)=true)
 (hsc:ScalsOk T sclr ns) (w:World) (hTw:T w) (h:IAt w w.heap.size A vs is):
 Calls prog 15 #[.agg #[.slice A ns.length c,.int .i64 root]] w fun e w'=>e=.returned (.int .i64 (checkN sclr ns root:Nat))/\Below w.heap.size w w':=by
 have ag:is.length=ns.length:=by rw[<-hns];simp
 have aN:=hin;unfold indB at hin;rw[Bool.and_eq_true]at hin;have b:root<ns.length:=by
  have:=hin.1;unfold inR at this;simp at this;omega
 obtain⟨h0,C⟩:=za4 hin.2;rw[hns]at C;have hG:GAt w w.heap.size A vs ns:=by rw[<-hns];exact h.toG h0
 have l:∀n∈ns,n.keys.length<=1073741823/\n.items.length<=1073741823:=fun n hn=>⟨(hks n hn).1,(hks n hn).2.1⟩
 have hl:ns.length<=1073741823:=by omega
 have aP:Hid (∀W,Below w.heap.size w W->Calls prog 26 #[.agg #[.slice A ns.length c,.int .i64 (root:Int)]] W fun e w'=>e=.returned (.bool true)/\Below W.heap.size W w'):=hid (fun W B=>by
  have:=zex A c (root:Int) vs is (by omega) (fun n L=>by
   have:=hks n.nd (by rw[<-hns];exact List.mem_map_of_mem L);simp only[Gr.Ni.nd,List.length_map]at this;exact⟨this.1,this.2.1⟩) W ((h.below B).more B.size)
  rw[ag,aN]at this;exact this)
 have HG:=hid hG;have hmk:=fun W=>zbm ns.length (by omega) W
 have aW:=hid hTw;have hnI:(ns.length:Int)<=4096:=by omega
 have hn0I:(0:Int)<(ns.length:Int):=by omega
 have hn0b:((ns.length:Int)==0)=false:=by rw[beq_eq_false_iff_ne];omega
 have ba:=hid hsc;have R:=hid (zof sclr ns root);clear hns hin aN h0 hG hTw h hsc ag;go_enter func15,ntmps15;go_upto_region 1 with fail;obtain⟨a,V⟩:=ex (w.alloc (.cells #[.slice A ns.length c,.int .i64 root] 24))
 (try rw[V]);have Q:Below w.heap.size w a:=by rw[<-V];exact(Below.refl _ _).alloc (Nat.le_refl _) _
 have b1:Blk a w.heap.size 24 #[.slice A ns.length c,.int .i64 root]:=by rw[<-V];exact Blk.new _ _ _
 obtain⟨gb,X⟩:=ex w.heap.size
 have HGB:=hid X;have L1:=hid Q;(try rw[X]);rw[X]at b1;have HB1:=hid b1;have Y:Hid (∀W,Below a.heap.size a W->W.cell? ⟨gb,0,none⟩=some (.slice A ns.length c)/\W.cell? ⟨gb,1,none⟩=some (.int .i64 (root:Int))):=hid (fun W B=>⟨(b1.below B b1.lt).cell 0,(b1.below B b1.lt).cell 1⟩);have HGL:Hid (gb<a.heap.size):=hid b1.lt;have D:Hid (∀W,Below a.heap.size a W->GAt W W.heap.size A vs ns):=hid (fun W B=>(HG.out.below (Q.trans (B.mono Q.size))).more (Q.trans (B.mono Q.size)).size);have f:Hid (∀W,Below a.heap.size a W->Below w.heap.size w W):=hid (fun W B=>Q.trans (B.mono Q.size));have aU:=aP.out a Q;have bb:=hid aU;obtain⟨g0,g1⟩:=Y.out a (Below.refl _ _);clear V X Q b1 aU;go_wp2_with fail;refine bb.out.mono ?_;rintro e w2 ⟨rfl,aw⟩;obtain⟨p0,p1⟩:=Y.out w2 aw;have aj:=hid aw;clear g0 g1 aw;go_upto_region 6 with fail;obtain⟨w3,P⟩:=ex (w2.alloc (.cells (bcells (List.replicate ns.length false)) 4))
 obtain⟨U,M⟩:=ex w2.heap.size
 have l3:Below a.heap.size a w3:=by rw[<-P];exact aj.out.alloc aj.out.size _
 have b3:Blk w3 U 4 (bcells (List.replicate ns.length false)):=by rw[<-P,<-M];exact Blk.new _ _ _
 have ah:a.heap.size<=U:=by rw[<-M];exact aj.out.size
 have HR:=hid (zc4 U A c (root:Int) vs ns w.heap.size C hl l (List.replicate ns.length false) root w3 (HG.out.below (f.out w3 l3)) (by have:=L1.out.size;omega) b3 (by simp) b (zc3 _));have HB3:=hid b3;have L3:=hid l3;have a7:=hid ah;rw[P];(try rw[M]);obtain⟨q0,q1⟩:=Y.out w3 l3;clear P M l3 b3 p0 p1 ah;go_wp2_with fail;refine HR.out.mono ?_;rintro e O ⟨rfl,aM,aH⟩;have ay:Below a.heap.size a O:=L3.out.trans (KB.below (g:=U) aM a7.out L3.out.size);have aQ:Hid (Blk O U 4 (bcells (marks ns root))):=hid aH;have bc:Hid ((marks ns root).length=ns.length):=hid (zbq C.succ ns.length (List.replicate ns.length false) root (by simp) b (zc3 _)).len;have L4:=hid ay;obtain⟨p0,p1⟩:=Y.out O ay;clear aM aH ay q0 q1;go_upto_region 8 with fail;clear p0 p1;go_loopw [36] (fun s36 wr=>∃i:Nat,i<=ns.length/\s36=.int .i64 i/\Hid (Below a.heap.size a wr/\Below O.heap.size O wr/\(List.range i).all (ok1 sclr ns root)=true)) (fun s36 _=>ns.length-(intOf s36).toNat)
 case atStart=>exact⟨0,by omega,rfl,hid ⟨L4.out,Below.refl _ _,by simp⟩⟩
 case round=>
  obtain⟨i,hi,rfl,u⟩:=hrel;obtain⟨m,bd⟩:∃m,m=wr:=⟨_,rfl⟩
  subst bd;by_cases hlt:i<ns.length
  .have aR:(i:Int)<(ns.length:Int):=by omega
   obtain⟨ad,ks,is,rfl,N⟩:=(D.out m u.out.1).node hlt;obtain⟨ka,kn,kc⟩:=ks;obtain⟨ia,a8,ic⟩:=is;have L:ns[i]∈ns:=List.getElem_mem hlt;obtain⟨z,aL,aD⟩:=hks _ L;have aa:=hid (ba.out _ L);have au:Hid (ok1 sclr ns root i=((marks ns root).getD i false && formB sclr ns[i])):=hid (by unfold ok1;rw[zoe hlt]);obtain⟨n,hn⟩:=ex (ns[i])
   rw[hn]at N z aL aD aa au;obtain rfl:kn=n.keys.length:=N.kn;obtain rfl:a8=n.items.length:=N.inn;have x0:=N.c0;have x1:=N.c1;have x2:=N.c2;have x3:=N.c3;have x4:=N.c4;obtain⟨mk,q⟩:=ex ((marks ns root).getD i false)
   have av:Blk m U 4 (bcells (marks ns root)):=aQ.out.below u.out.2.1 aQ.out.lt;have m0:m.cell? ⟨U,i,none⟩=some (.bool mk):=by rw[av.cell,zae (by rw[bc.out];exact hlt),q]
   have G:Hid ((List.range (i+1)).all (ok1 sclr ns root)=(mk && formB sclr n)):=hid (by rw[zfo,u.out.2.2,au.out,q];rfl);have d:Hid ((mk && formB sclr n)=false->checkN sclr ns root=3):=hid (fun e=>by
    rw[R.out,if_pos];rw[List.all_eq_false];exact⟨i,List.mem_range.2 hlt,by rw[au.out,q,e];simp⟩)
   have J:Below m.heap.size m (m.alloc (.cells #[.int .i64 n.kind,.string ⟨n.text.toArray⟩,.bool n.ord,.slice ka n.keys.length kc,.slice ia n.items.length ic] 38)):=(Below.refl _ _).alloc (Nat.le_refl _) _;have HF:=hid (zr9 T hT sclr n.kind n.text n.ord n.keys n.items ka ia kc ic aD z aL (fun a1 a2 a3 a4 a5 a6=>aa.out a1 a2 a3 a4 a5 a6) _ (hT _ _ aW.out ((f.out m u.out.1).trans (J.mono (f.out m u.out.1).size))));have m1:(m.alloc (.cells #[.int .i64 n.kind,.string ⟨n.text.toArray⟩,.bool n.ord,.slice ka n.keys.length kc,.slice ia n.items.length ic] 38)).cell? ⟨U,i,none⟩=some (.bool mk):=(J.cell (p:=⟨U,i,none⟩) av.lt).trans m0;obtain⟨fb,ao⟩:=ex (formB sclr n)
   rw[ao]at G d;have aO:formB sclr ⟨n.kind,n.text,n.ord,n.keys,n.items⟩=fb:=ao;rw[aO]at HF;have K:Hid (Below a.heap.size a (m.alloc (.cells #[.int .i64 n.kind,.string ⟨n.text.toArray⟩,.bool n.ord,.slice ka n.keys.length kc,.slice ia n.items.length ic] 38))/\Below O.heap.size O (m.alloc (.cells #[.int .i64 n.kind,.string ⟨n.text.toArray⟩,.bool n.ord,.slice ka n.keys.length kc,.slice ia n.items.length ic] 38))):=hid ⟨u.out.1.trans (J.mono u.out.1.size),u.out.2.1.trans (J.mono u.out.2.1.size)⟩;clear N L hn av q ao aO J;cases mk with
   |false=>
    go_wp2;go_ret;rw[d.out rfl];exact⟨rfl,f.out _ K.out.1⟩
   |true=>
    clear m0;go_wp2_with fail;refine HF.out.mono ?_;rintro e w6 ⟨rfl,al⟩;have ax:Hid (Below a.heap.size a w6/\Below O.heap.size O w6):=hid ⟨K.out.1.trans (al.mono K.out.1.size),K.out.2.trans (al.mono K.out.2.size)⟩;clear al;cases fb with
    |false=>
     go_wp2;go_ret;rw[d.out rfl];exact⟨rfl,f.out _ ax.out.1⟩
    |true=>
     go_wp2;go_roundw
     case rel=>exact⟨i+1,by omega,by go_num,hid ⟨ax.out.1,ax.out.2,by rw[G.out];rfl⟩⟩
     case measure=>simp[intOf];omega
  .have aR:¬(i:Int)<(ns.length:Int):=by omega
   have o:(List.range ns.length).all (ok1 sclr ns root)=true:=by
    have:=u.out.2.2;rwa[show i=ns.length from by omega]at this
   obtain⟨aF,r⟩:=zyt o;have s:∀v,v<ns.length->Gr.Reach (Gr.succ ns) root v:=fun v hv=>(zay C b v).1 (r v hv)
   have aX:=hid aF;have t:=hid s;have ar:=hid o;have HC:=hid (zlt A c root vs ns C hl l (by have:=zl3 ns hks;omega) m (D.out m u.out.1) b);obtain⟨p0,p1⟩:=Y.out m u.out.1;clear aF r s o;go_upto_region 13 with fail;go_wp2_with fail;refine HC.out.mono ?_;rintro e w7 ⟨cb,rfl,a9,aT,aE⟩;have S:Hid (Below a.heap.size a w7):=hid (u.out.1.trans (aT.mono u.out.1.size));have aS:=hid aE;have HK:=hid (zlu A c (root:Int) vs ns C hl l w7 (D.out w7 S.out));obtain⟨q0,q1⟩:=Y.out w7 S.out;clear a9 aT aE p0 p1;go_wp2_with fail;refine HK.out.mono ?_;rintro e w8 ⟨kb,rfl,aZ,ak,aJ⟩;have F:Hid (Below a.heap.size a w8):=hid (S.out.trans (ak.mono S.out.size));have aB:=hid (aS.out.below ak aS.out.lt);have aY:=hid aJ;have az:Hid ((inKeys ns).length=ns.length/\(counts ns root).length=ns.length):=hid ⟨zer C _ _ (zjc C) (by simp),by unfold counts;rw[zb1,zch];simp⟩;clear aZ ak aJ q0 q1;go_upto_region 15 with fail;go_loop [57] (fun s57=>∃k:Nat,k<=ns.length/\s57=.int .i64 k/\Hid ((List.range k).any (bad2 ns root)=false)) (fun s57=>ns.length-(intOf s57).toNat)
   case atStart=>exact⟨0,by omega,rfl,hid (by simp)⟩
   case round=>
    obtain⟨k,hk,rfl,HV⟩:=hrel;by_cases z:k<ns.length
    .have aK:(k:Int)<(ns.length:Int):=by omega
     obtain⟨ik,am⟩:=ex ((inKeys ns).getD k false)
     obtain⟨cv,aq⟩:=ex ((counts ns root).getD k 0)
     have z0:w8.cell? ⟨kb,k,none⟩=some (.bool ik):=by rw[aY.out.cell,zae (by rw[az.out.1];exact z),am]
     have z1:w8.cell? ⟨cb,k,none⟩=some (.int .i64 (cv:Int)):=by rw[aB.out.cell,zab (by rw[az.out.2];exact z),aq]
     have aG:Hid (bad2 ns root k=(ik && cv != 1)):=hid (by unfold bad2;rw[am,aq]);have G:Hid ((List.range (k+1)).any (bad2 ns root)=(ik && cv != 1)):=hid (by rw[zfp,HV.out,aG.out];rfl);have d:Hid ((ik && cv != 1)=true->checkN sclr ns root=3):=hid (fun e=>by
      rw[R.out,if_neg (by rw[ar.out];simp),if_pos];exact List.any_eq_true.2 ⟨k,List.mem_range.2 z,by rw[aG.out,e]⟩)
     clear am aq;cases ik with
     |false=>
      clear z1;go_wp2;go_round
      case rel=>exact⟨k+1,by omega,by go_num,hid (by rw[G.out];rfl)⟩
      case measure=>simp[intOf];omega
     |true=>
      by_cases hc1:cv=1
      .subst hc1;go_wp2;go_round
       case rel=>exact⟨k+1,by omega,by go_num,hid (by rw[G.out];rfl)⟩
       case measure=>simp[intOf];omega
      .have aI:¬((cv:Int)=1):=by omega
       have hc1b:((cv:Int)==1)=false:=by rw[beq_eq_false_iff_ne];exact aI
       have aA:Hid (checkN sclr ns root=3):=hid (d.out (by simpa using hc1));go_wp2;go_ret;rw[aA.out];exact⟨rfl,f.out _ F.out⟩
    .have aK:¬(k:Int)<(ns.length:Int):=by omega
     have H:(List.range ns.length).any (bad2 ns root)=false:=by
      have:=HV.out;rwa[show k=ns.length from by omega]at this
     have af:∀x,x<ns.length->mkd (inKeys ns) x=true->(counts ns root).getD x 0=1:=fun x hx hm=>by
      have:=(List.any_eq_false.1 H) x (List.mem_range.2 hx);unfold bad2 at this;unfold mkd at hm;rw[hm]at this;simpa using this
     have j:=zez C b t.out af;have ae:=hid (zoc ns.length A c (root:Int) vs ns C hl l (fun x hx y hy W B=>zsg A c (root:Int) vs ns C aX.out hl hks ns.length x y W (j x hx).1 (j y hy).1 (j x hx).2 B) w8 (D.out w8 F.out));have ab:=hid H;obtain⟨p0,p1⟩:=Y.out w8 F.out;obtain⟨tw,an⟩:=ex (twice ns ns.length)
     rw[an]at ae;have ac:=hid an;clear H af j an;go_wp2_with fail;refine ae.out.mono ?_;rintro e w9 ⟨rfl,aC⟩;have E:Hid (Below a.heap.size a w9):=hid (F.out.trans (aC.mono F.out.size));clear aC;cases tw with
     |true=>
      have d:Hid (checkN sclr ns root=8):=hid (by rw[R.out,if_neg (by rw[ar.out];simp),if_neg (by rw[ab.out];simp),if_pos ac.out]);go_wp2;go_ret;rw[d.out];exact⟨rfl,f.out _ E.out⟩
     |false=>
      have I:Hid (checkN sclr ns root=if(depth ns root).1>32 then 5 else 0):=hid (by rw[R.out,if_neg (by rw[ar.out];simp),if_neg (by rw[ab.out];simp),if_neg (by rw[ac.out];simp)]);have HD:=hid (zho A c root vs ns C hl l b t.out w9 (D.out w9 E.out));obtain⟨q0,q1⟩:=Y.out w9 E.out;obtain⟨dv,ap⟩:=ex ((depth ns root).1)
      obtain⟨da,aV⟩:=ex ((depth ns root).2)
      rw[ap]at I;rw[ap,aV]at HD;clear ap aV p0 p1;go_wp2_with fail;refine HD.out.mono ?_;rintro e a0 ⟨rfl,ai⟩;have Z:Hid (Below a.heap.size a a0):=hid (E.out.trans (ai.mono E.out.size));clear ai;by_cases hd:dv>32
      .have d:Hid (checkN sclr ns root=5):=hid (by rw[I.out,if_pos hd]);go_wp2;go_ret;rw[d.out];exact⟨rfl,f.out _ Z.out⟩
      .have d:Hid (checkN sclr ns root=0):=hid (by rw[I.out,if_neg hd]);go_wp2;go_ret;rw[d.out];exact⟨rfl,f.out _ Z.out⟩
def checkI (sclr:Int->Gr.Str->Bool) (is:List Gr.Ni) (root:Int):Nat:=
 if is.length>4096 then 7 else if is.length=0\/indB is root=false then 3 else checkN sclr (is.map Gr.Ni.nd) root.toNat
theorem ze0 (T:World->Prop) (hT:Stays T) (sclr:Int->Gr.Str->Bool) (A:Option Addr) (c:Nat) (root:Int) (vs:List NV) (is:List Gr.Ni) (hks:NH (is.map Gr.Ni.nd)) (hsc:ScalsOk T sclr (is.map Gr.Ni.nd)) (hl:is.length<=1073741823) (w:World) (hTw:T w) (h:IAt w w.heap.size A vs is):
 Calls prog 15 #[.agg #[.slice A is.length c,.int .i64 root]] w fun e w'=>e=.returned (.int .i64 (checkI sclr is root:Nat))/\Below w.heap.size w w':=by
 by_cases h1:is.length>4096
 .have g:Hid (checkI sclr is root=7):=hid (by unfold checkI;rw[if_pos h1]);have f:(4096:Int)<(is.length:Int):=by omega
  clear hsc hks hTw h;go_enter func15,ntmps15;go_wp2;go_ret;rw[g.out];exact⟨rfl,(Below.refl _ _).alloc (Nat.le_refl _) _⟩
 .have f:¬(4096:Int)<(is.length:Int):=by omega
  by_cases h2:is.length=0
  .have g:Hid (checkI sclr is root=3):=hid (by unfold checkI;rw[if_neg h1,if_pos (.inl h2)]);obtain rfl:=List.eq_nil_of_length_eq_zero h2;clear hsc hks hTw h h1 f h2;go_enter func15,ntmps15;go_wp2;go_ret;rw[g.out];exact⟨rfl,(Below.refl _ _).alloc (Nat.le_refl _) _⟩
  .have h2b:((is.length:Int)==0)=false:=by rw[beq_eq_false_iff_ne];omega
   cases hin:indB is root with
   |false=>
    have g:Hid (checkI sclr is root=3):=hid (by unfold checkI;rw[if_neg h1,if_pos (.inr hin)]);obtain⟨j,b⟩:=ex (w.alloc (.cells #[.slice A is.length c,.int .i64 root] 24))
    have i:Below w.heap.size w j:=by rw[<-b];exact(Below.refl _ _).alloc (Nat.le_refl _) _
    have l:=zex A c root vs is hl (fun n q=>by
     have:=hks n.nd (List.mem_map_of_mem q);simp only[Gr.Ni.nd,List.length_map]at this;exact⟨this.1,this.2.1⟩) j ((h.below i).more i.size)
    rw[hin]at l;have p:=hid l;have m:=hid i;clear hsc hks hTw h hin l i;go_enter func15,ntmps15;go_upto_region 1 with fail;have o:Blk j w.heap.size 24 #[.slice A is.length c,.int .i64 root]:=by rw[<-b];exact Blk.new _ _ _
    obtain⟨g0,g1⟩:=cells2 o;(try rw[b]);clear b o;go_wp2_with fail;refine p.out.mono ?_;rintro e w2 ⟨rfl,d⟩;have k:=hid (m.out.trans (d.mono m.out.size));clear d;go_wp2;go_ret;rw[g.out];exact⟨rfl,k.out⟩
   |true=>
    have a:=hin;unfold indB at a;rw[Bool.and_eq_true]at a;have hr0:0<=root:=by have:=a.1;unfold inR at this;simp at this;exact this.1
    obtain⟨r,rfl⟩:∃r:Nat,root=(r:Int):=⟨root.toNat,by omega⟩
    have:=zl4 T hT sclr A c r vs is (is.map Gr.Ni.nd) rfl (by simp;omega) (by simp;omega) hks hin hsc w hTw h;rw[List.length_map]at this;have e:checkI sclr is (r:Int)=checkN sclr (is.map Gr.Ni.nd) r:=by
     unfold checkI;rw[if_neg h1,if_neg (by rw[hin];simp[h2]),Int.toNat_natCast]
    rw[e];exact this
theorem zy1 (s:Gr.Str):Lib.trimPrefix s [45]=Gr.fT s:=by
 unfold Lib.trimPrefix Lib.hasPrefix Gr.fT;cases s with
 |nil=>rfl
 |cons c r=>
  by_cases h:c=45
  .subst h;simp
  .have:((45:UInt8)==c)=false:=by rw[beq_eq_false_iff_ne];exact fun e=>h e.symm
   simp[h];exact fun e=>h e.symm
theorem zs5 (s:Gr.Str) (w:World):Calls prog 79 #[.string ⟨s.toArray⟩,.string ⟨#[45]⟩] w fun e w'=>e=.returned (.tuple #[.string ⟨(Gr.fT s).toArray⟩,.bool (Lib.hasPrefix s [45])])/\w'=w:=by
 have:=strings_CutPrefix ⟨s.toArray⟩ ⟨#[45]⟩ w;have a:Lib.trimPrefix (⟨s.toArray⟩:ByteArray).data.toList (⟨#[45]⟩:ByteArray).data.toList=Gr.fT s:=by rw[<-zy1]
 rw[a]at this;exact this
theorem zx6 (s:Gr.Str):(Gr.fT s).length<=s.length:=by
 unfold Gr.fT;split
 .simp
 .omega
theorem zmo (s:Gr.Str) (hl:s.length<=1073741823) (w:World) (hT:UT w):Calls prog 56 #[.string ⟨s.toArray⟩] w (FPost (fltP s) w):=by
 have Z:=hid hT;have o:=hid (fun W=>zs5 s W);have ac:=zx6 s;obtain⟨Y,O⟩:=ex (Lib.hasPrefix s [45])
 obtain⟨t,ht⟩:=ex (Gr.fT s)
 rw[O,ht]at o;rw[ht]at ac;have HP:Hid (fltP s=if s=[110,97,110]then true else if t=[105,110,102]then true else if t=[48,112,48]then true else fltN t):=hid (by rw[<-ht];rfl);have R:=hid (fun f g W=>zpz f g W);obtain⟨r,hr⟩:=ex (fltP s)
 rw[hr]at HP ⊢;clear hT O ht hr;by_cases hnan:s=[110,97,110]
 .have h1:(s==([110,97,110]:List UInt8))=true:=by rw[beq_iff_eq];exact hnan
  have p:Hid (r=true):=hid (by rw[HP.out,if_pos hnan]);have HN:=hid (fun W=>zv0 W);clear hnan HP;go_enter func56,ntmps56;go_wp2_with fail;refine(o.out _).mono ?_;rintro _ B ⟨rfl,rfl⟩;go_wp2_with fail;refine(HN.out _).mono ?_;rintro _ B ⟨⟨x,rfl⟩,rfl⟩;go_wp2;go_ret2;rw[p.out];exact⟨⟨x,rfl⟩,Below.refl _ _⟩
 .have h1:(s==([110,97,110]:List UInt8))=false:=by rw[beq_eq_false_iff_ne];exact hnan
  have M:Hid (r=if t=[105,110,102]then true else if t=[48,112,48]then true else fltN t):=hid (by rw[HP.out,if_neg hnan]);clear hnan HP;by_cases hinf:t=[105,110,102]
  .have h2:(t==([105,110,102]:List UInt8))=true:=by rw[beq_iff_eq];exact hinf
   have p:Hid (r=true):=hid (by rw[M.out,if_pos hinf]);have HN:=hid (fun W=>zv1 W);clear hinf M;cases Y
   all_goals
    go_enter func56,ntmps56;go_wp2_with fail;refine(o.out _).mono ?_;rintro _ B ⟨rfl,rfl⟩;go_wp2_with fail;refine(HN.out _).mono ?_;rintro _ B ⟨⟨x,rfl⟩,rfl⟩;go_wp2_with fail
   .go_ret2;rw[p.out];exact⟨⟨_,rfl⟩,Below.refl _ _⟩
   .refine(R.out _ _ _).mono ?_;rintro _ B ⟨⟨y,rfl⟩,rfl⟩;go_wp2;go_ret2;rw[p.out];exact⟨⟨_,rfl⟩,Below.refl _ _⟩
  .have h2:(t==([105,110,102]:List UInt8))=false:=by rw[beq_eq_false_iff_ne];exact hinf
   have N:Hid (r=if t=[48,112,48]then true else fltN t):=hid (by rw[M.out,if_neg hinf]);clear hinf M;by_cases hz:t=[48,112,48]
   .have h3:(t==([48,112,48]:List UInt8))=true:=by rw[beq_iff_eq];exact hz
    have p:Hid (r=true):=hid (by rw[N.out,if_pos hz]);clear hz N;cases Y
    all_goals
     go_enter func56,ntmps56;go_wp2_with fail;refine(o.out _).mono ?_;rintro _ B ⟨rfl,rfl⟩;go_wp2_with fail
    .go_ret2;rw[p.out];exact⟨⟨_,rfl⟩,Below.refl _ _⟩
    .refine(R.out _ _ _).mono ?_;rintro _ B ⟨⟨y,rfl⟩,rfl⟩;go_wp2;go_ret2;rw[p.out];exact⟨⟨_,rfl⟩,Below.refl _ _⟩
   .have h3:(t==([48,112,48]:List UInt8))=false:=by rw[beq_eq_false_iff_ne];exact hz
    have ab:Hid (r=fltN t):=hid (by rw[N.out,if_neg hz]);have C:=hid (fun W=>zvz t (by omega) W);clear hz N;unfold cutV at C;have J:Hid (r=match t.dropWhile (fun c=>c != 112)with| []=>false|_::b=>match Lib.parseUintB 64 (Gr.fA t)with| .ok m=>(match Lib.atoiAll b with| .ok e=>fitsB m e && decide (Lib.decDigits m++112::Lib.itoa e=t)|_=>false)|_=>false):=hid ab.out;clear ab;cases hd:t.dropWhile (fun c=>c != 112)with
    |nil=>
     rw[hd]at C;simp only at C;have p:Hid (r=false):=hid (by rw[J.out,hd]);have A:=hid (fun W G=>zx4 t (by omega) W G);have q:=hid (fun W G=>zpy [] (by simp) W G);clear hd J;go_enter func56,ntmps56;go_wp2_with fail;refine(o.out _).mono ?_;rintro _ B ⟨rfl,rfl⟩;go_wp2_with fail;refine(C.out _).mono ?_;rintro _ w2 ⟨rfl,j⟩;have d:=hid (And.intro j (UT.stays _ _ Z.out j));clear j;go_wp2_with fail;refine(A.out _ d.out.2).mono ?_;rintro _ w3 ⟨⟨v,er,rfl⟩,h⟩;have i:=hid (And.intro (d.out.1.trans (h.mono d.out.1.size)) (UT.stays _ _ d.out.2 h));clear h;go_wp2_with fail;refine(q.out _ i.out.2).mono ?_;rintro _ w4 ⟨⟨v2,ad,rfl⟩,k⟩;have l:=hid (i.out.1.trans (k.mono i.out.1.size));clear k;go_wp2;go_ret2;rw[p.out];exact⟨⟨_,rfl⟩,l.out⟩
    |cons c b=>
     have aa:=zk3 t hd;have hbl:b.length<=t.length:=by rw[aa];simp;omega
     have ae:(Gr.fA t).length<=t.length:=by unfold Gr.fA;exact(List.takeWhile_sublist _).length_le
     rw[hd]at C;simp only at C;have n:Hid (r=match Lib.parseUintB 64 (Gr.fA t)with| .ok m=>(match Lib.atoiAll b with| .ok e=>fitsB m e && decide (Lib.decDigits m++112::Lib.itoa e=t)|_=>false)|_=>false):=hid (by rw[J.out,hd]);obtain⟨a,ha⟩:=ex (Gr.fA t)
     rw[ha]at C n ae;clear hd J aa ha;by_cases hpu:∃m,Lib.parseUintB 64 a=.ok m
     .obtain⟨m,P⟩:=hpu;have z:=zx5 P;have A:=hid (fun W=>zyx a (by omega) m P W);rw[P]at n;by_cases hat:∃e,Lib.atoiAll b=.ok e
      .obtain⟨e,S⟩:=hat;have H:=zs4 S;have q:=hid (fun W=>zyz b (by omega) e S W);have D:=hid (fun W=>zs1 m z e H.1 H.2 W);rw[S]at n;simp only at n;cases hfit:fitsB m e with
       |false=>
        have p:Hid (r=false):=hid (by rw[n.out,hfit];rfl);rw[hfit]at D;clear P S n hfit z H;go_enter func56,ntmps56;go_wp2_with fail;refine(o.out _).mono ?_;rintro _ B ⟨rfl,rfl⟩;go_wp2_with fail;refine(C.out _).mono ?_;rintro _ w2 ⟨rfl,j⟩;have d:=hid (And.intro j (UT.stays _ _ Z.out j));clear j;go_wp2_with fail;refine(A.out _).mono ?_;rintro _ w3 ⟨rfl,h⟩;have i:=hid (And.intro (d.out.1.trans (h.mono d.out.1.size)) (UT.stays _ _ d.out.2 h));clear h;go_wp2_with fail;refine(q.out _).mono ?_;rintro _ w4 ⟨rfl,k⟩;have l:=hid (And.intro (i.out.1.trans (k.mono i.out.1.size)) (UT.stays _ _ i.out.2 k));clear k;go_wp2_with fail;refine(D.out _).mono ?_;rintro _ w5 ⟨rfl,rfl⟩;go_wp2;go_ret2;rw[p.out];exact⟨⟨_,rfl⟩,l.out.1⟩
       |true=>
        obtain⟨L,hL⟩:=zvx m e z hfit;obtain⟨f,hf⟩:=ex (Flt.fw m L 0)
        obtain⟨F,Q⟩:=ex (Flt.fw m L e)
        have X:=hid (fun W=>zp0 m L e hL f hf W);have U:=hid (fun W G=>zpr m L e hL F Q W G);have hcv:floatOfInt .f64 (m:Int)=f:=by rw[hL.ofNat,<-hf,hL.at0.fw0]
        obtain⟨T,V⟩:∃T:Gr.Str,Lib.decDigits m++112::Lib.itoa e=T:=⟨_,rfl⟩
        rw[V]at U;rw[Q]at X;have K:Hid (r=decide (T=t)):=hid (by rw[n.out,hfit,V];rfl);rw[hfit]at D;clear P S n hfit z H hL hf Q V;by_cases hTt:T=t
        .have q1:(T==t)=true:=by rw[beq_iff_eq];exact hTt
         have q2:(T != t)=false:=by rw[bne,q1];rfl
         have p:Hid (r=true):=hid (by rw[K.out,decide_eq_true hTt]);clear hTt K;cases Y
         all_goals
          go_enter func56,ntmps56;go_wp2_with fail;refine(o.out _).mono ?_;rintro _ B ⟨rfl,rfl⟩;go_wp2_with fail;refine(C.out _).mono ?_;rintro _ w2 ⟨rfl,j⟩;have d:=hid (And.intro j (UT.stays _ _ Z.out j));clear j;go_wp2_with fail;refine(A.out _).mono ?_;rintro _ w3 ⟨rfl,h⟩;have i:=hid (And.intro (d.out.1.trans (h.mono d.out.1.size)) (UT.stays _ _ d.out.2 h));clear h;go_wp2_with fail;refine(q.out _).mono ?_;rintro _ w4 ⟨rfl,k⟩;have l:=hid (And.intro (i.out.1.trans (k.mono i.out.1.size)) (UT.stays _ _ i.out.2 k));clear k;go_wp2_with fail;refine(D.out _).mono ?_;rintro _ w5 ⟨rfl,rfl⟩;go_wp2_with fail;refine(X.out _).mono ?_;rintro _ w6 ⟨rfl,rfl⟩;go_wp2_with fail;refine(U.out _ l.out.2).mono ?_;rintro _ w7 ⟨rfl,E⟩;have I:=hid (l.out.1.trans (E.mono l.out.1.size));clear E;go_wp2_with fail
         .go_ret2;rw[p.out];exact⟨⟨_,rfl⟩,I.out⟩
         .refine(R.out _ _ _).mono ?_;rintro _ B ⟨⟨y,rfl⟩,rfl⟩;go_wp2;go_ret2;rw[p.out];exact⟨⟨_,rfl⟩,I.out⟩
        .have q1:(T==t)=false:=by rw[beq_eq_false_iff_ne];exact hTt
         have q2:(T != t)=true:=by rw[bne,q1];rfl
         have p:Hid (r=false):=hid (by rw[K.out,decide_eq_false hTt]);clear hTt K;go_enter func56,ntmps56;go_wp2_with fail;refine(o.out _).mono ?_;rintro _ B ⟨rfl,rfl⟩;go_wp2_with fail;refine(C.out _).mono ?_;rintro _ w2 ⟨rfl,j⟩;have d:=hid (And.intro j (UT.stays _ _ Z.out j));clear j;go_wp2_with fail;refine(A.out _).mono ?_;rintro _ w3 ⟨rfl,h⟩;have i:=hid (And.intro (d.out.1.trans (h.mono d.out.1.size)) (UT.stays _ _ d.out.2 h));clear h;go_wp2_with fail;refine(q.out _).mono ?_;rintro _ w4 ⟨rfl,k⟩;have l:=hid (And.intro (i.out.1.trans (k.mono i.out.1.size)) (UT.stays _ _ i.out.2 k));clear k;go_wp2_with fail;refine(D.out _).mono ?_;rintro _ w5 ⟨rfl,rfl⟩;go_wp2_with fail;refine(X.out _).mono ?_;rintro _ w6 ⟨rfl,rfl⟩;go_wp2_with fail;refine(U.out _ l.out.2).mono ?_;rintro _ w7 ⟨rfl,E⟩;have I:=hid (l.out.1.trans (E.mono l.out.1.size));clear E;go_wp2;go_ret2;rw[p.out];exact⟨⟨_,rfl⟩,I.out⟩
      .have p:Hid (r=false):=hid (by
        rw[n.out];simp only;split
        .rename_i e S;exact absurd ⟨e,S⟩ hat
        .rfl)
       have q:=hid (fun W G=>zy0 b (by omega) (fun u hu=>hat ⟨u,hu⟩) W G);clear P hat n z;go_enter func56,ntmps56;go_wp2_with fail;refine(o.out _).mono ?_;rintro _ B ⟨rfl,rfl⟩;go_wp2_with fail;refine(C.out _).mono ?_;rintro _ w2 ⟨rfl,j⟩;have d:=hid (And.intro j (UT.stays _ _ Z.out j));clear j;go_wp2_with fail;refine(A.out _).mono ?_;rintro _ w3 ⟨rfl,h⟩;have i:=hid (And.intro (d.out.1.trans (h.mono d.out.1.size)) (UT.stays _ _ d.out.2 h));clear h;go_wp2_with fail;refine(q.out _ i.out.2).mono ?_;rintro _ w4 ⟨⟨v2,te,pe,rfl⟩,k⟩;have l:=hid (i.out.1.trans (k.mono i.out.1.size));clear k;go_wp2;go_ret2;rw[p.out];exact⟨⟨_,rfl⟩,l.out⟩
     .have p:Hid (r=false):=hid (by
       rw[n.out];split
       .rename_i m P;exact absurd ⟨m,P⟩ hpu
       .rfl)
      have A:=hid (fun W G=>zyy a (by omega) (fun u hu=>hpu ⟨u,hu⟩) W G);have q:=hid (fun W G=>zpy b (by omega) W G);clear hpu n;go_enter func56,ntmps56;go_wp2_with fail;refine(o.out _).mono ?_;rintro _ B ⟨rfl,rfl⟩;go_wp2_with fail;refine(C.out _).mono ?_;rintro _ w2 ⟨rfl,j⟩;have d:=hid (And.intro j (UT.stays _ _ Z.out j));clear j;go_wp2_with fail;refine(A.out _ d.out.2).mono ?_;rintro _ w3 ⟨⟨v,te,pe,rfl⟩,h⟩;have i:=hid (And.intro (d.out.1.trans (h.mono d.out.1.size)) (UT.stays _ _ d.out.2 h));clear h;go_wp2_with fail;refine(q.out _ i.out.2).mono ?_;rintro _ w4 ⟨⟨v2,ad,rfl⟩,k⟩;have l:=hid (i.out.1.trans (k.mono i.out.1.size));clear k;go_wp2;go_ret2;rw[p.out];exact⟨⟨_,rfl⟩,l.out⟩
theorem zmp (s:Gr.Str) (hl:s.length<=1073741823) (w:World) (hT:UT w):Calls prog 42 #[.string ⟨s.toArray⟩] w fun e w'=>e=.returned (.bool (fltP s))/\Below w.heap.size w w':=by
 have a:=hid (zmo s hl w hT);obtain⟨r,c⟩:=ex (fltP s)
 rw[c]at a ⊢;clear c hT;go_enter func42,ntmps42;go_wp2_with fail;refine a.out.mono ?_;rintro _ w1 ⟨⟨g,rfl⟩,b⟩;have d:=hid b;clear b;go_wp2;go_ret;exact⟨rfl,d.out⟩
theorem zs6 (text:Gr.Str) (hl:text.length<=1073741823):ScalOk UT 4 text (fltP text):=by
 intro w c;have a:=hid (zmp text hl w c);obtain⟨r,d⟩:=ex (fltP text)
 rw[d]at a ⊢;clear d c;go_enter func22,ntmps22;go_wp2_with fail;refine a.out.mono ?_;rintro e w2 ⟨rfl,b⟩;have f:=hid b;clear b;go_wp2;go_ret;exact⟨rfl,f.out⟩
end Go.Proofs.YtpgmfihonmoliaaGreatDoor
