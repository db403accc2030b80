import Derived.Test.YtpgmfihonmoliaaGreatDoorZ08
namespace Go.Proofs.YtpgmfihonmoliaaGreatDoor
open Go.RowKit
section
variable {P:Program} {md:Region.Mode} {ops:Array Oper} {Q:Exit->Act->World->Prop}
theorem zly (Inv:Nat->Array Bool->Act->World->Prop)
 (hstep:∀m listed a w i,Inv m listed a w->i∈Region.ready md ops listed->∃m',m=m'+1/\wpOp P ops Q i (fun a' w'=>Inv m' (listed.setIfInBounds i true) a' w') a w)
 (hend:∀m listed a w,Inv m listed a w->Region.ready md ops listed=[]->Q .normal a w):
 ∀fuel listed a w,Inv fuel listed a w->wpAny P md ops Q fuel listed a w:=by
 intro fuel
 induction fuel with
 |zero=>
  intro listed a w h;have b:Region.ready md ops listed=[]:=List.eq_nil_iff_forall_not_mem.2 (fun i c=>by obtain⟨m',d,_⟩:=hstep _ _ _ _ i h c;omega);exact⟨b,hend _ _ _ _ h b⟩
 |succ fuel ih=>
  intro listed a w h;refine⟨fun b=>hend _ _ _ _ h b,fun i c=>?_⟩;obtain⟨m',d,e⟩:=hstep _ _ _ _ i h c;obtain rfl:m'=fuel:=by omega
  exact wpOp_mono (fun a w h=>ih _ _ _ h) e
variable {i:Nat} {o:Oper} {K:Act->World->Prop} {a:Act} {w w':World}
theorem zbk (v:Value) (ho:ops[i]? =some o) (hg:o.guard=none) (hrun:(execOp a.eval o).run P w=.ok (.value v) w') (hK:K (a.put o.dst v) w'):wpOp P ops Q i K a w:=by
 unfold wpOp;rw[ho];simp only[Region.wanted,hg,if_true];left;unfold Oper.wp;rw[hrun];exact hK
theorem zjd (ho:ops[i]? =some o) (hg:o.guard=none) (hrun:(execOp a.eval o).run P w=.ok .skip w') (hK:K (a.put o.dst undef) w'):wpOp P ops Q i K a w:=by
 unfold wpOp;rw[ho];simp only[Region.wanted,hg,if_true];left;unfold Oper.wp;rw[hrun];exact hK
end
open Gr
open _root_.Go.Proofs.Tryz
open _root_.Go.Lib (hid)
set_option maxRecDepth 100000
set_option maxHeartbeats 16000000
def rdg (s:Gr.Str) (k:Nat):Gr.Str:=(s.drop k).takeWhile Gr.dig
def zj0 (s:Gr.Str) (k:Nat) (w:World) (e:Ending) (w':World):Prop:=∃A c,e=.returned (.tuple #[.slice A (rdg s k).length c,.int .i64 ((k+(rdg s k).length:Nat):Int)])/\OwnRow intL w' w.heap.size 3 (.slice A (rdg s k).length c) (vals (rdg s k))/\Below w.heap.size w w'
theorem zbd (s:Gr.Str):(vals s).length=s.length:=by simp[vals]
theorem zqo (s:Gr.Str) (k m:Nat) (h:((s.drop k).take m).all Gr.dig=true) (hm:k+m<=s.length) (hn:∀h2:k+m<s.length,Gr.dig (s[k+m]'h2)=false):rdg s k=(s.drop k).take m:=by
 unfold rdg;have a:s.drop k=(s.drop k).take m++s.drop (k+m):=by
  rw[<-List.drop_drop];exact(List.take_append_drop m (s.drop k)).symm
 rw[a,List.takeWhile_append_of_pos (by simpa using h)];have h2:(s.drop (k+m)).takeWhile Gr.dig=[]:=by
  rcases Nat.lt_or_ge (k+m) s.length with h3|h3
  .rw[List.drop_eq_getElem_cons h3,List.takeWhile_cons,hn h3];rfl
  .rw[List.drop_eq_nil_of_le h3];rfl
 rw[h2,List.append_nil,List.take_append_of_le_length (by simp;omega),List.take_take,Nat.min_self]
theorem zj1 {s:Gr.Str} {k m c:Nat} {A:Option Addr} {w w':World} (h:rdg s k=(s.drop k).take m) (_:0<=m) (hm:k+m<=s.length) (ho:OwnRow intL w' w.heap.size 3 (.slice A m c) (vals ((s.drop k).take m))) (hb:Below w.heap.size w w'):
 zj0 s k w (.returned (.tuple #[.slice A m c,.int .i64 ((k+m:Nat):Int)])) w':=by
 have a:(rdg s k).length=m:=by rw[h];simp;omega
 unfold zj0;rw[a,h];exact⟨A,c,rfl,ho,hb⟩
theorem zde (s:Gr.Str) (hl:s.length<=1073741823) (k:Nat) (hk:k<=s.length) (w:World):
 Calls prog 124 #[.string ⟨s.toArray⟩,.int .i64 (k:Int)] w (zj0 s k w):=by
 go_enter func124,ntmps124;go_wp2_with fail;go_loopw [1,6] (fun s1 s6 wr=>∃(m:Nat) (A:Option Addr) (c:Nat),k+m<=s.length/\s1=.int .i64 ((k+m:Nat):Int)/\s6=.slice A m c/\Hid (((s.drop k).take m).all Gr.dig=true/\OwnRow intL wr w.heap.size 3 (.slice A m c) (vals ((s.drop k).take m))/\Below w.heap.size w wr)) (fun s1 _ _=>s.length-(intOf s1).toNat)
 case atStart=>exact⟨0,none,0,by omega,rfl,rfl,hid ⟨by simp,OwnRow.nil,Below.refl _ _⟩⟩
 case round=>
  obtain⟨m,A,c,q,rfl,rfl,a⟩:=hrel;have g:(vals ((s.drop k).take m)).length=m:=by simp[vals];omega
  have j:=hid g;have h:Hid (w.heap.size<=wr.heap.size):=hid a.out.2.2.size;clear g;by_cases hlt:k+m<s.length
  .have l:((k+m:Nat):Int)<(s.length:Int):=by omega
   obtain⟨b,t⟩:∃b:Nat,(s[k+m]'(by omega)).toNat=b:=⟨_,rfl⟩
   have hbv:(((⟨s.toArray⟩:ByteArray)[k+m]'(by simpa[ByteArray.size]using hlt)).toNat:Int)=(b:Int):=by rw[<-t];rfl
   have hbl:b<256:=by rw[<-t];exact(s[k+m]'hlt).toNat_lt
   have i:Hid (Gr.dig (s[k+m]'hlt)=(decide (48<=b) && decide (b<=57))/\Gr.dv (s[k+m]'hlt)=b-48):=hid ⟨by
    rw[Bool.eq_iff_iff,zbh,t];simp,by unfold Gr.dv;rw[t]⟩
   clear t;by_cases hd:48<=b/\b<=57
   .obtain⟨f,B⟩:=hd;have r:(48:Int)<=(b:Int):=by omega
    have v:(b:Int)<=57:=by omega
    have p:Hid ((s.drop k).take (m+1)=(s.drop k).take m++[s[k+m]'hlt]):=hid (by
     rw[List.take_succ_eq_append_getElem (by simp;omega),List.getElem_drop])
    go_upto_region 3 with fail;obtain⟨x,G⟩:∃x:Nat,b-48=x:=⟨_,rfl⟩
    have z:(b:Int)-48=(x:Int):=by omega
    have J:=hid G;clear G;go_wp2_with (at_builtin;go_must (refine zaa _ rfl (.tmp 23) (.tmp 29) 36 3 8 rfl intT w.heap.size (.slice A m c) (vals ((s.drop k).take m)) rfl (a.out.2.1.alloc _) _ _ 1 [x] rfl (RowAt.lit1 _ _ (by first|rfl| (rw[z];rfl)) _ ?_) ?_ ?_ ?_))
    any_goals (first|rfl| (have:=j.out;simp;omega)| (rw[World.size_alloc];have:=h.out;omega))
    intro v' D d I C;have o:Below w.heap.size w D:=(a.out.2.2.alloc h.out _).trans ((a.out.2.1.alloc _).grown_below I (by rw[World.size_alloc];have:=h.out;omega));obtain⟨E,H,n,_⟩:=d.form;have e:(vals ((s.drop k).take m)++[x]).length=m+1:=by rw[List.length_append,j.out];rfl
    rw[e]at n;subst n;have y:Hid (((s.drop k).take (m+1)).all Gr.dig=true/\OwnRow intL D w.heap.size 3 (.slice E (m+1) H) (vals ((s.drop k).take (m+1)))/\Below w.heap.size w D):=hid ⟨by
     rw[p.out,List.all_append,a.out.1];simp[i.out.1,f,B],by
     rw[p.out,show vals ((s.drop k).take m++[s[k+m]'hlt])=vals ((s.drop k).take m)++[x]from by simp[vals,i.out.2,J.out]];exact d,o⟩
    clear d I C o e;go_wp2;go_roundw
    case rel=>exact⟨m+1,E,H,by omega,by go_num,rfl,y⟩
    case measure=>simp[intOf];omega
   .have u:Hid (rdg s k=(s.drop k).take m):=hid (zqo s k m a.out.1 q (fun F=>by rw[i.out.1];by_cases f:48<=b<;>simp[f]<;>omega));by_cases f:48<=b
    .have r:(48:Int)<=(b:Int):=by omega
     have v:¬(b:Int)<=57:=by omega
     go_wp2;go_ret2;exact zj1 u.out (by omega) q a.out.2.1 a.out.2.2
    .have r:¬(48:Int)<=(b:Int):=by omega
     go_wp2;go_ret2;exact zj1 u.out (by omega) q a.out.2.1 a.out.2.2
  .have l:¬((k+m:Nat):Int)<(s.length:Int):=by omega
   have u:Hid (rdg s k=(s.drop k).take m):=hid (zqo s k m a.out.1 q (fun F=>absurd F hlt));go_wp2;go_ret2;exact zj1 u.out (by omega) q a.out.2.1 a.out.2.2
theorem zdf (n:Nat) (hn:n<=4611686018427387904) (w:World):Calls prog 127 #[.int .i64 (n:Int)] w fun e w'=>e=.returned (.string ⟨(Lib.decDigits n).toArray⟩)/\Below w.heap.size w w':=by
 induction n using Nat.strongRecOn generalizing w with
 |_ n ih=>
  have h0:¬(n:Int)<0:=by omega
  by_cases h9:9<n
  .have p:(9:Int)<(n:Int):=by omega
   have d:=hid (fun W=>ih (n /10) (by omega) (by omega) W);have k:=hid (fun W=>ih (n%10) (by omega) (by omega) W);have A:=hid (zaw (u:=n) (by omega));have z:((n:Int) /10)=((n /10:Nat):Int):=by omega
   have y:((n:Int)%10)=((n%10:Nat):Int):=by omega
   have q:(Lib.decDigits (n /10)).length<=20:=by rw[Lib.decDigits_length];exact zbn 19 _ (by omega)
   have t:(Lib.decDigits (n%10)).length<=20:=by rw[Lib.decDigits_length];exact zbn 19 _ (by omega)
   have j:=fun W=>zad (Lib.decDigits (n /10)) (Lib.decDigits (n%10)) (by omega) W
   have C:Lib.decDigits n=Lib.decDigits (n /10)++Lib.decDigits (n%10):=by rw[A.out,Lib.decDigits_one (i:=n%10) (by omega)]
   obtain⟨D,a⟩:=ex (Lib.decDigits (n /10))
   obtain⟨E,b⟩:=ex (Lib.decDigits (n%10))
   have v:Hid (Lib.decDigits n=D++E):=hid (by rw[C,a,b]);rw[a,b]at j;rw[a,<-z]at d;rw[b,<-y]at k;have HN:=hid hn;have hnI:(n:Int)<=4611686018427387904:=by omega
   clear ih z y q t C a b A hn;go_enter func127,ntmps127;go_wp2_with fail;refine(d.out _).mono ?_;rintro e w1 ⟨rfl,m⟩;have f:=hid m;clear m;go_wp2_with fail;refine(k.out _).mono ?_;rintro e w2 ⟨rfl,l⟩;have r:=hid (f.out.trans (l.mono f.out.size));clear l;go_wp2;go_ret;rw[v.out];exact⟨rfl,r.out⟩
  .have p:¬(9:Int)<(n:Int):=by omega
   obtain⟨c,x⟩:∃c:UInt8,c=UInt8.ofNat (48+n):=⟨_,rfl⟩
   have o:(48:Int)+(n:Int)=(c.toNat:Int):=by rw[x,UInt8.toNat_ofNat'];omega
   have v:Hid (Lib.decDigits n=[c]):=hid (by rw[x];exact Lib.decDigits_one (by omega));have h:=fun W=>zdz (B:=w.heap.size+1) W [c] (some ⟨w.heap.size,0,none⟩) 1
   have s:=hid h;have hn9:(n:Int)<=9:=by omega
   have hn0:(0:Int)<=(n:Int):=by omega
   clear ih x h hn;go_enter func127,ntmps127;go_upto_region 5 with fail;have g:(convert 80 9 (.slice (some ⟨w.heap.size,0,none⟩) 1 1)).run prog (w.alloc (.cells #[.int .u8 (c.toNat:Int)] 5))=.ok (.string ⟨[c].toArray⟩) (w.alloc (.cells #[.int .u8 (c.toNat:Int)] 5)):=s.out (w.alloc (.cells #[.int .u8 (c.toNat:Int)] 5)) (RowAt.lit1 c _ rfl _ rfl);rw[<-o]at g;clear o;go_wp2;go_ret;rw[v.out];exact⟨rfl,(Below.refl _ _).alloc (Nat.le_refl _) _⟩
theorem zj2 (n:Int) (h0:-4611686018427387904<=n) (h1:n<=4611686018427387904) (w:World):Calls prog 127 #[.int .i64 n] w fun e w'=>e=.returned (.string ⟨(Lib.itoa n).toArray⟩)/\Below w.heap.size w w':=by
 by_cases hn:n<0
 .have d:=hid (fun W=>zdf n.natAbs (by omega) W);rw[show(n.natAbs:Int)=-n from by omega]at d;have b:(Lib.decDigits n.natAbs).length<=20:=by rw[Lib.decDigits_length];exact zbn 19 _ (by omega)
  have hadd:=fun W=>zad [45] (Lib.decDigits n.natAbs) (by simp;omega) W
  have f:Hid (Lib.itoa n=[45]++Lib.decDigits n.natAbs):=hid (by unfold Lib.itoa;rw[if_pos hn];rfl);clear b;go_enter func127,ntmps127;go_wp2_with fail;refine(d.out _).mono ?_;rintro e w1 ⟨rfl,a⟩;have c:=hid a;clear a;go_wp2;go_ret;rw[f.out];exact⟨rfl,c.out⟩
 .have:=zdf n.toNat (by omega) w;rw[show(n.toNat:Int)=n from by omega]at this;unfold Lib.itoa;rw[if_neg hn];exact this
theorem zm2 (x:Gr.Dn) (A:Option Addr) (c:Nat) (hl:x.d.length<=1073741823) (w:World):
 Calls prog 95 #[.agg #[.bool x.neg,.slice A x.d.length c,.int .i64 x.e]] w fun e w'=>e=.returned (.int .i64 (lim x:Nat))/\Below w.heap.size w w':=by
 obtain⟨neg,d,e⟩:=x;simp only at hl ⊢;have g:Below w.heap.size w (w.alloc (.cells #[.bool neg,.slice A d.length c,.int .i64 e] 102)):=(Below.refl _ _).alloc (Nat.le_refl _) _;have b:=hid g;clear g;by_cases h1:400<d.length
 .have a:Hid (lim ⟨neg,d,e⟩=6):=hid (by unfold lim;rw[if_pos h1]);have f:(400:Int)<(d.length:Int):=by omega
  go_enter func95,ntmps95;go_wp2;go_ret;rw[a.out];exact⟨rfl,b.out⟩
 .have f:¬(400:Int)<(d.length:Int):=by omega
  by_cases h2:2000<e
  .have a:Hid (lim ⟨neg,d,e⟩=2):=hid (by unfold lim;rw[if_neg h1,if_pos (.inr h2)]);go_enter func95,ntmps95;go_wp2;go_ret;rw[a.out];exact⟨rfl,b.out⟩
  .by_cases h3:e< -2000
   .have a:Hid (lim ⟨neg,d,e⟩=2):=hid (by unfold lim;rw[if_neg h1,if_pos (.inl h3)]);go_enter func95,ntmps95;go_wp2;go_ret;rw[a.out];exact⟨rfl,b.out⟩
   .have a:Hid (lim ⟨neg,d,e⟩=0):=hid (by unfold lim;rw[if_neg h1,if_neg (fun h=>h.elim h3 h2)]);go_enter func95,ntmps95;go_wp2;go_ret;rw[a.out];exact⟨rfl,b.out⟩
theorem zqp (neg:Bool) (A:Option Addr) (n c:Nat) (e:Int) (w:World):
 Calls prog 157 #[.agg #[.bool neg,.slice A n c,.int .i64 e]] w fun e' w'=>e'=.returned (.string ⟨(signS neg).toArray⟩)/\Below w.heap.size w w':=by
 have a:Below w.heap.size w (w.alloc (.cells #[.bool neg,.slice A n c,.int .i64 e] 102)):=(Below.refl _ _).alloc (Nat.le_refl _) _;have b:=hid a;clear a;cases neg
 all_goals
  go_enter func157,ntmps157;go_wp2;go_ret;exact⟨rfl,b.out⟩
theorem zti (A:Option Addr) (d:List Nat) (c:Nat) (hl:d.length<=1073741823) (hd:∀v∈d,v<10) (w:World) (h:RowAt intL w w.heap.size A d):
 Calls prog 158 #[.slice A d.length c] w fun e' w'=>e'=.returned (.string ⟨(d.map Gr.ch).toArray⟩)/\Below w.heap.size w w':=by
 have z:=hid hd;have l:=hid h;clear hd h;go_enter func158,ntmps158;go_wp2_with fail;go_loopw [3,4] (fun s3 s4 wr=>∃k:Nat,k<=d.length/\s3=.string ⟨((d.take k).map Gr.ch).toArray⟩/\s4=.int .i64 k/\Hid (Below w.heap.size w wr)) (fun _ s4 _=>d.length-(intOf s4).toNat)
 case atStart=>exact⟨0,by omega,rfl,rfl,hid (Below.refl _ _)⟩
 case round=>
  obtain⟨k,hk,rfl,rfl,o⟩:=hrel;by_cases hlt:k<d.length
  .have i:(k:Int)<(d.length:Int):=by omega
   obtain⟨v,n⟩:=ex (d[k])
   have b:v<10:=by rw[<-n];exact z.out _ (List.getElem_mem hlt)
   obtain⟨ad,rfl,_,B⟩:=zaf (l.out.below o.out) hlt;rw[n]at B;have q:=hid (fun W=>zdf v (by omega) W);rw[Lib.decDigits_one b,show[UInt8.ofNat (48+v)]=[Gr.ch v]from rfl]at q;have m:((d.take k).map Gr.ch).length=k:=by simp;omega
   have f:=fun W=>zad ((d.take k).map Gr.ch) [Gr.ch v] (by rw[m];simp;omega) W
   have a:Hid ((d.take (k+1)).map Gr.ch=(d.take k).map Gr.ch++[Gr.ch v]):=hid (by
    rw[List.take_succ_eq_append_getElem hlt,List.map_append,n];rfl)
   obtain⟨r,u⟩:=ex ((d.take k).map Gr.ch)
   obtain⟨r2,g⟩:=ex ((d.take (k+1)).map Gr.ch)
   obtain⟨x,t⟩:∃x:Gr.Str,[Gr.ch v]=x:=⟨_,rfl⟩
   rw[u]at f a ⊢;rw[g]at a;rw[t]at f a q;have p:=hid g;clear n b m u g t;go_wp2_with fail;refine(q.out _).mono ?_;rintro e C ⟨rfl,j⟩;have s:Hid (Below w.heap.size w C):=hid (o.out.trans (j.mono o.out.size));clear j;go_wp2;go_roundw
   case rel=>exact⟨k+1,by omega,by rw[p.out,a.out],by go_num,s⟩
   case measure=>simp[intOf];omega
  .have i:¬(k:Int)<(d.length:Int):=by omega
   have y:Hid ((d.map Gr.ch).take k=d.map Gr.ch):=hid (List.take_of_length_le (by simp;omega));go_wp2;go_ret;rw[y.out];exact⟨rfl,o.out⟩
theorem zqq (x:Gr.Dn) (A:Option Addr) (c:Nat) (hl:x.d.length<=1073741823) (hd:∀v∈x.d,v<10) (w:World) (h:RowAt intL w w.heap.size A x.d):
 Calls prog 126 #[.agg #[.bool x.neg,.slice A x.d.length c,.int .i64 x.e]] w fun e' w'=>e'=.returned (.string ⟨(coef x).toArray⟩)/\Below w.heap.size w w':=by
 obtain⟨neg,d,E⟩:=x;simp only at hl hd h ⊢;have i:=hid h;have B:=hid hd;clear h hd;obtain⟨r,s⟩:=ex (coef ⟨neg,d,E⟩)
 have t:=hid s;rw[s];clear s;go_enter func126,ntmps126;go_upto_region 1 with fail;obtain⟨a,j⟩:=ex (w.alloc (.cells #[.bool neg,.slice A d.length c,.int .i64 E] 102))
 obtain⟨g,f⟩:=ex w.heap.size
 have b:Hid (Blk a g 102 #[.bool neg,.slice A d.length c,.int .i64 E]/\Below g w a/\a.heap.size=g+1):=hid (by rw[<-j,<-f];exact⟨Blk.new _ _ _,(Below.refl _ _).alloc (Nat.le_refl _) _,by simp⟩);have k:=hid f;rw[f]at i;(try rw[j]);(try rw[f]);clear j f;have y:a.cell? ⟨g,1,none⟩=some (.slice A d.length c):=b.out.1.cell 1;by_cases h0:d=[]
 .subst h0;have l:Hid (r=[48]):=hid (by rw[<-t.out];rfl);go_wp2;go_ret;rw[l.out,k.out];exact⟨rfl,b.out.2.1⟩
 .have hlp:=List.length_pos_iff.2 h0;have h1:¬((d.length:Int)=0):=by omega
  have h1b:((d.length:Int)==0)=false:=by simpa using h0
  have l:Hid (r=signS neg++d.map Gr.ch):=hid (by rw[<-t.out];unfold coef;rw[if_neg h0];rfl);go_upto_region 3 with fail;clear y;have o:a.heap.size=g+1:=b.out.2.2;have u:Hid (∀W:WB a.heap.size a,Calls prog 157 #[.agg #[.bool neg,.slice A d.length c,.int .i64 E]] W.w (fun e m=>e=.returned (.string ⟨(signS neg).toArray⟩)/\Below a.heap.size a m)/\Calls prog 158 #[.slice A d.length c] W.w (fun e m=>e=.returned (.string ⟨(d.map Gr.ch).toArray⟩)/\Below a.heap.size a m)):=hid (fun W=>⟨(zqp neg A d.length c E W.w).mono (fun _ _ ⟨n,q⟩=>⟨n,W.h.trans (q.mono W.h.size)⟩),(zti A d c hl B.out W.w (((i.out.below b.out.2.1).below (W.h.mono (by omega))).more (by have:=W.h.size;omega))).mono (fun _ _ ⟨n,q⟩=>⟨n,W.h.trans (q.mono W.h.size)⟩)⟩);have p0:∀W:WB a.heap.size a,W.w.cell? ⟨g,0,none⟩=some (.bool neg):=fun W=>(W.h.cell (p:=⟨g,0,none⟩) (by simp;omega)).trans (b.out.1.cell 0)
  have p1:∀W:WB a.heap.size a,W.w.cell? ⟨g,1,none⟩=some (.slice A d.length c):=fun W=>(W.h.cell (p:=⟨g,1,none⟩) (by simp;omega)).trans (b.out.1.cell 1)
  have p2:∀W:WB a.heap.size a,W.w.cell? ⟨g,2,none⟩=some (.int .i64 E):=fun W=>(W.h.cell (p:=⟨g,2,none⟩) (by simp;omega)).trans (b.out.1.cell 2)
  clear o;have hadd:=fun W=>zad (signS neg) (d.map Gr.ch) (by have:=zdn neg;rw[List.length_map];omega) W
  refine zac a.heap.size a (by kernel_rfl) (by kernel_rfl) (Below.refl _ _) ?_
  repeat (go_big_quiet_step ((first| (with_reducible refine Calls.grow (u.out _).1)| (with_reducible refine Calls.grow (u.out _).2))))
  refine wpQuiet_nil ?_;rintro _ ⟨z,rfl⟩;go_wp2;go_ret;rw[l.out,k.out];exact⟨rfl,b.out.2.1.trans (z.h.mono (by have:=b.out.2.2;omega))⟩
theorem zqr (x:Gr.Dn) (A:Option Addr) (c:Nat) (hl:x.d.length<=1073741823) (hd:∀v∈x.d,v<10) (h0:-4611686018427387904<=x.e) (h1:x.e<=4611686018427387904) (w:World) (h:RowAt intL w w.heap.size A x.d):
 Calls prog 96 #[.agg #[.bool x.neg,.slice A x.d.length c,.int .i64 x.e]] w fun e' w'=>e'=.returned (.string ⟨(Gr.text x).toArray⟩)/\Below w.heap.size w w':=by
 have k:=hid (fun(W:World) (hW:RowAt intL W W.heap.size A x.d)=>zqq x A c hl hd W hW);have q:(coef x).length<=1073741825:=by
  unfold coef;split
  .simp
  .have:=zdn x.neg;unfold signS at this;rw[List.length_append,List.length_map];omega
 have n:=zg2 x.e (by omega) (by omega);obtain⟨r,C⟩:=ex (coef x)
 obtain⟨H,j⟩:=ex (Gr.text x)
 have y:Hid (H=r++101::Lib.itoa x.e):=hid (by rw[<-j,<-C];rfl);rw[C]at k q;rw[j];clear C j;obtain⟨neg,d,E⟩:=x;simp only at hl h0 h1 h k n y ⊢;obtain⟨t,F⟩:=ex (Lib.itoa E)
 have m:=hid (fun(W:World)=>zj2 E h0 h1 W);rw[F]at n y m;clear F;have i:=hid h;clear h hd;go_enter func96,ntmps96;go_upto_region 1 with fail;obtain⟨a,l⟩:=ex (w.alloc (.cells #[.bool neg,.slice A d.length c,.int .i64 E] 102))
 obtain⟨g,f⟩:=ex w.heap.size
 have b:Hid (Blk a g 102 #[.bool neg,.slice A d.length c,.int .i64 E]/\Below g w a/\a.heap.size=g+1):=hid (by rw[<-l,<-f];exact⟨Blk.new _ _ _,(Below.refl _ _).alloc (Nat.le_refl _) _,by simp⟩);have o:=hid f;rw[f]at i;(try rw[l]);(try rw[f]);clear l f;have B:a.heap.size=g+1:=b.out.2.2;have D:Hid (∀W:WB a.heap.size a,Calls prog 126 #[.agg #[.bool neg,.slice A d.length c,.int .i64 E]] W.w (fun e s=>e=.returned (.string ⟨r.toArray⟩)/\Below a.heap.size a s)/\Calls prog 127 #[.int .i64 E] W.w (fun e s=>e=.returned (.string ⟨t.toArray⟩)/\Below a.heap.size a s)):=hid (fun W=>⟨(k.out W.w (((i.out.below b.out.2.1).below (W.h.mono (by omega))).more (by have:=W.h.size;omega))).mono (fun _ _ ⟨z,u⟩=>⟨z,W.h.trans (u.mono W.h.size)⟩),(m.out W.w).mono (fun _ _ ⟨z,u⟩=>⟨z,W.h.trans (u.mono W.h.size)⟩)⟩);have p0:∀W:WB a.heap.size a,W.w.cell? ⟨g,0,none⟩=some (.bool neg):=fun W=>(W.h.cell (p:=⟨g,0,none⟩) (by simp;omega)).trans (b.out.1.cell 0)
 have p1:∀W:WB a.heap.size a,W.w.cell? ⟨g,1,none⟩=some (.slice A d.length c):=fun W=>(W.h.cell (p:=⟨g,1,none⟩) (by simp;omega)).trans (b.out.1.cell 1)
 have p2:∀W:WB a.heap.size a,W.w.cell? ⟨g,2,none⟩=some (.int .i64 E):=fun W=>(W.h.cell (p:=⟨g,2,none⟩) (by simp;omega)).trans (b.out.1.cell 2)
 have hadd:=fun W=>zad r [101] (by simp;omega) W
 have hadd2:=fun W=>zad (r++[101]) t (by simp;omega) W
 clear B;refine zac a.heap.size a (by kernel_rfl) (by kernel_rfl) (Below.refl _ _) ?_
 repeat (go_big_quiet_step ((first| (with_reducible refine Calls.grow (D.out _).1)| (with_reducible refine Calls.grow (D.out _).2))))
 refine wpQuiet_nil ?_;rintro _ ⟨G,rfl⟩;go_wp2;go_ret;rw[y.out,o.out];exact⟨rfl,b.out.2.1.trans (G.h.mono (by have:=b.out.2.2;omega))⟩
def NumI (x:Gr.Dn) (v:Value) (B:Nat) (w:World):Prop:=∃A c,v=.agg #[.bool x.neg,.slice A x.d.length c,.int .i64 x.e]/\OwnRow intL w B 3 (.slice A x.d.length c) x.d
def zfh (x:Gr.Dn) (w:World) (e:Ending) (w':World):Prop:=∃v,e=.returned v/\NumI x v w.heap.size w'/\Below w.heap.size w w'
theorem zqs {d:List Nat} {k:Nat} (h:k<d.length):(d.drop k).dropWhile isZ=if d[k]=0 then(d.drop (k+1)).dropWhile isZ else d.drop k:=by
 rw[List.drop_eq_getElem_cons h];by_cases h0:d[k]=0
 .rw[if_pos h0,h0,zph]
 .rw[if_neg h0,zuj _ _ h0]
theorem zfs {d:List Nat} {k m:Nat} (hk:k<=m) (h:m<d.length):(d.take (m+1)).drop k=(d.take m).drop k++[d[m]]:=by
 rw[List.take_succ_eq_append_getElem h,List.drop_append_of_le_length (by simp;omega)]
theorem zbg {α:Type} {L:Lay α} {W w2:World} {g base:Nat} {t E:TypeId} {cs:Array Value} {v:Value} {l:List α} (hb:Blk W g t cs) (ho:OwnRow L W base E v l) (hg:W.grownBy w2 v.ownBlock) (h:g<base):Blk w2 g t cs:=
 hb.grown hg (fun e=>absurd (ho.lt g e.symm).1 (by omega))
theorem zqt (neg:Bool) (A:Option Addr) (c:Nat) (d:List Nat) (E:Int) (hl:d.length<=1073741823) (hE0:-1152921504606846976<=E) (hE1:E<=1152921504606846976) (hd:∀v∈d,v<10) (w:World) (h:RowAt intL w w.heap.size A d):
 Calls prog 125 #[.bool neg,.slice A d.length c,.int .i64 E] w (zfh (norm neg d E) w):=by
 obtain⟨r,hr⟩:=ex (norm neg d E)
 have HR:=hid hr;rw[hr];clear hr;have o:=hid h;have HD:=hid hd;clear h hd;go_enter func125,ntmps125;go_upto_region 1 with fail;obtain⟨w1,U⟩:=ex (w.alloc (.cells #[.bool false,.slice none 0 0,.int .i64 0] 102))
 obtain⟨a,F⟩:=ex w.heap.size
 have b:Hid (Blk w1 a 102 #[.bool false,.slice none 0 0,.int .i64 0]/\Below a w w1/\w1.heap.size=a+1):=hid (by rw[<-U,<-F];exact⟨Blk.new _ _ _,(Below.refl _ _).alloc (Nat.le_refl _) _,by simp⟩);have P:=hid F;rw[F]at o;(try rw[U]);(try rw[F]);clear U F;go_wp2_with fail;go_loop [7] (fun s7=>∃k:Nat,k<=d.length/\s7=.int .i64 k/\Hid ((d.drop k).dropWhile isZ=d.dropWhile isZ)) (fun s7=>d.length-(intOf s7).toNat)
 case atStart=>exact⟨0,by omega,rfl,hid rfl⟩
 case round=>
  obtain⟨k,hk,rfl,HV⟩:=hrel;by_cases hlt:k<d.length
  .have ae:(k:Int)<(d.length:Int):=by omega
   obtain⟨v,R⟩:=ex (d[k])
   obtain⟨ad,rfl,_,J⟩:=zaf (o.out.below b.out.2.1) hlt;rw[R]at J;by_cases hz:v=0
   .subst hz;have D:Hid ((d.drop (k+1)).dropWhile isZ=d.dropWhile isZ):=hid (by rw[<-HV.out,zqs hlt,if_pos R]);clear R;rw[show((0:Nat):Int)=0 from rfl]at J;go_wp2;go_round
    case rel=>exact⟨k+1,by omega,by go_num,D⟩
    case measure=>simp[intOf];omega
   .have hv10:v<10:=by rw[<-R];exact HD.out _ (List.getElem_mem hlt)
    have HM:Hid (r=⟨neg,Gr.rz (d.drop k),E+(((d.drop k).length-(Gr.rz (d.drop k)).length:Nat):Int)⟩/\d[k]=v):=hid ⟨by
     have V:=HV.out;rw[zqs hlt,if_neg (by rw[R];exact hz)]at V;rw[<-HR.out];unfold norm;rw[<-V,if_neg (by intro e;have:=congrArg List.length e;simp at this;omega)],R⟩
    obtain⟨H,C⟩:∃H:Int,(v:Int)=H:=⟨_,rfl⟩
    have l:¬H=0:=by omega
    have z:(H==0)=false:=by simpa using l
    rw[C]at J;clear R C;go_wp2_with fail;clear J l z;go_loop [8,2] (fun s8 s2=>∃m:Nat,k<m/\m<=d.length/\s8=.int .i64 (m:Int)/\s2=.int .i64 (E+((d.length-m:Nat):Int))/\Hid (Gr.rz ((d.take m).drop k)=Gr.rz (d.drop k))) (fun s8 _=>(intOf s8).toNat)
    case atStart=>exact⟨d.length,by omega,Nat.le_refl _,rfl,by simp,hid (by rw[List.take_length])⟩
    case round=>
     obtain⟨m,hkm,hmd,rfl,rfl,O⟩:=hrel;obtain⟨j,rfl⟩:∃j,m=j+1:=⟨m-1,by omega⟩
     have ag:j<d.length:=by omega
     have aj:(k:Int)<((j+1:Nat):Int):=by omega
     obtain⟨u,hu⟩:=ex (d[j])
     obtain⟨ad',G,_,J⟩:=zaf (o.out.below b.out.2.1) ag;injection G with G
     subst G;rw[hu]at J;have HT:Hid ((d.take (j+1)).drop k=(d.take j).drop k++[u]):=hid (by rw[zfs (by omega) ag,hu]);have HU:=hid hu;have hj0I:(0:Int)<=(j:Int):=by omega
     have hjI:(j:Int)<=1073741823:=by omega
     clear hu;by_cases z:u=0
     .subst z;have ao:k<j:=by
       rcases Nat.lt_or_ge k j with h0|h0
       .exact h0
       .obtain rfl:j=k:=by omega
        exact absurd (HM.out.2.symm.trans HU.out) hz
      have D:Hid (Gr.rz ((d.take j).drop k)=Gr.rz (d.drop k)):=hid (by rw[<-O.out,HT.out,zg0,if_pos rfl]);rw[show((0:Nat):Int)=0 from rfl]at J;go_wp2;go_round
      case rel=>exact⟨j,ao,by omega,by go_num,by go_num,D⟩
      case measure=>simp[intOf]
     .have HF:Hid (r=⟨neg,(d.take (j+1)).drop k,E+((d.length-(j+1):Nat):Int)⟩):=hid (by
       have V:=O.out;rw[HT.out,zg0,if_neg z,<-HT.out]at V;rw[HM.out.1,<-V]
       congr 3
       simp only[List.length_drop,List.length_take];omega)
      obtain⟨H,C⟩:∃H:Int,(u:Int)=H:=⟨_,rfl⟩
      have l:¬H=0:=by omega
      have z:(H==0)=false:=by simpa using l
      rw[C]at J;clear C;have K:¬((k:Int)=((j+1:Nat):Int)):=by omega
      have ab:((k:Int)==((j+1:Nat):Int))=false:=by rw[beq_eq_false_iff_ne];exact K
      have aa:((k:Int)==(j:Int)+1)=false:=by rw[beq_eq_false_iff_ne];omega
      obtain⟨X,hX⟩:∃X:Int,E+((d.length-(j+1):Nat):Int)=X:=⟨_,rfl⟩
      rw[hX]at HF ⊢;go_upto_region 10 with fail;obtain⟨w2,Z⟩:=ex (w1.alloc (.cells #[.bool neg,.slice none 0 0,.int .i64 X] 102))
      have l:w1.heap.size=a+1:=b.out.2.2;have M:Hid (Blk w2 (a+1) 102 #[.bool neg,.slice none 0 0,.int .i64 X]/\Blk w2 a 102 #[.bool false,.slice none 0 0,.int .i64 0]/\Below a w w2/\a+2<=w2.heap.size):=hid (by
       rw[<-Z,<-l];exact⟨Blk.new _ _ _,b.out.1.alloc _,b.out.2.1.alloc (by omega) _,by simp;omega⟩)
      (try rw[l]);(try rw[Z]);clear Z l J z K ab aa;obtain⟨n,hn⟩:=ex (j+1-k)
      obtain⟨Y,hY⟩:=ex ((d.take (j+1)).drop k)
      have I:Hid (Y.length=n/\∀i (h:i<n),∃h2:k+i<d.length,∃h3:i<Y.length,Y[i]=d[k+i]):=hid (by
       have V:Y.length=n:=by rw[<-hY,<-hn];simp;omega
       refine⟨V,fun i hi=>⟨by omega,by omega,?_⟩⟩;simp only[<-hY,List.getElem_drop,List.getElem_take])
      rw[hY]at HF;have hkn:k+n=j+1:=by omega
      have aA:((j:Int)+1)=((k+n:Nat):Int):=by omega
      clear hY;go_wp2_with fail;clear aA aj;go_loopw [10] (fun s10 wr=>∃p i:Nat,i<=n/\s10=.int .i64 (p:Int)/\Hid (p=k+i)/\Hid (∃A9 c9,Blk wr (a+1) 102 #[.bool neg,.slice A9 i c9,.int .i64 X]/\OwnRow intL wr (a+2) 3 (.slice A9 i c9) (Y.take i)/\Blk wr a 102 #[.bool false,.slice none 0 0,.int .i64 0]/\Below a w wr/\a+2<=wr.heap.size)) (fun s10 _=>k+n-(intOf s10).toNat)
      case atStart=>exact⟨k,0,by omega,rfl,hid rfl,hid ⟨none,0,M.out.1,OwnRow.nil,M.out.2⟩⟩
      case round=>
       obtain⟨p,i,hi,rfl,HP,HW⟩:=hrel;obtain⟨f,ap⟩:∃f,f=wr:=⟨_,rfl⟩
       subst ap;obtain⟨A9,c9,S,vo,v0,vb,vs⟩:=HW.out;by_cases hlt3:i<n
       .have T:(p:Int)<(j:Int)+1:=by have:=HP.out;omega
        obtain⟨ax,an,am⟩:=I.out.2 i hlt3;obtain⟨ad2,t,_,y1⟩:=zaf (o.out.below vb) ax;injection t with t
        subst t;obtain⟨x,hx⟩:=ex (d[k+i])
        rw[hx,<-HP.out]at y1;have hpd:(p:Int)<(d.length:Int):=by have:=HP.out;omega
        have hp1:(p:Int)<=1073741823:=by omega
        have ar:Hid (Y.take (i+1)=Y.take i++[x]):=hid (by rw[List.take_succ_eq_append_getElem an,am,hx]);have ac:Hid ((Y.take i).length=i):=hid (by rw[List.length_take];omega);have q1:f.cell? ⟨a+1,1,none⟩=some (.slice A9 i c9):=S.cell 1;have qf:∀j,f.frozen? ⟨a+1,j,none⟩=false:=S.frozen;have B:OwnRow intL (f.alloc (.cells #[.int .i64 (x:Int)] 3)).drew (a+2) 3 (.slice A9 i c9) (Y.take i):=vo.alloc _;have Q:RowAt intL (f.alloc (.cells #[.int .i64 (x:Int)] 3)).drew (f.heap.size+1) (some ⟨f.heap.size,0,none⟩) [x]:=RowAt.lit1 x _ rfl _ rfl;have az:(Y.take i).length+[x].length<=1073741824:=by rw[ac.out];simp;omega
        have ah:a+2<=(f.alloc (.cells #[.int .i64 (x:Int)] 3)).drew.heap.size:=by simp;omega
        have g:Hid (Blk (f.alloc (.cells #[.int .i64 (x:Int)] 3)).drew (a+1) 102 #[.bool neg,.slice A9 i c9,.int .i64 X]/\Blk (f.alloc (.cells #[.int .i64 (x:Int)] 3)).drew a 102 #[.bool false,.slice none 0 0,.int .i64 0]/\Below a w (f.alloc (.cells #[.int .i64 (x:Int)] 3)).drew/\OwnRow intL (f.alloc (.cells #[.int .i64 (x:Int)] 3)).drew (a+2) 3 (.slice A9 i c9) (Y.take i)/\a+2<=(f.alloc (.cells #[.int .i64 (x:Int)] 3)).drew.heap.size):=hid ⟨S.alloc _,v0.alloc _,below_drewN (vb.alloc (by omega) _) 1,B,ah⟩;have e1:=World.new_ne f _ q1;have e2:=World.new_ne f _ y1;have pcA:(f.alloc (.cells #[.int .i64 (x:Int)] 3)).cell? ⟨a+1,1,none⟩=some (.slice A9 i c9):=(S.alloc _).cell 1;have pyA:(f.alloc (.cells #[.int .i64 (x:Int)] 3)).cell? (ad.add p)=some (.int .i64 (x:Int)):=(World.cell?_alloc_lt f _ _ (World.block_lt_of_cell? f _ y1)).trans y1;clear am hx S vo v0 vb I HV O HM HT HU HF HR HD b M o P;go_upto_region 13 with fail
        focus
         go_region_law (refine zan _ rfl (.tmp 54) (.tmp 59) 36 3 8 rfl intT (a+2) (.slice A9 i c9) (Y.take i) rfl B _ _ 1 [x] rfl Q az ah ?_;intro v' W y N af;obtain⟨A8,c8,ak,_⟩:=y.form;obtain⟨q,hq⟩:=ex ((Y.take i++[x]).length);rw[hq]at ak;subst ak;have k1:=zbg g.out.1 g.out.2.2.2.1 N (Nat.lt_succ_self _);have L:=hid N;have al:=hid y;have HQ:=hid hq;have qf3:∀j,W.frozen? ⟨a+1,j,none⟩=false:=k1.frozen;have q13:W.cell? ⟨a+1,1,none⟩=some (.slice A9 i c9):=k1.cell 1;have aB:=hid k1;clear N y hq k1 af)
         all_goals go_wp2_with fail
         all_goals
          have aw:q=i+1:=by rw[<-HQ.out,List.length_append,ac.out];rfl
          have D:Hid (∃A9 c9,Blk (W.setCell ⟨a+1,1,none⟩ (.slice A8 q c8)) (a+1) 102 #[.bool neg,.slice A9 (i+1) c9,.int .i64 X]/\OwnRow intL (W.setCell ⟨a+1,1,none⟩ (.slice A8 q c8)) (a+2) 3 (.slice A9 (i+1) c9) (Y.take (i+1))/\Blk (W.setCell ⟨a+1,1,none⟩ (.slice A8 q c8)) a 102 #[.bool false,.slice none 0 0,.int .i64 0]/\Below a w (W.setCell ⟨a+1,1,none⟩ (.slice A8 q c8))/\a+2<=(W.setCell ⟨a+1,1,none⟩ (.slice A8 q c8)).heap.size):=hid (by
           subst aw;have k0:=zbg g.out.2.1 g.out.2.2.2.1 L.out (by omega);have kb:=g.out.2.2.1.trans ((g.out.2.2.2.1.grown_below L.out g.out.2.2.2.2).mono (by omega));have ks:=(g.out.2.2.2.1.grown_below L.out g.out.2.2.2.2).size;refine⟨A8,c8,aB.out.set_ 1 _,by rw[ar.out];exact al.out.setCell (fun e=>absurd (al.out.lt _ e).1 (by simp)) _,k0.far (by simp) _,kb.setCell (by simp) _,?_⟩;have:=g.out.2.2.2.2;simp[World.setCell];omega)
          go_roundw
          case rel=>exact⟨p+1,i+1,by omega,by go_num,hid (by have:=HP.out;omega),D⟩
          case measure=>have:=HP.out;simp[intOf];omega
       .obtain rfl:i=n:=by omega
        have T:¬(p:Int)<(j:Int)+1:=by have:=HP.out;omega
        have au:Hid (Y.take i=Y):=hid (List.take_of_length_le (by rw[I.out.1];exact Nat.le_refl _));have ai:Hid (Y.length=i):=hid I.out.1;have p0:∀j,f.frozen? ⟨a,j,none⟩=false:=v0.frozen;obtain⟨q0,q1,q2⟩:=cells3 v0;obtain⟨x0,x1,x2⟩:=cells3 S;have ay:=hid v0;have aq:=hid vo;have aC:=hid vb;clear v0 vo vb S vs;go_wp2_with fail;have s:=((ay.out.set_ 0 (.bool neg)).set_ 1 (.slice A9 i c9)).set_ 2 (.int .i64 X);have e0:=s.cell 0;have e1:=s.cell 1;have e2:=s.cell 2;refine bodyPost_ret (v:=.agg #[.bool neg,.slice A9 i c9,.int .i64 X]) (by simp[results,results125,go_sem,e0,e1,e2]) rfl ?_;rw[HF.out];unfold zfh;rw[P.out];have ho:=aq.out;rw[au.out]at ho;have av:=((ho.setCell (p:=⟨a,0,none⟩) (fun e=>absurd (ho.lt _ e).1 (by simp)) (.bool neg)).setCell (p:=⟨a,1,none⟩) (fun e=>absurd (ho.lt _ e).1 (by simp)) (.slice A9 i c9)).setCell (p:=⟨a,2,none⟩) (fun e=>absurd (ho.lt _ e).1 (by simp)) (.int .i64 X);refine⟨_,rfl,⟨A9,c9,by rw[ai.out],?_⟩,((aC.out.setCell (p:=⟨a,0,none⟩) (by simp) _).setCell (p:=⟨a,1,none⟩) (by simp) _).setCell (p:=⟨a,2,none⟩) (by simp) _⟩;rw[ai.out];exact av.lower (by omega)
  .have ae:¬(k:Int)<(d.length:Int):=by omega
   obtain rfl:k=d.length:=by omega
   have HF:Hid (r=zeroD):=hid (by
    rw[<-HR.out];unfold norm;rw[if_pos (by rw[<-HV.out,List.drop_length];rfl)])
   have p0:∀j,w1.frozen? ⟨a,j,none⟩=false:=b.out.1.frozen;obtain⟨q0,q1,q2⟩:=cells3 b.out.1;go_wp2_with fail;go_loop [8,2] (fun s8 s2=>s8=.int .i64 (d.length:Int)/\s2=.int .i64 E) (fun _ _=>0)
   case atStart=>exact⟨rfl,rfl⟩
   case round=>
    obtain⟨rfl,rfl⟩:=hrel;go_wp2_with fail;have s:=((b.out.1.set_ 0 (.bool false)).set_ 1 (.slice none 0 0)).set_ 2 (.int .i64 0);have e0:=s.cell 0;have e1:=s.cell 1;have e2:=s.cell 2;refine bodyPost_ret (v:=.agg #[.bool false,.slice none 0 0,.int .i64 0]) (by simp[results,results125,go_sem,e0,e1,e2]) rfl ?_;rw[HF.out];exact⟨_,rfl,⟨none,0,rfl,OwnRow.nil⟩,by rw[P.out];exact((b.out.2.1.setCell (p:=⟨a,0,none⟩) (by simp) _).setCell (p:=⟨a,1,none⟩) (by simp) _).setCell (p:=⟨a,2,none⟩) (by simp) _⟩
theorem zhc (s:Gr.Str) (a:Nat):(s.drop a).dropWhile Gr.dig=s.drop (a+(rdg s a).length):=by
 have h:=List.takeWhile_append_dropWhile (p:=Gr.dig) (l:=s.drop a);have b:=congrArg (List.drop (rdg s a).length) h;unfold rdg at b ⊢;rw[List.drop_left,List.drop_drop]at b;exact b
theorem zqu (s:Gr.Str) (a:Nat) (h:a<=s.length):a+(rdg s a).length<=s.length:=by
 have:(rdg s a).length<=(s.drop a).length:=(List.takeWhile_sublist Gr.dig).length_le;rw[List.length_drop]at this;omega
theorem zb6 (s:Gr.Str) (k:Nat):(s.drop k).head?=s[k]? :=by rw[List.head?_drop]
theorem zfi (s:Gr.Str) (k:Nat):(s.drop k).tail=s.drop (k+1):=by rw[List.tail_drop]
theorem zle (s:Gr.Str) (a:Nat) (h:0<(rdg s a).length):(rdg s a).head?=s[a]? :=by
 rw[<-zb6];unfold rdg at h ⊢;cases hd:s.drop a with
 |nil=>rw[hd]at h;simp at h
 |cons c l=>
  rw[hd]at h;rw[List.takeWhile_cons]at h ⊢;split
  .rfl
  .grind
theorem zwi (sat:Nat) (neg:Bool) (s:Gr.Str) (a:Nat):numT sat neg (s.drop a)=if rdg s a=[]\/(s[a]? =some 48/\1<(rdg s a).length)then none
 else if s[a+(rdg s a).length]? =some 46 then
  if rdg s (a+(rdg s a).length+1)=[]then none else expS sat neg (vals (rdg s a)++vals (rdg s (a+(rdg s a).length+1))) (-((rdg s (a+(rdg s a).length+1)).length:Int)) (s.drop (a+(rdg s a).length+1+(rdg s (a+(rdg s a).length+1)).length))
 else expS sat neg (vals (rdg s a)) 0 (s.drop (a+(rdg s a).length)):=by
 unfold numT;have d:(s.drop a).takeWhile Gr.dig=rdg s a:=rfl;rw[d,zhc,zb6,zfi,zhc];have b:(s.drop (a+(rdg s a).length+1)).takeWhile Gr.dig=rdg s (a+(rdg s a).length+1):=rfl;rw[b];have c:vals (rdg s a++rdg s (a+(rdg s a).length+1))=vals (rdg s a)++vals (rdg s (a+(rdg s a).length+1)):=by simp[vals]
 rw[c];by_cases h0:rdg s a=[]
 .grind
 .rw[zle s a (List.length_pos_iff.2 h0)]
theorem zwj (sat:Nat) (neg:Bool) (d:List Nat) (e:Int) (s:Gr.Str) (t:Nat) (ht:t<=s.length) (h1:s[t]? ≠some 101) (h2:s[t]? ≠some 69):expS sat neg d e (s.drop t)=if t=s.length then some (norm neg d e)else none:=by
 unfold expS;rw[zb6];by_cases h:t=s.length
 .grind
 .rw[if_neg (by intro e;have:=congrArg List.length e;simp at this;omega),if_neg (fun e=>e.elim h1 h2),if_neg h]
theorem zj3 (s:Gr.Str) (b:Nat) (hb:b<=s.length):(s.drop b).all Gr.dig=true↔b+(rdg s b).length=s.length:=by
 constructor
 .intro h;have:rdg s b=s.drop b:=by
   unfold rdg;have:=List.takeWhile_append_of_pos (p:=Gr.dig) (l₁:=s.drop b) (l₂:=[]) (by simpa using h);simpa using this
  rw[this,List.length_drop];omega
 .intro h;have a:=List.takeWhile_append_dropWhile (p:=Gr.dig) (l:=s.drop b);rw[zhc,show s.drop (b+(rdg s b).length)=[]from List.drop_eq_nil_of_le (by omega),List.append_nil]at a;rw[<-a];exact zd9 _
theorem zqv (s:Gr.Str) (b:Nat) (h:b+(rdg s b).length=s.length):rdg s b=s.drop b:=by
 have a:=List.takeWhile_append_dropWhile (p:=Gr.dig) (l:=s.drop b);rw[zhc,show s.drop (b+(rdg s b).length)=[]from List.drop_eq_nil_of_le (by omega),List.append_nil]at a;exact a
theorem zwk (sat:Nat) (neg:Bool) (d:List Nat) (e:Int) (s:Gr.Str) (t b:Nat) (minus:Bool) (ht:t<s.length) (h1:s[t]? =some 101\/s[t]? =some 69) (hb:b=if s[t+1]? =some 45\/s[t+1]? =some 43 then t+2 else t+1) (hm:minus=decide (s[t+1]? =some 45)) (hbl:b<=s.length):
 expS sat neg d e (s.drop t)=if rdg s b=[]then none else if b+(rdg s b).length=s.length then some (norm neg d (e+(if minus=true then -1 else 1)*(satv sat (rdg s b):Int)))else none:=by
 unfold expS;rw[if_neg (by intro e;have:=congrArg List.length e;simp at this;omega),zb6,if_pos h1,zfi];have c:expT (s.drop (t+1))=s.drop b:=by
  unfold expT;rw[zb6,zfi,hb];split<;>rfl
 have f:expV sat (s.drop (t+1))=(if minus=true then -1 else 1)*(satv sat (s.drop b):Int):=by
  unfold expV;rw[c,zb6,hm];by_cases h:s[t+1]? =some 45
  .grind
  .grind
 rw[c,f];by_cases he:rdg s b=[]
 .rw[if_pos he,if_pos];rcases Nat.lt_or_ge b s.length with h|h
  .right;rw[Bool.eq_false_iff];intro a;have:=(zj3 s b hbl).1 a;rw[he]at this;simp at this;omega
  .grind
 .rw[if_neg he];by_cases a:b+(rdg s b).length=s.length
  .rw[if_pos a,if_neg,zqv s b a];rintro(h|h)
   .rw[<-zqv s b a]at h;exact he h
   .rw[(zj3 s b hbl).2 a]at h;cases h
  .rw[if_neg a,if_pos];right;rw[Bool.eq_false_iff];exact fun h=>a ((zj3 s b hbl).1 h)
def zcf (o:Option Gr.Dn) (w:World) (e:Ending) (w':World):Prop:=∃x v,e=.returned (.tuple #[v,.bool o.isSome])/\NumI x v w.heap.size w'/\(∀y,o=some y->x=y)/\Below w.heap.size w w'
theorem zqw (s:Gr.Str) (_hl:s.length<=268435455) (w wc:World) (gb n c t2:Nat) (A:Option Addr) (neg:Bool) (ev2:Int) (ds:List Nat) (r:Option Gr.Dn) (HGB:Hid (w.heap.size=gb))
 (HT:Hid (n=ds.length/\ds.length<=536870911/\(∀v∈ds,v<10))) (HE2:Hid (t2<=s.length/\-1152921504606846976<=ev2/\ev2<=1152921504606846976/\r=if t2=s.length then some (Gr.norm neg ds ev2)else none)) (HO2:Hid (OwnRow intL wc (gb+1) 3 (.slice A n c) ds)) (HB2:Hid (Blk wc gb 102 #[.bool false,.slice none 0 0,.int .i64 0]/\Below gb w wc))
 {u1 u3 u7 u9 u10 u11 u12 u13 u14 u15 u16 u17 u18 u19 u20 u21 u22 u23 u24 u25 u26 u27 u28 u29 u30 u31 u32 u33 u34 u35 u36 u37 u38 u39 u40 u41 u42 u43 u44 u45 u46 u47 u48 u49 u50 u51 u52 u53 u54 u55 u56 u57 u58 u59 u60 u61 u62 u63 u64 u65 u66 u67 u68 u69 u70 u71 u72 u73 u74 u75 u76 u77 u78 u79 u80 u81 u82 u83 u84 u85 u86 u87 u88 u89 u90 u91 u92 u93 u94 u95 u96 u97 u98 u99 u100 u101 u102 u103 u104 u105 u106 u107 u108 u109 u110 u111 u112 u113 u114 u115 u116 u117 u118 u119 u120 u121 u122 u123 u124 u125 u126 u127 u128 u129 u130 u131 u132 u133 u134 u135 u136 u137 u138 u139 u140 u141 u142 u143 u144 u145 u146 u147 u148 u149 u150 u151 u152 u153 u154:Value}:
 Code.wp prog (tl 10 (f94.body.getD .skip)) (bodyPost prog f94 (zcf r w)) {tmps:=List.toArray (.string ⟨s.toArray⟩::u1::.pointer (some ⟨gb,0,none⟩)::u3::.int .i64 (t2:Int)::.bool neg::.slice A n c::u7::.int .i64 ev2::u9::u10::u11::u12::u13::u14::u15::u16::u17::u18::u19::u20::u21::u22::u23::u24::u25::u26::u27::u28::u29::u30::u31::u32::u33::u34::u35::u36::u37::u38::u39::u40::u41::u42::u43::u44::u45::u46::u47::u48::u49::u50::u51::u52::u53::u54::u55::u56::u57::u58::u59::u60::u61::u62::u63::u64::u65::u66::u67::u68::u69::u70::u71::u72::u73::u74::u75::u76::u77::u78::u79::u80::u81::u82::u83::u84::u85::u86::u87::u88::u89::u90::u91::u92::u93::u94::u95::u96::u97::u98::u99::u100::u101::u102::u103::u104::u105::u106::u107::u108::u109::u110::u111::u112::u113::u114::u115::u116::u117::u118::u119::u120::u121::u122::u123::u124::u125::u126::u127::u128::u129::u130::u131::u132::u133::u134::u135::u136::u137::u138::u139::u140::u141::u142::u143::u144::u145::u146::u147::u148::u149::u150::u151::u152::u153::u154::[]),defers:=[]} wc:=by
 generalize hc0:tl 10 (f94.body.getD .skip)=c0;simp only[tl,f94,Option.getD_some]at hc0;subst hc0;have F:=HO2.out.form;have q:n=ds.length:=HT.out.1;have B:Hid (∀W,Below wc.heap.size wc W->W=wc->Calls prog 125 #[.bool neg,.slice A n c,.int .i64 ev2] W (zfh (Gr.norm neg ds ev2) W)):=Lib.hid (fun W _ J=>by
  subst J;obtain⟨A',c',H,m⟩:=HO2.out.form;rw[q]at H ⊢;injection H with e1 e2 e3
  subst e1;exact zqt neg A c ds ev2 (by have:=HT.out.2.1;omega) HE2.out.2.1 HE2.out.2.2.1 HT.out.2.2 W m)
 have l:=Lib.hid HE2.out.2.2.2;have ht2s:t2<=s.length:=HE2.out.1;obtain⟨b,a⟩:=ex (decide (t2=s.length))
 have hfb:((t2:Int)==(s.length:Int))=b:=by
  rw[<-a,Bool.eq_iff_iff];simp;omega
 have hfb2:(t2==s.length)=b:=by
  rw[<-a,Bool.eq_iff_iff];simp
 have E:=Lib.hid a;clear F q a HT HE2;go_wp2_with fail;refine(B.out wc (Below.refl _ _) rfl).mono ?_;rintro e D ⟨v,rfl,⟨z,u,rfl,o⟩,k⟩;have g:Hid (Blk D gb 102 #[.bool false,.slice none 0 0,.int .i64 0]/\Below gb w D):=Lib.hid ⟨HB2.out.1.below k HB2.out.1.lt,HB2.out.2.trans (k.mono (Nat.le_of_lt HB2.out.1.lt))⟩;have f:=Lib.hid (o.lower (show gb+1<=wc.heap.size from HB2.out.1.lt));have p0:∀j,D.frozen? ⟨gb,j,none⟩=false:=g.out.1.frozen;obtain⟨q0,q1,q2⟩:=cells3 g.out.1;obtain⟨x,I⟩:=ex (Gr.norm neg ds ev2)
 rw[I]at f l ⊢;clear I o k;go_wp2_with fail;have i:=((g.out.1.set_ 0 (.bool x.neg)).set_ 1 (.slice z x.d.length u)).set_ 2 (.int .i64 x.e);have e0:=i.cell 0;have e1:=i.cell 1;have e2:=i.cell 2;refine bodyPost_ret (v:=.tuple #[.agg #[.bool x.neg,.slice z x.d.length u,.int .i64 x.e],.bool b]) (by rw[results_cell_tmp rfl];go_simp) rfl ?_;have G:r.isSome=b:=by
  rw[l.out,<-E.out];by_cases h:t2=s.length
  .rw[if_pos h];simp[h]
  .rw[if_neg h];simp[h]
 unfold zcf;rw[HGB.out,G];have C:=((f.out.setCell (p:=⟨gb,0,none⟩) (fun e=>absurd (f.out.lt _ e).1 (by simp)) (.bool x.neg)).setCell (p:=⟨gb,1,none⟩) (fun e=>absurd (f.out.lt _ e).1 (by simp)) (.slice z x.d.length u)).setCell (p:=⟨gb,2,none⟩) (fun e=>absurd (f.out.lt _ e).1 (by simp)) (.int .i64 x.e);refine⟨x,_,rfl,⟨z,u,rfl,C.lower (by omega)⟩,fun y t=>?_,((g.out.2.setCell (p:=⟨gb,0,none⟩) (by simp) _).setCell (p:=⟨gb,1,none⟩) (by simp) _).setCell (p:=⟨gb,2,none⟩) (by simp) _⟩;rw[l.out]at t;split at t
 .injection t
 .cases t
def rngB (date:Bool) (y m d h mi c:Int) (late:Bool):Bool:=(!date || (decide (1<=m) && decide (m<=12) && decide (1<=d) && decide (d<=Cal.dim y m))) && !late && decide (h<=23) && decide (mi<=59) && decide (c<=59)
theorem zeb (date time zone:Bool) (y m d h mi c nanos off:Int) (late:Bool) (w:World):
 Calls prog 131 #[.agg #[.bool date,.bool time,.bool zone,.int .i64 y,.int .i64 m,.int .i64 d,.int .i64 h,.int .i64 mi,.int .i64 c,.int .i64 nanos,.int .i64 off,.bool late]] w fun e w'=>e=.returned (.bool (rngB date y m d h mi c late))/\Below w.heap.size w w':=by
 have J:date=false\/(date=true/\m<1)\/(date=true/\¬m<1/\12<m)\/(date=true/\¬m<1/\¬12<m/\d<1)\/(date=true/\¬m<1/\¬12<m/\¬d<1/\Cal.dim y m<d)\/(date=true/\¬m<1/\¬12<m/\¬d<1/\¬Cal.dim y m<d):=by
  cases date<;>simp<;>omega
 obtain⟨q,A⟩:=ex (Cal.dim y m)
 have B:=hid A;rw[A]at J;clear A;have v:Hid (1<=m->m<=12->∀W,Calls prog 166 #[.int .i64 y,.int .i64 m] W fun e w'=>e=.returned (.int .i64 q)/\W=w'):=hid (fun t u W=>by rw[<-B.out];exact zd2 y m t u W);obtain⟨r,H⟩:=ex (rngB date y m d h mi c late)
 have I:=hid H;rw[H];clear H;rcases J with rfl|⟨rfl,t⟩|⟨rfl,t,u⟩|⟨rfl,t,u,h3⟩|⟨rfl,t,u,h3,h4⟩|⟨rfl,t,u,h3,h4⟩
 .have s:Hid (∀W,1<=m->m<=12->Calls prog 166 #[.int .i64 y,.int .i64 m] W fun e w'=>e=.returned (.int .i64 q)/\W=w'):=hid (fun W a b=>v.out a b W);go_enter func131,ntmps131;go_upto_region 1 with fail;obtain⟨g,k⟩:=ex w.heap.size
  obtain⟨i,l⟩:∃i,i=w.alloc (.cells #[.bool false,.bool time,.bool zone,.int .i64 y,.int .i64 m,.int .i64 d,.int .i64 h,.int .i64 mi,.int .i64 c,.int .i64 nanos,.int .i64 off,.bool late] 147):=⟨_,rfl⟩
  have f:Hid (Blk i g 147 (T12 false time zone y m d h mi c nanos off late)/\Below g w i):=hid (by rw[l,<-k];exact⟨Blk.new _ _ _,(Below.refl _ _).alloc (Nat.le_refl _) _⟩);have o:=hid k;(try rw[<-l]);(try rw[k]);clear l k;have E:∀W:WB i.heap.size i,W.w.cell? ⟨g,0,none⟩=some (.bool false):=fun W=>(W.h.cell (p:=⟨g,0,none⟩) f.out.1.lt).trans (f.out.1.cell 0)
  have x:∀W:WB i.heap.size i,W.w.cell? ⟨g,3,none⟩=some (.int .i64 y):=fun W=>(W.h.cell (p:=⟨g,3,none⟩) f.out.1.lt).trans (f.out.1.cell 3)
  have z:∀W:WB i.heap.size i,W.w.cell? ⟨g,4,none⟩=some (.int .i64 m):=fun W=>(W.h.cell (p:=⟨g,4,none⟩) f.out.1.lt).trans (f.out.1.cell 4)
  have D:∀W:WB i.heap.size i,W.w.cell? ⟨g,5,none⟩=some (.int .i64 d):=fun W=>(W.h.cell (p:=⟨g,5,none⟩) f.out.1.lt).trans (f.out.1.cell 5)
  refine zac i.heap.size i (by kernel_rfl) (by kernel_rfl) (Below.refl _ _) ?_
  iterate 27 (try go_big_quiet_step ((with_reducible refine Calls.grow ((s.out _ (by omega) (by omega)).mono (fun _ _ ⟨G,C⟩=>⟨G,C▸WB.h _⟩)))))
  refine wpQuiet_nil ?_;rintro _ ⟨n,rfl⟩;clear E x z D;have j:=f.out.1.below n.h f.out.1.lt;have M:n.w.cell? ⟨g,6,none⟩=some (.int .i64 h):=j.cell 6;have L:n.w.cell? ⟨g,7,none⟩=some (.int .i64 mi):=j.cell 7;have K:n.w.cell? ⟨g,8,none⟩=some (.int .i64 c):=j.cell 8;have F:n.w.cell? ⟨g,11,none⟩=some (.bool late):=j.cell 11;clear j;cases late
  all_goals go_wp2_with fail
  all_goals go_ret
  all_goals
   rw[o.out];refine⟨congrArg (fun b=>Ending.returned (.bool b)) ?_,f.out.2.trans (n.h.mono (Nat.le_of_lt f.out.1.lt))⟩;rw[<-I.out];unfold rngB;rw[B.out]
   first| (simp[*];done)| (simp;omega)
 all_goals
  have s:Hid (∀W,1<=m->m<=12->Calls prog 166 #[.int .i64 y,.int .i64 m] W fun e w'=>e=.returned (.int .i64 q)/\W=w'):=hid (fun W a b=>v.out a b W);go_enter func131,ntmps131;go_upto_region 1 with fail;obtain⟨g,k⟩:=ex w.heap.size
  obtain⟨i,l⟩:∃i,i=w.alloc (.cells #[.bool true,.bool time,.bool zone,.int .i64 y,.int .i64 m,.int .i64 d,.int .i64 h,.int .i64 mi,.int .i64 c,.int .i64 nanos,.int .i64 off,.bool late] 147):=⟨_,rfl⟩
  have f:Hid (Blk i g 147 (T12 true time zone y m d h mi c nanos off late)/\Below g w i):=hid (by rw[l,<-k];exact⟨Blk.new _ _ _,(Below.refl _ _).alloc (Nat.le_refl _) _⟩);have o:=hid k;(try rw[<-l]);(try rw[k]);clear l k;have E:∀W:WB i.heap.size i,W.w.cell? ⟨g,0,none⟩=some (.bool true):=fun W=>(W.h.cell (p:=⟨g,0,none⟩) f.out.1.lt).trans (f.out.1.cell 0)
  have x:∀W:WB i.heap.size i,W.w.cell? ⟨g,3,none⟩=some (.int .i64 y):=fun W=>(W.h.cell (p:=⟨g,3,none⟩) f.out.1.lt).trans (f.out.1.cell 3)
  have z:∀W:WB i.heap.size i,W.w.cell? ⟨g,4,none⟩=some (.int .i64 m):=fun W=>(W.h.cell (p:=⟨g,4,none⟩) f.out.1.lt).trans (f.out.1.cell 4)
  have D:∀W:WB i.heap.size i,W.w.cell? ⟨g,5,none⟩=some (.int .i64 d):=fun W=>(W.h.cell (p:=⟨g,5,none⟩) f.out.1.lt).trans (f.out.1.cell 5)
  refine zac i.heap.size i (by kernel_rfl) (by kernel_rfl) (Below.refl _ _) ?_
  iterate 27 (try go_big_quiet_step ((with_reducible refine Calls.grow ((s.out _ (by omega) (by omega)).mono (fun _ _ ⟨G,C⟩=>⟨G,C▸WB.h _⟩)))))
  refine wpQuiet_nil ?_;rintro _ ⟨n,rfl⟩;clear E x z D;have j:=f.out.1.below n.h f.out.1.lt;have M:n.w.cell? ⟨g,6,none⟩=some (.int .i64 h):=j.cell 6;have L:n.w.cell? ⟨g,7,none⟩=some (.int .i64 mi):=j.cell 7;have K:n.w.cell? ⟨g,8,none⟩=some (.int .i64 c):=j.cell 8;have F:n.w.cell? ⟨g,11,none⟩=some (.bool late):=j.cell 11;clear j;cases late
  all_goals go_wp2_with fail
  all_goals go_ret
  all_goals
   rw[o.out];refine⟨congrArg (fun b=>Ending.returned (.bool b)) ?_,f.out.2.trans (n.h.mono (Nat.le_of_lt f.out.1.lt))⟩;rw[<-I.out];unfold rngB;rw[B.out]
   first| (simp[*];done)| (simp;omega)
end Go.Proofs.YtpgmfihonmoliaaGreatDoor
