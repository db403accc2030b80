import Derived.Test.YtoigpackhninoaaGreatDoorGrInsR5
import Derived.Test.YtoigpackhninoaaGreatDoorGrInsR11
namespace Go.Proofs.YtoigpackhninoaaGreatDoor
open Gr
open _root_.Go.Proofs.Tryz
open _root_.Go.Lib (hid)
set_option maxRecDepth 100000
set_option maxHeartbeats 16000000
open Go.RowKit
def toRT (x:Gr.Mo):RT:=⟨x.date,x.time,decide (x.z≠0),x.y,x.m,x.d,x.h,x.mi,x.c,x.nanos,offS x,decide (23<x.zh) || decide (59<x.zm)⟩
def RdPost (s:Gr.Str) (w:World) (e:Ending) (w':World):Prop:=∃(t:RT) (ok:Bool),e=.returned (.tuple #[t.v,.bool ok])/\Below w.heap.size w w'/\
 match Gr.rd s with
 |none=>ok=false
 |some x=>ok=true/\t=toRT x
theorem far12 {w:World} {g k:Nat} {t:TypeId} {cs:Array Value} (hne:k≠g) {v0 v1 v2 v3 v4 v5 v6 v7 v8 v9 v10 v11:Value} (h:Blk w k t cs):Blk ((((((((((((w.setCell ⟨g,0,none⟩ (v0)).setCell ⟨g,1,none⟩ (v1)).setCell ⟨g,2,none⟩ (v2)).setCell ⟨g,3,none⟩ (v3)).setCell ⟨g,4,none⟩ (v4)).setCell ⟨g,5,none⟩ (v5)).setCell ⟨g,6,none⟩ (v6)).setCell ⟨g,7,none⟩ (v7)).setCell ⟨g,8,none⟩ (v8)).setCell ⟨g,9,none⟩ (v9)).setCell ⟨g,10,none⟩ (v10)).setCell ⟨g,11,none⟩ (v11)) k t cs:=
 ((((((((((((h.far hne v0).far hne v1).far hne v2).far hne v3).far hne v4).far hne v5).far hne v6).far hne v7).far hne v8).far hne v9).far hne v10).far hne v11)
theorem put12 {w0 w:World} {g:Nat} {t:TypeId} {c0 c1 c2 c3 c4 c5 c6 c7 c8 c9 c10 c11:Value} (b0 b1 b2:Bool) (i3 i4 i5 i6 i7 i8 i9 i10:Int) (b11:Bool) (h:Blk w g t #[c0,c1,c2,c3,c4,c5,c6,c7,c8,c9,c10,c11]/\Below g w0 w):Blk ((((((((((((w.setCell ⟨g,0,none⟩ (.bool b0)).setCell ⟨g,1,none⟩ (.bool b1)).setCell ⟨g,2,none⟩ (.bool b2)).setCell ⟨g,3,none⟩ (.int .i64 i3)).setCell ⟨g,4,none⟩ (.int .i64 i4)).setCell ⟨g,5,none⟩ (.int .i64 i5)).setCell ⟨g,6,none⟩ (.int .i64 i6)).setCell ⟨g,7,none⟩ (.int .i64 i7)).setCell ⟨g,8,none⟩ (.int .i64 i8)).setCell ⟨g,9,none⟩ (.int .i64 i9)).setCell ⟨g,10,none⟩ (.int .i64 i10)).setCell ⟨g,11,none⟩ (.bool b11)) g t (T12 b0 b1 b2 i3 i4 i5 i6 i7 i8 i9 i10 b11)/\Below g w0 ((((((((((((w.setCell ⟨g,0,none⟩ (.bool b0)).setCell ⟨g,1,none⟩ (.bool b1)).setCell ⟨g,2,none⟩ (.bool b2)).setCell ⟨g,3,none⟩ (.int .i64 i3)).setCell ⟨g,4,none⟩ (.int .i64 i4)).setCell ⟨g,5,none⟩ (.int .i64 i5)).setCell ⟨g,6,none⟩ (.int .i64 i6)).setCell ⟨g,7,none⟩ (.int .i64 i7)).setCell ⟨g,8,none⟩ (.int .i64 i8)).setCell ⟨g,9,none⟩ (.int .i64 i9)).setCell ⟨g,10,none⟩ (.int .i64 i10)).setCell ⟨g,11,none⟩ (.bool b11)):=
 ⟨za1 h.1,zbr h.2 (Nat.le_refl g)⟩
theorem zfz {w0 w:World} {g k:Nat} {t t2:TypeId} {cs:Array Value} {c0 c1 c2 c3 c4 c5 c6 c7 c8 c9 c10 c11:Value} (b0 b1 b2:Bool) (i3 i4 i5 i6 i7 i8 i9 i10:Int) (b11:Bool) (h:Blk w g t #[c0,c1,c2,c3,c4,c5,c6,c7,c8,c9,c10,c11]/\Blk w k t2 cs/\Below k w0 w/\k<g):∃x,((((((((((((w.setCell ⟨g,0,none⟩ (.bool b0)).setCell ⟨g,1,none⟩ (.bool b1)).setCell ⟨g,2,none⟩ (.bool b2)).setCell ⟨g,3,none⟩ (.int .i64 i3)).setCell ⟨g,4,none⟩ (.int .i64 i4)).setCell ⟨g,5,none⟩ (.int .i64 i5)).setCell ⟨g,6,none⟩ (.int .i64 i6)).setCell ⟨g,7,none⟩ (.int .i64 i7)).setCell ⟨g,8,none⟩ (.int .i64 i8)).setCell ⟨g,9,none⟩ (.int .i64 i9)).setCell ⟨g,10,none⟩ (.int .i64 i10)).setCell ⟨g,11,none⟩ (.bool b11))=x/\(Blk x g t (T12 b0 b1 b2 i3 i4 i5 i6 i7 i8 i9 i10 b11)/\Blk x k t2 cs/\Below k w0 x/\k<g):=
 ⟨_,rfl,za1 h.1,far12 (by omega) h.2.1,zbr h.2.2.1 (Nat.le_of_lt h.2.2.2),h.2.2.2⟩
theorem keep12 {w0 w w2:World} {g k:Nat} {t t2:TypeId} {cs cs2:Array Value} (h:Blk w g t cs/\Blk w k t2 cs2/\Below k w0 w/\k<g) (hb:Below w.heap.size w w2):Blk w2 g t cs/\Blk w2 k t2 cs2/\Below k w0 w2/\k<g:=
 ⟨h.1.below hb h.1.lt,h.2.1.below hb h.2.1.lt,h.2.2.1.trans (hb.mono (Nat.le_of_lt h.2.1.lt)),h.2.2.2⟩
theorem zm5 {s:Gr.Str} {a:Nat} {z:Gr.Zn} (h:zoneAt s a=some z):z.z≠0:=by
 unfold zoneAt at h;split at h
 ·injection h with h;subst h;show(90:UInt8)≠0;decide
 ·split at h
  ·split at h
   ·rename_i hc;injection h with h
    subst h;rw[Bool.and_eq_true,Bool.or_eq_true]at hc;unfold isAt at hc;show s.getD a 0≠0;rw[List.getD_eq_getElem?_getD];rcases hc.1 with h1|h1
    ·rw[eq_of_beq h1];decide
    ·rw[eq_of_beq h1];decide
   ·cases h
  ·cases h
theorem zi7 {s:Gr.Str} {a kh km kc kf ks:Nat} (h:clockAt s a=some ⟨kh,km,kc,kf,ks⟩):ks<=s.length:=by
 unfold clockAt at h;split at h
 ·rename_i h1 h2 h3;have b:=(zcb h3 (by omega)).2.2;split at h
  ·split at h
   ·rename_i hp;split at h
    ·cases h
    ·injection h with h
     injection h with _ _ _ _ h5
     have hlen:((s.drop (a+9)).takeWhile Gr.dig).length<=(s.drop (a+9)).length:=(List.takeWhile_sublist Gr.dig).length_le;rw[List.length_drop]at hlen;have:a+8<s.length:=by
      unfold isAt at hp;rcases Nat.lt_or_ge (a+8) s.length with h6|h6
      ·exact h6
      ·rw[List.getElem?_eq_none h6]at hp;cases hp
     omega
   ·injection h with h
    injection h with _ _ _ _ h5
    omega
  ·cases h
 ·cases h
theorem zgy (s:Gr.Str) (hl:s.length<=1073741823) (DA:dateAt s=none) (w:World):
 Calls prog 103 #[.string ⟨s.toArray⟩] w (RdPost s w):=by
 have HDT:=hid (fun W=>zgx s hl W);have HCK:=hid (fun W=>ze6 s hl 0 0 rfl (by omega) false 0 0 0 W);go_enter func103,ntmps103;go_upto_region 1 with fail;obtain⟨gb,hgb⟩:=ex w.heap.size
 obtain⟨w0,hw0⟩:∃w0,w0=w.alloc (.cells #[.bool false,.bool false,.bool false,.int .i64 0,.int .i64 0,.int .i64 0,.int .i64 0,.int .i64 0,.int .i64 0,.int .i64 0,.int .i64 0,.bool false] 111):=⟨_,rfl⟩
 have HB0:Hid (Blk w0 gb 111 (T12 false false false 0 0 0 0 0 0 0 0 false)/\Below gb w w0/\w0.heap.size=gb+1):=hid (by rw[hw0,<-hgb];exact⟨Blk.new _ _ _,(Below.refl _ _).alloc (Nat.le_refl _) _,by simp⟩);have HGB:=hid hgb;(try rw[<-hw0]);(try rw[hgb]);clear hw0 hgb;go_wp2_with fail;refine(HDT.out _).mono ?_;rintro e w1 ⟨⟨t0,t1,t2,t3,t4,t5,t6,t7,t8,t9,t10,t11⟩,r,rfl,hb1,hm⟩;have HB1:Hid (Blk w1 gb 111 (T12 false false false 0 0 0 0 0 0 0 0 false)/\Below gb w w1/\gb<w1.heap.size):=hid ⟨HB0.out.1.below hb1 HB0.out.1.lt,HB0.out.2.1.trans (hb1.mono (by have:=HB0.out.2.2;omega)),by have:=HB0.out.2.2;have:=hb1.size;omega⟩;rw[DA]at hm;simp only at hm;subst hm;have HDA:=hid DA;clear DA;simp only[RT.v];clear hb1;go_upto_region 2 with fail;obtain⟨g4,hg4⟩:=ex w1.heap.size
 obtain⟨wa,hwa⟩:=ex (w1.alloc (.cells #[.bool t0,.bool t1,.bool t2,.int .i64 t3,.int .i64 t4,.int .i64 t5,.int .i64 t6,.int .i64 t7,.int .i64 t8,.int .i64 t9,.int .i64 t10,.bool t11] 111))
 have HA:Hid (Blk wa g4 111 (T12 t0 t1 t2 t3 t4 t5 t6 t7 t8 t9 t10 t11)/\Blk wa gb 111 (T12 false false false 0 0 0 0 0 0 0 0 false)/\Below gb w wa/\gb<g4):=hid (by
  rw[<-hwa,<-hg4];exact⟨Blk.new _ _ _,HB1.out.1.alloc _,HB1.out.2.1.alloc (Nat.le_of_lt HB1.out.2.2) _,HB1.out.2.2⟩)
 (try rw[hwa]);(try rw[hg4]);clear hwa hg4;obtain⟨q0,q1,q2,q3,q4,q5,q6,q7,q8,q9,q10,q11⟩:=zaf HA.out.1;have xb:∀j,wa.cell? ⟨gb,j,none⟩=(#[.bool false,.bool false,.bool false,.int .i64 0,.int .i64 0,.int .i64 0,.int .i64 0,.int .i64 0,.int .i64 0,.int .i64 0,.int .i64 0,.bool false]:Array Value)[j]? :=fun j=>HA.out.2.1.cell j
 have xf:∀j,wa.frozen? ⟨gb,j,none⟩=false:=HA.out.2.1.frozen;have xg:∀j,wa.frozen? ⟨g4,j,none⟩=false:=HA.out.1.frozen;go_wp2_with fail;refine(HCK.out _).mono ?_;rintro e w2 ⟨⟨u0,u1,u2,u3,u4,u5,u6,u7,u8,u9,u10,u11⟩,r2,rfl,hb2,hm2⟩;have HM2:=hid hm2;clear q0 q1 q2 q3 q4 q5 q6 q7 q8 q9 q10 q11 xb xf xg hm2;simp only[RT.v];have HB2:=hid (keep12 HA.out hb2);clear hb2;have xg:∀j,w2.frozen? ⟨g4,j,none⟩=false:=HB2.out.1.frozen;have xa:∀j,w2.cell? ⟨g4,j,none⟩=(#[.bool t0,.bool t1,.bool t2,.int .i64 t3,.int .i64 t4,.int .i64 t5,.int .i64 t6,.int .i64 t7,.int .i64 t8,.int .i64 t9,.int .i64 t10,.bool t11]:Array Value)[j]? :=fun j=>HB2.out.1.cell j
 go_upto_region 4 with fail;obtain⟨w3,hw3,h3⟩:=zfz u0 u1 u2 u3 u4 u5 u6 u7 u8 u9 u10 u11 HB2.out;have HB3:=hid h3;(try rw[hw3]);clear xg xa hw3 h3;obtain⟨ok,hok⟩:=ex (decide (r2=(s.length:Int)))
 have hokb:(r2==(s.length:Int))=ok:=by rw[<-hok];rfl
 have HOK:=hid hok;clear hok;obtain⟨q0,q1,q2,q3,q4,q5,q6,q7,q8,q9,q10,q11⟩:=zaf HB3.out.1;have xb:∀j,w3.cell? ⟨gb,j,none⟩=(#[.bool false,.bool false,.bool false,.int .i64 0,.int .i64 0,.int .i64 0,.int .i64 0,.int .i64 0,.int .i64 0,.int .i64 0,.int .i64 0,.bool false]:Array Value)[j]? :=fun j=>HB3.out.2.1.cell j
 have xf:∀j,w3.frozen? ⟨gb,j,none⟩=false:=HB3.out.2.1.frozen;have xg:∀j,w3.frozen? ⟨g4,j,none⟩=false:=HB3.out.1.frozen;go_wp2_with fail;have HBE:Hid (Blk w3 g4 111 (T12 u0 u1 u2 u3 u4 u5 u6 u7 u8 u9 u10 u11)/\Blk w3 gb 111 (T12 false false false 0 0 0 0 0 0 0 0 false)/\Below gb w w3):=hid ⟨HB3.out.1,HB3.out.2.1,HB3.out.2.2.1⟩;obtain⟨HSB,HSH⟩:=put12 u0 u1 u2 u3 u4 u5 u6 u7 u8 u9 u10 u11 HBE.out.2;obtain⟨e0,e1,e2,e3,e4,e5,e6,e7,e8,e9,e10,e11⟩:=zaf HSB;refine bodyPost_ret (v:=.tuple #[.agg #[.bool u0,.bool u1,.bool u2,.int .i64 u3,.int .i64 u4,.int .i64 u5,.int .i64 u6,.int .i64 u7,.int .i64 u8,.int .i64 u9,.int .i64 u10,.bool u11],.bool ok]) (by rw[results_cell_tmp rfl];go_simp) rfl ?_;unfold RdPost;rw[HGB.out];refine⟨⟨u0,u1,u2,u3,u4,u5,u6,u7,u8,u9,u10,u11⟩,ok,rfl,HSH,?_⟩;unfold Gr.rd;rw[HDA.out];simp only;have h1:=HM2.out;cases hck:clockAt s 0 with
 |none=>
  rw[hck]at h1;simp only at h1 ⊢;rw[<-HOK.out,h1];simp
 |some k=>
  rw[hck]at h1;simp only at h1 ⊢;obtain⟨h2,h3⟩:=h1;by_cases hk:k.stop=s.length
  ·rw[if_pos hk];refine⟨by rw[<-HOK.out,h2,hk];simp,?_⟩;rw[h3];simp[toRT,offS]
  ·rw[if_neg hk];show ok=false;rw[<-HOK.out,h2];simp;omega
theorem zkh (s:Gr.Str) (hl:s.length<=1073741823) (y m d:Nat) (DA:dateAt s=some (y,m,d)) (w:World):
 Calls prog 103 #[.string ⟨s.toArray⟩] w (RdPost s w):=by
 have HDT:=hid (fun W=>zgx s hl W);have HI1:=hid (fun W=>zb3 s hl 10 10 rfl 84 84 rfl W);have HI2:=hid (fun W=>zb3 s hl 10 10 rfl 32 32 rfl W);obtain⟨vT,hT⟩:=ex (isAt s 10 84)
 obtain⟨vS,hS⟩:=ex (isAt s 10 32)
 rw[hT]at HI1;rw[hS]at HI2;have HTS:=hid (And.intro hT hS);clear hT hS;go_enter func103,ntmps103;go_upto_region 1 with fail;obtain⟨gb,hgb⟩:=ex w.heap.size
 obtain⟨w0,hw0⟩:∃w0,w0=w.alloc (.cells #[.bool false,.bool false,.bool false,.int .i64 0,.int .i64 0,.int .i64 0,.int .i64 0,.int .i64 0,.int .i64 0,.int .i64 0,.int .i64 0,.bool false] 111):=⟨_,rfl⟩
 have HB0:Hid (Blk w0 gb 111 (T12 false false false 0 0 0 0 0 0 0 0 false)/\Below gb w w0/\w0.heap.size=gb+1):=hid (by rw[hw0,<-hgb];exact⟨Blk.new _ _ _,(Below.refl _ _).alloc (Nat.le_refl _) _,by simp⟩);have HGB:=hid hgb;(try rw[<-hw0]);(try rw[hgb]);clear hw0 hgb;go_wp2_with fail;refine(HDT.out _).mono ?_;rintro e w1 ⟨⟨t0,t1,t2,t3,t4,t5,t6,t7,t8,t9,t10,t11⟩,r,rfl,hb1,hm⟩;have HB1:Hid (Blk w1 gb 111 (T12 false false false 0 0 0 0 0 0 0 0 false)/\Below gb w w1/\gb<w1.heap.size):=hid ⟨HB0.out.1.below hb1 HB0.out.1.lt,HB0.out.2.1.trans (hb1.mono (by have:=HB0.out.2.2;omega)),by have:=HB0.out.2.2;have:=hb1.size;omega⟩;rw[DA]at hm;simp only at hm;obtain⟨hm1,hm2⟩:=hm;subst hm1;injection hm2 with k0 k1 k2 k3 k4 k5 k6 k7 k8 k9 k10 k11
 subst k0 k1 k2 k3 k4 k5 k6 k7 k8 k9 k10 k11;have HDA:=hid DA;clear DA;simp only[RT.v];clear hb1;go_upto_region 2 with fail;obtain⟨g4,hg4⟩:=ex w1.heap.size
 obtain⟨wa,hwa⟩:=ex (w1.alloc (.cells #[.bool true,.bool false,.bool false,.int .i64 (y:Int),.int .i64 (m:Int),.int .i64 (d:Int),.int .i64 0,.int .i64 0,.int .i64 0,.int .i64 0,.int .i64 0,.bool false] 111))
 have HA:Hid (Blk wa g4 111 (T12 true false false (y:Int) (m:Int) (d:Int) 0 0 0 0 0 false)/\Blk wa gb 111 (T12 false false false 0 0 0 0 0 0 0 0 false)/\Below gb w wa/\gb<g4):=hid (by
  rw[<-hwa,<-hg4];exact⟨Blk.new _ _ _,HB1.out.1.alloc _,HB1.out.2.1.alloc (Nat.le_of_lt HB1.out.2.2) _,HB1.out.2.2⟩)
 (try rw[hwa]);(try rw[hg4]);clear hwa hg4;by_cases h10:s.length=10
 ·have hIb:((10:Int)==(s.length:Int))=true:=by rw[beq_iff_eq];omega
  have H10:=hid h10;clear h10;obtain⟨q0,q1,q2,q3,q4,q5,q6,q7,q8,q9,q10,q11⟩:=zaf HA.out.1;have xb:∀j,wa.cell? ⟨gb,j,none⟩=(#[.bool false,.bool false,.bool false,.int .i64 0,.int .i64 0,.int .i64 0,.int .i64 0,.int .i64 0,.int .i64 0,.int .i64 0,.int .i64 0,.bool false]:Array Value)[j]? :=fun j=>HA.out.2.1.cell j
  have xf:∀j,wa.frozen? ⟨gb,j,none⟩=false:=HA.out.2.1.frozen;have xg:∀j,wa.frozen? ⟨g4,j,none⟩=false:=HA.out.1.frozen;go_wp2_with fail;have HBE:Hid (Blk wa g4 111 (T12 true false false (y:Int) (m:Int) (d:Int) 0 0 0 0 0 false)/\Blk wa gb 111 (T12 false false false 0 0 0 0 0 0 0 0 false)/\Below gb w wa):=hid ⟨HA.out.1,HA.out.2.1,HA.out.2.2.1⟩;obtain⟨HSB,HSH⟩:=put12 true false false (y:Int) (m:Int) (d:Int) 0 0 0 0 0 false HBE.out.2;obtain⟨e0,e1,e2,e3,e4,e5,e6,e7,e8,e9,e10,e11⟩:=zaf HSB;refine bodyPost_ret (v:=.tuple #[.agg #[.bool true,.bool false,.bool false,.int .i64 (y:Int),.int .i64 (m:Int),.int .i64 (d:Int),.int .i64 0,.int .i64 0,.int .i64 0,.int .i64 0,.int .i64 0,.bool false],.bool true]) (by rw[results_cell_tmp rfl];go_simp) rfl ?_;unfold RdPost;rw[HGB.out];refine⟨⟨true,false,false,y,m,d,0,0,0,0,0,false⟩,true,rfl,HSH,?_⟩;unfold Gr.rd;rw[HDA.out];simp only;rw[if_pos H10.out]
  first|exact⟨rfl,by simp[toRT,offS]⟩|exact⟨trivial,by simp[toRT,offS]⟩
 ·have hI:¬(10:Int)=(s.length:Int):=by omega
  have hIb:((10:Int)==(s.length:Int))=false:=by simpa using hI
  by_cases hsep:(vT || vS)=true
  ·have hpm:vT=true\/(vT=false/\vS=true):=by cases vT<;>cases vS<;>simp_all
   have HSEP:Hid ((isAt s 10 84 || isAt s 10 32)=true):=hid (by rw[HTS.out.1,HTS.out.2,hsep]);have HCK:=hid (fun W=>ze6 s hl 11 11 rfl (by omega) true (y:Int) (m:Int) (d:Int) W);clear hsep HTS;go_upto_region 7 with fail;go_cut [39] (fun s39 wx=>s39=.bool false/\wx=wa)
   case first=>
    rcases hpm with rfl|⟨rfl,rfl⟩
    ·go_wp2_with fail;refine(HI1.out _).mono ?_;rintro e w3 ⟨rfl,rfl⟩;go_wp2;go_meet;exact⟨rfl,rfl⟩
    ·go_wp2_with fail;refine(HI1.out _).mono ?_;rintro e w3 ⟨rfl,rfl⟩;go_wp2_with fail;refine(HI2.out _).mono ?_;rintro e w3 ⟨rfl,rfl⟩;go_wp2;go_meet;exact⟨rfl,rfl⟩
   case rest=>
   obtain⟨rfl,rfl⟩:=hcut;refine(‹∀(a:Act) (w_1:World),Code.wp prog _ _ a w_1->_›) _ _ ?_;clear hpm HI1 HI2;obtain⟨q0,q1,q2,q3,q4,q5,q6,q7,q8,q9,q10,q11⟩:=zaf HA.out.1;have xb:∀j,wc.cell? ⟨gb,j,none⟩=(#[.bool false,.bool false,.bool false,.int .i64 0,.int .i64 0,.int .i64 0,.int .i64 0,.int .i64 0,.int .i64 0,.int .i64 0,.int .i64 0,.bool false]:Array Value)[j]? :=fun j=>HA.out.2.1.cell j
   have xf:∀j,wc.frozen? ⟨gb,j,none⟩=false:=HA.out.2.1.frozen;have xg:∀j,wc.frozen? ⟨g4,j,none⟩=false:=HA.out.1.frozen;go_wp2_with fail;refine(HCK.out _).mono ?_;rintro e w2 ⟨⟨u0,u1,u2,u3,u4,u5,u6,u7,u8,u9,u10,u11⟩,r2,rfl,hb2,hm2⟩;clear q0 q1 q2 q3 q4 q5 q6 q7 q8 q9 q10 q11 xb xf xg;simp only[RT.v];have HB2:=hid (keep12 HA.out hb2);clear hb2;cases hck:clockAt s 11 with
   |none=>
    rw[hck]at hm2;simp only at hm2;subst hm2;have xg:∀j,w2.frozen? ⟨g4,j,none⟩=false:=HB2.out.1.frozen;have xa:∀j,w2.cell? ⟨g4,j,none⟩=(#[.bool true,.bool false,.bool false,.int .i64 (y:Int),.int .i64 (m:Int),.int .i64 (d:Int),.int .i64 0,.int .i64 0,.int .i64 0,.int .i64 0,.int .i64 0,.bool false]:Array Value)[j]? :=fun j=>HB2.out.1.cell j
    go_upto_region 10 with fail;obtain⟨w3,hw3,h3⟩:=zfz u0 u1 u2 u3 u4 u5 u6 u7 u8 u9 u10 u11 HB2.out;have HB3:=hid h3;(try rw[hw3]);clear xg xa hw3 h3;have hJ:¬(-1:Int)=(s.length:Int):=by omega
    have hJb:((-1:Int)==(s.length:Int))=false:=by simp
    obtain⟨q0,q1,q2,q3,q4,q5,q6,q7,q8,q9,q10,q11⟩:=zaf HB3.out.1;have xb:∀j,w3.cell? ⟨gb,j,none⟩=(#[.bool false,.bool false,.bool false,.int .i64 0,.int .i64 0,.int .i64 0,.int .i64 0,.int .i64 0,.int .i64 0,.int .i64 0,.int .i64 0,.bool false]:Array Value)[j]? :=fun j=>HB3.out.2.1.cell j
    have xf:∀j,w3.frozen? ⟨gb,j,none⟩=false:=HB3.out.2.1.frozen;have xg:∀j,w3.frozen? ⟨g4,j,none⟩=false:=HB3.out.1.frozen;go_wp2_with fail;have HBE:Hid (Blk w3 g4 111 (T12 u0 u1 u2 u3 u4 u5 u6 u7 u8 u9 u10 u11)/\Blk w3 gb 111 (T12 false false false 0 0 0 0 0 0 0 0 false)/\Below gb w w3):=hid ⟨HB3.out.1,HB3.out.2.1,HB3.out.2.2.1⟩;obtain⟨HSB,HSH⟩:=put12 u0 u1 u2 u3 u4 u5 u6 u7 u8 u9 u10 u11 HBE.out.2;obtain⟨e0,e1,e2,e3,e4,e5,e6,e7,e8,e9,e10,e11⟩:=zaf HSB;refine bodyPost_ret (v:=.tuple #[.agg #[.bool u0,.bool u1,.bool u2,.int .i64 u3,.int .i64 u4,.int .i64 u5,.int .i64 u6,.int .i64 u7,.int .i64 u8,.int .i64 u9,.int .i64 u10,.bool u11],.bool false]) (by rw[results_cell_tmp rfl];go_simp) rfl ?_;unfold RdPost;rw[HGB.out];refine⟨⟨u0,u1,u2,u3,u4,u5,u6,u7,u8,u9,u10,u11⟩,false,rfl,HSH,?_⟩;unfold Gr.rd;rw[HDA.out];simp only;rw[if_neg h10,if_pos HSEP.out,hck]
    trivial
   |some k=>
    obtain⟨kh,km,kc,kf,ks⟩:=k;have hkl:=zi7 hck;rw[hck]at hm2;simp only at hm2;obtain⟨hr2,hu⟩:=hm2;subst hr2;injection hu with k0 k1 k2 k3 k4 k5 k6 k7 k8 k9 k10 k11
    subst k0 k1 k2 k3 k4 k5 k6 k7 k8 k9 k10 k11;have HCQ:=hid hck;clear hck;have xg:∀j,w2.frozen? ⟨g4,j,none⟩=false:=HB2.out.1.frozen;have xa:∀j,w2.cell? ⟨g4,j,none⟩=(#[.bool true,.bool false,.bool false,.int .i64 (y:Int),.int .i64 (m:Int),.int .i64 (d:Int),.int .i64 0,.int .i64 0,.int .i64 0,.int .i64 0,.int .i64 0,.bool false]:Array Value)[j]? :=fun j=>HB2.out.1.cell j
    go_upto_region 10 with fail;obtain⟨w3,hw3,h3⟩:=zfz true true false (y:Int) (m:Int) (d:Int) (kh:Int) (km:Int) (kc:Int) (kf:Int) 0 false HB2.out;have HB3:=hid h3;(try rw[hw3]);clear xg xa hw3 h3;obtain⟨q0,q1,q2,q3,q4,q5,q6,q7,q8,q9,q10,q11⟩:=zaf HB3.out.1;have xb:∀j,w3.cell? ⟨gb,j,none⟩=(#[.bool false,.bool false,.bool false,.int .i64 0,.int .i64 0,.int .i64 0,.int .i64 0,.int .i64 0,.int .i64 0,.int .i64 0,.int .i64 0,.bool false]:Array Value)[j]? :=fun j=>HB3.out.2.1.cell j
    have xf:∀j,w3.frozen? ⟨gb,j,none⟩=false:=HB3.out.2.1.frozen;have xg:∀j,w3.frozen? ⟨g4,j,none⟩=false:=HB3.out.1.frozen;by_cases hks:ks=s.length
    ·have HKS:=hid hks;have hKb:((ks:Int)==(s.length:Int))=true:=by rw[hks];simp
     clear hks;go_wp2_with fail;have HBE:Hid (Blk w3 g4 111 (T12 true true false (y:Int) (m:Int) (d:Int) (kh:Int) (km:Int) (kc:Int) (kf:Int) 0 false)/\Blk w3 gb 111 (T12 false false false 0 0 0 0 0 0 0 0 false)/\Below gb w w3):=hid ⟨HB3.out.1,HB3.out.2.1,HB3.out.2.2.1⟩;obtain⟨HSB,HSH⟩:=put12 true true false (y:Int) (m:Int) (d:Int) (kh:Int) (km:Int) (kc:Int) (kf:Int) 0 false HBE.out.2;obtain⟨e0,e1,e2,e3,e4,e5,e6,e7,e8,e9,e10,e11⟩:=zaf HSB;refine bodyPost_ret (v:=.tuple #[.agg #[.bool true,.bool true,.bool false,.int .i64 (y:Int),.int .i64 (m:Int),.int .i64 (d:Int),.int .i64 (kh:Int),.int .i64 (km:Int),.int .i64 (kc:Int),.int .i64 (kf:Int),.int .i64 0,.bool false],.bool true]) (by rw[results_cell_tmp rfl];go_simp) rfl ?_;unfold RdPost;rw[HGB.out];refine⟨⟨true,true,false,y,m,d,kh,km,kc,kf,0,false⟩,true,rfl,HSH,?_⟩;unfold Gr.rd;rw[HDA.out];simp only;rw[if_neg h10,if_pos HSEP.out,HCQ.out];simp only;rw[if_pos HKS.out];exact⟨trivial,by simp[toRT,offS]⟩
    ·have HZN:=hid (fun W=>zm4 s hl ks (ks:Int) rfl (by omega) true true (y:Int) (m:Int) (d:Int) (kh:Int) (km:Int) (kc:Int) (kf:Int) W);have hJ:¬(ks:Int)=(s.length:Int):=by omega
     have hJb:((ks:Int)==(s.length:Int))=false:=by simpa using hJ
     have hJ2:¬(ks:Int)<0:=by omega
     go_wp2_with fail;refine(HZN.out _).mono ?_;rintro e w4 ⟨⟨v0,v1,v2,v3,v4,v5,v6,v7,v8,v9,v10,v11⟩,r3,rfl,hb4,hm4⟩;have HM4:=hid hm4;clear q0 q1 q2 q3 q4 q5 q6 q7 q8 q9 q10 q11 xb xf xg hm4;simp only[RT.v];have HB4:=hid (keep12 HB3.out hb4);clear hb4;have xg:∀j,w4.frozen? ⟨g4,j,none⟩=false:=HB4.out.1.frozen;have xa:∀j,w4.cell? ⟨g4,j,none⟩=(#[.bool true,.bool true,.bool false,.int .i64 (y:Int),.int .i64 (m:Int),.int .i64 (d:Int),.int .i64 (kh:Int),.int .i64 (km:Int),.int .i64 (kc:Int),.int .i64 (kf:Int),.int .i64 0,.bool false]:Array Value)[j]? :=fun j=>HB4.out.1.cell j
     go_upto_region 15 with fail;obtain⟨w5,hw5,h3⟩:=zfz v0 v1 v2 v3 v4 v5 v6 v7 v8 v9 v10 v11 HB4.out;have HB5:=hid h3;(try rw[hw5]);clear xg xa hw5 h3;obtain⟨ok,hok⟩:=ex (decide (r3=(s.length:Int)))
     have hokb:(r3==(s.length:Int))=ok:=by rw[<-hok];rfl
     have HOK:=hid hok;clear hok;obtain⟨q0,q1,q2,q3,q4,q5,q6,q7,q8,q9,q10,q11⟩:=zaf HB5.out.1;have xb:∀j,w5.cell? ⟨gb,j,none⟩=(#[.bool false,.bool false,.bool false,.int .i64 0,.int .i64 0,.int .i64 0,.int .i64 0,.int .i64 0,.int .i64 0,.int .i64 0,.int .i64 0,.bool false]:Array Value)[j]? :=fun j=>HB5.out.2.1.cell j
     have xf:∀j,w5.frozen? ⟨gb,j,none⟩=false:=HB5.out.2.1.frozen;have xg:∀j,w5.frozen? ⟨g4,j,none⟩=false:=HB5.out.1.frozen;go_wp2_with fail;have HBE:Hid (Blk w5 g4 111 (T12 v0 v1 v2 v3 v4 v5 v6 v7 v8 v9 v10 v11)/\Blk w5 gb 111 (T12 false false false 0 0 0 0 0 0 0 0 false)/\Below gb w w5):=hid ⟨HB5.out.1,HB5.out.2.1,HB5.out.2.2.1⟩;obtain⟨HSB,HSH⟩:=put12 v0 v1 v2 v3 v4 v5 v6 v7 v8 v9 v10 v11 HBE.out.2;obtain⟨e0,e1,e2,e3,e4,e5,e6,e7,e8,e9,e10,e11⟩:=zaf HSB;refine bodyPost_ret (v:=.tuple #[.agg #[.bool v0,.bool v1,.bool v2,.int .i64 v3,.int .i64 v4,.int .i64 v5,.int .i64 v6,.int .i64 v7,.int .i64 v8,.int .i64 v9,.int .i64 v10,.bool v11],.bool ok]) (by rw[results_cell_tmp rfl];go_simp) rfl ?_;unfold RdPost;rw[HGB.out];refine⟨⟨v0,v1,v2,v3,v4,v5,v6,v7,v8,v9,v10,v11⟩,ok,rfl,HSH,?_⟩;unfold Gr.rd;rw[HDA.out];simp only;rw[if_neg h10,if_pos HSEP.out,HCQ.out];simp only;rw[if_neg hks];have h1:=HM4.out;cases hzn:zoneAt s ks with
     |none=>
      rw[hzn]at h1;simp only at h1 ⊢;rw[<-HOK.out,h1];simp
     |some z=>
      rw[hzn]at h1;simp only at h1 ⊢;obtain⟨h2,h3⟩:=h1;by_cases hk:z.stop=s.length
      ·rw[if_pos hk];refine⟨by rw[<-HOK.out,h2,hk];simp,?_⟩;rw[h3];simp[toRT,offS,zm5 hzn]
      ·rw[if_neg hk];show ok=false;rw[<-HOK.out,h2];simp;omega
  ·have hvT:vT=false:=by cases vT<;>simp_all
   have hvS:vS=false:=by cases vS<;>simp_all
   subst hvT;subst hvS;obtain⟨q0,q1,q2,q3,q4,q5,q6,q7,q8,q9,q10,q11⟩:=zaf HA.out.1;have xb:∀j,wa.cell? ⟨gb,j,none⟩=(#[.bool false,.bool false,.bool false,.int .i64 0,.int .i64 0,.int .i64 0,.int .i64 0,.int .i64 0,.int .i64 0,.int .i64 0,.int .i64 0,.bool false]:Array Value)[j]? :=fun j=>HA.out.2.1.cell j
   have xf:∀j,wa.frozen? ⟨gb,j,none⟩=false:=HA.out.2.1.frozen;have xg:∀j,wa.frozen? ⟨g4,j,none⟩=false:=HA.out.1.frozen;go_wp2_with fail;refine(HI1.out _).mono ?_;rintro e w3 ⟨rfl,rfl⟩;go_wp2_with fail;refine(HI2.out _).mono ?_;rintro e w3 ⟨rfl,rfl⟩;go_wp2_with fail;have HBE:Hid (Blk wa g4 111 (T12 true false false (y:Int) (m:Int) (d:Int) 0 0 0 0 0 false)/\Blk wa gb 111 (T12 false false false 0 0 0 0 0 0 0 0 false)/\Below gb w wa):=hid ⟨HA.out.1,HA.out.2.1,HA.out.2.2.1⟩;obtain⟨HSB,HSH⟩:=put12 true false false (y:Int) (m:Int) (d:Int) 0 0 0 0 0 false HBE.out.2;obtain⟨e0,e1,e2,e3,e4,e5,e6,e7,e8,e9,e10,e11⟩:=zaf HSB;refine bodyPost_ret (v:=.tuple #[.agg #[.bool true,.bool false,.bool false,.int .i64 (y:Int),.int .i64 (m:Int),.int .i64 (d:Int),.int .i64 0,.int .i64 0,.int .i64 0,.int .i64 0,.int .i64 0,.bool false],.bool false]) (by rw[results_cell_tmp rfl];go_simp) rfl ?_;unfold RdPost;rw[HGB.out];refine⟨⟨true,false,false,y,m,d,0,0,0,0,0,false⟩,false,rfl,HSH,?_⟩;unfold Gr.rd;rw[HDA.out];simp only;rw[if_neg h10,if_neg (by rw[HTS.out.1,HTS.out.2];decide)]
   trivial
theorem zcm (s:Gr.Str) (hl:s.length<=1073741823) (w:World):Calls prog 103 #[.string ⟨s.toArray⟩] w (RdPost s w):=by
 cases hd:dateAt s with
 |none=>exact zgy s hl hd w
 |some t=>exact zkh s hl t.1 t.2.1 t.2.2 hd w
end Go.Proofs.YtoigpackhninoaaGreatDoor
