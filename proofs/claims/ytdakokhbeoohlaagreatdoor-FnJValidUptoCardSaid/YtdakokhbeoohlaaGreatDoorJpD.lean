/- Part of the proof of a law of a rule over documents (JpD), where what the arguments hold is of bulk at most 1048576. -/
import Derived.Test.YtdakokhbeoohlaaGreatDoorJpC
import Derived.Test.YtdakokhbeoohlaaGreatDoorJpA
import Derived.Laws.MakeOwn
import Derived.Laws.Cover3
import Derived.Test.YtdakokhbeoohlaaGreatDoorBaseB
import Derived.Laws.RangeString
import Derived.Lib.OthersKept
import Derived.Laws.IdiomStrings
import Derived.Laws.BytesString
import Derived.Laws.AppendOwn
set_option linter.unusedVariables false
set_option linter.unusedSimpArgs false
set_option linter.unusedSectionVars false
namespace Go.VC
open Go Go.Proofs
variable [DB]
theorem C_0 {a b:Nat}(ha:a<4611686018427387904)(hb:b<4611686018427387904)(w:World)(t:TypeId):(binOp .and t (.int .i64 a) (.int .i64 b)).run Tryz.prog w=.ok (.int .i64 ((a &&& b:Nat):Int)) w:=by
 have h1:∀ n:Nat,n<4611686018427387904->(BitVec.ofInt 64 (n:Int)).toNat=n:=fun n hn=>by
  simp [BitVec.toNat_ofInt];omega
 have hle:a &&& b<=a:=Nat.and_le_left;have hw:wr ((a &&& b:Nat):Int)=((a &&& b:Nat):Int):=by
  have:=f_c (a:=((a &&& b:Nat):Int)) (b:=0) (by omega) (by omega);simpa using this
 have h2:(BitVec.ofInt 64 (a:Int) &&& BitVec.ofInt 64 (b:Int)).toNat=a &&& b:=by rw [BitVec.toNat_and,h1 a ha,h1 b hb]
 show (Op.intBits .and .i64 a b).run Tryz.prog w=_;show (Sem.run Tryz.prog (pure (Value.int .i64 (wr (((BitVec.ofInt 64 (a:Int) &&& BitVec.ofInt 64 (b:Int)).toNat:Nat):Int)))) w)=_;rw [h2,hw];rfl
theorem E_f {a b:Nat}(ha:a<1024)(hb:b<1024)(w:World)(t:TypeId):(binOp .or t (.int .i64 a) (.int .i64 b)).run Tryz.prog w=.ok (.int .i64 ((a ||| b:Nat):Int)) w:=by
 have h1:∀ n:Nat,n<1024->(BitVec.ofInt 64 (n:Int)).toNat=n:=fun n hn=>by
  simp [BitVec.toNat_ofInt];omega
 have hle:a ||| b<1024:=Nat.or_lt_two_pow (n:=10) ha hb;have hw:wr ((a ||| b:Nat):Int)=((a ||| b:Nat):Int):=by
  have:=f_c (a:=((a ||| b:Nat):Int)) (b:=0) (by omega) (by omega);simpa using this
 have h2:(BitVec.ofInt 64 (a:Int) ||| BitVec.ofInt 64 (b:Int)).toNat=a ||| b:=by rw [BitVec.toNat_or,h1 a ha,h1 b hb]
 show (Sem.run Tryz.prog (pure (Value.int .i64 (wr (((BitVec.ofInt 64 (a:Int) ||| BitVec.ofInt 64 (b:Int)).toNat:Nat):Int)))) w)=_;rw [h2,hw];rfl
theorem A_0 (s:BA):bitK s<256:=by
 unfold bitK
 repeat (split;decide)
 decide
theorem A_m {α:Type}{g:α->Nat}(hg:∀ x,g x<256):∀ (l:List α) (n:Nat),n<256->l.foldl (fun n x=>n ||| g x) n<256
 | [],n,h=>h
 | x::l,n,h=>A_m hg l _ (Nat.or_lt_two_pow (n:=8) h (hg x))
theorem z_b {α:Type}{g:α->Nat}{m:Nat}:∀ (l:List α) (n:Nat),l.foldl (fun n x=>n ||| g x) n &&& m≠0↔n &&& m≠0∨∃ x∈l,g x &&& m≠0
 | [],n=>by simp
 | x::l,n=>by
  rw [List.foldl_cons,z_b l,Nat.and_or_distrib_right];have:∀ a b:Nat,a ||| b≠0↔a≠0∨b≠0:=fun a b=>by
   rw [Ne,Nat.or_eq_zero_iff];omega
  rw [this];simp only [mc_,exists_eq_or_imp,or_assoc]
theorem z_X (s:BA):bitK s=0∨(s=⟨#[110,117,108,108]⟩/\bitK s=2)∨(s=⟨#[98,111,111,108,101,97,110]⟩/\bitK s=4)∨(s=⟨#[110,117,109,98,101,114]⟩/\bitK s=8)∨(s=⟨#[105,110,116,101,103,101,114]⟩/\bitK s=16)∨(s=⟨#[115,116,114,105,110,103]⟩/\bitK s=32)∨(s=⟨#[97,114,114,97,121]⟩/\bitK s=64)∨(s=⟨#[111,98,106,101,99,116]⟩/\bitK s=128):=by
 by_cases h:s=⟨#[110,117,108,108]⟩
 ·exact .inr (.inl ⟨h,by unfold bitK;rw [if_pos h]⟩)
 have h0:=h;clear h;by_cases h:s=⟨#[98,111,111,108,101,97,110]⟩
 ·exact .inr (.inr (.inl ⟨h,by unfold bitK;rw [if_neg h0];rw [if_pos h]⟩))
 have h1:=h;clear h;by_cases h:s=⟨#[110,117,109,98,101,114]⟩
 ·exact .inr (.inr (.inr (.inl ⟨h,by unfold bitK;rw [if_neg h0];rw [if_neg h1];rw [if_pos h]⟩)))
 have h2:=h;clear h;by_cases h:s=⟨#[105,110,116,101,103,101,114]⟩
 ·exact .inr (.inr (.inr (.inr (.inl ⟨h,by unfold bitK;rw [if_neg h0];rw [if_neg h1];rw [if_neg h2];rw [if_pos h]⟩))))
 have h3:=h;clear h;by_cases h:s=⟨#[115,116,114,105,110,103]⟩
 ·exact .inr (.inr (.inr (.inr (.inr (.inl ⟨h,by unfold bitK;rw [if_neg h0];rw [if_neg h1];rw [if_neg h2];rw [if_neg h3];rw [if_pos h]⟩)))))
 have h4:=h;clear h;by_cases h:s=⟨#[97,114,114,97,121]⟩
 ·exact .inr (.inr (.inr (.inr (.inr (.inr (.inl ⟨h,by unfold bitK;rw [if_neg h0];rw [if_neg h1];rw [if_neg h2];rw [if_neg h3];rw [if_neg h4];rw [if_pos h]⟩))))))
 have h5:=h;clear h;by_cases h:s=⟨#[111,98,106,101,99,116]⟩
 ·exact .inr (.inr (.inr (.inr (.inr (.inr (.inr (⟨h,by unfold bitK;rw [if_neg h0];rw [if_neg h1];rw [if_neg h2];rw [if_neg h3];rw [if_neg h4];rw [if_neg h5];rw [if_pos h]⟩)))))))
 have h6:=h;clear h;left;unfold bitK;rw [if_neg h0,if_neg h1,if_neg h2,if_neg h3,if_neg h4,if_neg h5,if_neg h6]
theorem y_9 {s t:BA}(ht:bitK t≠0):bitK s &&& bitK t≠0↔s=t:=by
 constructor
 ·intro h;rcases z_X s with h1|⟨e1,h1⟩|⟨e1,h1⟩|⟨e1,h1⟩|⟨e1,h1⟩|⟨e1,h1⟩|⟨e1,h1⟩|⟨e1,h1⟩<;>rcases z_X t with h2|⟨e2,h2⟩|⟨e2,h2⟩|⟨e2,h2⟩|⟨e2,h2⟩|⟨e2,h2⟩|⟨e2,h2⟩|⟨e2,h2⟩<;>first|(exact absurd h2 ht)|(rw [e1,e2];done)|(rw [h1,h2] at h;exact absurd h (by decide))
 ·rintro rfl;rw [Nat.and_self];exact ht
theorem y_E {v:JV}(h:okJ v):bitV v≠0:=by
 obtain ⟨k,b,n,t,ns,xs⟩:=v;obtain ⟨k2,k0,k5,-⟩:=h;have:k=0∨k=1∨k=3∨k=4∨k=5:=by omega
 rcases this with rfl|rfl|rfl|rfl|rfl
 ·exact (by decide:bitK (kindN 0)≠0)
 ·exact (by decide:bitK (kindN 1)≠0)
 ·exact (by decide:bitK (kindN 3)≠0)
 ·exact (by decide:bitK (kindN 4)≠0)
 ·exact (by decide:bitK (kindN 5)≠0)
theorem B_Q {v:JV}(h:okJ v)(l:List BA):bitsK l &&& bitV v≠0↔among (kindN v.k) l=true:=by
 rw [bitsK,z_b,among,List.any_eq_true];simp only [Nat.zero_and,ne_eq,not_true_eq_false,false_or];constructor
 ·rintro ⟨s,hs,h2⟩;exact ⟨s,hs,by rw [decide_eq_true_eq];exact (y_9 (y_E h)).1 h2⟩
 ·rintro ⟨s,hs,h2⟩;exact ⟨s,hs,(y_9 (y_E h)).2 (by simpa using h2)⟩
theorem C_h {v:JV}(h:okJ v)(l:List JV):l.foldl (fun n u=>n ||| bitV u) 0 &&& bitV v≠0↔∃ u∈l,kindN u.k=kindN v.k:=by
 rw [z_b];simp only [Nat.zero_and,ne_eq,not_true_eq_false,false_or];constructor
 ·rintro ⟨s,hs,h2⟩;exact ⟨s,hs,(y_9 (y_E h)).1 h2⟩
 ·rintro ⟨s,hs,h2⟩;exact ⟨s,hs,(y_9 (y_E h)).2 h2⟩
set_option maxHeartbeats 8000000 in
theorem A_h {v:JV}(hok:okJ v){w:World}{B:Nat}{o:Option (TypeId × Value)}(h:RA w B v o):CP 121 #[ifcV o] w fun e w'=>e=.returned (.int .i64 (bitV v:Nat))/\w'=w:=by
 have hR:∀ n:Nat,bitV v=n->Ending.returned (.int .i64 (n:Int))=Ending.returned (.int .i64 (bitV v:Nat))/\w=w:=fun n e=>⟨by rw [e],rfl⟩;refine B_k o w _ ?_;have fin:∀ n:Nat,bitK (kindN v.k)=n->bitV v=n:=fun n e=>e;rcases h.cases hok with ⟨hk,rfl⟩|⟨hk,rfl⟩|⟨hk,rfl⟩|⟨hk,a,l,c,rfl,hA⟩|⟨hk,b,S,rfl,hO⟩
 ·exact ⟨fun _=>hR 2 (fin _ (by rw [hk];decide)),nofun⟩
 ·refine ⟨nofun,fun _ K2 hK2=>⟨fun u hu=>?_,fun h=>absurd rfl (h _)⟩⟩;cases hu;exact ⟨_,rfl,hK2 _ _ _ ⟨fun _=>hR 4 (fin _ (by rw [hk];decide)),nofun⟩⟩
 ·exact ⟨nofun,fun _ K2 hK2=>⟨nofun,fun _=>hK2 _ _ _ ⟨nofun,fun _ K6 hK6=>⟨nofun,fun _=>⟨_,rfl,hK6 _ _ _ ⟨nofun,fun _ K19 hK19=>⟨nofun,fun _=>⟨_,rfl,hK19 _ _ _ ⟨nofun,fun _ K36 hK36=>⟨nofun,fun _=>⟨nofun,fun _=>⟨nofun,fun _=>⟨nofun,fun _=>⟨nofun,fun _=>⟨nofun,fun _=>⟨nofun,fun _=>⟨nofun,fun _=>⟨nofun,fun _=>⟨nofun,fun _=>hK36 _ _ ⟨nofun,fun _ K39 hK39=>⟨fun u hu=>⟨v.t,(by cases hu;rfl),hK39 _ _ _ ⟨fun _=>hR 32 (fin _ (by rw [hk];decide)),nofun⟩⟩,fun h=>absurd rfl (h _)⟩⟩⟩⟩⟩⟩⟩⟩⟩⟩⟩⟩⟩⟩⟩⟩⟩⟩⟩⟩⟩
 ·exact ⟨nofun,fun _ K2 hK2=>⟨nofun,fun _=>hK2 _ _ _ ⟨nofun,fun _ K6 hK6=>⟨nofun,fun _=>⟨_,rfl,hK6 _ _ _ ⟨nofun,fun _ K19 hK19=>⟨nofun,fun _=>⟨_,rfl,hK19 _ _ _ ⟨nofun,fun _ K36 hK36=>⟨nofun,fun _=>⟨nofun,fun _=>⟨nofun,fun _=>⟨nofun,fun _=>⟨nofun,fun _=>⟨nofun,fun _=>⟨nofun,fun _=>⟨nofun,fun _=>⟨nofun,fun _=>⟨nofun,fun _=>hK36 _ _ ⟨nofun,fun _ K39 hK39=>⟨nofun,fun _=>hK39 _ _ _ ⟨nofun,fun _ K43 hK43=>⟨fun u hu=>⟨a,l,c,(by cases hu;rfl),hK43 _ _ _ _ _ ⟨fun _=>hR 64 (fin _ (by rw [hk];decide)),nofun⟩⟩,fun h=>absurd rfl (h _)⟩⟩⟩⟩⟩⟩⟩⟩⟩⟩⟩⟩⟩⟩⟩⟩⟩⟩⟩⟩⟩⟩⟩
 ·exact ⟨nofun,fun _ K2 hK2=>⟨nofun,fun _=>hK2 _ _ _ ⟨nofun,fun _ K6 hK6=>⟨nofun,fun _=>⟨_,rfl,hK6 _ _ _ ⟨nofun,fun _ K19 hK19=>⟨nofun,fun _=>⟨_,rfl,hK19 _ _ _ ⟨nofun,fun _ K36 hK36=>⟨nofun,fun _=>⟨nofun,fun _=>⟨nofun,fun _=>⟨nofun,fun _=>⟨nofun,fun _=>⟨nofun,fun _=>⟨nofun,fun _=>⟨nofun,fun _=>⟨nofun,fun _=>⟨nofun,fun _=>hK36 _ _ ⟨nofun,fun _ K39 hK39=>⟨nofun,fun _=>hK39 _ _ _ ⟨nofun,fun _ K43 hK43=>⟨nofun,fun _=>hK43 _ _ _ _ _ ⟨nofun,fun _ K47 hK47=>⟨fun u hu=>⟨some b,(by cases hu;rfl),hK47 _ _ _ ⟨fun _=>hR 128 (fin _ (by rw [hk];decide)),nofun⟩⟩,fun h=>absurd rfl (h _)⟩⟩⟩⟩⟩⟩⟩⟩⟩⟩⟩⟩⟩⟩⟩⟩⟩⟩⟩⟩⟩⟩⟩⟩⟩
theorem y_Q {a b:Nat}(ha:a<256)(hb:b<256)(w:World):CP 123 #[.int .i64 (a:Int),.int .i64 (b:Int)] w fun e w'=>∃ z:Bool,e=.returned (.bool z)/\w'=w/\(z=true↔a &&& b≠0):=by
 refine y_y _ _ w _ ⟨_,w,i_n nofun nofun,C_0 (by omega) (by omega) w _,trivial,_,rfl,rfl,?_⟩;simp
theorem C_i (a:Int)(w:World):CP 122 #[.int .i64 a] w fun e w'=>e=.returned (.bool (a==0))/\w'=w:=
 y_M a w _ ⟨rfl,rfl⟩
theorem z_Z (a:Int)(w:World):CP 124 #[.int .i64 a] w fun e w'=>∃ t,e=.returned (.string t)/\w'=w:=by
 refine y_u a w _ ?_
 repeat' (first|exact ⟨_,rfl,rfl⟩|refine ⟨fun _=>?_,fun _=>?_⟩)
theorem E_q {w:World}{B:Nat}{xs:List JV}{a:OA}{l c:Nat}(hA:RArr w B xs a l c)(hl:l<=20)(hok:∀ x∈xs,okJ x)(hsz:∀ x∈xs,szJ x<=16777000):CP 155 #[.slice a l c] w fun e w'=>∃ p q:Int,e=.returned (.tuple #[.int .i64 p,.int .i64 q,.nilIface])/\EF w w'/\(p≠ -1↔twins xs=true):=by
 have hlx:l=xs.length:=hA.1;refine z_E a l c w _ ⟨fun _=>?_,fun h=>by have:=odf h;omega⟩;refine ⟨fun i w1=>1<=i/\EF w w1/\i<=l+1/\∀ (j k:Nat) x y,j<k->(k:Int)<i->xs[j]? =some x->xs[k]? =some y->eqJ x y=false,fun i _=>((l:Int)+1-i).toNat,⟨by omega,Ext.refl w,by omega,fun j k x y h1 h2=>by omega⟩,?_⟩;rintro i w5 ⟨i1,x5,i2,hall⟩;refine ⟨fun hlt=>?_,fun hge=>⟨_,_,rfl,x5,?_⟩⟩
 ·have hlt:=odt hlt;refine ⟨fun j w1=>0<=j/\j<=i/\EF w w1/\∀ (j':Nat) x y,(j':Int)<j->xs[j']? =some x->xs[i.toNat]? =some y->eqJ x y=false,fun j _=>(i-j).toNat,⟨by omega,by omega,x5,fun j' x y h=>by omega⟩,?_⟩;rintro j w9 ⟨j0,ji,x9,hin⟩;refine ⟨fun hlt2=>?_,fun hge2=>?_⟩
  ·have hlt2:=odt hlt2;rintro w10 rfl;have x10:=x9.drew;have hil:i.toNat<xs.length:=by omega
   have hjl:j.toNat<xs.length:=by omega
   obtain ⟨p,T1,o1,hp,-, hat1,ra1⟩:=(hA.ext x10 fun _ e=>e.elim).2.2 i.toNat _ (List.getElem?_eq_getElem hil);obtain ⟨p',T2,o2,hp',-, hat2,ra2⟩:=(hA.ext x10 fun _ e=>e.elim).2.2 j.toNat _ (List.getElem?_eq_getElem hjl);refine ⟨p,hp,⟨by omega,hlt⟩,o1,by rw [Nat.mul_one];exact hat1.cell,p',hp',⟨by omega,by omega⟩,o2,by rw [Nat.mul_one];exact hat2.cell,(A_d _ _ _ o1 o2 _ B (Nat.le_refl _) (hsz _ (List.getElem_mem hil)) (hok _ (List.getElem_mem hil)) (hok _ (List.getElem_mem hjl)) ra1 ra2).mono ?_⟩;rintro _ w16 ⟨rfl,x16⟩;have hej:eqF (szJ xs[i.toNat]+szJ xs[j.toNat]) xs[i.toNat] xs[j.toNat]=eqJ xs[j.toNat] xs[i.toNat]:=by
    rw [B_C,eqJ,Nat.add_comm]
   refine ⟨_,none,rfl,trivial,trivial,trivial,trivial,fun K19 hK19=>?_⟩;rw [hej];cases hb:eqJ xs[j.toNat] xs[i.toNat] with
   | true=>
    refine ⟨nofun,fun _=>hK19 _ _ ⟨fun _=>⟨_,_,rfl,x10.then x16,?_⟩,nofun⟩⟩;exact ⟨fun _=>x_Z.2 ⟨j.toNat,i.toNat,_,_,by omega,List.getElem?_eq_getElem hjl,List.getElem?_eq_getElem hil,hb⟩,fun _=>by omega⟩
   | false=>
    refine ⟨fun _=>hK19 _ _ ⟨nofun,fun _=>?_⟩,nofun⟩;rw [f_c (by omega) (by omega)];refine ⟨⟨by omega,by omega,x10.then x16,fun j' x y hj' hx hy=>?_⟩,by dsimp only;omega⟩;by_cases hjj:(j':Int)<j
    ·exact hin j' x y hjj hx hy
    ·obtain rfl:j'=j.toNat:=by omega
     rw [List.getElem?_eq_getElem hjl] at hx;rw [List.getElem?_eq_getElem hil] at hy;cases hx;cases hy;exact hb
  ·have hge2:=odf hge2;rw [f_c (by omega) (by omega)];refine ⟨⟨by omega,x9,by omega,fun j' k x y hjk hk hx hy=>?_⟩,by dsimp only;omega⟩;by_cases hki:(k:Int)<i
   ·exact hall j' k x y hjk hki hx hy
   ·obtain rfl:k=i.toNat:=by omega
    exact hin j' x y (by omega) hx hy
 ·have hge:=odf hge;refine ⟨fun h=>absurd rfl h,fun h=>?_⟩;obtain ⟨j,k,x,y,hjk,hx,hy,he⟩:=x_Z.1 h;have:=(List.getElem?_eq_some_iff.1 hy).1;rw [hall j k x y hjk (by omega) hx hy] at he;cases he
section
variable {s:List JN} {av:Nat->Nat} {B f lo:Nat} {vb:Nat} {d:VdC} {n:Nat} {vid:Int} {k:Nat} {v:JV} {w:World} {E:Bool} {cnt:Nat} {T:Nat->Prop}
theorem VSt.lim (st:VSt s av B lo vb d n vid k v w E cnt T)(hcnt:cnt<=8000000000000){cs:Array Value}{fr:Nat × Nat}(hcs:objAt w d.sb=some (.cells cs 116 fr)){i:Nat}{lim:JLim}(hf:∃ u,cs[i]? =some u/\RLim w B lim u)(cmp:Int->Bool)(T1 T2:TypeId)(V:Int->Array Value){K:World->Prop}
  (hK:∀ w1,VSt s av B lo vb d n vid k v w1 (E&&(!lim.is|| !cmp lim.n)) (cnt+1) T->FR2 lo d.g w w1->K w1):
  ∃ p,some (adr d.sb)=some p/\∃ q:OA,w.cell? (p.add i)=some (.pointer q)/\(((!q.isNone)=true->∃ p2,some (adr d.sb)=some p2/\∃ q2:OA,w.cell? (p2.add i)=some (.pointer q2)/\∃ p3,q2=some p3/\∃ n:Int,w.cell? p3=some (.int .i64 n)/\
   ((cmp n=true->∃ p4,some (adr d.sb)=some p4/\∃ q4:OA,w.cell? (p4.add i)=some (.pointer q4)/\∃ p5,q4=some p5/\∃ n2:Int,w.cell? p5=some (.int .i64 n2)/\True/\True/\CP 152 #[.pointer (some (adr vb)),ifcV (some (T1,.pointer (some (adr w.heap.size))))] (w.alloc (.cells (V n2) T2)) fun e w'=>e=.returned (.tuple #[])/\True/\K w')/\
   (cmp n=false->K w)))/\((!q.isNone)=false->K w)):=by
 obtain ⟨u,hu,hl⟩:=hf;unfold RLim at hl;by_cases hi:lim.is=true
 ·rw [if_pos hi] at hl;obtain ⟨b',T',fr',u0,rfl,hb,hbo⟩:=hl;refine ⟨_,rfl,_,cat hcs hu,fun _=>⟨_,rfl,_,cat hcs hu,_,rfl,lim.n,cat (i:=1) hbo rfl,fun hc=>⟨_,rfl,_,cat hcs hu,_,rfl,lim.n,cat (i:=1) hbo rfl,trivial,trivial,?_⟩,fun hc=>hK w ?_ (FR2.refl ..)⟩,nofun⟩
  ·refine ((st.ext0 ((Ext.refl w).alloc _)).addError hcnt _).mono ?_;rintro _ w2 ⟨rfl,st2,fr2,-⟩;refine ⟨rfl,trivial,hK w2 ?_ ((FR2.of ((Ext.refl w).alloc _)).trans fr2)⟩;rw [hi,hc];simpa using st2
  ·rw [hi,hc];simpa using st.more (Nat.le_succ _)
 ·rw [if_neg hi] at hl;subst hl;have hi:lim.is=false:=by simpa using hi
  refine ⟨_,rfl,_,cat hcs hu,nofun,fun _=>hK w ?_ (FR2.refl ..)⟩;rw [hi];simpa using st.more (Nat.le_succ _)
def contM (J:JJ)(x:JN)(v:JV)(i:Nat):Prop:=x.cont>0/\∃ y,v.xs[i]? =some y/\(J x.cont y).1=true
theorem RArr.get {xs:List JV}{a:OA}{l c:Nat}(h:RArr w B xs a l c){i:Nat}{y:JV}(hy:xs[i]? =some y):∃ p o',a=some p/\w.cell? (p.add i)=some (ifcV o')/\RA w B y o':=by
 obtain ⟨p,T,o',h1,-, h3,h4⟩:=h.2.2 i y hy;exact ⟨p,o',h1,h3.cell,h4⟩
theorem LS.new2 {w5 w1 w2:World}{X:Nat->Prop}{T1:Nat->Prop}(h:LS lo d v w5 w1 T1)(hx:Ext X w1 w2)(hX:∀ b,X b->w5.heap.size<=b/\∃ cs T fr,objAt w1 b=some (.cells cs T fr)/\T≠198)(hsb:∃ c,SB w5 d.g c):LS lo d v w5 w2 T1:=by
 obtain ⟨c0,hc0⟩:=hsb;refine ⟨h.x.trans hx fun b hb e=>?_,fun c hc=>(h.s c hc).ext hx fun e=>?_,h.un.ext hx (fun e=>?_) fun b es cl _ hb e=>?_⟩
 ·have:=(hX b e).1;omega
 ·have:=(hX _ e).1;have:=hc.lt;omega
 ·obtain ⟨pm,im,hu,-⟩:=h.un;obtain ⟨-, cs,T,fr,h2,h3⟩:=hX _ e;rw [hu] at h2;cases h2;exact h3 rfl
 ·obtain ⟨-, cs,T,fr,h2,h3⟩:=hX _ e;rw [hb] at h2;cases h2
theorem Own.isT {base:Nat}{w1:World}{T:TypeId}{a:OA}{l c:Nat}{ps:List Value}(hO:Own base w1 T 1 a l c ps):∀ b,blkOf a b->base<=b/\∃ cs fr,objAt w1 b=some (.cells cs T fr):=fun b hb=>by
 refine ⟨(hO.base b hb).1,?_⟩;obtain ⟨e1,e2|⟨g,cap,cur,e2,e3,e4,-⟩⟩:=hO
 ·obtain ⟨p,hp,-⟩:=hb;rw [hp] at e2;simp at e2
 ·simp only [Value.slice.injEq] at e2;obtain ⟨p,hp,rfl⟩:=hb;rw [e2.1] at hp;cases hp;exact ⟨_,_,e4⟩
theorem B_1 {w5 w1:World}{T1:Nat->Prop}{ea:OA}{el ec:Nat}{ps:List Value}(hg:∃ c,SB w5 d.g c)(hL:LS lo d v w5 w1 T1)(hO:Own w5.heap.size w1 3 1 ea el ec ps)(hl:el<=7000000000000)(q:Int):
  ∃ (A:OA) (C:Nat) (w':World),(Go.builtin .append #[32,32] 32 #[false,false] #[.slice ea el ec,.slice (some (adr w1.heap.size)) 1 1]).run Tryz.prog (w1.alloc (.cells #[.int .i64 q] 3))=.ok (.value (.slice A (el+1) C)) w'/\
   Own w5.heap.size w' 3 1 A (el+1) C (ps++[.int .i64 q])/\LS lo d v w5 w' T1/\Ext (fun b=>∃ cs fr,objAt w1 b=some (.cells cs 3 fr)) w1 w':=by
 have ht:Tryz.prog.underlying 32=some (.slice 3):=by kernel_rfl
 have hi:Tryz.prog.info? 3=some Tryz.t3:=by kernel_rfl
 have x1:EF w1 (w1.alloc (.cells #[.int .i64 q] 3)):=(Ext.refl w1).alloc _;have hsz:=hL.x.size;have hO1:=hO.keep x1 fun _ _=>id;obtain ⟨A,C,w',r,hO',xA,-⟩:=x_t (t:=32) (T:=3) ht hi (z:=.int .i64 0) (by kernel_rfl) (by kernel_rfl) (by
   have:Tryz.t3.bytes=8:=by kernel_rfl
   omega) rfl hO1 (by simp;omega) (p:=adr w1.heap.size) (u:=.int .i64 q) (cat0 (w_3 _ _) rfl) rfl (by omega) 32 #[false,false]
 refine ⟨A,C,w',r,hO',(hL.new x1 (fun _ e=>e.elim) hg).new2 xA (fun b hb=>?_) hg,(x1.mono fun _ _ e=>e.elim).trans xA fun b hb hx=>?_⟩
 ·obtain ⟨h1,cs,fr,h2⟩:=hO1.isT b hb;exact ⟨h1,cs,_,fr,h2,by decide⟩
 ·obtain ⟨h1,cs,fr,h2⟩:=hO.isT b hx;exact ⟨cs,fr,h2⟩
theorem y_U {a b:Int}:(!decide (a<b))=decide (a>=b):=by
 by_cases h:a<b
 ·rw [decide_eq_true h,decide_eq_false (by omega)];rfl
 ·rw [decide_eq_false h,decide_eq_true (by omega)];rfl
theorem y_o {a b:Int}:(!decide (a>b))=decide (a<=b):=by
 by_cases h:a>b
 ·rw [decide_eq_true h,decide_eq_false (by omega)];rfl
 ·rw [decide_eq_false h,decide_eq_true (by omega)];rfl
theorem B_b {w5 w1:World}{T1:Nat->Prop}{ea:OA}{el ec:Nat}{ps:List (OA)}(hg:∃ c,SB w5 d.g c)(hL:LS lo d v w5 w1 T1)(hO:Own w5.heap.size w1 169 1 ea el ec (ps.map Value.pointer))(hl:el<=7000000000000)(q:OA):
  ∃ (A:OA) (C:Nat) (w':World),(Go.builtin .append #[164,164] 164 #[false,false] #[.slice ea el ec,.slice (some (adr w1.heap.size)) 1 1]).run Tryz.prog (w1.alloc (.cells #[.pointer q] 169))=.ok (.value (.slice A (el+1) C)) w'/\
   Own w5.heap.size w' 169 1 A (el+1) C ((ps++[q]).map Value.pointer)/\LS lo d v w5 w' T1/\Ext (fun b=>∃ cs fr,objAt w1 b=some (.cells cs 169 fr)) w1 w':=by
 have ht:Tryz.prog.underlying 164=some (.slice 169):=by kernel_rfl
 have hi:Tryz.prog.info? 169=some Tryz.t169:=by kernel_rfl
 have x1:EF w1 (w1.alloc (.cells #[.pointer q] 169)):=(Ext.refl w1).alloc _;have hsz:=hL.x.size;have hO1:=hO.keep x1 fun _ _=>id;obtain ⟨A,C,w',r,hO',xA,-⟩:=x_t (t:=164) (T:=169) ht hi (z:=.pointer none) (by kernel_rfl) (by kernel_rfl) (by
   have:Tryz.t169.bytes=8:=by kernel_rfl
   omega) rfl hO1 (by simp;omega) (p:=adr w1.heap.size) (u:=.pointer q) (cat0 (w_3 _ _) rfl) rfl (by omega) 164 #[false,false]
 refine ⟨A,C,w',r,by rw [List.map_append];exact hO',(hL.new x1 (fun _ e=>e.elim) hg).new2 xA (fun b hb=>?_) hg,(x1.mono fun _ _ e=>e.elim).trans xA fun b hb hx=>?_⟩
 ·obtain ⟨h1,cs,fr,h2⟩:=hO1.isT b hb;exact ⟨h1,cs,_,fr,h2,by decide⟩
 ·obtain ⟨h1,cs,fr,h2⟩:=hO.isT b hx;exact ⟨cs,fr,h2⟩
theorem B_A {J:JJ}{x:JN}(hf:∀ n∈x.first,n≠0):(v.xs.zipIdx.all fun y=>(jelem 2020 J x y.2 y.1).1)=true↔(∀ (j:Nat) y m,v.xs[j]? =some y->x.first[j]? =some m->(J m y).1=true)/\(x.items≠0->∀ (j:Nat) y,x.first.length<=j->v.xs[j]? =some y->(J x.items y).1=true):=by
 rw [List.all_eq_true];have key:∀ (j:Nat) y,v.xs[j]? =some y->(y,j)∈v.xs.zipIdx:=fun j y h=>List.mem_iff_getElem?.2 ⟨j,by rw [List.getElem?_zipIdx,h];simp⟩;have je:∀ (j:Nat) y,(jelem 2020 J x j y).1=match x.first[j]? with
   | some m=>if m=0 then true else (J m y).1
   | none=>if x.items=0 then true else (J x.items y).1:=fun j y=>by
  unfold jelem;rw [if_neg (by decide)];cases x.first[j]? <;>dsimp only<;>split<;>rfl
 constructor
 ·intro h;refine ⟨fun j y m hy hm=>?_,fun hi j y hj hy=>?_⟩
  ·have:=h _ (key j y hy);rw [je,hm] at this;dsimp only at this
   rwa [if_neg (hf m (mg_ hm))] at this
  ·have:=h _ (key j y hy);rw [je,List.getElem?_eq_none hj] at this;dsimp only at this
   rwa [if_neg hi] at this
 ·rintro ⟨h1,h2⟩ ⟨y,j⟩ hm;have hy:v.xs[j]? =some y:=by
   obtain ⟨i,hi⟩:=List.mem_iff_getElem?.1 hm;rw [List.getElem?_zipIdx] at hi;cases hv:v.xs[i]? with
   | none=>rw [hv] at hi;simp at hi
   | some z=>
    rw [hv] at hi;simp only [Option.map_some,Option.some.injEq,Prod.mk.injEq,Nat.zero_add] at hi;obtain ⟨rfl,rfl⟩:=hi;exact hv
  show (jelem 2020 J x j y).1=true;rw [je];cases hfj:x.first[j]? with
  | some m=>
   dsimp only;rw [if_neg (hf m (mg_ hfj))];exact h1 j y m hy hfj
  | none=>
   dsimp only;split
   ·rfl
   ·rename_i hi;exact h2 hi j y (List.getElem?_eq_none_iff.1 hfj) hy
def cntTo (J:JJ)(x:JN)(xs:List JV)(i:Nat):Nat:=(((xs.take i).map fun y=>(J x.cont y).1).filter id).length
theorem B_0 {J:JJ}{x:JN}{xs:List JV}{i:Int}{y:JV}(h0:0<=i)(hy:xs[i.toNat]? =some y):cntTo J x xs (i+1).toNat=cntTo J x xs i.toNat+if (J x.cont y).1=true then 1 else 0:=by
 unfold cntTo;rw [take_succ h0 hy,List.map_append,List.filter_append,la_];congr 1;cases hb:(J x.cont y).1<;>simp [hb]
theorem FR2.up {lo B g:Nat}(h1:B<=lo)(h2:B<=g):∀ k,(lo<=k∨k=g)->B<=k:=fun k e=>by
 rcases e with e|e<;>omega
set_option maxHeartbeats 2000000 in
theorem E_E (hS:okS s)(IH:CV s av B f)(st:VSt s av B lo vb d n vid k v w E cnt T){x:JN}(h1:1<=n)(hx:s[n-1]? =some x)(hk:x.kind=0)(hM:MJ s.length v n<=f)(hok:okV v)(hl:d.l+szJ v<=1100000)(hcnt:cnt<=7000000000000)(h4:v.k=4){a:OA}{l c:Nat}(hA:RArr w B v.xs a l c):
  CP 130 #[.pointer (some (adr vb)),.slice a l c] w fun e w'=>e=.returned (.tuple #[])/\∃ E' T',VSt s av B lo vb d n vid k v w' E' (cnt+100) T'/\(E'=true↔E=true/\arrOK 2020 (w_2 2020 s f) x v=true)/\(∀ i,T' i↔T i/\¬ contM (w_2 2020 s f) x v i)/\FR2 lo d.g w w':=by
 have hN:=hS (n-1) x hx;rw [Nat.sub_add_cancel h1] at hN;generalize hJ:w_2 2020 s f=J;have val:∀ {w1:World} {E1:Bool} {c1:Nat} {T1:Nat->Prop},VSt s av B lo vb d n vid k v w1 E1 c1 T1->∀ {m:Int},later s.length 0 m->m≠0->∀ {y:JV} {o':Option (TypeId × Value)},okV y->szJ y<szJ v->RA w1 B y o'->∀ (tok:BA),CP 154 #[.pointer (some (adr vb)),.pointer (some (adr (av m.toNat))),ifcV o',.string tok] w1 fun e w'=>∃ o,e=.returned (ifcV o)/\FR d.g w1 w'/\o.isNone=(J m y).1/\(o≠none->∃ q,o=some (169,.pointer q)/\VErr w1.heap.size w' q):=fun h1 m hm h0 y o' hy hsz hra tok=>by
  have:=h1.val hS IH hM hl hm h0 hy hsz hra tok
  rwa [hJ] at this
 clear hJ;have hlen:=hok.len4 h4;have hlx:l=v.xs.length:=hA.1;have hlc:l<=c:=hA.2.1;have up:=FR2.up st.hBlo st.ctx.hg;obtain ⟨a0,l0,c0,hv⟩:=st.blk;obtain ⟨cs,hcs,hsc⟩:=st.sc h1 hx;have hw:=hsc.words hk;refine x_M (some (adr vb)) a l c w _ ⟨_,rfl,_,cat hv rfl,fun K5 hK5=>?_⟩;refine st.lim (by omega) hcs hw.minI (fun m=>decide ((l:Int)<m)) _ _ (fun m=>#[.int .i64 (l:Int),.int .i64 m]) fun w6 st6 fr6=>hK5 w6 fun K7 hK7=>?_;generalize hE6:(E&&(!x.minI.is|| !decide ((l:Int)<x.minI.n)))=E6 at st6;obtain ⟨cs6,hcs6,hsc6⟩:=st6.sc h1 hx;have hw6:=hsc6.words hk;refine st6.lim (by omega) hcs6 hw6.maxI (fun m=>decide ((l:Int)>m)) _ _ (fun m=>#[.int .i64 (l:Int),.int .i64 m]) fun w8 st8 fr8=>hK7 w8 fun K9 hK9=>?_;generalize hE8:(E6&&(!x.maxI.is|| !decide ((l:Int)>x.maxI.n)))=E8 at st8;have k9:∀ w10,VSt s av B lo vb d n vid k v w10 (E8&& !(x.uniq&&twins v.xs)) (cnt+3) T->FR2 lo d.g w w10->K9 w10:=by
  generalize hE10:(E8&& !(x.uniq&&twins v.xs))=E10;intro w10 st10 fr10;refine hK9 w10 fun K11 hK11=>?_;have hfn:∀ m∈x.first,m≠0:=fun m hm=>(hN.first m hm).2;have k11:∀ (w12:World) (E12:Bool),VSt s av B lo vb d n vid k v w12 E12 (cnt+30) T->FR2 lo d.g w w12->(E12=true↔E10=true/\(v.xs.zipIdx.all fun y=>(jelem 2020 J x y.2 y.1).1)=true)->K11 w12:=by
   intro w12 E12 st12 fr12 hE12;refine hK11 w12 ?_;have hE:∀ z:Bool,(decide (x.cont<=0)||bound ((v.xs.map fun y=>(J x.cont y).1).filter id).length (if x.minC.is then x.minC else ⟨true,1⟩) x.maxC)=z->((E12&&z)=true↔E=true/\arrOK 2020 J x v=true):=fun z hz=>by
    have e:arrOK 2020 J x v=(bound v.xs.length x.minI x.maxI&& !(x.uniq&&twins v.xs)&&(v.xs.zipIdx.all fun y=>(jelem 2020 J x y.2 y.1).1)&&z):=by rw [<- hz];rfl
    have e1:((!x.minI.is|| !decide ((l:Int)<x.minI.n))&&(!x.maxI.is|| !decide ((l:Int)>x.maxI.n)))=bound v.xs.length x.minI x.maxI:=by
     rw [y_U,y_o,hlx];rfl
    rw [Bool.and_eq_true,hE12,<- hE10,<- hE8,<- hE6,e,<- e1];simp only [Bool.and_eq_true,and_assoc]
   obtain ⟨cs12,hcs12,hsc12⟩:=st12.sc h1 hx;have hw12:=hsc12.words hk;refine ⟨_,rfl,_,cat hcs12 hw12.cont,fun hne=>?_,fun hno=>⟨rfl,E12,T,st12.more (by omega),?_,fun i=>⟨fun h=>⟨h,fun h'=>?_⟩,fun h=>h.1⟩,fr12⟩⟩
   ·have hz:x.cont≠0:=by
     have h:(!(ptr av x.cont).isNone)=true:=hne;rw [w_5] at h;simpa using h
    have hpos:x.cont>0:=by
     rcases hN.cont with h|h
     ·exact absurd h hz
     ·omega
    have sbg:∃ c,SB w12 d.g c:=⟨_,st12.ctx.pl.sb⟩;refine ⟨fun ea el ec ma ml mc i w1=>0<=i/\i<=l/\∃ T1 ps ms,LS lo d v w12 w1 T1/\Own w12.heap.size w1 169 1 ea el ec (ps.map Value.pointer)/\Own w12.heap.size w1 3 1 ma ml mc ms/\(ps.length:Int)<=i/\ml=cntTo J x v.xs i.toNat/\(ml:Int)<=i/\∀ j,T1 j↔T j/\¬ ((j:Int)<i/\contM J x v j),fun _ _ _ _ _ _ i _=>((l:Int)-i).toNat,⟨by omega,by omega,T,[],[],LS.refl st12.un,Own.nil ..,Own.nil ..,by simp,rfl,by omega,fun j=>⟨fun h=>⟨h,fun h'=>by omega⟩,fun h=>h.1⟩⟩,?_⟩;rintro ea el ec ma ml mc i w20 ⟨i0,i1,T1,ps,ms,ls,hO,hOm,hps,hml,hmi,hT1⟩;have st20:=ls.st st12;refine ⟨fun hlt K21 hK21=>?_,fun hge K51 hK51=>?_⟩
    ·have hlt:=odt hlt;have hil:i.toNat<v.xs.length:=by omega
     obtain ⟨p,o',hp,hcell,hra⟩:=(hA.ext (fr12.trans ls.fr2).x up).get (List.getElem?_eq_getElem hil);refine ⟨p,hp,⟨i0,hlt⟩,o',by rw [Nat.mul_one];exact hcell,?_⟩;rintro w27 hw27;have x27:EF w20 w27:=hw27▸(Ext.refl _).drew;clear hw27;have ls27:=ls.new x27 (fun _ e=>e.elim) sbg;have st27:=ls27.st st12;obtain ⟨cs27,hcs27,hsc27⟩:=st27.sc h1 hx;refine ⟨_,rfl,_,cat hcs27 (pcell (hsc27.words hk).cont hz),(B_u i0 (by omega) w27).mono ?_⟩;rintro _ w31 ⟨tok,rfl,hw31⟩;obtain rfl:=hw31.symm;have hy:=List.getElem_mem hil;refine ⟨tok,rfl,trivial,⟨rfl,trivial⟩,(val st27 hN.cont hz (hok.sub hy) (x_y hy) (hra.ext x27 fun _ e=>e.elim) tok).mono ?_⟩;rintro _ w34 ⟨o,rfl,fr34,ho,he⟩;have ls34:=ls27.self sbg (fr34.x.mono fun _ _ e=>.inl e) fr34.s (st27.fr fr34).un;have st34:=ls34.st st12;obtain ⟨cur27,hg27⟩:=st27.gb;have hO34:=(hO.keep x27 fun _ _=>id).keep fr34.x fun b hb e=>by
      obtain ⟨-, cs',fr',h'⟩:=((hO.keep x27 fun _ _=>id).isT b hb);exact x_u h' hg27 (by decide) e
     have hOm34:=(hOm.keep x27 fun _ _=>id).keep fr34.x fun b hb e=>by
      obtain ⟨-, cs',fr',h'⟩:=((hOm.keep x27 fun _ _=>id).isT b hb);exact x_u h' hg27 (by decide) e
     have hyi:=List.getElem?_eq_getElem hil;have hcs:=B_0 (J:=J) (x:=x) i0 hyi;refine ⟨o,rfl,trivial,trivial,trivial,fun hne=>?_,fun hno=>?_⟩
     ·have hj:(J x.cont v.xs[i.toNat]).1=false:=by rw [<- ho];simpa using hne
      obtain ⟨q,rfl,-⟩:=he (fun e=>by rw [e] at hne;cases hne);have hel:=hO34.l1;obtain ⟨A,C,w39,r,hO39,ls39,x39⟩:=B_b sbg ls34 hO34 (by omega) q;refine ⟨q,rfl,trivial,A,el+1,C,w39,r,trivial,hK21 _ _ _ _ _ _ _ ?_⟩;rw [a_a i0 (by omega)];refine ⟨⟨by omega,by omega,T1,ps++[q],ms,ls39,hO39,?_,by simp;omega,?_,by omega,fun j=>?_⟩,by dsimp only;omega⟩
      ·exact hOm34.keep x39 fun b hb ⟨cs',fr',h'⟩=>by
        obtain ⟨-, cs2,fr2,h2⟩:=hOm34.isT b hb;rw [h2] at h';cases h'
      ·rw [hcs,hj,hml];rfl
      ·rw [hT1];refine and_congr Iff.rfl (not_congr ⟨fun h=>⟨by omega,h.2⟩,fun h=>⟨?_,h.2⟩⟩);by_cases hji:(j:Int)<i
       ·exact hji
       ·obtain rfl:j=i.toNat:=by omega
        obtain ⟨-, y,hy',h3⟩:=h.2;rw [hyi] at hy';cases hy';rw [hj] at h3;cases h3
     ·have hj:(J x.cont v.xs[i.toNat]).1=true:=by rw [<- ho];simpa using hno
      obtain ⟨A,C,w42,r,hO42,ls42,x42⟩:=B_1 sbg ls34 hOm34 (by omega) i;have st42:=ls42.st st12;obtain ⟨cs42,hcs42,hsc42⟩:=st42.sc h1 hx;obtain ⟨a42,l42,c42,hv42⟩:=st42.blk;obtain ⟨pm,im,hub,m1,m2,m3,m4⟩:=st42.un;have u2:Tryz.prog.underlying 196=some (.map 3 199):=by kernel_rfl
      have k2:Tryz.prog.underlying 3=some (.int .i64):=by kernel_rfl
      obtain ⟨w50,⟨dv,d2⟩,d3,d4⟩:=z_J (P:=Tryz.prog) (u:=.int .i64 i) (ty:=0) (fs:=#[false,false]) u2 k2 rfl m2;have isM:∀ b,im=some b->∃ es cl,objAt w42 b=some (.map es cl):=fun b hb=>m2.obj hb;refine ⟨trivial,A,ml+1,C,w42,r,trivial,_,rfl,_,cat hcs42 hsc42.f3,fun _=>⟨_,rfl,_,cat hv42 rfl,_,rfl,im,cat hub rfl,dv,w50,d2,trivial,hK21 _ _ _ _ _ _ _ ?_⟩,fun h=>absurd h (by decide)⟩;have ls50:LS lo d v w12 w50 (fun j=>T1 j/\(j:Int)≠i):=ls42.self sbg (d4.mono fun b _ e=>.inr (by
        obtain ⟨es,cl,h⟩:=isM b e;subst e;exact ⟨m2.1,es,cl,h⟩)) (fun c' hc'=>hc'.ext d4 fun e=>by
        obtain ⟨es,cl,h⟩:=isM _ e;obtain ⟨cur,h',-⟩:=hc';rw [h] at h';cases h') ⟨pm,im,d4.old _ _ (fun e=>by
        obtain ⟨es,cl,h⟩:=isM _ e;rw [hub] at h;cases h) hub,(m1.ext1 d4 fun b hb e=>m4.elim (fun m4=>by rw [m4] at hb;cases hb) fun m4=>by rw [m4] at e;cases e).congr fun k z=>⟨fun ⟨_,t,j,_,h5,_⟩=>by omega,fun ⟨_,t,j,_,h5,_⟩=>by omega⟩,d3.congr fun k z=>?_,fun j hj=>m3 j hj.1,m4⟩
      ·rw [a_a i0 (by omega)];refine ⟨⟨by omega,by omega,_,ps,ms++[.int .i64 i],ls50,?_,?_,by omega,?_,by omega,fun j=>?_⟩,by dsimp only;omega⟩
       ·have o1:=hO34.keep x42 fun b hb ⟨cs',fr',h'⟩=>by
         obtain ⟨-, cs2,fr2,h2⟩:=hO34.isT b hb;rw [h2] at h';cases h'
        exact o1.keep d4 fun b hb e=>by
         obtain ⟨-, cs2,fr2,h2⟩:=o1.isT b hb;obtain ⟨es,cl,h⟩:=isM _ e;rw [h2] at h;cases h
       ·exact hO42.keep d4 fun b hb e=>by
         obtain ⟨-, cs2,fr2,h2⟩:=hO42.isT b hb;obtain ⟨es,cl,h⟩:=isM _ e;rw [h2] at h;cases h
       ·rw [hcs,hj,hml];rfl
       ·rw [hT1,and_assoc];refine and_congr Iff.rfl ⟨fun ⟨h2,h3⟩ h=>?_,fun h=>⟨fun h'=>h ⟨by omega,h'.2⟩,fun h'=>h ⟨by omega,hpos,_,(by rw [show j=i.toNat by omega];exact hyi),hj⟩⟩⟩;by_cases hji:(j:Int)<i
        ·exact h2 ⟨hji,h.2⟩
        ·exact h3 (by omega)
      ·constructor
       ·rintro ⟨rfl,j,rfl,h5,hTj,hne⟩;exact ⟨fun e=>hne (by simpa using e),rfl,j,rfl,h5,hTj⟩
       ·rintro ⟨hne,rfl,j,rfl,h5,hTj⟩;exact ⟨rfl,j,rfl,h5,hTj,fun e=>hne (by rw [e])⟩
    ·have hge:i=l:=by have:=odf hge;omega
     subst hge;have htk:v.xs.take l=v.xs:=tl_ (by omega);have hcnt2:ml=((v.xs.map fun y=>(J x.cont y).1).filter id).length:=by
      rw [hml,cntTo,Int.toNat_natCast,htk]
     have hT2:∀ j,T1 j↔T j/\¬ contM J x v j:=fun j=>by
      rw [hT1];refine and_congr Iff.rfl (not_congr ⟨fun h=>h.2,fun h=>⟨?_,h⟩⟩);obtain ⟨-, y,hy',-⟩:=h;have:=(List.getElem?_eq_some_iff.1 hy').1;omega
     have fr20:=fr12.trans ls.fr2;have k51:∀ (w52:World) (E52:Bool),VSt s av B lo vb d n vid k v w52 E52 (cnt+50) T1->FR2 lo d.g w w52->E52=(E12&&(let least:JLim:=if x.minC.is then x.minC else ⟨true,1⟩;(!least.is||decide ((ml:Int)>=least.n))))->K51 w52:=by
      intro w52 E52 st52 fr52 hE52;refine hK51 w52 ?_;obtain ⟨cs52,hcs52,hsc52⟩:=st52.sc h1 hx;refine st52.lim (by omega) hcs52 (hsc52.words hk).maxC (fun m=>decide ((ml:Int)>m)) _ _ (fun m=>#[.slice ma ml mc,.int .i64 m]) fun w54 st54 fr54=>⟨rfl,_,T1,st54.more (by omega),?_,hT2,fr52.trans fr54⟩;rw [hE52,Bool.and_assoc];refine hE _ ?_;rw [decide_eq_false (by omega),Bool.false_or,bound,<- hcnt2,y_o]
     obtain ⟨cs20,hcs20,hsc20⟩:=st20.sc h1 hx;obtain ⟨u,hu,hlim⟩:=(hsc20.words hk).minC;unfold RLim at hlim;by_cases hi:x.minC.is=true
     ·rw [if_pos hi] at hlim;obtain ⟨b,T',fr',u0,rfl,hb,hbo⟩:=hlim;refine ⟨_,rfl,_,cat hcs20 hu,fun _=>⟨_,rfl,_,cat hcs20 hu,_,rfl,x.minC.n,cat (i:=1) hbo rfl,fun hc=>⟨_,rfl,_,cat hcs20 hu,_,rfl,x.minC.n,cat (i:=1) hbo rfl,trivial,trivial,?_⟩,fun hc=>k51 w20 E12 (st20.more (by omega)) fr20 ?_⟩,nofun⟩
      ·refine ((st20.ext0 ((Ext.refl w20).alloc _)).addErrors (by omega) ea el ec _).mono ?_;rintro _ w2 ⟨rfl,st2,fr2,-⟩;refine ⟨rfl,trivial,k51 w2 false (st2.more (by omega)) (fr20.trans ((FR2.of ((Ext.refl w20).alloc _)).trans fr2)) ?_⟩;have hc:=odt hc;rw [if_pos hi];dsimp only;rw [hi,decide_eq_false (by omega)];simp
      ·have hc:=odf hc;rw [if_pos hi];dsimp only;rw [hi,decide_eq_true (by omega)];simp
     ·rw [if_neg hi] at hlim;subst hlim;refine ⟨_,rfl,_,cat hcs20 hu,nofun,fun _=>⟨fun hc=>⟨trivial,trivial,?_⟩,fun hc=>k51 w20 E12 (st20.more (by omega)) fr20 ?_⟩⟩
      ·refine ((st20.ext0 ((Ext.refl w20).alloc _)).addErrors (by omega) ea el ec _).mono ?_;rintro _ w2 ⟨rfl,st2,fr2,-⟩;refine ⟨rfl,trivial,k51 w2 false (st2.more (by omega)) (fr20.trans ((FR2.of ((Ext.refl w20).alloc _)).trans fr2)) ?_⟩;have hc:(ml:Int)=0:=by simpa using hc
       rw [if_neg hi];dsimp only;rw [decide_eq_false (by omega)];simp
      ·have hc:¬ (ml:Int)=0:=by simpa using hc
       rw [if_neg hi];dsimp only;rw [decide_eq_true (by omega)];simp
   ·have hz:x.cont=0:=by
     have h:(!(ptr av x.cont).isNone)=false:=hno;rw [w_5] at h;simpa using h
    have:=hE true (by rw [hz];rfl)
    rwa [Bool.and_true] at this
   ·have hz:x.cont=0:=by
     have h:(!(ptr av x.cont).isNone)=false:=hno;rw [w_5] at h;simpa using h
    have:=h'.1;omega
  obtain ⟨cs10,hcs10,hsc10⟩:=st10.sc h1 hx;have hw10:=hsc10.words hk;have hA10:=hA.ext fr10.x up;obtain ⟨fa,fl,fc,hfc,hF⟩:=hw10.first;have hfl:fl=x.first.length:=hF.1;refine ⟨_,rfl,_,cat hcs10 hsc10.f3,fun h=>absurd h (by decide),fun _=>⟨_,rfl,fa,fl,fc,cat hcs10 hfc,?_⟩⟩;have mn:CP 156 #[.int .i64 (fl:Int),.int .i64 (l:Int)] w10 fun e w'=>e=.returned (.int .i64 ((min fl l:Nat):Int))/\w'=w10:=by
   refine B_j _ _ w10 _ ⟨fun h=>⟨?_,rfl⟩,fun h=>⟨?_,rfl⟩⟩
   ·have h:=odt h;rw [Nat.min_eq_left (by omega)]
   ·have h:=odf h;rw [Nat.min_eq_right (by omega)]
  refine mn.mono ?_;rintro _ w78 ⟨rfl,hw78⟩;obtain rfl:=hw78.symm;generalize hm0:min fl l=m0;have hm1:m0<=fl:=by omega
  have hm2:m0<=l:=by omega
  have adv0:∀ q:OA,(if c=(0:Int).toNat then q else Option.map (·.add ((0:Int).toNat*1)) q)=q:=fun q=>by
   split
   ·rfl
   ·cases q<;>rfl
  refine ⟨_,rfl,trivial,⟨by omega,by omega,by omega⟩,fun i w1=>0<=i/\i<=m0/\∃ E1,VSt s av B lo vb d n vid k v w1 E1 (cnt+3+i.toNat) T/\FR2 lo d.g w w1/\(E1=true↔E10=true/\∀ (j:Nat) y m,(j:Int)<i->v.xs[j]? =some y->x.first[j]? =some m->(J m y).1=true),fun i _=>((m0:Int)-i).toNat,⟨by omega,by omega,E10,st10,fr10,⟨fun h=>⟨h,fun j y m hj=>by omega⟩,fun h=>h.1⟩⟩,?_⟩;rintro i w83 ⟨i0,i1,E1,st83,fr83,hE1⟩;refine ⟨fun hlt=>?_,fun hge=>?_⟩
  ·have hlt:i<m0:=by have:=odt hlt;simp only [Int.toNat_natCast] at this;omega
   have hil:i.toNat<v.xs.length:=by omega
   have hif:i.toNat<x.first.length:=by omega
   obtain ⟨p,o',hp,hcell,hra⟩:=(hA.ext fr83.x up).get (List.getElem?_eq_getElem hil);rw [adv0];refine ⟨p,hp,⟨i0,by simp only [Int.toNat_natCast];omega⟩,o',by rw [Nat.mul_one];exact hcell,?_⟩;rintro w86 hw86;have x86:EF w83 w86:=hw86▸(Ext.refl _).drew;clear hw86;have st86:=st83.ext0 x86;obtain ⟨cs86,hcs86,hsc86⟩:=st86.sc h1 hx;obtain ⟨fa',fl',fc',hfc',hF'⟩:=(hsc86.words hk).first;have hfl':fl'=x.first.length:=hF'.1;obtain ⟨pf,m,u,hpf,hm,-, hcm,rfl⟩:=hF'.get i0 (by omega);have hmm:=mg_ hm;refine ⟨_,rfl,fa',fl',fc',cat hcs86 hfc',pf,hpf,⟨i0,by omega⟩,_,hcm,(B_u i0 (by omega) w86).mono ?_⟩;rintro _ w92 ⟨tok,rfl,hw92⟩;obtain rfl:=hw92.symm;have hy:=List.getElem_mem hil;refine ⟨tok,rfl,trivial,⟨rfl,rfl,trivial⟩,(val st86 (hN.first m hmm).1 (hfn m hmm) (hok.sub hy) (x_y hy) (hra.ext x86 fun _ e=>e.elim) tok).mono ?_⟩;rintro _ w95 ⟨o,rfl,fr95,ho,he⟩;have st95:=st86.fr fr95;refine ⟨o,rfl,trivial,trivial,(st95.addErr (by omega) (VErr.loc he st86.hlo)).mono ?_⟩;rintro _ w98 ⟨rfl,st98,fr98,-⟩;rw [a_a i0 (by omega)];refine ⟨rfl,trivial,trivial,⟨by omega,by omega,_,st98.more (by omega),((fr83.trans (FR2.of x86)).trans (FR2.fr fr95)).trans fr98,?_⟩,by dsimp only;omega⟩;rw [Bool.and_eq_true,hE1,and_assoc,ho];refine and_congr Iff.rfl ⟨fun ⟨h2,h3⟩ j y m' hj hy' hm'=>?_,fun h=>⟨fun j y m' hj=>h j y m' (by omega),h i.toNat _ m (by omega) (List.getElem?_eq_getElem hil) hm⟩⟩;by_cases hji:(j:Int)<i
   ·exact h2 j y m' hji hy' hm'
   ·obtain rfl:j=i.toNat:=by omega
    rw [List.getElem?_eq_getElem hil] at hy';rw [hm] at hm';cases hy';cases hm';exact h3
  ·have hge:i=m0:=by have:=odf hge;simp only [Int.toNat_natCast] at this;omega
   subst hge;have hpre:(∀ (j:Nat) y m,(j:Int)<(m0:Int)->v.xs[j]? =some y->x.first[j]? =some m->(J m y).1=true)↔∀ (j:Nat) y m,v.xs[j]? =some y->x.first[j]? =some m->(J m y).1=true:=⟨fun h j y m hy hm=>h j y m (by have:=(List.getElem?_eq_some_iff.1 hy).1;have:=(List.getElem?_eq_some_iff.1 hm).1;omega) hy hm,fun h j y m _=>h j y m⟩;rw [hpre] at hE1;obtain ⟨cs83,hcs83,hsc83⟩:=st83.sc h1 hx;refine ⟨_,rfl,_,cat hcs83 (hsc83.words hk).items,fun hne=>?_,fun hno=>k11 w83 E1 (st83.more (by omega)) fr83 ?_⟩
   ·have hz:x.items≠0:=by
     have h:(!(ptr av x.items).isNone)=true:=hne;rw [w_5] at h;simpa using h
    refine ⟨⟨by omega,by omega,by omega⟩,fun i w1=>0<=i/\i<=((l-m0:Nat):Int)/\∃ E2,VSt s av B lo vb d n vid k v w1 E2 (cnt+3+m0+i.toNat) T/\FR2 lo d.g w w1/\(E2=true↔E1=true/\∀ (j:Nat) y,m0<=j->(j:Int)<m0+i->v.xs[j]? =some y->(J x.items y).1=true),fun i _=>(((l-m0:Nat):Int)-i).toNat,⟨by omega,by omega,E1,by simpa using st83,fr83,⟨fun h=>⟨h,fun j y h1 h2=>by omega⟩,fun h=>h.1⟩⟩,?_⟩;rintro i w04 ⟨j0,j1,E2,st04,fr04,hE2⟩;refine ⟨fun hlt=>?_,fun hge=>k11 w04 E2 (st04.more (by omega)) fr04 ?_⟩
    ·have hlt:i<((l-m0:Nat):Int):=by have:=odt hlt;simp only [Int.toNat_natCast] at this;omega
     have hil:m0+i.toNat<v.xs.length:=by omega
     obtain ⟨p,o',hp,hcell,hra⟩:=(hA.ext fr04.x up).get (List.getElem?_eq_getElem hil);refine ⟨p.add m0,?_,⟨j0,by simp only [Int.toNat_natCast];omega⟩,o',?_,?_⟩
     ·rw [hp,Int.toNat_natCast,if_neg (by omega),Nat.mul_one];rfl
     ·rw [Nat.mul_one,add_add'];exact hcell
     rintro w07 hw07;have x07:EF w04 w07:=hw07▸(Ext.refl _).drew;clear hw07;have st07:=st04.ext0 x07;obtain ⟨cs07,hcs07,hsc07⟩:=st07.sc h1 hx;rw [f_c (by omega) (by omega)];refine ⟨_,rfl,_,cat hcs07 (pcell (hsc07.words hk).items hz),(B_u (by omega) (by omega) w07).mono ?_⟩;rintro _ w11 ⟨tok,rfl,hw11⟩;obtain rfl:=hw11.symm;have hy:=List.getElem_mem hil;refine ⟨tok,rfl,trivial,⟨rfl,trivial⟩,(val st07 hN.items hz (hok.sub hy) (x_y hy) (hra.ext x07 fun _ e=>e.elim) tok).mono ?_⟩;rintro _ w14 ⟨o,rfl,fr14,ho,he⟩;have st14:=st07.fr fr14;refine ⟨o,rfl,trivial,trivial,(st14.addErr (by omega) (VErr.loc he st07.hlo)).mono ?_⟩;rintro _ w17 ⟨rfl,st17,fr17,-⟩;rw [a_a j0 (by omega)];refine ⟨rfl,trivial,trivial,⟨by omega,by omega,_,st17.more (by omega),((fr04.trans (FR2.of x07)).trans (FR2.fr fr14)).trans fr17,?_⟩,by dsimp only;omega⟩;rw [Bool.and_eq_true,hE2,and_assoc,ho];refine and_congr Iff.rfl ⟨fun ⟨h2,h3⟩ j y hj hj2 hy'=>?_,fun h=>⟨fun j y hj hj2=>h j y hj (by omega),h _ _ (by omega) (by omega) (List.getElem?_eq_getElem hil)⟩⟩;by_cases hji:(j:Int)<m0+i
     ·exact h2 j y hj hji hy'
     ·obtain rfl:j=m0+i.toNat:=by omega
      rw [List.getElem?_eq_getElem hil] at hy';cases hy';exact h3
    ·have hge:i=((l-m0:Nat):Int):=by have:=odf hge;simp only [Int.toNat_natCast] at this;omega
     rw [hE2,hE1,B_A hfn,and_assoc];refine and_congr Iff.rfl (and_congr Iff.rfl ⟨fun h _ j y hj hy=>?_,fun h j y hj hj2 hy=>?_⟩)
     ·have:=(List.getElem?_eq_some_iff.1 hy).1;exact h j y (by omega) (by omega) hy
     ·have:=(List.getElem?_eq_some_iff.1 hy).1;exact h hz j y (by omega) hy
   ·have hz:x.items=0:=by
     have h:(!(ptr av x.items).isNone)=false:=hno;rw [w_5] at h;simpa using h
    rw [hE1,B_A hfn];exact and_congr Iff.rfl ⟨fun h=>⟨h,fun h'=>absurd hz h'⟩,fun h=>h.1⟩
 obtain ⟨cs8,hcs8,hsc8⟩:=st8.sc h1 hx;have hw8:=hsc8.words hk;intro K218 hK218;refine ⟨_,rfl,_,cat hcs8 hw8.uniq,fun hu=>?_,fun hu=>hK218 _ _ ⟨nofun,fun _=>k9 w8 ?_ (fr6.trans fr8)⟩⟩
 ·have hA8:=hA.ext (fr6.trans fr8).x up;refine hK218 _ _ ⟨fun h=>(E_q hA8 (by omega) (fun y hy=>(hok.sub hy).ok) (fun y hy=>by have:=x_y hy;omega)).mono ?_,fun h=>k9 w8 ?_ (fr6.trans fr8)⟩
  ·rintro _ w22 ⟨p,q,rfl,x22,hpq⟩;have st22:=st8.ext0 x22;refine ⟨p,q,none,rfl,trivial,nofun,fun _=>⟨fun hp=>⟨trivial,trivial,trivial,?_⟩,fun hp=>k9 w22 ?_ ((fr6.trans fr8).trans (FR2.of x22))⟩⟩
   ·have ht:=hpq.1 (by simpa using hp);refine ((st22.ext0 ((Ext.refl w22).alloc _)).addError (by omega) _).mono ?_;rintro _ w30 ⟨rfl,st30,fr30,-⟩;refine ⟨rfl,trivial,k9 w30 ?_ (((fr6.trans fr8).trans (FR2.of x22)).trans ((FR2.of ((Ext.refl w22).alloc _)).trans fr30))⟩;rw [hu,ht];simpa using st30
   ·have ht:twins v.xs=false:=by
     cases h:twins v.xs with
     | false=>rfl
     | true=>exact absurd (by simpa using hp) (hpq.2 h)
    rw [ht];simpa using st22.more (Nat.le_succ _)
  ·have hl1:l<=1:=by have:=odf h;omega
   have ht:twins v.xs=false:=by
    cases h:twins v.xs with
    | false=>rfl
    | true=>
     obtain ⟨i,j,y,z,hij,hy,hz,-⟩:=x_Z.1 h;have:=(List.getElem?_eq_some_iff.1 hz).1;omega
   rw [ht];simpa using st8.more (Nat.le_succ _)
 ·rw [hu];simpa using st8.more (Nat.le_succ _)
end
abbrev scpC (sb:Nat):Array Value:=#[.pointer (some (adr sb)),.string ⟨#[]⟩,.int .i64 0,.pointer none]
abbrev vdZ:Array Value:=#[.nilIface,.slice none 0 0,.pointer none,.pointer none,.pointer none,.slice none 0 0,.bool false]
structure Rdy (s:List JN) (av:Nat->Nat) (B lo:Nat) (w0 w:World) (x:JN) (sb:Nat) (v:JV) (o:Option (TypeId × Value)) (sl sc ub vb:Option Nat):Prop where
 x0:EF w0 w
 sl:∀ g,sl=some g->SB w g 8/\lo<=g
 sc:∀ p,sc=some p->objAt w p=some (.cells (scpC sb) 161 (0,0))
 ub:∀ u,ub=some u->UN lo w u v (T0 (eff x) v false)/\lo<=u
 vb:∀ b,vb=some b->objAt w b=some (.cells vdZ 166 (0,0))/\lo<=b
section
variable {s:List JN} {av:Nat->Nat} {B lo:Nat} {w0 w:World} {x:JN} {sb:Nat} {v:JV} {o:Option (TypeId × Value)} {sl sc ub vb:Option Nat}
theorem Rdy.ext {w':World}(h:Rdy s av B lo w0 w x sb v o sl sc ub vb)(hx:EF w w'):Rdy s av B lo w0 w' x sb v o sl sc ub vb:=
 ⟨h.x0.then hx,fun g e=>⟨(h.sl g e).1.ext hx id,(h.sl g e).2⟩,fun p e=>hx.old _ _ id (h.sc p e),fun u e=>⟨(h.ub u e).1.ext hx id fun _ _ _ _ _=>id,(h.ub u e).2⟩,fun b e=>⟨hx.old _ _ id (h.vb b e).1,(h.vb b e).2⟩⟩
theorem Rdy.stepS (hlo:lo=w0.heap.size)(h:Rdy s av B lo w0 w x sb v o none sc ub vb){R:OA->Nat->Nat->World->Prop}(hR:∀ g w',Rdy s av B lo w0 w' x sb v o (some g) sc ub vb->R (some (adr g)) 0 8 w'):
  ∃ (a:OA) (l c:Nat),∃ w',(Instr.makeSlice 24 (.int .i64 0) (.int .i64 8)).run Tryz.prog w=.ok (.slice a l c) w'/\True/\True/\R a l c w':=by
 have ht:Tryz.prog.underlying 24=some (.slice 9):=by kernel_rfl
 have hi:Tryz.prog.info? 9=some Tryz.t9:=by kernel_rfl
 have hz:Tryz.t9.zero=some (.string ⟨#[]⟩):=by kernel_rfl
 have hs:Tryz.t9.size=1:=by kernel_rfl
 have hb:Tryz.t9.bytes=16:=by kernel_rfl
 have r:=run_makeSlice (P:=Tryz.prog) w 24 9 Tryz.t9 _ ht hi hz .i64 .i64 0 8 (by decide) (by decide) (by rw [hs];decide) (by rw [hb];decide) (by decide);have x1:∀ o,EF w (w.alloc o):=fun o=>(Ext.refl w).alloc o;refine ⟨_,_,_,_,r,trivial,trivial,hR w.heap.size _ ⟨h.x0.then (x1 _),fun g e=>?_,((h.ext (x1 _)).sc),((h.ext (x1 _)).ub),((h.ext (x1 _)).vb)⟩⟩;cases e;have:=h.x0.size;refine ⟨⟨_,w_3 _ _,by rw [hs,size_madeCells];rfl,fun u hu=>?_⟩,by omega⟩;simp only [madeCells,Array.toList_map,mm_] at hu;obtain ⟨i,-, rfl⟩:=hu;refine ⟨⟨#[]⟩,?_⟩;simp only [Value.cells];simp [Nat.mod_one]
theorem Rdy.P (h:Rdy s av B lo w0 w x sb v o sl none ub vb):Rdy s av B lo w0 (w.alloc (.cells (scpC sb) 161)) x sb v o sl (some w.heap.size) ub vb:=by
 have x1:EF w (w.alloc (.cells (scpC sb) 161)):=(Ext.refl w).alloc _;exact ⟨h.x0.then x1,(h.ext x1).sl,fun p e=>by cases e;exact w_3 _ _,(h.ext x1).ub,(h.ext x1).vb⟩
theorem Rdy.V (hlo:lo=w0.heap.size)(h:Rdy s av B lo w0 w x sb v o sl sc ub none):Rdy s av B lo w0 (w.alloc (.cells vdZ 166)) x sb v o sl sc ub (some w.heap.size):=by
 have x1:EF w (w.alloc (.cells vdZ 166)):=(Ext.refl w).alloc _;exact ⟨h.x0.then x1,(h.ext x1).sl,(h.ext x1).sc,(h.ext x1).ub,fun p e=>by cases e;exact ⟨w_3 _ _,by have:=h.x0.size;omega⟩⟩
end
theorem c_Sv {s:List JN}{av:Nat->Nat}{B f:Nat}(hS:okS s)(IH:CV s av B f){w:World}(hsch:Sch w B av s)(hB:B<=w.heap.size){n:Nat}{x:JN}{v:JV}{o:Option (TypeId × Value)}(h1:1<=n)(hx:s[n-1]? =some x)(hM:MJ s.length v n<f)(hok:okV v)(hra:RA w B v o)(hsz:szJ v<=1100000):
  CP 66 #[.pointer (some (adr (av n))),ifcV o] w fun e w'=>∃ o,e=.returned (ifcV o)/\EF w w'/\(o=none↔(w_2 2020 s f (n:Int) v).1=true)/\(o≠none->∃ q,o=some (169,.pointer q)/\VErr w.heap.size w' q):=by
 have hn:n<=s.length:=by have:=(List.getElem?_eq_some_iff.1 hx).1;omega
 have hlen:=y_l v;generalize hlo:w.heap.size=lo;refine y_s (some (adr (av n))) o w _ fun K3 hK3=>?_;have leaf:∀ (W:World) (g p u b:Nat),Rdy s av B lo w W x (av n) v o (some g) (some p) (some u) (some b)->
   ((∃ (cs:Array Value) (T:TypeId),objAt W (adr b).block=some (.cells cs T (0,0))/\(adr b).spot=none/\(adr b).off+7<=cs.size/\false=false)/\True/\(let wv:=(((((((W.setCell (adr b) (ifcV o)).setCell ((adr b).add 1) (.slice (some (adr g)) 0 8)).setCell ((adr b).add 2) (.pointer (some (adr (av n))))).setCell ((adr b).add 3) (.pointer (some (adr p)))).setCell ((adr b).add 4) (.pointer (some (adr u)))).setCell ((adr b).add 5) (.slice none 0 0)).setCell ((adr b).add 6) (.bool false));True/\K3 (some (adr b)) wv)):=by
  intro W g p u b rd;obtain ⟨hsb,hg⟩:=rd.sl g rfl;have hp:=rd.sc p rfl;obtain ⟨hu,hul⟩:=rd.ub u rfl;obtain ⟨hb,hbl⟩:=rd.vb b rfl;refine ⟨⟨_,_,hb,rfl,by simp,rfl⟩,trivial,trivial,?_⟩;have x7:=A_x (w:=W) (b:=b) (ifcV o) (.slice (some (adr g)) 0 8) (.pointer (some (adr (av n)))) (.pointer (some (adr p))) (.pointer (some (adr u))) (.slice none 0 0) (.bool false);have v7:=set7 hb (ifcV o) (.slice (some (adr g)) 0 8) (.pointer (some (adr (av n)))) (.pointer (some (adr p))) (.pointer (some (adr u))) (.slice none 0 0) (.bool false);have y7:=(rd.x0.mono fun _ _ e=>e.elim).trans x7 (X:=fun k=>False) fun k hk e=>by omega
  generalize (((((((W.setCell (adr b) (ifcV o)).setCell ((adr b).add 1) (.slice (some (adr g)) 0 8)).setCell ((adr b).add 2) (.pointer (some (adr (av n))))).setCell ((adr b).add 3) (.pointer (some (adr p)))).setCell ((adr b).add 4) (.pointer (some (adr u)))).setCell ((adr b).add 5) (.slice none 0 0)).setCell ((adr b).add 6) (.bool false))=W7 at x7 v7 y7 ⊢;have sch7:=hsch.ext y7 fun k e=>e.elim;obtain ⟨cs,hcs,hsc⟩:=sch7.ok (n-1) x hx;rw [Nat.sub_add_cancel h1] at hcs;have hne:∀ {k:Nat} {cs:Array Value} {T:TypeId} {fr:Nat × Nat},objAt W k=some (.cells cs T fr)->T≠166->k≠b:=fun h h'=>x_u h hb h';have hu7:UN lo W7 u v (T0 (eff x) v false):=by
   obtain ⟨pm,im,hub,-⟩:=id hu;exact hu.ext x7 (hne hub (by decide)) fun k es cl _ hm=>z_e hm hb
  have hsb7:SB W7 g 8:=by
   obtain ⟨cur,hc,-⟩:=id hsb;exact hsb.ext x7 (hne hc (by decide))
  refine hK3 _ _ ((IH n x v W7 lo b ⟨o,g,0,8,av n,p,u,false⟩ false 0 0 hM h1 hx hok (by show 0+szJ v<=_;omega) (by omega) (by have:=y7.size;omega) sch7 (hra.ext y7 fun k e=>e.elim) rfl v7 hbl ⟨hsb7,Nat.zero_le _,by simp only [maxLen];omega,Nat.zero_le _,cs,_,hsc.f4.choose,hcs,hsc.f4.choose_spec⟩ (.top (x7.old _ _ (hne hp (by decide)) hp) h1 hn) hu7 hul (by show B<=g;omega)).mono ?_);rintro _ w7 ⟨q,o9,rfl,x9,-, h3,-, h5⟩;have z9:EF w w7:=(y7.mono fun _ _ e=>e).trans x9 fun k hk e=>by
   rcases e with e|e
   ·omega
   ·have e:k=g:=e;omega
  refine ⟨q,o9,rfl,trivial,fun hne=>?_,fun hno=>?_⟩
  ·have hone:o9≠none:=fun e=>by rw [e] at hne;cases hne
   obtain ⟨q10,rfl,hve⟩:=h5 hone;obtain ⟨b10,s10,a1,l1,c1,o28,a2,l2,c2,rfl,hb10,hgr,ho10⟩:=hve;refine ⟨_,rfl,fun K11 hK11=>?_⟩;have sch9:=hsch.ext z9 fun k e=>e.elim;obtain ⟨cs9,hcs9,hsc9⟩:=sch9.ok (n-1) x hx;rw [Nat.sub_add_cancel h1] at hcs9;obtain ⟨t9,ht9⟩:=hsc9.f4;have k11:∀ (ca:OA) (cl cc:Nat) (w13:World),EF w7 w13->K11 ca cl cc w13:=by
    intro ca cl cc w13 x13;refine hK11 ca cl cc w13 ?_;rintro w14 rfl;have x14:=x13.drew;have hcs14:=x14.old _ _ id hcs9;have x19:EF w13.drew (w13.drew.alloc (.cells #[.string t9] 178)):=(Ext.refl _).alloc _;refine ⟨_,rfl,t9,cat hcs14 ht9,_,rfl,t9,cat hcs14 ht9,trivial,trivial,⟨by rw [cat (x19.old _ _ id hcs14) ht9,cat hcs14 ht9],trivial⟩,trivial,trivial,trivial,trivial,_,rfl,?_,⟨fun h=>(by cases h),fun h=>?_⟩,fun _=>⟨_,rfl,_,t9,none,0,0,_,ca,cl,cc,rfl,?_,GrpOK.ptr,w_3 _ _⟩⟩
    ·exact ((z9.then x14).then x19).alloc _
    ·exact absurd (h3.2 h) nofun
    ·have:=((z9.then x14).then x19).size;refine lt_ ?_ this;omega
   have k21:∀ (K21:Bool->World->Prop),(∀ (ok22:Bool) (wv23:World),((ok22=true->∃ p24,some (adr b10)=some p24/\∃ a25 a25l a25c,wv23.cell? (p24.add 3)=some (.slice a25 a25l a25c)/\K11 a25 a25l a25c wv23)/\(ok22=false->True/\(let wv26:=wv23.alloc (.cells #[.pointer (some (adr b10))] 169);K11 (some (adr wv23.heap.size)) 1 1 wv26)))->K21 ok22 wv23)->∀ ok,K21 ok w7:=fun K21 hK21 ok=>hK21 ok w7 ⟨fun _=>⟨_,rfl,_,_,_,cat ho10 rfl,k11 _ _ _ _ (Ext.refl _)⟩,fun _=>⟨trivial,k11 _ _ _ _ ((Ext.refl _).alloc _)⟩⟩;intro K21 hK21;refine ⟨_,rfl,o28,cat ho10 rfl,fun u29 hu=>?_,fun _=>k21 K21 hK21 false⟩;obtain ⟨q31,rfl⟩:=hgr u29 hu;exact ⟨q31,rfl,k21 K21 hK21 true⟩
  ·have hone:o9=none:=by simpa using hno
   subst hone;exact ⟨none,rfl,z9,h3,fun h=>absurd rfl h⟩
 have stepU:∀ (W:World) (sl sc vb:Option Nat),Rdy s av B lo w W x (av n) v o sl sc none vb->∀ {R:OA->World->Prop},(∀ u w',Rdy s av B lo w w' x (av n) v o sl sc (some u) vb->R (some (adr u)) w')->CP 100 #[ifcV o,.pointer (some (adr (av n))),.bool false] W fun e w'=>∃ q,e=.returned (.pointer q)/\R q w':=by
  intro W sl sc vb rd R hR;have schW:=hsch.ext rd.x0 fun k e=>e.elim;obtain ⟨cs,hcs,hsc⟩:=schW.ok (n-1) x hx;rw [Nat.sub_add_cancel h1] at hcs;have hsW:=rd.x0.size;refine (y_d hok.ok (hra.ext rd.x0 fun k e=>e.elim) (by omega) (by omega:lo<=W.heap.size) hcs hsc.f0 hsc.f1 hsc.f2 hsc.f30 hsc.f41 (by omega) false).mono ?_;rintro _ w' ⟨rfl,hun,hx'⟩;have rd':=rd.ext hx';exact ⟨_,rfl,hR _ _ ⟨rd'.x0,rd'.sl,rd'.sc,fun u e=>by cases e;exact ⟨hun,by omega⟩,rd'.vb⟩⟩
 rintro w32 rfl;have rd0:Rdy s av B lo w w.drew x (av n) v o none none none none:=⟨(Ext.refl w).drew,nofun,nofun,nofun,nofun⟩;refine ⟨trivial,?_⟩
 repeat' first
  | (intro wv;have rd:Rdy s av B lo w wv x (av n) v o _ _ _ _:=Rdy.P (by assumption);clear_value wv)
  | (intro wv;have rd:Rdy s av B lo w wv x (av n) v o _ _ _ _:=Rdy.V hlo.symm (by assumption);clear_value wv)
  | (refine ⟨trivial,?_⟩)
  | (refine (stepU _ _ _ _ (by assumption) (fun u w' rd=>?_)))
  | (refine Rdy.stepS hlo.symm (by assumption) (fun g w' rd=>?_))
  | (refine leaf _ _ _ _ _ (by assumption))
  | (refine ⟨?_,?_⟩)
theorem B_O {base:Nat}{w:World}{a:OA}{l c:Nat}{xs:List Value}(hown:Own base w 9 1 a l c xs)(hb:base<=w.heap.size)(h2:l<=7000000000000)(t:BA):
  ∃ (p:Addr) (C:Nat) (w':World),(Go.builtin .append #[24,24] 24 #[false,false] #[.slice a l c,.slice (some (adr w.heap.size)) 1 1]).run Tryz.prog (w.alloc (.cells #[.string t] 9))=.ok (.value (.slice (some p) (l+1) C)) w'/\Own base w' 9 1 (some p) (l+1) C (xs++[.string t])/\Ext (blkOf a) w w':=by
 have ht:Tryz.prog.underlying 24=some (.slice 9):=by kernel_rfl
 have hi:Tryz.prog.info? 9=some Tryz.t9:=by kernel_rfl
 have x1:EF w (w.alloc (.cells #[.string t] 9)):=(Ext.refl w).alloc _;obtain ⟨A,C,w',r,hO',xA,-⟩:=x_t (t:=24) (T:=9) ht hi (z:=.string ⟨#[]⟩) (by kernel_rfl) (by kernel_rfl) (by
   have:Tryz.t9.bytes=16:=by kernel_rfl
   omega) rfl (hown.keep x1 fun _ _=>id) (by simp;omega) (p:=adr w.heap.size) (u:=.string t) (cat0 (w_3 _ _) rfl) rfl (by omega) 24 #[false,false]
 obtain ⟨p,hp,-⟩:=hO'.at (j:=l) (u:=.string t) (by
  have:=hown.len.1;rw [List.getElem?_append_right (by omega)];simp [this])
 subst hp;exact ⟨p,C,w',r,hO',(x1.mono fun _ _ e=>e.elim).trans xA fun _ _ e=>e⟩
theorem E_c (a:OA)(l c:Nat)(w:World):(binOp .neq 24 (.slice a l c) (.slice none 0 0)).run Tryz.prog w=.ok (.bool (!a.isNone)) w:=by
 have ht:Tryz.prog.underlying 24=some (.slice 9):=by kernel_rfl
 have he:∀ k:Nat,(Op.equalIn (k+1) 24 (.slice a l c) (.slice none 0 0)).run Tryz.prog w=.ok a.isNone w:=fun k=>by cases a<;>simp [Op.equalIn,a_l ht]
 simp only [binOp];simp [Op.equal,Op.maxDepth,he 9999]
theorem A_e {w:World}{B vb:Nat}{d:VdC}{a0:OA}{l0 c0:Nat}(hv:VBlk w vb d a0 l0 c0){v:JV}{b:Nat}{S:Value->Value->Prop}(hO:RObj w B v b S){a:OA}{l c:Nat}{names:List BA}(hr:RSl w B RStr a l c names)(hl:l<=1100000):
  CP 153 #[.pointer (some (adr vb)),.map (some b),.slice a l c] w fun e w'=>∃ a' l' c',e=.returned (.slice a' l' c')/\EF w w'/\a'.isNone=there v names:=by
 have u3:Tryz.prog.underlying 110=some (.map 9 20):=by kernel_rfl
 have k1:Tryz.prog.underlying 9=some .string:=by kernel_rfl
 have hi3:Tryz.prog.info? 20=some Tryz.t20:=by kernel_rfl
 have hz3:Tryz.t20.zero=some .nilIface:=by kernel_rfl
 have hlx:l=names.length:=hr.1;refine x_N (some (adr vb)) (some b) a l c w _ ⟨fun ma ml mc i w1=>0<=i/\i<=l/\EF w w1/\(∃ xs,Own w.heap.size w1 9 1 ma ml mc xs)/\(ml:Int)<=i/\ma.isNone=(names.take i.toNat).all fun s=>(memb v.ns s).isSome,fun _ _ _ i _=>((l:Int)-i).toNat,⟨by omega,by omega,Ext.refl w,⟨_,Own.nil ..⟩,by omega,by simp⟩,?_⟩;rintro ma ml mc i w8 ⟨i0,i1,x8,⟨xs,hown⟩,hml,hall⟩;refine ⟨fun hlt K9 hK9=>?_,fun hge=>⟨ma,ml,mc,rfl,x8,?_⟩⟩
 ·have hlt:=odt hlt;obtain ⟨p,t,u,hp,ht,-, hcm,rfl⟩:=(hr.ext x8 fun k e=>e.elim).get i0 hlt;have hO8:=hO.ext x8 fun _ e=>e.elim;have htk:=take_succ i0 ht;obtain ⟨ov,g,hrun,hg⟩:=x_l (P:=Tryz.prog) (lo:=0) (q:=some b) (u:=.string t) u3 k1 hi3 hz3 trivial ⟨Nat.zero_le _,hO8.2.1⟩;have hif:∃ o26,ov=ifcV o26:=by
   rcases hg with ⟨-, hg⟩|⟨-, hg,-⟩
   ·obtain ⟨_,_,_,o26,_,_,_,h,_⟩:=hO8.2.2.1 _ _ hg;exact ⟨o26,h⟩
   ·exact ⟨none,hg⟩
  obtain ⟨o26,rfl⟩:=hif;have hgm:(memb v.ns t).isSome=g:=by
   cases hm:memb v.ns t with
   | none=>
    rcases hg with ⟨hg,h⟩|⟨hg,-⟩
    ·obtain ⟨s',j,y,o',e1,e2,-⟩:=hO8.2.2.1 _ _ h;cases e1;rw [hm] at e2;cases e2
    ·rw [hg];rfl
   | some j=>
    rcases hg with ⟨hg,h⟩|⟨-, -, h⟩
    ·rw [hg];rfl
    ·obtain ⟨z,hz⟩:=hO8.2.2.2 t j hm;exact absurd hz (h z)
  have hv8:VBlk w8 vb d a0 l0 c0:=x8.old _ _ id hv;refine ⟨p,hp,⟨i0,hlt⟩,t,hcm,o26,g,hrun true,fun hng=>⟨_,rfl,_,cat hv8 rfl,fun _=>?_,fun _=>?_⟩,fun hgg=>hK9 _ _ _ _ ?_⟩
  ·have hng:g=false:=by simpa using hng
   refine ⟨_,_,_,rfl,x8.alloc _,?_⟩;rw [hng] at hgm;show false=_;symm;exact List.all_eq_false.2 ⟨t,mg_ ht,by rw [hgm];decide⟩
  ·have hng:g=false:=by simpa using hng
   obtain ⟨p',C,w',r,hO',xA⟩:=B_O hown x8.size (by omega) t;have x9:EF w w':=x8.trans xA fun k hk e=>by
    have:=hown.base k e;omega
   refine ⟨trivial,some p',ml+1,C,w',r,trivial,hK9 _ _ _ _ ?_⟩;rw [a_a i0 (by omega)];refine ⟨⟨by omega,by omega,x9,⟨_,hO'⟩,by omega,?_⟩,by dsimp only;omega⟩;show false=_;rw [htk,List.all_append];simp [hgm,hng]
  ·have hgg:g=true:=by simpa using hgg
   rw [a_a i0 (by omega)];refine ⟨⟨by omega,by omega,x8,⟨xs,hown⟩,by omega,?_⟩,by dsimp only;omega⟩;rw [hall,htk,List.all_append];simp [hgm,hgg]
 ·have hge:i=l:=by have:=odf hge;omega
  subst hge;rw [hall,there,tl_ (by omega)]
theorem VSt.miss {s:List JN}{av:Nat->Nat}{B lo:Nat}{vb:Nat}{d:VdC}{n:Nat}{vid:Int}{k:Nat}{v:JV}{w:World}{E:Bool}{cnt:Nat}{T:Nat->Prop}(st:VSt s av B lo vb d n vid k v w E cnt T)(hcnt:cnt<=8000000000000){b:Nat}{S:Value->Value->Prop}(hO:RObj w B v b S){a:OA}{l c:Nat}{names:List BA}(hr:RSl w B RStr a l c names)(hl:l<=1100000){T1 T2:TypeId}{V:OA->Nat->Nat->Array Value}{ox oy:Operand}{K:World->Prop}
  (hK:∀ w1,VSt s av B lo vb d n vid k v w1 (E&&there v names) (cnt+1) T->FR2 lo d.g w w1->Ext (XE lo vb w) w w1->K w1):
  CP 153 #[.pointer (some (adr vb)),.map (some b),.slice a l c] w fun e w2=>∃ a2 l2 c2,e=.returned (.slice a2 l2 c2)/\True/\∃ z:Bool,(eqGuard .neq 24 ox oy (.slice a2 l2 c2) (.slice none 0 0)).run Tryz.prog w2=.ok () w2/\(binOp .neq 24 (.slice a2 l2 c2) (.slice none 0 0)).run Tryz.prog w2=.ok (.bool z) w2/\
   ((z=true->True/\True/\(let w3:=w2.alloc (.cells (V a2 l2 c2) T2);CP 152 #[.pointer (some (adr vb)),ifcV (some (T1,.pointer (some (adr w2.heap.size))))] w3 fun e w4=>e=.returned (.tuple #[])/\True/\K w4))/\(z=false->K w2)):=by
 obtain ⟨a0,l0,c0,hv⟩:=st.blk;refine (A_e hv hO hr hl).mono ?_;rintro _ w2 ⟨a2,l2,c2,rfl,x2,hn⟩;have st2:=st.ext0 x2;have xe:∀ {w4},Ext (XE lo vb (w2.alloc (.cells (V a2 l2 c2) T2))) (w2.alloc (.cells (V a2 l2 c2) T2)) w4->Ext (XE lo vb w) w w4:=fun {w4} x4=>by
  have xx:EF w (w2.alloc (.cells (V a2 l2 c2) T2)):=x2.alloc _;refine ((xx.mono fun _ _ e=>e.elim:Ext (XE lo vb w) w _)).trans x4 fun k hk hx=>?_;rcases hx with hx|⟨h1,cs',fr,h2⟩
  ·exact .inl hx
  ·refine .inr ⟨h1,?_⟩;have hk2:objAt w k=some (w.heap[k]):=Array.getElem?_eq_getElem hk;have:=xx.old k _ id hk2;rw [h2] at this;exact ⟨cs',fr,hk2.trans this.symm⟩
 refine ⟨a2,l2,c2,rfl,trivial,_,i_n nofun nofun,E_c _ _ _ _,fun hz=>⟨trivial,trivial,?_⟩,fun hz=>hK w2 ?_ (FR2.of x2) (x2.mono fun _ _ e=>e.elim)⟩
 ·have hf:there v names=false:=by rw [<- hn];simpa using hz
  refine ((st2.ext0 ((Ext.refl w2).alloc _)).addError hcnt _).mono ?_;rintro _ w4 ⟨rfl,st4,fr4,x4⟩;refine ⟨rfl,trivial,hK w4 ?_ ((FR2.of (x2.alloc _)).trans fr4) (xe x4)⟩;rw [hf,Bool.and_false];exact st4
 ·have hf:there v names=true:=by rw [<- hn];simpa using hz
  rw [hf,Bool.and_true];exact st2.more (Nat.le_succ _)
end Go.VC
namespace Go.VC
open Go Go.Proofs
set_option maxRecDepth 100000
theorem A_r (a:OA)(b c:Nat)(d:Int)(e:Bool)(f:Int)(g:BA)(i:OA)(j k:Nat)(l:OA)(m n:Nat)(w:World)(R:EW)(h:
 True/\(let o:=w.alloc (.cells #[.int .i64 d,.bool e,.int .i64 f,.string g,.slice i j k,.slice l m n] 27);
 Cb 33 #[.int .i64 2020,.slice a b c,(.agg #[.int .i64 d,.bool e,.int .i64 f,.string g,.slice i j k,.slice l m n])] o (fun p q=>(KeepT 27 o q/\True)/\R (.returned (.bool p)) q))):CP 15 #[.slice a b c,(.agg #[.int .i64 d,.bool e,.int .i64 f,.string g,.slice i j k,.slice l m n])] w R:=
 vcq Tryz.func15 [3] [] [.l (.slice a b c),.agg [.int .i64 d,.bool e,.int .i64 f,.str g,.slice i j k,.slice l m n]] h
theorem y_J (a:Int)(b:OA)(c d:Nat)(e:Int)(f:Bool)(g:Int)(i:BA)(j:OA)(k l:Nat)(m:OA)(n o:Nat)(w:World)(R:EW)(h:
 True/\(let p:=w.alloc (.cells #[.int .i64 e,.bool f,.int .i64 g,.string i,.slice j k l,.slice m n o] 27);
 Cp 41 #[.slice b c d,.int .i64 a] p (fun q r=>(KeepT 27 p r/\True)/\∀ s:Bool->World->Prop,(∀ t:Bool,∀ u:World,
 (R (.returned (.bool t)) u)->
 s t u)->
 (Br (!q.isNone) (CP 43 #[(.agg #[.int .i64 e,.bool f,.int .i64 g,.string i,.slice j k l,.slice m n o])] r (fun v x=>∃ y:Option (TypeId × Value),v=.returned (ifcV y)/\(KeepT 27 r x/\True)/\CP 42 #[.pointer q,(ifcV y)] x (fun z A=>∃ B:Option (TypeId × Value),z=.returned (ifcV B)/\(KeepT 27 x A/\True)/\s B.isNone A))) (s false r))))):CP 33 #[.int .i64 a,.slice b c d,(.agg #[.int .i64 e,.bool f,.int .i64 g,.string i,.slice j k l,.slice m n o])] w R:=
 vcq Tryz.func33 [5] [(4,⟨[(6,.bool)],[]⟩)] [.l (.int .i64 a),.l (.slice b c d),.agg [.int .i64 e,.bool f,.int .i64 g,.str i,.slice j k l,.slice m n o]] h
theorem z_z (a:OA)(b c:Nat)(d:Int)(w:World)(R:EW)(h:
 ∃ (e:OA->Nat->Nat->Int->World->Prop) (f:OA->Nat->Nat->Int->World->Nat),e none 0 0 0 w/\
 (∀ (g:OA) (i j:Nat),∀ k:Int,∀ l:World,e g i j k l->
 (Br (decide (k<(b:Int))) (True/\True/\(let m:=l.alloc (.cells #[.bool false,.bool false,.int .i64 0,.int .i64 0,(.string (⟨#[]⟩:BA)),.pointer none,(.string (⟨#[]⟩:BA)),.pointer none,(.string (⟨#[]⟩:BA)),.pointer none,.pointer none,.pointer none,.pointer none,.slice none 0 0,.slice none 0 0,.slice none 0 0,.pointer none,.pointer none,.pointer none,.pointer none,.pointer none,.pointer none,.slice none 0 0,.pointer none,.map none,.map none,.nilIface,.map none,.map none,.map none,.pointer none,.pointer none,.pointer none,.bool false,.pointer none,.pointer none,.pointer none,.nilIface,.nilIface,.slice none 0 0,.pointer none,.pointer none,.pointer none,.pointer none,.nilIface,(.string (⟨#[]⟩:BA)),(.string (⟨#[]⟩:BA)),.pointer none,(.string (⟨#[]⟩:BA)),.bool false,.bool false,.slice none 0 0,.bool false] 116);
 True/\(let n:=m.alloc (.cells #[(.pointer (some (adr l.heap.size)))] 72);
 Ap 102 (.slice g i j) (.slice (some (adr m.heap.size)) 1 1) n fun o p q r=>True/\(e o p q (wr (k+1)) r/\f o p q (wr (k+1)) r<f g i j k l)))) (∃ (s:Int->World->Prop) (t:Int->World->Nat),s 0 l/\
 (∀ u:Int,∀ v:World,s u v->
 (Br (decide (u<(b:Int))) (Ix a u b fun x=>L_iillliiiilbllbibiblblbibibibibliiibibillllliiiiibliil v (x.add (u.toNat*53)) fun y z A B C D E F G H I J K L M N O P Q S U V W X Y Z aa ab ac ad ae af ag ah ai aj ak al am an ao ap aq ar au av ax ay az aA aB aC aD aE aF aG aH aI aJ aK aL aM aN aO aP aQ aS aU aV aW aX aY aZ ba bb bc bd be bf bg bh bi bj bk bl=>True/\True/\(let bn:=v.alloc (.cells #[.int .i64 y,.int .i64 z,.slice A B C,.slice D E F,.slice G H I,.int .i64 J,.int .i64 K,.int .i64 L,.int .i64 M,.slice N O P,.bool Q,.slice S U V,.slice W X Y,.bool Z,.int .i64 aa,.bool ab,.int .i64 ac,.bool ad,.slice ae af ag,.bool ah,.slice ai aj ak,.bool al,.int .i64 am,.bool an,.int .i64 ao,.bool ap,.int .i64 aq,.bool ar,.int .i64 au,.bool av,.slice ax ay az,.int .i64 aA,.int .i64 aB,.int .i64 aC,.bool aD,.int .i64 aE,.bool aF,.int .i64 aG,.slice aH aI aJ,.slice aK aL aM,.slice aN aO aP,.slice aQ aS aU,.slice aV aW aX,.int .i64 aY,.int .i64 aZ,.int .i64 ba,.int .i64 bb,.int .i64 bc,.bool bd,.slice be bf bg,.int .i64 bh,.int .i64 bi,.slice bj bk bl] 44);
 ∀ bo,bo=bn.drew->Ix g u i fun bp=>Lp bo (bp.add (u.toNat*1)) fun bq=>C0 62 #[.slice g i j,.pointer bq,(.agg #[.int .i64 y,.int .i64 z,.slice A B C,.slice D E F,.slice G H I,.int .i64 J,.int .i64 K,.int .i64 L,.int .i64 M,.slice N O P,.bool Q,.slice S U V,.slice W X Y,.bool Z,.int .i64 aa,.bool ab,.int .i64 ac,.bool ad,.slice ae af ag,.bool ah,.slice ai aj ak,.bool al,.int .i64 am,.bool an,.int .i64 ao,.bool ap,.int .i64 aq,.bool ar,.int .i64 au,.bool av,.slice ax ay az,.int .i64 aA,.int .i64 aB,.int .i64 aC,.bool aD,.int .i64 aE,.bool aF,.int .i64 aG,.slice aH aI aJ,.slice aK aL aM,.slice aN aO aP,.slice aQ aS aU,.slice aV aW aX,.int .i64 aY,.int .i64 aZ,.int .i64 ba,.int .i64 bb,.int .i64 bc,.bool bd,.slice be bf bg,.int .i64 bh,.int .i64 bi,.slice bj bk bl]),(.int .i64 (wr (u+1))),.int .i64 d] bo (fun br=>(KeepT 44 bo br/\True)/\True/\∀ bs,bs=br.drew->Ix g u i fun bt=>Lp bs (bt.add (u.toNat*1)) fun bu=>Cs 63 #[(.int .i64 (wr (u+1)))] bs (fun bv bx=>(KeepT 44 bs bx/\True)/\((bx.cell? (bt.add (u.toNat*1))=bs.cell? (bt.add (u.toNat*1)))/\True)/\Pt bu fun bz=>Off bx (bz.add 4) 1 [44]/\True/\(let bA:=(bx.setCell (bz.add 4) (.string bv));
 True/\Ix g u i fun bB=>Lp bA (bB.add (u.toNat*1)) fun bC=>C0 64 #[.pointer bC] bA (fun bD=>(KeepT 44 bA bD/\True)/\(s (wr (u+1)) bD/\t (wr (u+1)) bD<t u v))))))) (Cp 65 #[.slice g i j,.int .i64 1,.int .i64 0] v (fun bE bF=>True/\R (.returned (.pointer bE)) bF)))))))):CP 41 #[.slice a b c,.int .i64 d] w R:=
 vcq Tryz.func41 [7] [(8,⟨[(5,.slice),(10,.int .i64)],[]⟩),(23,⟨[(20,.int .i64)],[]⟩)] [.l (.slice a b c),.l (.int .i64 d)] h
theorem z_C (a:Int)(b:Bool)(c:Int)(d:BA)(e:OA)(f g:Nat)(i:OA)(j k:Nat)(w:World)(R:EW)(h:
 True/\(let l:=w.alloc (.cells #[.int .i64 a,.bool b,.int .i64 c,.string d,.slice e f g,.slice i j k] 27);
 (Br (a==1) (R (.returned (ifcV (some (4,(.bool b))))) l) ((Br (a==2) (R (.returned (ifcV (some (3,(.int .i64 c))))) l) ((Br (a==3) (R (.returned (ifcV (some (9,(.string d))))) l) ((Br (a==4) (Cl 67 #[.slice i j k] l (fun m n o p=>(KeepT 27 l p/\True)/\R (.returned (ifcV (some (114,(.slice m n o))))) p)) ((Br (a==5) (let q:=l.alloc (.map #[] 0);
 ∃ (r:Int->World->Prop) (s:Int->World->Nat),r 0 q/\
 (∀ t:Int,∀ u:World,r t u->
 (Br (decide (t<(j:Int))) (∀ v:World->Prop,(∀ x:World,
 ((r (wr (t+1)) x/\s (wr (t+1)) x<s t u))->
 v x)->
 Ix i t j fun y=>L_ibisll u (y.add (t.toNat*6)) fun z A B C D E F G H I=>True/\True/\(let K:=u.alloc (.cells #[.int .i64 z,.bool A,.int .i64 B,.string C,.slice D E F,.slice G H I] 27);
 (Br (decide (t<(f:Int))) (∀ L,L=K.drew->Ix e t f fun M=>Ls L (M.add (t.toNat*1)) fun N=>CP 43 #[(.agg #[.int .i64 z,.bool A,.int .i64 B,.string C,.slice D E F,.slice G H I])] L (fun O P=>∃ Q:Option (TypeId × Value),O=.returned (ifcV Q)/\(KeepT 27 L P/\True)/\((P.cell? (M.add (t.toNat*1))=L.cell? (M.add (t.toNat*1)))/\(0=0)/\True)/\∃ S,(Instr.mapUpdate 110 (.map (some l.heap.size)) (.string N) (ifcV Q)).run Tryz.prog P=.ok () S/\(KeepT 27 P S/\True)/\True/\v S)) (v K)))) (R (.returned (ifcV (some (110,(.map (some l.heap.size)))))) u)))) (R (.returned .nilIface) l)))))))))))):CP 43 #[(.agg #[.int .i64 a,.bool b,.int .i64 c,.string d,.slice e f g,.slice i j k])] w R:=
 vcq Tryz.func43 [1,5] [(39,⟨[(35,.int .i64)],[]⟩),(46,⟨[],[]⟩)] [.agg [.int .i64 a,.bool b,.int .i64 c,.str d,.slice e f g,.slice i j k]] h
theorem y_6 (a:OA)(b c:Nat)(w:World)(R:EW)(h:
 (let d:=w.alloc (.cells #[] 20);
 ∃ (e:OA->Nat->Nat->Int->World->Prop) (f:OA->Nat->Nat->Int->World->Nat),e (some (adr w.heap.size)) 0 0 0 d/\
 (∀ (g:OA) (i j:Nat),∀ k:Int,∀ l:World,e g i j k l->
 (Br (decide (k<(b:Int))) (Ix a k b fun m=>L_ibisll l (m.add (k.toNat*6)) fun n o p q r s t u v x=>True/\True/\(let z:=l.alloc (.cells #[.int .i64 n,.bool o,.int .i64 p,.string q,.slice r s t,.slice u v x] 27);
 CP 43 #[(.agg #[.int .i64 n,.bool o,.int .i64 p,.string q,.slice r s t,.slice u v x])] z (fun A B=>∃ C:Option (TypeId × Value),A=.returned (ifcV C)/\(KeepT 27 z B/\True)/\True/\(let D:=B.alloc (.cells #[(ifcV C)] 20);
 Ap 114 (.slice g i j) (.slice (some (adr B.heap.size)) 1 1) D fun E F G H=>(KeepT 27 D H/\True)/\(e E F G (wr (k+1)) H/\f E F G (wr (k+1)) H<f g i j k l))))) (R (.returned (.slice g i j)) l))))):CP 67 #[.slice a b c] w R:=
 vcq Tryz.func67 [5] [(8,⟨[(3,.slice),(9,.int .i64)],[]⟩)] [.l (.slice a b c)] h
theorem z_B (a:OA)(b c:Nat)(d:Int)(e:Int)(w:World)(R:EW)(h:
 ∀ f:Bool->World->Prop,(∀ g:Bool,∀ i:World,
 ((Br g (R (.returned (.pointer none)) i) (Ix a (wr (d-1)) b fun j=>Lp i (j.add ((wr (d-1)).toNat*1)) fun k=>R (.returned (.pointer k)) i)))->
 f g i)->
 (Nr (decide (d<=e)) (f (decide (d>(b:Int))) w) (f true w))):CP 65 #[.slice a b c,.int .i64 d,.int .i64 e] w R:=
 vcq Tryz.func65 [] [(3,⟨[(15,.bool)],[]⟩)] [.l (.slice a b c),.l (.int .i64 d),.l (.int .i64 e)] h
theorem y_4 (a:OA)(b c:Nat)(d:OA)(e f:Nat)(g:Int)(w:World)(R:EW)(h:
 ∃ (i:OA->Nat->Nat->Int->World->Prop) (j:OA->Nat->Nat->Int->World->Nat),i none 0 0 0 w/\
 (∀ (k:OA) (l m:Nat),∀ n:Int,∀ o:World,i k l m n o->
 (Br (decide (n<(e:Int))) (∀ p:OA->Nat->Nat->World->Prop,(∀ (q:OA) (r s:Nat),∀ t:World,
 ((i q r s (wr (n+1)) t/\j q r s (wr (n+1)) t<j k l m n o))->
 p q r s t)->
 Ix d n e fun u=>Li o (u.add (n.toNat*1)) fun v=>Cp 65 #[.slice a b c,.int .i64 v,.int .i64 g] o (fun x y=>True/\(Br (!x.isNone) (True/\(let z:=y.alloc (.cells #[.pointer x] 72);
 Ap 101 (.slice k l m) (.slice (some (adr y.heap.size)) 1 1) z fun A B C D=>True/\p A B C D)) (p k l m y)))) (R (.returned (.slice k l m)) o)))):CP 90 #[.slice a b c,.slice d e f,.int .i64 g] w R:=
 vcq Tryz.func90 [] [(8,⟨[(7,.slice),(13,.int .i64)],[]⟩),(15,⟨[(7,.slice)],[]⟩)] [.l (.slice a b c),.l (.slice d e f),.l (.int .i64 g)] h
theorem y_L (a:OA)(b c:Nat)(d:OA)(e f:Nat)(g:Int)(w:World)(R:EW)(h:
 let i:=w.alloc (.map #[] 0);
 ∃ (j:Int->World->Prop) (k:Int->World->Nat),j 0 i/\
 (∀ l:Int,∀ m:World,j l m->
 (Br (decide (l<(e:Int))) (∀ n:World->Prop,(∀ o:World,
 ((j (wr (l+1)) o/\k (wr (l+1)) o<k l m))->
 n o)->
 Ix d l e fun p=>L_si m (p.add (l.toNat*2)) fun q r=>True/\True/\(let t:=m.alloc (.cells #[.string q,.int .i64 r] 90);
 Cp 65 #[.slice a b c,.int .i64 r,.int .i64 g] t (fun u v=>(KeepT 90 t v/\True)/\(Br (!u.isNone) (∃ x,(Instr.mapUpdate 108 (.map (some w.heap.size)) (.string q) (.pointer u)).run Tryz.prog v=.ok () x/\(KeepT 90 v x/\True)/\n x) (n v))))) (R (.returned (.map (some w.heap.size))) m)))):CP 96 #[.slice a b c,.slice d e f,.int .i64 g] w R:=
 vcq Tryz.func96 [9] [(8,⟨[(14,.int .i64)],[]⟩),(15,⟨[],[]⟩)] [.l (.slice a b c),.l (.slice d e f),.l (.int .i64 g)] h
theorem y_W (a:OA)(b c:Nat)(d:Int)(e:Int)(w:World)(R:EW)(h:
 True/\(let f:=w.alloc (.cells #[.int .i64 d,.int .i64 e] 41);
 ∀ g:World->Prop,(∀ i:World,
 (R (.returned .nilIface) i)->
 g i)->
 (Br (d==1) (R (.returned (ifcV (some (4,(.bool true))))) f) ((Br (d==2) (R (.returned (ifcV (some (4,(.bool false))))) f) ((Br (d==3) (Cp 65 #[.slice a b c,.int .i64 e,.int .i64 0] f (fun j k=>(KeepT 41 f k/\True)/\(Br (!j.isNone) (R (.returned (ifcV (some (72,(.pointer j))))) k) (g k)))) (g f)))))))):CP 97 #[.slice a b c,(.agg #[.int .i64 d,.int .i64 e])] w R:=
 vcq Tryz.func97 [3] [(2,⟨[],[]⟩)] [.l (.slice a b c),.agg [.int .i64 d,.int .i64 e]] h
theorem y_K (a:OA)(b c:Nat)(d:OA)(e:Int)(f:Int)(g:OA)(i j:Nat)(k:OA)(l m:Nat)(n:OA)(o p:Nat)(q:Int)(r:Int)(s:Int)(t:Int)(u:OA)(v x:Nat)(y:Bool)(z:OA)(A B:Nat)(C:OA)(D E:Nat)(F:Bool)(G:Int)(H:Bool)(I:Int)(J:Bool)(K:OA)(L M:Nat)(N:Bool)(O:OA)(P Q:Nat)(S:Bool)(U:Int)(V:Bool)(W:Int)(X:Bool)(Y:Int)(Z:Bool)(aa:Int)(ab:Bool)(ac:OA)(ad ae:Nat)(af:Int)(ag:Int)(ah:Int)(ai:Bool)(aj:Int)(ak:Bool)(al:Int)(am:OA)(an ao:Nat)(ap:OA)(aq ar:Nat)(au:OA)(av ax:Nat)(ay:OA)(az aA:Nat)(aB:OA)(aC aD:Nat)(aE:Int)(aF:Int)(aG:Int)(aH:Int)(aI:Int)(aJ:Bool)(aK:OA)(aL aM:Nat)(aN:Int)(aO:Int)(aP:OA)(aQ aS:Nat)(aU:Int)(w:World)(R:EW)(h:
 True/\(let aV:=w.alloc (.cells #[.int .i64 e,.int .i64 f,.slice g i j,.slice k l m,.slice n o p,.int .i64 q,.int .i64 r,.int .i64 s,.int .i64 t,.slice u v x,.bool y,.slice z A B,.slice C D E,.bool F,.int .i64 G,.bool H,.int .i64 I,.bool J,.slice K L M,.bool N,.slice O P Q,.bool S,.int .i64 U,.bool V,.int .i64 W,.bool X,.int .i64 Y,.bool Z,.int .i64 aa,.bool ab,.slice ac ad ae,.int .i64 af,.int .i64 ag,.int .i64 ah,.bool ai,.int .i64 aj,.bool ak,.int .i64 al,.slice am an ao,.slice ap aq ar,.slice au av ax,.slice ay az aA,.slice aB aC aD,.int .i64 aE,.int .i64 aF,.int .i64 aG,.int .i64 aH,.int .i64 aI,.bool aJ,.slice aK aL aM,.int .i64 aN,.int .i64 aO,.slice aP aQ aS] 44);
 ∀ aW:World->Prop,(∀ aX:World,
 (∀ aY:World->Prop,(∀ aZ:World,
 (CP 97 #[.slice a b c,(.agg #[.int .i64 aN,.int .i64 aO])] aZ (fun ba bb=>∃ bc:Option (TypeId × Value),ba=.returned (ifcV bc)/\(KeepT 44 aZ bb/\True)/\Pt d fun bd=>Off bb (bd.add 38) 1 [44]/\True/\(let be:=(bb.setCell (bd.add 38) (ifcV bc));
 let bf:=be.alloc (.map #[] 0);
 Pt d fun bg=>Off bf (bg.add 27) 1 [44]/\True/\(let bh:=(bf.setCell (bg.add 27) (.map (some be.heap.size)));
 ∃ (bi:Int->World->Prop) (bj:Int->World->Nat),bi 0 bh/\
 (∀ bk:Int,∀ bl:World,bi bk bl->
 (Br (decide (bk<(aQ:Int))) (∀ bm:World->Prop,(∀ bn:World,
 ((bi (wr (bk+1)) bn/\bj (wr (bk+1)) bn<bj bk bl))->
 bm bn)->
 Ix aP bk aQ fun bo=>L_sli bl (bo.add (bk.toNat*3)) fun bp bq br bs bt=>True/\True/\(let bv:=bl.alloc (.cells #[.string bp,.slice bq br bs,.int .i64 bt] 99);
 (Br (bt==0) (∀ bx,bx=bv.drew->Pt d fun bz=>Lm bx (bz.add 27) fun bA=>Cl 94 #[.slice bq br bs] bx (fun bB bC bD bE=>(KeepT 44 bx bE/\KeepT 99 bx bE/\True)/\((1=1)/\(bE.cell? (bz.add 27)=bx.cell? (bz.add 27))/\True)/\∃ bF,(Instr.mapUpdate 110 (.map bA) (.string bp) (ifcV (some (24,(.slice bB bC bD))))).run Tryz.prog bE=.ok () bF/\(KeepT 44 bE bF/\KeepT 99 bE bF/\True)/\True/\bm bF)) (Cp 65 #[.slice a b c,.int .i64 bt,.int .i64 aU] bv (fun bG bH=>(KeepT 44 bv bH/\KeepT 99 bv bH/\True)/\(Br (!bG.isNone) (∀ bI,bI=bH.drew->Pt d fun bJ=>Lm bI (bJ.add 27) fun bK=>∃ bL,(Instr.mapUpdate 110 (.map bK) (.string bp) (ifcV (some (72,(.pointer bG))))).run Tryz.prog bI=.ok () bL/\(KeepT 44 bI bL/\KeepT 99 bI bL/\True)/\True/\bm bL) (bm bH))))))) (R (.returned (.tuple #[])) bl)))))))->
 aY aZ)->
 (Br aJ (Cl 90 #[.slice a b c,.slice aK aL aM,.int .i64 0] aX (fun bM bN bO bP=>(KeepT 44 aX bP/\True)/\Pt d fun bQ=>Off bP (bQ.add 37) 1 [44]/\True/\(let bS:=(bP.setCell (bQ.add 37) (ifcV (some (101,(.slice bM bN bO)))));
 aY bS))) (aY aX)))->
 aW aX)->
 Cp 65 #[.slice a b c,.int .i64 aI,.int .i64 0] aV (fun bU bV=>(KeepT 44 aV bV/\True)/\(Br (!bU.isNone) (Pt d fun bW=>Off bV (bW.add 37) 1 [44]/\True/\(let bX:=(bV.setCell (bW.add 37) (ifcV (some (72,(.pointer bU)))));
 aW bX)) (aW bV))))):CP 98 #[.slice a b c,.pointer d,(.agg #[.int .i64 e,.int .i64 f,.slice g i j,.slice k l m,.slice n o p,.int .i64 q,.int .i64 r,.int .i64 s,.int .i64 t,.slice u v x,.bool y,.slice z A B,.slice C D E,.bool F,.int .i64 G,.bool H,.int .i64 I,.bool J,.slice K L M,.bool N,.slice O P Q,.bool S,.int .i64 U,.bool V,.int .i64 W,.bool X,.int .i64 Y,.bool Z,.int .i64 aa,.bool ab,.slice ac ad ae,.int .i64 af,.int .i64 ag,.int .i64 ah,.bool ai,.int .i64 aj,.bool ak,.int .i64 al,.slice am an ao,.slice ap aq ar,.slice au av ax,.slice ay az aA,.slice aB aC aD,.int .i64 aE,.int .i64 aF,.int .i64 aG,.int .i64 aH,.int .i64 aI,.bool aJ,.slice aK aL aM,.int .i64 aN,.int .i64 aO,.slice aP aQ aS]),.int .i64 aU] w R:=
 vcq Tryz.func98 [6,10] [(2,⟨[],[]⟩),(10,⟨[],[]⟩),(23,⟨[(47,.int .i64)],[]⟩),(30,⟨[],[]⟩)] [.l (.slice a b c),.l (.optr d),.agg [.int .i64 e,.int .i64 f,.slice g i j,.slice k l m,.slice n o p,.int .i64 q,.int .i64 r,.int .i64 s,.int .i64 t,.slice u v x,.bool y,.slice z A B,.slice C D E,.bool F,.int .i64 G,.bool H,.int .i64 I,.bool J,.slice K L M,.bool N,.slice O P Q,.bool S,.int .i64 U,.bool V,.int .i64 W,.bool X,.int .i64 Y,.bool Z,.int .i64 aa,.bool ab,.slice ac ad ae,.int .i64 af,.int .i64 ag,.int .i64 ah,.bool ai,.int .i64 aj,.bool ak,.int .i64 al,.slice am an ao,.slice ap aq ar,.slice au av ax,.slice ay az aA,.slice aB aC aD,.int .i64 aE,.int .i64 aF,.int .i64 aG,.int .i64 aH,.int .i64 aI,.bool aJ,.slice aK aL aM,.int .i64 aN,.int .i64 aO,.slice aP aQ aS],.l (.int .i64 aU)] h
theorem y_5 (a:OA)(b c:Nat)(d:OA)(e:Int)(f:Int)(g:OA)(i j:Nat)(k:OA)(l m:Nat)(n:OA)(o p:Nat)(q:Int)(r:Int)(s:Int)(t:Int)(u:OA)(v x:Nat)(y:Bool)(z:OA)(A B:Nat)(C:OA)(D E:Nat)(F:Bool)(G:Int)(H:Bool)(I:Int)(J:Bool)(K:OA)(L M:Nat)(N:Bool)(O:OA)(P Q:Nat)(S:Bool)(U:Int)(V:Bool)(W:Int)(X:Bool)(Y:Int)(Z:Bool)(aa:Int)(ab:Bool)(ac:OA)(ad ae:Nat)(af:Int)(ag:Int)(ah:Int)(ai:Bool)(aj:Int)(ak:Bool)(al:Int)(am:OA)(an ao:Nat)(ap:OA)(aq ar:Nat)(au:OA)(av ax:Nat)(ay:OA)(az aA:Nat)(aB:OA)(aC aD:Nat)(aE:Int)(aF:Int)(aG:Int)(aH:Int)(aI:Int)(aJ:Bool)(aK:OA)(aL aM:Nat)(aN:Int)(aO:Int)(aP:OA)(aQ aS:Nat)(aU:Int)(aV:Int)(w:World)(R:EW)(h:
 True/\(let aW:=w.alloc (.cells #[.int .i64 e,.int .i64 f,.slice g i j,.slice k l m,.slice n o p,.int .i64 q,.int .i64 r,.int .i64 s,.int .i64 t,.slice u v x,.bool y,.slice z A B,.slice C D E,.bool F,.int .i64 G,.bool H,.int .i64 I,.bool J,.slice K L M,.bool N,.slice O P Q,.bool S,.int .i64 U,.bool V,.int .i64 W,.bool X,.int .i64 Y,.bool Z,.int .i64 aa,.bool ab,.slice ac ad ae,.int .i64 af,.int .i64 ag,.int .i64 ah,.bool ai,.int .i64 aj,.bool ak,.int .i64 al,.slice am an ao,.slice ap aq ar,.slice au av ax,.slice ay az aA,.slice aB aC aD,.int .i64 aE,.int .i64 aF,.int .i64 aG,.int .i64 aH,.int .i64 aI,.bool aJ,.slice aK aL aM,.int .i64 aN,.int .i64 aO,.slice aP aQ aS] 44);
 Pt d fun aX=>Off aW (aX.add 3) 1 [44]/\True/\(let aY:=(aW.setCell (aX.add 3) (.int .i64 aV));
 ∀ aZ:Bool->World->Prop,(∀ ba:Bool,∀ bb:World,
 ((Br ba (True/\(let bc:=bb.alloc (.cells #[.bool false] 4);
 Off bc (adr bb.heap.size) 1 [44]/\True/\(let bd:=(bc.setCell (adr bb.heap.size) (.bool (e==1)));
 Pt d fun be=>Off bd (be.add 5) 1 [44]/\True/\(let bf:=(bd.setCell (be.add 5) (.pointer (some (adr bb.heap.size))));
 R (.returned (.tuple #[])) bf)))) (Cp 65 #[.slice a b c,.int .i64 f,.int .i64 aU] bb (fun bg bh=>(KeepT 44 bb bh/\True)/\Pt d fun bi=>Off bh (bi.add 7) 1 [44]/\True/\(let bj:=(bh.setCell (bi.add 7) (.pointer bg));
 ∀ bk,bk=bj.drew->Cl 90 #[.slice a b c,.slice g i j,.int .i64 aU] bk (fun bl bm bn bo=>(KeepT 44 bk bo/\True)/\((0=0)/\(0=0)/\True)/\Cl 90 #[.slice a b c,.slice k l m,.int .i64 aU] bo (fun bp bq br bs=>(KeepT 44 bo bs/\True)/\((0=0)/\True)/\Cl 90 #[.slice a b c,.slice n o p,.int .i64 aU] bs (fun bt bu bv bx=>(KeepT 44 bs bx/\True)/\True/\Pt d fun bz=>Off bx (bz.add 13) 1 [44]/\True/\(let bA:=(bx.setCell (bz.add 13) (.slice bl bm bn));
 True/\Pt d fun bB=>Off bA (bB.add 14) 1 [44]/\True/\(let bC:=(bA.setCell (bB.add 14) (.slice bp bq br));
 True/\Pt d fun bD=>Off bC (bD.add 15) 1 [44]/\True/\(let bE:=(bC.setCell (bD.add 15) (.slice bt bu bv));
 True/\∀ bF,bF=bE.drew->Cp 65 #[.slice a b c,.int .i64 q,.int .i64 aU] bF (fun bG bH=>(KeepT 44 bF bH/\True)/\((0=0)/\(0=0)/\(0=0)/\True)/\Cp 65 #[.slice a b c,.int .i64 r,.int .i64 aU] bH (fun bI bJ=>(KeepT 44 bH bJ/\True)/\((0=0)/\(0=0)/\True)/\Cp 65 #[.slice a b c,.int .i64 s,.int .i64 aU] bJ (fun bK bL=>(KeepT 44 bJ bL/\True)/\((0=0)/\True)/\Cp 65 #[.slice a b c,.int .i64 t,.int .i64 aU] bL (fun bM bN=>(KeepT 44 bL bN/\True)/\True/\Pt d fun bO=>Off bN (bO.add 12) 1 [44]/\True/\(let bP:=(bN.setCell (bO.add 12) (.pointer bG));
 True/\Pt d fun bQ=>Off bP (bQ.add 16) 1 [44]/\True/\(let bS:=(bP.setCell (bQ.add 16) (.pointer bI));
 True/\Pt d fun bU=>Off bS (bU.add 17) 1 [44]/\True/\(let bV:=(bS.setCell (bU.add 17) (.pointer bK));
 True/\Pt d fun bW=>Off bV (bW.add 18) 1 [44]/\True/\(let bX:=(bV.setCell (bW.add 18) (.pointer bM));
 True/\∀ bY:World->Prop,(∀ bZ:World,
 (∀ ca:World->Prop,(∀ cb:World,
 (∀ cc:World->Prop,(∀ cd:World,
 (∀ ce,ce=cd.drew->Cp 93 #[(.agg #[.bool F,.int .i64 G])] ce (fun cf cg=>(KeepT 44 ce cg/\True)/\((0=0)/\True)/\Cp 93 #[(.agg #[.bool H,.int .i64 I])] cg (fun ch ci=>(KeepT 44 cg ci/\True)/\True/\Pt d fun cj=>Off ci (cj.add 42) 1 [44]/\True/\(let ck:=(ci.setCell (cj.add 42) (.pointer cf));
 True/\Pt d fun cl=>Off ck (cl.add 43) 1 [44]/\True/\(let cm:=(ck.setCell (cl.add 43) (.pointer ch));
 True/\∀ cn:World->Prop,(∀ co:World,
 (∀ cp:World->Prop,(∀ cq:World,
 (∀ cr,cr=cq.drew->Cp 93 #[(.agg #[.bool S,.int .i64 U])] cr (fun ct cu=>(KeepT 44 cr cu/\True)/\((0=0)/\(0=0)/\(0=0)/\True)/\Cp 93 #[(.agg #[.bool V,.int .i64 W])] cu (fun cv cx=>(KeepT 44 cu cx/\True)/\((0=0)/\(0=0)/\True)/\Cp 93 #[(.agg #[.bool X,.int .i64 Y])] cx (fun cy cz=>(KeepT 44 cx cz/\True)/\((0=0)/\True)/\Cp 93 #[(.agg #[.bool Z,.int .i64 aa])] cz (fun cA cB=>(KeepT 44 cz cB/\True)/\True/\Pt d fun cC=>Off cB (cC.add 31) 1 [44]/\True/\(let cD:=(cB.setCell (cC.add 31) (.pointer ct));
 True/\Pt d fun cE=>Off cD (cE.add 32) 1 [44]/\True/\(let cF:=(cD.setCell (cE.add 32) (.pointer cv));
 True/\Pt d fun cG=>Off cF (cG.add 35) 1 [44]/\True/\(let cH:=(cF.setCell (cG.add 35) (.pointer cy));
 True/\Pt d fun cI=>Off cH (cI.add 36) 1 [44]/\True/\(let cJ:=(cH.setCell (cI.add 36) (.pointer cA));
 True/\Pt d fun cK=>Off cJ (cK.add 33) 1 [44]/\True/\(let cL:=(cJ.setCell (cK.add 33) (.bool ab));
 Cl 90 #[.slice a b c,.slice ac ad ae,.int .i64 0] cL (fun cM cN cO cP=>(KeepT 44 cL cP/\True)/\Pt d fun cQ=>Off cP (cQ.add 39) 1 [44]/\True/\(let cS:=(cP.setCell (cQ.add 39) (.slice cM cN cO));
 ∀ cU,cU=cS.drew->Cp 65 #[.slice a b c,.int .i64 af,.int .i64 0] cU (fun cV cW=>(KeepT 44 cU cW/\True)/\((0=0)/\(0=0)/\True)/\Cp 65 #[.slice a b c,.int .i64 ag,.int .i64 0] cW (fun cX cY=>(KeepT 44 cW cY/\True)/\((0=0)/\True)/\Cp 65 #[.slice a b c,.int .i64 ah,.int .i64 0] cY (fun cZ da=>(KeepT 44 cY da/\True)/\True/\Pt d fun db=>Off da (db.add 40) 1 [44]/\True/\(let dc:=(da.setCell (db.add 40) (.pointer cV));
 True/\Pt d fun dd=>Off dc (dd.add 34) 1 [44]/\True/\(let de:=(dc.setCell (dd.add 34) (.pointer cX));
 True/\Pt d fun df=>Off de (df.add 41) 1 [44]/\True/\(let dg:=(de.setCell (df.add 41) (.pointer cZ));
 True/\∀ dh,dh=dg.drew->Cp 93 #[(.agg #[.bool ai,.int .i64 aj])] dh (fun di dj=>(KeepT 44 dh dj/\True)/\((0=0)/\True)/\Cp 93 #[(.agg #[.bool ak,.int .i64 al])] dj (fun dk dl=>(KeepT 44 dj dl/\True)/\True/\Pt d fun dm=>Off dl (dm.add 21) 1 [44]/\True/\(let dn:=(dl.setCell (dm.add 21) (.pointer di));
 True/\Pt d fun dp=>Off dn (dp.add 20) 1 [44]/\True/\(let dq:=(dn.setCell (dp.add 20) (.pointer dk));
 True/\Cl 94 #[.slice am an ao] dq (fun dr ds dt du=>(KeepT 44 dq du/\True)/\Pt d fun dv=>Off du (dv.add 22) 1 [44]/\True/\(let dx:=(du.setCell (dv.add 22) (.slice dr ds dt));
 let dy:=dx.alloc (.map #[] 0);
 Pt d fun dz=>Off dy (dz.add 28) 1 [44]/\True/\(let dA:=(dy.setCell (dz.add 28) (.map (some dx.heap.size)));
 ∃ (dB:Int->World->Prop) (dC:Int->World->Nat),dB 0 dA/\
 (∀ dD:Int,∀ dE:World,dB dD dE->
 (Br (decide (dD<(aq:Int))) (Ix ap dD aq fun dF=>L_sl dE (dF.add (dD.toNat*2)) fun dG dH dI dJ=>True/\True/\(let dL:=dE.alloc (.cells #[.string dG,.slice dH dI dJ] 155);
 ∀ dM,dM=dL.drew->Pt d fun dN=>Lm dM (dN.add 28) fun dO=>Cl 94 #[.slice dH dI dJ] dM (fun dP dQ dS dU=>(KeepT 44 dM dU/\KeepT 155 dM dU/\True)/\((1=1)/\(dU.cell? (dN.add 28)=dM.cell? (dN.add 28))/\True)/\∃ dV,(Instr.mapUpdate 111 (.map dO) (.string dG) (.slice dP dQ dS)).run Tryz.prog dU=.ok () dV/\(KeepT 44 dU dV/\KeepT 155 dU dV/\True)/\True/\(dB (wr (dD+1)) dV/\dC (wr (dD+1)) dV<dC dD dE)))) (CP 96 #[.slice a b c,.slice au av ax,.int .i64 aU] dE (fun dW dX=>∃ dY:Option Nat,dW=.returned (.map dY)/\(KeepT 44 dE dX/\True)/\Pt d fun dZ=>Off dX (dZ.add 29) 1 [44]/\True/\(let ea:=(dX.setCell (dZ.add 29) (.map dY));
 CP 96 #[.slice a b c,.slice ay az aA,.int .i64 0] ea (fun eb ec=>∃ ed:Option Nat,eb=.returned (.map ed)/\(KeepT 44 ea ec/\True)/\Pt d fun ee=>Off ec (ee.add 24) 1 [44]/\True/\(let ef:=(ec.setCell (ee.add 24) (.map ed));
 let eg:=ef.alloc (.map #[] 0);
 Pt d fun eh=>Off eg (eh.add 25) 1 [44]/\True/\(let ei:=(eg.setCell (eh.add 25) (.map (some ef.heap.size)));
 ∃ (ej:Int->World->Prop) (ek:Int->World->Nat),ej 0 ei/\
 (∀ el:Int,∀ em:World,ej el em->
 (Br (decide (el<(aC:Int))) (∀ en:World->Prop,(∀ eo:World,
 ((ej (wr (el+1)) eo/\ek (wr (el+1)) eo<ek el em))->
 en eo)->
 Ix aB el aC fun ep=>L_li em (ep.add (el.toNat*2)) fun eq er es et=>True/\True/\(let ev:=em.alloc (.cells #[.slice eq er es,.int .i64 et] 92);
 Cp 65 #[.slice a b c,.int .i64 et,.int .i64 0] ev (fun ex ey=>(KeepT 44 ev ey/\KeepT 92 ev ey/\True)/\(Br (!ex.isNone) (∀ ez,ez=ey.drew->Pt d fun eA=>Lm ez (eA.add 25) fun eB=>Cl 94 #[.slice eq er es] ez (fun eC eD eE eF=>(KeepT 44 ez eF/\KeepT 92 ez eF/\True)/\((eF.cell? (eA.add 25)=ez.cell? (eA.add 25))/\True)/\True/\True/\(let eG:=eF.alloc (.cells #[.slice eC eD eE] 152);
 ((eG.cell? (eA.add 25)=eF.cell? (eA.add 25))/\True)/\∃ eH,(Instr.mapUpdate 109 (.map eB) (ifcV (some (149,(.pointer (some (adr eF.heap.size)))))) (.pointer ex)).run Tryz.prog eG=.ok () eH/\(KeepT 44 eG eH/\KeepT 92 eG eH/\True)/\True/\en eH))) (en ey))))) (∀ eI,eI=em.drew->Cp 65 #[.slice a b c,.int .i64 aG,.int .i64 0] eI (fun eJ eK=>(KeepT 44 eI eK/\True)/\((0=0)/\True)/\Cp 65 #[.slice a b c,.int .i64 aH,.int .i64 0] eK (fun eL eM=>(KeepT 44 eK eM/\True)/\True/\Pt d fun eN=>Off eM (eN.add 23) 1 [44]/\True/\(let eO:=(eM.setCell (eN.add 23) (.pointer eJ));
 True/\Pt d fun eP=>Off eO (eP.add 30) 1 [44]/\True/\(let eQ:=(eO.setCell (eP.add 30) (.pointer eL));
 True/\CP 97 #[.slice a b c,(.agg #[.int .i64 aE,.int .i64 aF])] eQ (fun eS eU=>∃ eV:Option (TypeId × Value),eS=.returned (ifcV eV)/\(KeepT 44 eQ eU/\True)/\Pt d fun eW=>Off eU (eW.add 26) 1 [44]/\True/\(let eX:=(eU.setCell (eW.add 26) (ifcV eV));
 C0 98 #[.slice a b c,.pointer d,(.agg #[.int .i64 e,.int .i64 f,.slice g i j,.slice k l m,.slice n o p,.int .i64 q,.int .i64 r,.int .i64 s,.int .i64 t,.slice u v x,.bool y,.slice z A B,.slice C D E,.bool F,.int .i64 G,.bool H,.int .i64 I,.bool J,.slice K L M,.bool N,.slice O P Q,.bool S,.int .i64 U,.bool V,.int .i64 W,.bool X,.int .i64 Y,.bool Z,.int .i64 aa,.bool ab,.slice ac ad ae,.int .i64 af,.int .i64 ag,.int .i64 ah,.bool ai,.int .i64 aj,.bool ak,.int .i64 al,.slice am an ao,.slice ap aq ar,.slice au av ax,.slice ay az aA,.slice aB aC aD,.int .i64 aE,.int .i64 aF,.int .i64 aG,.int .i64 aH,.int .i64 aI,.bool aJ,.slice aK aL aM,.int .i64 aN,.int .i64 aO,.slice aP aQ aS]),.int .i64 aU] eX (fun eY=>(KeepT 44 eX eY/\True)/\R (.returned (.tuple #[])) eY)))))))))))))))))))))))))))))))))))))))))))->
 cp cq)->
 (Br N (Cp 95 #[.slice O P Q] co (fun eZ fa=>(KeepT 44 co fa/\True)/\Pt d fun fb=>Off fa (fb.add 19) 1 [44]/\True/\(let fc:=(fa.setCell (fb.add 19) (.pointer eZ));
 cp fc))) (cp co)))->
 cn co)->
 (Br J (Cl 94 #[.slice K L M] cm (fun fd fe ff fg=>(KeepT 44 cm fg/\True)/\True/\True/\(let fh:=fg.alloc (.cells #[.slice fd fe ff] 152);
 Pt d fun fi=>Off fh (fi.add 44) 1 [44]/\True/\(let fj:=(fh.setCell (fi.add 44) (ifcV (some (149,(.pointer (some (adr fg.heap.size)))))));
 cn fj)))) (cn cm)))))))->
 cc cd)->
 (Br (decide ((D:Int)>0)) (Ix C 0 D fun fk=>L_ibisll cb (fk.add ((0:Int).toNat*6)) fun fl fm fn fo fp fq fr fs ft fu=>CP 43 #[(.agg #[.int .i64 fl,.bool fm,.int .i64 fn,.string fo,.slice fp fq fr,.slice fs ft fu])] cb (fun fv fx=>∃ fy:Option (TypeId × Value),fv=.returned (ifcV fy)/\(KeepT 44 cb fx/\True)/\True/\(let fz:=fx.alloc (.cells #[.nilIface] 20);
 Off fz (adr fx.heap.size) 1 [44]/\True/\(let fA:=(fz.setCell (adr fx.heap.size) (ifcV fy));
 Pt d fun fB=>Off fA (fB.add 11) 1 [44]/\True/\(let fC:=(fA.setCell (fB.add 11) (.pointer (some (adr fx.heap.size))));
 cc fC))))) (cc cb)))->
 ca cb)->
 (Br y (Cl 67 #[.slice z A B] bZ (fun fD fE fF fG=>(KeepT 44 bZ fG/\True)/\Cp 92 #[.slice fD fE fF] fG (fun fH fI=>(KeepT 44 fG fI/\True)/\Pt d fun fJ=>Off fI (fJ.add 10) 1 [44]/\True/\(let fK:=(fI.setCell (fJ.add 10) (.pointer fH));
 ca fK)))) (ca bZ)))->
 bY bZ)->
 (Br (decide ((v:Int)>0)) (True/\(let fL:=bX.alloc (.cells #[.int .i64 0] 145);
 Pt d fun fM=>Off fL (fM.add 9) 1 [44]/\True/\(let fN:=(fL.setCell (fM.add 9) (.pointer (some (adr bX.heap.size))));
 ∃ (fO:Int->World->Prop) (fP:Int->World->Nat),fO 0 fN/\
 (∀ fQ:Int,∀ fS:World,fO fQ fS->
 (Br (decide (fQ<(v:Int))) (Ix u fQ v fun fU=>Ls fS (fU.add (fQ.toNat*1)) fun fV=>Pt d fun fW=>Lp fS (fW.add 9) fun fX=>C0 91 #[.pointer fX,.string fV] fS (fun fY=>(KeepT 44 fS fY/\True)/\(fO (wr (fQ+1)) fY/\fP (wr (fQ+1)) fY<fP fQ fS))) (bY fS)))))) (bY bX)))))))))))))))))))))->
 aZ ba bb)->
 (Nr (e==1) (aZ (e==2) aY) (aZ true aY))))):CP 62 #[.slice a b c,.pointer d,(.agg #[.int .i64 e,.int .i64 f,.slice g i j,.slice k l m,.slice n o p,.int .i64 q,.int .i64 r,.int .i64 s,.int .i64 t,.slice u v x,.bool y,.slice z A B,.slice C D E,.bool F,.int .i64 G,.bool H,.int .i64 I,.bool J,.slice K L M,.bool N,.slice O P Q,.bool S,.int .i64 U,.bool V,.int .i64 W,.bool X,.int .i64 Y,.bool Z,.int .i64 aa,.bool ab,.slice ac ad ae,.int .i64 af,.int .i64 ag,.int .i64 ah,.bool ai,.int .i64 aj,.bool ak,.int .i64 al,.slice am an ao,.slice ap aq ar,.slice au av ax,.slice ay az aA,.slice aB aC aD,.int .i64 aE,.int .i64 aF,.int .i64 aG,.int .i64 aH,.int .i64 aI,.bool aJ,.slice aK aL aM,.int .i64 aN,.int .i64 aO,.slice aP aQ aS]),.int .i64 aU,.int .i64 aV] w R:=
 vcq Tryz.func62 [7,15,17] [(5,⟨[(30,.bool)],[]⟩),(20,⟨[],[]⟩),(29,⟨[(112,.int .i64)],[]⟩),(43,⟨[],[]⟩),(49,⟨[],[]⟩),(59,⟨[],[]⟩),(65,⟨[],[]⟩),(89,⟨[(261,.int .i64)],[]⟩),(112,⟨[(297,.int .i64)],[]⟩),(119,⟨[],[]⟩)] [.l (.slice a b c),.l (.optr d),.agg [.int .i64 e,.int .i64 f,.slice g i j,.slice k l m,.slice n o p,.int .i64 q,.int .i64 r,.int .i64 s,.int .i64 t,.slice u v x,.bool y,.slice z A B,.slice C D E,.bool F,.int .i64 G,.bool H,.int .i64 I,.bool J,.slice K L M,.bool N,.slice O P Q,.bool S,.int .i64 U,.bool V,.int .i64 W,.bool X,.int .i64 Y,.bool Z,.int .i64 aa,.bool ab,.slice ac ad ae,.int .i64 af,.int .i64 ag,.int .i64 ah,.bool ai,.int .i64 aj,.bool ak,.int .i64 al,.slice am an ao,.slice ap aq ar,.slice au av ax,.slice ay az aA,.slice aB aC aD,.int .i64 aE,.int .i64 aF,.int .i64 aG,.int .i64 aH,.int .i64 aI,.bool aJ,.slice aK aL aM,.int .i64 aN,.int .i64 aO,.slice aP aQ aS],.l (.int .i64 aU),.l (.int .i64 aV)] h
theorem A_S (a:Bool)(b:Int)(w:World)(R:EW)(h:
 True/\(let c:=w.alloc (.cells #[.bool a,.int .i64 b] 34);
 Lb c (adr w.heap.size) fun d=>(Br (!d) (R (.returned (.pointer none)) c) (R (.returned (.pointer (some ((adr w.heap.size).add 1)))) c)))):CP 93 #[(.agg #[.bool a,.int .i64 b])] w R:=
 vcq Tryz.func93 [] [] [.agg [.bool a,.int .i64 b]] h
theorem A_s (a:OA)(b c:Nat)(w:World)(R:EW)(h:
 (let d:=w.alloc (.cells #[] 9);
 Ap 24 (.slice (some (adr w.heap.size)) 0 0) (.slice a b c) d fun e f g i=>True/\R (.returned (.slice e f g)) i)):CP 94 #[.slice a b c] w R:=
 vcq Tryz.func94 [] [] [.l (.slice a b c)] h
theorem z_A (a:OA)(b c:Nat)(w:World)(R:EW)(h:
 Cl 94 #[.slice a b c] w (fun d e f g=>True/\True/\True/\(let i:=g.alloc (.cells #[.slice d e f] 152);
 True/\(let j:=i.alloc (.cells #[.pointer none] 149);
 Off j (adr i.heap.size) 1 []/\True/\(let k:=(j.setCell (adr i.heap.size) (.pointer (some (adr g.heap.size))));
 True/\True/\(let l:=k.alloc (.cells #[(.string (⟨#[]⟩:BA)),(.func (.func 114) #[] #[(.pointer (some (adr i.heap.size)))])] 193);
 R (.returned (.pointer (some (adr k.heap.size)))) l)))))):CP 95 #[.slice a b c] w R:=
 vcq Tryz.func95 [] [] [.l (.slice a b c)] h
theorem y_V (a:Option (TypeId × Value))(b:Addr)(w:World)(R:EW)(h:
 ∀ c:BA->Bool->World->Prop,(∀ d:BA,∀ e:Bool,∀ f:World,
 (∀ g:Bool->World->Prop,(∀ i:Bool,∀ j:World,
 ((Br i (CP 116 #[(.string (⟨#[102,111,114,109,97,116]⟩:BA))] j (fun k l=>∃ m:Option (TypeId × Value),k=.returned (ifcV m)/\True/\R (.returned (ifcV m)) l)) (R (.returned .nilIface) j)))->
 g i j)->
 (Br e (Lp f b fun n=>Cb 115 #[.pointer n,.string d] f (fun o p=>True/\g (!o) p)) (g false f)))->
 c d e f)->
 ((∀ q,a=some (9,q)->∃ s,q=(.string s)/\c s true w)/\((∀ r,a≠some (9,r))->c (⟨#[]⟩:BA) false w))):CP 114 #[(ifcV a),(.pointer (some b))] w R:=
 vcq Tryz.func114 [] [(3,⟨[(4,.str),(5,.bool)],[]⟩),(5,⟨[(17,.bool)],[]⟩)] [.l (.ifc a),.l (.ptr b)] h
theorem x_V (a:OA)(b:BA)(w:World)(R:EW)(h:
 Pt a fun c=>Ll w c fun d e f=>Cb 142 #[.slice d e f,.string b] w (fun g i=>True/\R (.returned (.bool g)) i)):CP 115 #[.pointer a,.string b] w R:=
 vcq Tryz.func115 [] [] [.l (.optr a),.l (.str b)] h
theorem y_x (a:OA)(w:World)(R:EW)(h:
 R (.returned (.string (⟨#[]⟩:BA))) w):CP 196 #[.pointer a] w R:=
 vcq Tryz.func196 [] [] [.l (.optr a)] h
theorem z_R (a:OA)(w:World)(R:EW)(h:
 Pt a fun b=>Lo w (b.add 26) fun c=>Pt a fun d=>Off w d 1 []/\True/\(let e:=(w.setCell d (.bool (!c.isNone)));
 Pt a fun f=>Li e (f.add 3) fun g=>(Br (decide (g<2020)) (Pt a fun i=>Lo e (i.add 38) fun j=>Pt a fun k=>Off e (k.add 1) 1 []/\True/\(let l:=(e.setCell (k.add 1) (.bool (!j.isNone)));
 Pt a fun m=>Lo l (m.add 37) fun n=>∀ o:Bool->OA->World->Prop,(∀ p:Bool,∀ q:OA,∀ r:World,
 ((Br p (Pt a fun s=>Off r (s.add 1) 1 []/\True/\(let t:=(r.setCell (s.add 1) (.bool true));
 R (.returned (.tuple #[])) t)) (∀ u:Bool->OA->Nat->Nat->World->Prop,(∀ v:Bool,∀ (x:OA) (y z:Nat),∀ A:World,
 ((Br v (Pt a fun B=>Off A (B.add 2) 1 []/\True/\(let C:=(A.setCell (B.add 2) (.int .i64 (y:Int)));
 R (.returned (.tuple #[])) C)) (R (.returned (.tuple #[])) A)))->
 u v x y z A)->
 ((∀ D,n=some (101,D)->∃ F G H,D=(.slice F G H)/\u true F G H r)/\((∀ E,n≠some (101,E))->u false none 0 0 r)))))->
 o p q r)->
 ((∀ I,n=some (72,I)->∃ K,I=(.pointer K)/\o true K l)/\((∀ J,n≠some (72,J))->o false none l)))) (Pt a fun L=>Lp e (L.add 40) fun M=>Pt a fun N=>Off e (N.add 1) 1 []/\True/\(let O:=(e.setCell (N.add 1) (.bool (!M.isNone)));
 Pt a fun P=>Ll O (P.add 39) fun Q S U=>Pt a fun V=>Off O (V.add 2) 1 []/\True/\(let W:=(O.setCell (V.add 2) (.int .i64 (S:Int)));
 R (.returned (.tuple #[])) W)))))):CP 64 #[.pointer a] w R:=
 vcq Tryz.func64 [] [(10,⟨[(30,.bool),(31,.ptr)],[]⟩),(16,⟨[(36,.bool),(37,.slice)],[]⟩)] [.l (.optr a)] h
theorem z_S (a:OA)(b:BA)(w:World)(R:EW)(h:
 Ci 112 #[.string b] w (fun c d=>True/\C0 111 #[.pointer a,.int .i64 c] d (fun e=>True/\R (.returned (.tuple #[])) e))):CP 91 #[.pointer a,.string b] w R:=
 vcq Tryz.func91 [] [] [.l (.optr a),.l (.str b)] h
theorem z_T (a:OA)(b:Int)(w:World)(R:EW)(h:
 Pt a fun c=>Li w c fun d=>∃ e,∃ f,(eqGuard .or 3 (Operand.tmp 7) (Operand.tmp 8) (.int .i64 d) (.int .i64 b)).run Tryz.prog w=.ok () w/\(binOp .or 3 (.int .i64 d) (.int .i64 b)).run Tryz.prog w=.ok (.int .i64 e) f/\True/\Pt a fun g=>Off f g 1 []/\True/\(let i:=(f.setCell g (.int .i64 e));
 R (.returned (.tuple #[])) i)):CP 111 #[.pointer a,.int .i64 b] w R:=
 vcq Tryz.func111 [] [] [.l (.optr a),.l (.int .i64 b)] h
theorem y_z (a:BA)(w:World)(R:EW)(h:
 (Br (a.toList==(⟨#[110,117,108,108]⟩:BA).toList) (R (.returned (.int .i64 2)) w) ((Br (a.toList==(⟨#[98,111,111,108,101,97,110]⟩:BA).toList) (R (.returned (.int .i64 4)) w) ((Br (a.toList==(⟨#[110,117,109,98,101,114]⟩:BA).toList) (R (.returned (.int .i64 8)) w) ((Br (a.toList==(⟨#[105,110,116,101,103,101,114]⟩:BA).toList) (R (.returned (.int .i64 16)) w) ((Br (a.toList==(⟨#[115,116,114,105,110,103]⟩:BA).toList) (R (.returned (.int .i64 32)) w) ((Br (a.toList==(⟨#[97,114,114,97,121]⟩:BA).toList) (R (.returned (.int .i64 64)) w) ((Br (a.toList==(⟨#[111,98,106,101,99,116]⟩:BA).toList) (R (.returned (.int .i64 128)) w) (R (.returned (.int .i64 0)) w))))))))))))))):CP 112 #[.string a] w R:=
 vcq Tryz.func112 [] [] [.l (.str a)] h
theorem A_U (a:OA)(b c:Nat)(w:World)(R:EW)(h:
 Cp 113 #[.slice a b c] w (fun d e=>True/\R (.returned (.pointer d)) e)):CP 92 #[.slice a b c] w R:=
 vcq Tryz.func92 [] [] [.l (.slice a b c)] h
theorem A_V (a:OA)(b c:Nat)(w:World)(R:EW)(h:
 True/\(let d:=w.alloc (.cells #[.int .i64 0] 145);
 ∃ (e:Int->World->Prop) (f:Int->World->Nat),e 0 d/\
 (∀ g:Int,∀ i:World,e g i->
 (Br (decide (g<(b:Int))) (Ix a g b fun j=>Lo i (j.add (g.toNat*1)) fun k=>Ci 121 #[(ifcV k)] i (fun l m=>True/\C0 111 #[(.pointer (some (adr w.heap.size))),.int .i64 l] m (fun n=>True/\(e (wr (g+1)) n/\f (wr (g+1)) n<f g i)))) (Li i (adr w.heap.size) fun o=>True/\True/\(let p:=i.alloc (.cells #[.slice a b c,.int .i64 o] 224);
 R (.returned (.pointer (some (adr i.heap.size)))) p)))))):CP 113 #[.slice a b c] w R:=
 vcq Tryz.func113 [] [(8,⟨[(8,.int .i64)],[]⟩)] [.l (.slice a b c)] h
variable [DB]
theorem x_1 {α:Type}{f:α->BA}{s:BA}{q:α}:∀ {l:List α},(q∈lasts f l/\f q=s)↔l.reverse.find? (fun y=>decide (f y=s))=some q
 | []=>by simp [lasts]
 | x::l=>by
  have ih:=x_1 (f:=f) (s:=s) (q:=q) (l:=l);have hnone:l.reverse.find? (fun y=>decide (f y=s))=none↔∀ y∈l,f y≠s:=by simp [List.find?_eq_none]
  rw [List.reverse_cons,List.find?_append];unfold lasts;split
  ·rename_i ha;rw [ih];cases hf:l.reverse.find? (fun y=>decide (f y=s)) with
   | some z=>simp
   | none=>
    have h1:=hnone.1 hf;obtain ⟨y,hy,hyx⟩:=List.any_eq_true.1 ha;have hyx:f y=f x:=by simpa using hyx
    have:¬ f x=s:=fun e=>h1 y hy (hyx.trans e);simp [this]
  ·rename_i ha;rw [mc_,or_and_right,ih];cases hf:l.reverse.find? (fun y=>decide (f y=s)) with
   | some z=>
    have hz:f z=s:=by simpa using List.find?_some hf
    have hzl:z∈l:=by simpa using List.mem_of_find?_eq_some hf
    have:¬ f x=s:=fun e=>ha (List.any_eq_true.2 ⟨z,hzl,by simp [hz,e]⟩);rw [Option.some_or,Option.some.injEq];constructor
    ·rintro (⟨rfl,h⟩|h)
     ·exact absurd h this
     ·exact h
    ·exact .inr
   | none=>
    by_cases hx:f x=s
    ·simp [hx];constructor
     ·rintro ⟨rfl,-⟩;rfl
     ·rintro rfl;exact ⟨rfl,hx⟩
    ·simp [hx];rintro rfl;exact hx
theorem x_G {α:Type}{f:α->BA}{q:α}:∀ {l:List α},q∈lasts f l->q∈l
 | [],h=>h
 | x::l,h=>by
  unfold lasts at h;split at h
  ·exact List.mem_cons_of_mem _ (x_G h)
  ·rcases mc_.1 h with rfl|h
   ·exact List.mem_cons_self ..
   ·exact List.mem_cons_of_mem _ (x_G h)
theorem D_3 {w:World}{B:Nat}{a:OA}{l c:Nat}{ts:List BA}(h:RSl w B RStr a l c ts)(hl:l<=16777216)(s:BA):CP 164 #[.slice a l c,.string s] w fun e w'=>∃ n:Int,e=.returned (.int .i64 n)/\w'=w/\(decide (n>=0)=among s ts):=by
 have hlx:l=ts.length:=h.1;refine x_E a l c s w _ ⟨fun i w1=>0<=i/\i<=l/\w1=w/\∀ u∈ts.take i.toNat,u≠s,fun i _=>((l:Int)-i).toNat,⟨by omega,by omega,rfl,by simp⟩,?_⟩;rintro i w1 ⟨i0,i1,rfl,hno⟩;refine ⟨fun hlt=>?_,fun hge=>⟨-1,rfl,rfl,?_⟩⟩
 ·have hlt:=odt hlt;obtain ⟨p,t,u,hp,ht,-, hcm,rfl⟩:=h.get i0 hlt;refine ⟨p,hp,⟨i0,hlt⟩,t,hcm,fun he=>⟨i,rfl,rfl,?_⟩,fun hne=>?_⟩
  ·rw [decide_eq_true (by omega)];refine Eq.symm (List.any_eq_true.2 ⟨t,mg_ ht,?_⟩);simp [a_b.1 he]
  ·have hne:=a_f.1 hne;rw [a_a i0 (by omega)];refine ⟨⟨by omega,by omega,rfl,fun u hu=>?_⟩,by dsimp only;omega⟩;rw [take_succ i0 ht,ma_,List.mem_singleton] at hu;rcases hu with hu|rfl
   ·exact hno u hu
   ·exact fun e=>hne e.symm
 ·have hge:i=l:=by have:=odf hge;omega
  subst hge;rw [show decide ((-1:Int)>=0)=false by decide];refine Eq.symm (List.any_eq_false.2 fun u hu=>?_);have:=hno u (by rw [tl_ (by omega)];exact hu);simpa using this
theorem B_a {w:World}{B tb:Nat}{ts:List BA}(h:RTak w B tb ts)(hl:ts.length<=16777216)(s:BA):CP 115 #[.pointer (some (adr tb)),.string s] w fun e w'=>e=.returned (.bool (among s ts))/\w'=w:=by
 obtain ⟨-, a,l,c,T,fr,h2,h3⟩:=h;refine x_V (some (adr tb)) s w _ ⟨_,rfl,_,_,_,cat0 h2 rfl,?_⟩;refine (x_r a l c s w (fun e w'=>e=.returned (.bool (among s ts))/\w'=w) ?_).mono ?_
 ·refine (D_3 h3 (by have:=h3.1;omega) s).mono ?_;rintro _ w2 ⟨n,rfl,rfl,hn⟩;exact ⟨n,rfl,trivial,by rw [hn],rfl⟩
 ·rintro _ w2 ⟨rfl,rfl⟩;exact ⟨_,rfl,trivial,rfl,rfl⟩
theorem z_6 (p:OA)(w:World):(Go.method (Tryz.prog.types.size+Made.depth) 149 (.pointer p) "MatchString").run Tryz.prog w=.ok (115,.pointer p) w:=by kernel_rfl
theorem B_d (p:OA)(w:World):(Go.method (Tryz.prog.types.size+Made.depth) 149 (.pointer p) "String").run Tryz.prog w=.ok (196,.pointer p) w:=by kernel_rfl
theorem B_D:∃ fn,Tryz.prog.funcs[115]? =some fn/\(fn.name== "runtime.NumGoroutine" ||fn.body.isNone)=false:=⟨_,Tryz.func115,by kernel_rfl⟩
theorem C_y:∃ fn,Tryz.prog.funcs[196]? =some fn/\(fn.name== "runtime.NumGoroutine" ||fn.body.isNone)=false:=⟨_,Tryz.func196,by kernel_rfl⟩
theorem C_x:∃ fn,Tryz.prog.funcs[114]? =some fn/\(fn.name== "runtime.NumGoroutine" ||fn.body.isNone)=false:=⟨_,Tryz.func114,by kernel_rfl⟩
section
variable {s:List JN} {av:Nat->Nat} {B f lo:Nat} {vb:Nat} {d:VdC} {n:Nat} {vid:Int} {k:Nat} {v:JV} {w:World} {E:Bool} {cnt:Nat} {T:Nat->Prop}
theorem VSt.limP (st:VSt s av B lo vb d n vid k v w E cnt T)(hcnt:cnt<=8000000000000){b:Nat}{S:Value->Value->Prop}(hO:RObj w B v b S){cs:Array Value}{fr:Nat × Nat}(hcs:objAt w d.sb=some (.cells cs 116 fr)){i:Nat}{lim:JLim}(hf:∃ u,cs[i]? =some u/\RLim w B lim u)(cmp:Int->Int->Bool)(T1 T2:TypeId){K:World->Prop}
  (hK:∀ w1,VSt s av B lo vb d n vid k v w1 (E&&(!lim.is|| !cmp (membs v.ns).length lim.n)) (cnt+1) T->FR2 lo d.g w w1->K w1):
  ∃ p,some (adr d.sb)=some p/\∃ q:OA,w.cell? (p.add i)=some (.pointer q)/\(((!q.isNone)=true->∀ w2,w2=w.drew->∃ p2,some (adr d.sb)=some p2/\∃ q2:OA,w2.cell? (p2.add i)=some (.pointer q2)/\∃ p3,q2=some p3/\∃ n:Int,w2.cell? p3=some (.int .i64 n)/\∃ m:Int,(Builtin.len_ #[110] 3 #[.map (some b)]).run Tryz.prog w2=.ok (.int .i64 m) w2/\((w2.cell? p3=w2.cell? p3)/\(w2.cell? (p2.add i)=w2.cell? (p2.add i))/\True)/\
   ((cmp m n=true->∀ w3,w3=w2.drew->∃ p4,some (adr d.sb)=some p4/\∃ q4:OA,w3.cell? (p4.add i)=some (.pointer q4)/\∃ p5,q4=some p5/\∃ n2:Int,w3.cell? p5=some (.int .i64 n2)/\∃ m2:Int,(Builtin.len_ #[110] 3 #[.map (some b)]).run Tryz.prog w3=.ok (.int .i64 m2) w3/\((w3.cell? p5=w3.cell? p5)/\(w3.cell? (p4.add i)=w3.cell? (p4.add i))/\True)/\True/\True/\(let w4:=w3.alloc (.cells #[.int .i64 m2,.int .i64 n2] T2);True/\CP 152 #[.pointer (some (adr vb)),ifcV (some (T1,.pointer (some (adr w3.heap.size))))] w4 fun e w'=>e=.returned (.tuple #[])/\True/\True/\K w'))/\
   (cmp m n=false->K w2)))/\((!q.isNone)=false->K w)):=by
 obtain ⟨u,hu,hl⟩:=hf;unfold RLim at hl;by_cases hi:lim.is=true
 ·rw [if_pos hi] at hl;obtain ⟨b',T',fr',u0,rfl,hb,hbo⟩:=hl;refine ⟨_,rfl,_,cat hcs hu,fun _=>?_,nofun⟩;rintro w2 hw2;have x2:EF w w2:=hw2▸(Ext.refl _).drew;clear hw2;have st2:=st.ext0 x2;refine ⟨_,rfl,_,cat (x2.old _ _ id hcs) hu,_,rfl,lim.n,cat (i:=1) (x2.old _ _ id hbo) rfl,_,(hO.ext x2 fun _ e=>e.elim).len 3,⟨rfl,rfl,trivial⟩,fun hc=>?_,fun hc=>hK w2 ?_ (FR2.of x2)⟩
  ·rintro w3 hw3;have x3:EF w2 w3:=hw3▸(Ext.refl _).drew;clear hw3;have st3:=st2.ext0 x3;refine ⟨_,rfl,_,cat (x3.old _ _ id (x2.old _ _ id hcs)) hu,_,rfl,lim.n,cat (i:=1) (x3.old _ _ id (x2.old _ _ id hbo)) rfl,_,(hO.ext (x2.then x3) fun _ e=>e.elim).len 3,⟨rfl,rfl,trivial⟩,trivial,trivial,trivial,?_⟩;refine ((st3.ext0 ((Ext.refl w3).alloc _)).addError hcnt _).mono ?_;rintro _ w5 ⟨rfl,st5,fr5,-⟩;refine ⟨rfl,trivial,trivial,hK w5 ?_ ((FR2.of ((x2.then x3).alloc _)).trans fr5)⟩;rw [hi,hc];simpa using st5
  ·rw [hi,hc];simpa using st2.more (Nat.le_succ _)
 ·rw [if_neg hi] at hl;subst hl;have hi:lim.is=false:=by simpa using hi
  refine ⟨_,rfl,_,cat hcs hu,nofun,fun _=>hK w ?_ (FR2.refl ..)⟩;rw [hi];simpa using st.more (Nat.le_succ _)
theorem VSt.strs (h:VSt s av B lo vb d n vid k v w E cnt T){w':World}{X:Nat->Prop}(hx:Ext X w w')(hX:∀ b,X b->lo<=b/\b≠d.g/\∃ cs fr,objAt w b=some (.cells cs 9 fr)):VSt s av B lo vb d n vid k v w' E cnt T/\FR2 lo d.g w w':=by
 obtain ⟨a,l,c,hv⟩:=h.blk;obtain ⟨pm,im,hub⟩:=h.uno;have ne:∀ {b:Nat} {T:TypeId} {cs:Array Value} {fr:Nat × Nat},objAt w b=some (.cells cs T fr)->T≠9->¬ X b:=fun hb h1 e=>by
  obtain ⟨-, -, cs,fr,h2⟩:=hX _ e;rw [hb] at h2;cases h2;exact h1 rfl
 have hXB:∀ k,X k->B<=k:=fun k e=>lt_ h.hBlo (hX k e).1;have hsb:=h.ctx.pl.sb;refine ⟨⟨⟨h.ctx.sch.ext hx hXB,lt_ h.ctx.hB hx.size,?_,h.ctx.scp.ext hx fun b cs fr hb=>ne hb (by decide),h.ctx.hsb,h.ctx.hg,h.ctx.hvb⟩,h.vd.ext hx (fun b cs fr _ hb=>ne hb (by decide)) (fun b cs fr _ hb=>ne hb (by decide)) (ne hv (by decide)),h.un.ext hx (ne hub (by decide)) (fun b es cl _ hb e=>?_),h.ra.ext hx hXB,h.hBlo,lt_ h.hlo hx.size,h.hub,h.hvb⟩,hx.mono fun b _ e=>.inl (hX b e).1,fun c hc=>hc.ext hx fun e=>(hX _ e).2.1 rfl⟩
 ·obtain ⟨hs,hlc,hcm,hl,cs,fr,t,ho,hcs⟩:=h.ctx.pl;exact ⟨hs.ext hx fun e=>(hX _ e).2.1 rfl,hlc,hcm,hl,cs,fr,t,hx.old _ _ (ne ho (by decide)) ho,hcs⟩
 ·obtain ⟨-, -, cs,fr,h2⟩:=hX _ e;rw [hb] at h2;cases h2
def Rep (w:World)(B:Nat)(av:Nat->Nat)(q:JPa)(k y:Value):Prop:=∃ tb,k=.iface 149 (.pointer (some (adr tb)))/\RTak w B tb q.ts/\y=.pointer (some (adr (av q.node.toNat)))
theorem Rep.ext {X:Nat->Prop}{w':World}{q:JPa}{kk y:Value}(h:Rep w B av q kk y)(hx:Ext X w w')(hX:∀ k,X k->B<=k):Rep w' B av q kk y:=by
 obtain ⟨tb,h1,h2,h3⟩:=h;exact ⟨tb,h1,h2.ext hx hX,h3⟩
theorem Rep.one {N:Nat}(ha:AsOK w av N){q q':JPa}(hq:later N 0 q.node/\q.node≠0)(hq':later N 0 q'.node/\q'.node≠0){kk y:Value}(h:Rep w B av q kk y)(h':Rep w B av q' kk y):q=q':=by
 obtain ⟨tb,e1,⟨-, a,l,c,T,fr,h2,h3⟩,e3⟩:=h;obtain ⟨tb',e1',⟨-, a',l',c',T',fr',h2',h3'⟩,e3'⟩:=h';rw [e1] at e1';simp only [Value.iface.injEq,Value.pointer.injEq,Option.some.injEq,Addr.mk.injEq,and_true,true_and] at e1';subst e1';rw [h2] at h2';simp only [Option.some.injEq,Obj.cells.injEq,Array.mk.injEq,List.cons.injEq,Value.slice.injEq,and_true] at h2';obtain ⟨⟨rfl,rfl,rfl⟩,-⟩:=h2';have ets:q.ts=q'.ts:=by
  apply List.ext_getElem?;intro i;by_cases hi:i<q.ts.length
  ·obtain ⟨p,T1,u,g1,-, g3,g4⟩:=h3.2.2 i _ (List.getElem?_eq_getElem hi);have hi':i<q'.ts.length:=by rw [<- h3'.1,h3.1];exact hi
   obtain ⟨p',T1',u',g1',-, g3',g4'⟩:=h3'.2.2 i _ (List.getElem?_eq_getElem hi');rw [g1] at g1';cases g1';have:=g3.cell.symm.trans g3'.cell;rw [g4,g4'] at this;simp only [Option.some.injEq,Value.string.injEq] at this;rw [List.getElem?_eq_getElem hi,List.getElem?_eq_getElem hi',this]
  ·rw [List.getElem?_eq_none (by omega),List.getElem?_eq_none (by rw [<- h3'.1,h3.1];omega)]
 rw [e3] at e3';simp only [Value.pointer.injEq,Option.some.injEq,Addr.mk.injEq,and_true] at e3';have r1:1<=q.node.toNat/\q.node.toNat<=N:=by rcases hq with ⟨h|h,h0⟩<;>omega
 have r2:1<=q'.node.toNat/\q'.node.toNat<=N:=by rcases hq' with ⟨h|h,h0⟩<;>omega
 have en:=ha.inj _ _ r1.1 r1.2 r2.1 r2.2 e3';obtain ⟨ts,node⟩:=q;obtain ⟨ts',node'⟩:=q';simp only at ets en r1 r2;subst ets;congr 1;rcases hq with ⟨h|h,h0⟩<;>rcases hq' with ⟨h'|h',h0'⟩<;>simp only at h h' h0 h0'<;>omega
end
section
variable {s:List JN} {av:Nat->Nat} {B f lo:Nat} {vb:Nat} {d:VdC} {n:Nat} {vid:Int} {k:Nat} {v:JV} {w w':World} {E:Bool} {cnt:Nat} {T:Nat->Prop}
variable {K:Value->Prop} {lo' r:Nat} {q:Option Nat} {S R:Value->Value->Prop} {base:Nat} {a:OA} {l c:Nat} {xs:List Value}
theorem VSt.itFr (st:VSt s av B lo vb d n vid k v w E cnt T)(it:OIt K lo' w r q S R)(hx:FR d.g w w'):OIt K lo' w' r q S R/\leftO w' r=leftO w r:=by
 obtain ⟨cur,hg⟩:=st.gb;refine it.ext1 hx.x (fun b hb e=>?_) fun e=>?_
 ·obtain ⟨es,cl,h⟩:=it.map.obj hb;exact z_e h hg e
 ·obtain ⟨_,_,_,_,h⟩:=it.iter;rw [e,hg] at h;cases h
theorem VSt.itXe (st:VSt s av B lo vb d n vid k v w E cnt T)(it:OIt K lo' w r q S R)(hx:Ext (XE lo vb w) w w'):OIt K lo' w' r q S R/\leftO w' r=leftO w r:=by
 refine it.ext1 hx (fun b hb=>?_) ?_
 ·obtain ⟨es,cl,h⟩:=it.map.obj hb;exact XE.noM st h nofun
 ·obtain ⟨_,_,_,_,h⟩:=it.iter;exact XE.noM st h nofun
theorem OIt.itIt (it:OIt K lo' w r q S R){r2:Nat}(hr:r≠r2)(h2:∃ a b c e,objAt w r2=some (.mapIter a b c e))(hx:Ext (fun k=>k=r2) w w'):OIt K lo' w' r q S R/\leftO w' r=leftO w r:=by
 refine it.ext1 hx (fun b hb e=>?_) hr;obtain ⟨es,cl,h⟩:=it.map.obj hb;obtain ⟨_,_,_,_,h2⟩:=h2;rw [e,h2] at h;cases h
theorem OIt.itCells (it:OIt K lo' w r q S R){X:Nat->Prop}(hX:∀ b,X b->∃ cs t fr,objAt w b=some (.cells cs t fr))(hx:Ext X w w'):OIt K lo' w' r q S R/\leftO w' r=leftO w r:=by
 refine it.ext1 hx (fun b hb e=>?_) fun e=>?_
 ·obtain ⟨es,cl,h⟩:=it.map.obj hb;obtain ⟨_,_,_,h2⟩:=hX b e;rw [h2] at h;cases h
 ·obtain ⟨_,_,_,_,h⟩:=it.iter;obtain ⟨_,_,_,h2⟩:=hX _ e;rw [h2] at h;cases h
theorem OIt.itMaps (it:OIt K lo' w r q S R){X:Nat->Prop}(hX:∀ b,X b->(∃ es cl,objAt w b=some (.map es cl))/\q≠some b)(hx:Ext X w w'):OIt K lo' w' r q S R/\leftO w' r=leftO w r:=by
 refine it.ext1 hx (fun b hb e=>(hX b e).2 hb) fun e=>?_;obtain ⟨_,_,_,_,h⟩:=it.iter;obtain ⟨⟨_,_,h2⟩,-⟩:=hX _ e;rw [h2] at h;cases h
theorem Own.kp (hO:Own base w 9 1 a l c xs){X:Nat->Prop}(hx:Ext X w w')(hX:∀ b cs fr,base<=b->objAt w b=some (.cells cs 9 fr)->¬ X b):Own base w' 9 1 a l c xs:=
 hO.keep hx fun b hb=>by
  obtain ⟨h1,cs,fr,h2⟩:=hO.isT b hb;exact hX b cs fr h1 h2
theorem VSt.ownFr (st:VSt s av B lo vb d n vid k v w E cnt T)(hO:Own base w 9 1 a l c xs)(hb:d.g<base)(hx:FR d.g w w'):Own base w' 9 1 a l c xs:=
 hO.kp hx.x fun b cs fr h1 _ e=>by omega
theorem VSt.ownXe (st:VSt s av B lo vb d n vid k v w E cnt T)(hO:Own base w 9 1 a l c xs)(hx:Ext (XE lo vb w) w w'):Own base w' 9 1 a l c xs:=by
 obtain ⟨a0,l0,c0,hv⟩:=st.blk;exact hO.kp hx fun b cs fr _ h2=>XE.ne h2 (fun _ _ e=>by injection e with _ e;exact absurd e (by decide)) (fun _ _ e=>by injection e with _ e;exact absurd e (by decide)) hv
theorem Own.it (hO:Own base w 9 1 a l c xs){r2:Nat}(h2:∃ a b c e,objAt w r2=some (.mapIter a b c e))(hx:Ext (fun k=>k=r2) w w'):Own base w' 9 1 a l c xs:=
 hO.kp hx fun b cs fr _ h e=>by
  obtain ⟨_,_,_,_,h2⟩:=h2;rw [e,h2] at h;cases h
theorem Own.mp (hO:Own base w 9 1 a l c xs){X:Nat->Prop}(hX:∀ b,X b->∃ es cl,objAt w b=some (.map es cl))(hx:Ext X w w'):Own base w' 9 1 a l c xs:=
 hO.kp hx fun b cs fr _ h e=>by
  obtain ⟨_,_,h2⟩:=hX b e;rw [h2] at h;cases h
theorem VSt.errs (st:VSt s av B lo vb d n vid k v w E cnt T):∃ a l c,VBlk w vb d a l c/\decide ((l:Int)>0)= !E/\((l:Int)=0↔E=true):=by
 obtain ⟨a,l,c,ps,hv,ho,-, he,-⟩:=st.vd;have hl:=ho.l1;refine ⟨a,l,c,hv,?_,?_⟩
 ·cases E with
  | true=>
   have:=he.1 rfl;subst this;rw [decide_eq_false (by simp at hl;omega)];rfl
  | false=>
   have:ps≠[]:=fun h=>by have:=he.2 h;cases this
   have:0<ps.length:=List.length_pos_iff.2 this;rw [decide_eq_true (by omega)];rfl
 ·rw [he];constructor
  ·intro h;exact List.eq_nil_of_length_eq_zero (by omega)
  ·rintro rfl;simpa using hl
theorem VSt.del (st:VSt s av B lo vb d n vid k v w E cnt T){t:BA}{i:Nat}(h5:v.k=5)(ht:memb v.ns t=some i):∃ pm im,objAt w d.ub=some (.cells #[.map pm,.map im] 198 (0,0))/\∃ (dv:Value) (w':World),(Go.builtin .delete #[195,9] 0 #[false,false] #[.map pm,.string t]).run Tryz.prog w=.ok (.value dv) w'/\VSt s av B lo vb d n vid k v w' E cnt (fun j=>T j/\j≠i)/\FR2 lo d.g w w'/\Ext (fun b=>pm=some b) w w'/\(∀ b,pm=some b->lo<=b/\∃ es cl,objAt w b=some (.map es cl)):=by
 obtain ⟨pm,im,hub,m1,m2,m3,m4⟩:=st.un;have u1:Tryz.prog.underlying 195=some (.map 9 199):=by kernel_rfl
 have k1:Tryz.prog.underlying 9=some .string:=by kernel_rfl
 obtain ⟨w',⟨dv,d2⟩,d3,d4⟩:=z_J (P:=Tryz.prog) (u:=.string t) (ty:=0) (fs:=#[false,false]) u1 k1 trivial m1;have isM:∀ b,pm=some b->lo<=b/\∃ es cl,objAt w b=some (.map es cl):=fun b hb=>⟨by subst hb;exact m1.1,m1.obj hb⟩;have hnm:∀ {b:Nat} {cs:Array Value} {T:TypeId} {fr:Nat × Nat},objAt w b=some (.cells cs T fr)->¬ pm=some b:=fun hb e=>by
  obtain ⟨-, es,cl,h⟩:=isM _ e;rw [hb] at h;cases h
 have ls:LS lo d v w w' (fun j=>T j/\j≠i):=⟨d4.mono fun b _ e=>.inr (isM b e),fun c' hc'=>by
   obtain ⟨cur,h',-⟩:=id hc';exact hc'.ext d4 (hnm h'),pm,im,d4.old _ _ (hnm hub) hub,d3.congr fun kk z=>?_,(m2.ext1 d4 fun b hb e=>m4.elim (fun m4=>by rw [m4] at e;cases e) fun m4=>by rw [m4] at hb;cases hb).congr fun kk z=>⟨fun ⟨_,j,_,h4,_⟩=>by omega,fun ⟨_,j,_,h4,_⟩=>by omega⟩,fun j hj=>m3 j hj.1,m4⟩
 ·exact ⟨pm,im,hub,dv,w',d2,ls.st st,ls.fr2,d4,isM⟩
 ·constructor
  ·rintro ⟨rfl,t',j,rfl,h5',hm,hTj,hne⟩;refine ⟨fun e=>hne ?_,rfl,t',j,rfl,h5',hm,hTj⟩;cases e;rw [ht] at hm;exact (Option.some.inj hm).symm
  ·rintro ⟨hne,rfl,t',j,rfl,h5',hm,hTj⟩;refine ⟨rfl,t',j,rfl,h5',hm,hTj,fun e=>hne ?_⟩;subst e;have a1:=(x_a.1 ht).1;have a2:=(x_a.1 hm).1;rw [a1] at a2;rw [Option.some.inj a2]
end
section
variable {s:List JN} {av:Nat->Nat} {B f lo:Nat} {vb:Nat} {d:VdC} {n:Nat} {vid:Int} {k:Nat} {v:JV} {w:World} {E:Bool} {cnt:Nat} {T:Nat->Prop}
theorem B_3 {J:JJ}{x:JN}{t:BA}{y:JV}:x_d J x t y=if ((x.props.reverse.find? fun q=>decide (q.name=t)).isSome|| !(x.pats.filter fun q=>among t q.ts).isEmpty)=true then (((x.props.reverse.find? fun q=>decide (q.name=t)).elim true fun q=>(J q.node y).1)&&(x.pats.filter fun q=>among t q.ts).all fun q=>(J q.node y).1,true) else jmore J x.more y:=by
 unfold x_d;dsimp only;cases x.props.reverse.find? fun q=>decide (q.name=t)<;>rfl
set_option maxHeartbeats 4000000 in
theorem E_F (hS:okS s)(IH:CV s av B f)(st:VSt s av B lo vb d n vid k v w E cnt T){x:JN}(h1:1<=n)(hx:s[n-1]? =some x)(hk:x.kind=0)(hM:MJ s.length v n<=f)(hok:okV v)(hl:d.l+szJ v<=1100000)(hcnt:cnt<=1000000000000)(h5:v.k=5){b:Nat}{S:Value->Value->Prop}(hO:RObj w B v b S):
  CP 129 #[.pointer (some (adr vb)),.map (some b)] w fun e w'=>e=.returned (.tuple #[])/\∃ E' T',VSt s av B lo vb d n vid k v w' E' (cnt+4000000000000) T'/\(E'=true↔E=true/\objOK (w_2 2020 s f) x v/\∀ n∈depsN x v,(w_2 2020 s f n v).1=true)/\(E'=true->∀ i,T' i↔T i/\¬ (i∈membs v.ns/\objM (w_2 2020 s f) x v i)/\¬ ∃ n∈depsN x v,mkd (w_2 2020 s f n v).2 i)/\FR2 lo d.g w w':=by
 have hN:=hS (n-1) x hx;rw [Nat.sub_add_cancel h1] at hN;have sv:∀ {w1:World} {E1:Bool} {c1:Nat} {T1:Nat->Prop},VSt s av B lo vb d n vid k v w1 E1 c1 T1->∀ {m:Int},later s.length 0 m->m≠0->∀ {y:JV} {o':Option (TypeId × Value)},okV y->szJ y<szJ v->RA w1 B y o'->CP 66 #[.pointer (some (adr (av m.toNat))),ifcV o'] w1 fun e w'=>∃ o,e=.returned (ifcV o)/\EF w1 w'/\o.isNone=(w_2 2020 s f m y).1/\(o≠none->∃ q,o=some (169,.pointer q)/\VErr w1.heap.size w' q):=fun h1 m hm h0 y o' hy hsz hra=>by
  obtain ⟨x',g1,g2,g3,g4⟩:=z_w hS hm h0;have hlt:MJ s.length y m.toNat<MJ s.length v n:=C_f hsz;refine (c_Sv hS IH h1.ctx.sch h1.ctx.hB g2 g3 (by omega) hy hra (by omega)).mono ?_;rintro _ w' ⟨o,rfl,hx,h3,h4⟩;rw [g4] at h3;refine ⟨o,rfl,hx,?_,h4⟩;cases o with
  | none=>exact (h3.1 rfl).symm
  | some z=>
   cases hj:(w_2 2020 s f m y).1 with
   | false=>rfl
   | true=>exact absurd (h3.2 hj) nofun
 generalize hJ:w_2 2020 s f=J;have val:∀ {w1:World} {E1:Bool} {c1:Nat} {T1:Nat->Prop},VSt s av B lo vb d n vid k v w1 E1 c1 T1->∀ {m:Int},later s.length 0 m->m≠0->∀ {y:JV} {o':Option (TypeId × Value)},okV y->szJ y<szJ v->RA w1 B y o'->∀ (tok:BA),CP 154 #[.pointer (some (adr vb)),.pointer (some (adr (av m.toNat))),ifcV o',.string tok] w1 fun e w'=>∃ o,e=.returned (ifcV o)/\FR d.g w1 w'/\o.isNone=(J m y).1/\(o≠none->∃ q,o=some (169,.pointer q)/\VErr w1.heap.size w' q):=fun h1 m hm h0 y o' hy hsz hra tok=>by
  have:=h1.val hS IH hM hl hm h0 hy hsz hra tok
  rwa [hJ] at this
 have self:∀ {w1:World} {E1:Bool} {c1:Nat} {T1:Nat->Prop},VSt s av B lo vb d n vid k v w1 E1 c1 T1->∀ {m:Int},later s.length n m->m≠0->∀ (kw:BA) (br:Bool),CP 151 #[.pointer (some (adr vb)),.pointer (some (adr (av m.toNat))),.string kw,.bool br] w1 fun e w'=>∃ o,e=.returned (ifcV o)/\LS lo d v w1 w' (fun i=>T1 i/\¬ mkd (J m v).2 i)/\o.isNone=(J m v).1/\(o≠none->∃ q,o=some (169,.pointer q)/\VErr w1.heap.size w' q):=fun h1 m hm h0 kw br=>by
  have:=h1.self hS IH hM hok hl hm h0 kw br
  rwa [hJ] at this
 rw [hJ] at sv;clear hJ;have u3:Tryz.prog.underlying 110=some (.map 9 20):=by kernel_rfl
 have u4:Tryz.prog.underlying 108=some (.map 9 72):=by kernel_rfl
 have u5:Tryz.prog.underlying 109=some (.map 113 72):=by kernel_rfl
 have u6:Tryz.prog.underlying 111=some (.map 9 24):=by kernel_rfl
 have k1:Tryz.prog.underlying 9=some .string:=by kernel_rfl
 have hi3:Tryz.prog.info? 20=some Tryz.t20:=by kernel_rfl
 have hz3:Tryz.t20.zero=some .nilIface:=by kernel_rfl
 have hi4:Tryz.prog.info? 72=some Tryz.t72:=by kernel_rfl
 have hz4:Tryz.t72.zero=some (.pointer none):=by kernel_rfl
 have hlen5:=hok.len5 h5;have hszl:=y_l v;have hbB:b<B:=hO.1;have up:=FR2.up st.hBlo st.ctx.hg;have objAt':∀ {w1:World},FR2 lo d.g w w1->RObj w1 B v b S:=fun fr=>hO.ext fr.x up;have look:∀ {w1:World},FR2 lo d.g w w1->∀ t:BA,∃ (o':Option (TypeId × Value)) (g:Bool),(∀ ok,(Instr.lookup 110 (.map (some b)) (.string t) ok).run Tryz.prog w1=.ok (if ok then .tuple #[ifcV o',.bool g] else ifcV o') w1)/\g=(memb v.ns t).isSome:=fun {w1} fr t=>by
  have hO1:=objAt' fr;obtain ⟨ov,g,hrun,hg⟩:=x_l (P:=Tryz.prog) (lo:=0) (q:=some b) (u:=.string t) u3 k1 hi3 hz3 trivial ⟨Nat.zero_le _,hO1.2.1⟩;have hif:∃ o26,ov=ifcV o26:=by
   rcases hg with ⟨-, hg⟩|⟨-, hg,-⟩
   ·obtain ⟨_,_,_,o26,_,_,_,h,_⟩:=hO1.2.2.1 _ _ hg;exact ⟨o26,h⟩
   ·exact ⟨none,hg⟩
  obtain ⟨o26,rfl⟩:=hif;refine ⟨o26,g,hrun,?_⟩;cases hm:memb v.ns t with
  | none=>
   rcases hg with ⟨hg,h⟩|⟨hg,-⟩
   ·obtain ⟨s',j,y,o',e1,e2,-⟩:=hO1.2.2.1 _ _ h;cases e1;rw [hm] at e2;cases e2
   ·rw [hg];rfl
  | some j=>
   rcases hg with ⟨hg,h⟩|⟨-, -, h⟩
   ·rw [hg];rfl
   ·obtain ⟨z,hz⟩:=hO1.2.2.2 t j hm;exact absurd hz (h z)
 obtain ⟨a0,l0,c0,hv⟩:=st.blk;obtain ⟨cs,hcs,hsc⟩:=st.sc h1 hx;have hw:=hsc.words hk;refine x_O (some (adr vb)) (some b) w _ ⟨_,rfl,_,cat hv rfl,fun K5 hK5=>?_⟩;refine st.limP (by omega) hO hcs hw.minP (fun m n=>decide (m<n)) _ _ fun w6 st6 fr6=>hK5 w6 fun K7 hK7=>?_;generalize hE6:(E&&(!x.minP.is|| !decide (((membs v.ns).length:Int)<x.minP.n)))=E6 at st6;obtain ⟨cs6,hcs6,hsc6⟩:=st6.sc h1 hx;refine st6.limP (by omega) (objAt' fr6) hcs6 (hsc6.words hk).maxP (fun m n=>decide (m>n)) _ _ fun w8 st8 fr8=>hK7 w8 fun K9 hK9=>?_;generalize hE8:(E6&&(!x.maxP.is|| !decide (((membs v.ns).length:Int)>x.maxP.n)))=E8 at st8;have k9:∀ w10,VSt s av B lo vb d n vid k v w10 (E8&&there v x.req) (cnt+3) T->FR2 lo d.g w w10->K9 w10:=by
  generalize hE10:(E8&&there v x.req)=E10;intro w10 st10 fr10;have hE10':E10=true↔E=true/\bound (membs v.ns).length x.minP x.maxP=true/\there v x.req=true:=by
   have e1:((!x.minP.is|| !decide (((membs v.ns).length:Int)<x.minP.n))&&(!x.maxP.is|| !decide (((membs v.ns).length:Int)>x.maxP.n)))=bound (membs v.ns).length x.minP x.maxP:=by
    rw [y_U,y_o];rfl
   rw [<- hE10,<- hE8,<- hE6,<- e1];simp only [Bool.and_eq_true,and_assoc]
  refine hK9 w10 fun K11 hK11=>?_;obtain ⟨a10,l10,c10,hv10,herr10,-⟩:=st10.errs;have bad:∀ (w1:World) (E1:Bool) (T1:Nat->Prop) (c1:Nat),VSt s av B lo vb d n vid k v w1 E1 c1 T1->c1<=cnt+4000000000000->FR2 lo d.g w w1->E1=false->¬ (E=true/\objOK J x v/\∀ n∈depsN x v,(J n v).1=true)->(Ending.returned (.tuple #[])=Ending.returned (.tuple #[])/\∃ E' T',VSt s av B lo vb d n vid k v w1 E' (cnt+4000000000000) T'/\(E'=true↔E=true/\objOK J x v/\∀ n∈depsN x v,(J n v).1=true)/\(E'=true->∀ i,T' i↔T i/\¬ (i∈membs v.ns/\objM J x v i)/\¬ ∃ n∈depsN x v,mkd (J n v).2 i)/\FR2 lo d.g w w1):=fun w1 E1 T1 c1 h1 hc h2 h3 h4=>⟨rfl,E1,T1,h1.more hc,⟨fun h=>(by rw [h3] at h;cases h),fun h=>absurd h h4⟩,fun h=>(by rw [h3] at h;cases h),h2⟩;have k11:K11 false w10:=hK11 _ _ ⟨nofun,fun _=>by
   obtain ⟨cs10,hcs10,hsc10⟩:=st10.sc h1 hx;have hw10:=hsc10.words hk;obtain ⟨db,hdb,hdbB,hdm⟩:=hw10.deps';obtain ⟨w17,r17,it17,x17⟩:=x_g (P:=Tryz.prog) (lo:=0) (q:=some db) u3 ⟨Nat.zero_le _,hdm⟩;refine ⟨_,rfl,_,cat hcs10 hdb,adr w10.heap.size,w17,r17,trivial,fun w1=>w1=w17,fun _=>0,rfl,?_⟩;rintro w20 rfl K21 hK21;obtain ⟨n1,n2⟩:=(it17.next (P:=Tryz.prog) 0).resolve_right fun ⟨_,_,_,hR,_⟩=>hR;refine .inl ⟨w20,n1,trivial,hK21 _ _ ⟨nofun,fun _=>?_⟩⟩;have st20:=st10.ext0 x17;have fr20:=fr10.trans (FR2.of x17);obtain ⟨w57,r57,it57,x57⟩:=x_g (P:=Tryz.prog) (lo:=0) (q:=some b) u3 ⟨Nat.zero_le _,(objAt' fr20).2.1⟩;have hml:(membs v.ns).length<=1100000:=by have:=C_C v.ns;omega
   have hct:leftO w57 w20.heap.size<=1100000:=by
    refine lt_ (it57.left_le (L:=(nmsOf v.ns).map Value.string) fun kk z hz=>?_) (by rw [List.length_map,z_v];exact hml);obtain ⟨t,i,y,o',rfl,hm,-⟩:=hO.2.2.1 _ _ hz;exact mm_.2 ⟨t,y_i.2 ⟨i,hm⟩,rfl⟩
   have hgl:d.g<w20.heap.size:=st20.ctx.pl.sb.lt;have hpl:=hN.len.2.2.2.1;refine ⟨adr w20.heap.size,w57,r57,trivial,fun aa al ac w1=>∃ R E1 c1 T1 xs,OIt KS 0 w1 w20.heap.size (some b) S R/\VSt s av B lo vb d n vid k v w1 E1 c1 T1/\c1+leftO w1 w20.heap.size*1100002<=cnt+3+1100000*1100002/\FR2 lo d.g w w1/\w20.heap.size<w1.heap.size/\Own w20.heap.size w1 9 1 aa al ac xs/\al+leftO w1 w20.heap.size<=1100000/\
     ((E1=true/\al=0)↔E10=true/\∀ t i y,memb v.ns t=some i->v.xs[i]? =some y->(∀ z,¬ R (.string t) z)->(x_d J x t y).1=true)/\
     (∀ j,T1 j↔T j/\¬ ∃ t y,memb v.ns t=some j/\v.xs[j]? =some y/\(∀ z,¬ R (.string t) z)/\(x_d J x t y).2=true),fun _ _ _ w1=>leftO w1 w20.heap.size,?_,?_⟩
   ·refine ⟨S,E10,cnt+3,T,[],it57,st20.ext0 x57,by have:=Nat.mul_le_mul_right 1100002 hct;omega,fr20.trans (FR2.of x57),by obtain ⟨_,_,_,_,h⟩:=it57.iter;exact a_3 h,Own.nil ..,by omega,⟨fun h=>⟨h.1,fun t i y hm hy hn=>?_⟩,fun h=>⟨h.1,rfl⟩⟩,fun j=>⟨fun h=>⟨h,?_⟩,fun h=>h.1⟩⟩
    ·obtain ⟨z,hz⟩:=hO.2.2.2 t i hm;exact absurd hz (hn z)
    ·rintro ⟨t,y,hm,-, hn,-⟩;obtain ⟨z,hz⟩:=hO.2.2.2 t j hm;exact hn z hz
   rintro aa al ac w61 ⟨R,E1,c1,T1,xs,it,st1,hc1,fr1,hsz1,hown,hal,hE1,hT1⟩ K62 hK62;rcases it.next (P:=Tryz.prog) 0 with ⟨n3,n4⟩|⟨kk,z,w64,hRk,hlt,n3,it64,x64,n4⟩
   ·refine .inl ⟨w61,n3,trivial,hK62 _ _ ⟨nofun,fun _ K159 hK159=>?_⟩⟩;have hE1':(E1=true/\al=0)↔E10=true/\∀ t i y,memb v.ns t=some i->v.xs[i]? =some y->(x_d J x t y).1=true:=hE1.trans (and_congr Iff.rfl ⟨fun h t i y hm hy=>h t i y hm hy fun z=>n4 _ _,fun h t i y hm hy _=>h t i y hm hy⟩);have hT1':∀ j,T1 j↔T j/\¬ (j∈membs v.ns/\objM J x v j):=fun j=>by
     rw [hT1];refine and_congr Iff.rfl (not_congr ⟨fun ⟨t,y,hm,hy,_,hj⟩=>⟨x_f.2 ⟨t,(x_a.1 hm).1,hm⟩,t,y,(x_a.1 hm).1,hy,hj⟩,fun ⟨hm,t,y,ht,hy,hj⟩=>?_⟩);obtain ⟨t',ht',hm'⟩:=x_f.1 hm;rw [ht] at ht';cases ht';exact ⟨t,y,hm',hy,fun z=>n4 _ _,hj⟩
    have k159:∀ (w160:World) (E4:Bool) (c4:Nat),VSt s av B lo vb d n vid k v w160 E4 c4 T1->c4<=cnt+2000000000000->FR2 lo d.g w w160->(E4=true↔E10=true/\∀ t i y,memb v.ns t=some i->v.xs[i]? =some y->(x_d J x t y).1=true)->K159 w160:=by
     intro w160 E4 c4 st4 hc4 fr4 hE4;refine hK159 w160 ?_;obtain ⟨cs160,hcs160,hsc160⟩:=st4.sc h1 hx;have hw160:=hsc160.words hk;refine ⟨_,rfl,_,cat hcs160 hsc160.f3,fun h=>absurd h (by decide),fun _ K163 hK163=>?_⟩;have k163:∀ (w164:World) (E5:Bool) (c5:Nat),VSt s av B lo vb d n vid k v w164 E5 c5 T1->c5<=cnt+2100000000000->FR2 lo d.g w w164->(E5=true↔E4=true/\(x.names>0->∀ t i,memb v.ns t=some i->(J x.names (.mk 3 false 0 t [] [])).1=true))->K163 w164:=by
      intro w164 E5 c5 st5 hc5 fr5 hE5;refine hK163 w164 ?_;obtain ⟨cs164,hcs164,hsc164⟩:=st5.sc h1 hx;have hw164:=hsc164.words hk;obtain ⟨u29,hu29,pb,Sd,rfl,hpb,hGd,hSd⟩:=hw164.deps;obtain ⟨w170,r170,it170,x170⟩:=x_g (P:=Tryz.prog) (lo:=0) (q:=some pb) u4 ⟨Nat.zero_le _,hGd⟩;have hdl:=hN.len.2.2.2.2.1;have hnl:=hN.len.2.2.2.2.2.1;have hct2:leftO w170 w164.heap.size<=1100000:=by
       refine lt_ (it170.left_le (L:=x.deps.map fun q=>Value.string q.name) fun kk z hz=>?_) (by rw [List.length_map];exact hdl);obtain ⟨q,hq,rfl,-⟩:=(hSd _ _).1 hz;exact mm_.2 ⟨q,x_G hq,rfl⟩
      refine ⟨_,rfl,_,cat hcs164 hsc164.f3,fun h=>absurd h (by decide),fun _=>⟨_,rfl,_,cat hcs164 hu29,adr w164.heap.size,w170,r170,trivial,fun w1=>∃ R E6 c6 T6,OIt KS 0 w1 w164.heap.size (some pb) Sd R/\VSt s av B lo vb d n vid k v w1 E6 c6 T6/\c6+leftO w1 w164.heap.size<=cnt+2200000000000/\FR2 lo d.g w w1/\w164.heap.size<w1.heap.size/\
       (E6=true↔E5=true/\∀ q∈lasts JPr.name x.deps,(∀ z,¬ R (.string q.name) z)->(memb v.ns q.name).isSome=true->(J q.node v).1=true)/\
       (∀ j,T6 j↔T1 j/\¬ ∃ q∈lasts JPr.name x.deps,(∀ z,¬ R (.string q.name) z)/\(memb v.ns q.name).isSome=true/\mkd (J q.node v).2 j),fun w1=>leftO w1 w164.heap.size,?_,?_⟩⟩
      ·have hd0:∀ q∈lasts JPr.name x.deps,¬ ∀ z,¬ Sd (.string q.name) z:=fun q hq h=>h _ ((hSd _ _).2 ⟨q,hq,rfl,rfl⟩);exact ⟨Sd,E5,c5,T1,it170,st5.ext0 x170,by omega,fr5.trans (FR2.of x170),(by obtain ⟨_,_,_,_,h⟩:=it170.iter;exact a_3 h),⟨fun h=>⟨h,fun q hq hn=>absurd hn (hd0 q hq)⟩,fun h=>h.1⟩,fun j=>⟨fun h=>⟨h,fun ⟨q,hq,hn,_⟩=>hd0 q hq hn⟩,fun h=>h.1⟩⟩
      rintro w173 ⟨Rd,E6,c6,T6,itd,st6',hc6,fr6',hsz6,hE6',hT6⟩ K174 hK174;rcases itd.next (P:=Tryz.prog) 0 with ⟨m1,m2⟩|⟨kd,zd,w176,hRd,hltd,m1,itd2,x176,m2⟩
      ·refine .inl ⟨w173,m1,trivial,hK174 _ _ ⟨nofun,fun _=>?_⟩⟩;obtain ⟨cs173,hcs173,hsc173⟩:=st6'.sc h1 hx;obtain ⟨nb,Sn,hu28,hnb,hGn,hSn1,hSn2⟩:=(hsc173.words hk).needs;obtain ⟨w191,r191,it191,x191⟩:=x_g (P:=Tryz.prog) (lo:=0) (q:=some nb) u6 ⟨Nat.zero_le _,hGn⟩;have hct3:leftO w191 w173.heap.size<=1100000:=by
        refine lt_ (it191.left_le (L:=x.needs.map fun q=>Value.string q.name) fun kk z hz=>?_) (by rw [List.length_map];exact hnl);obtain ⟨q,hq,rfl,-⟩:=hSn1 _ _ hz;exact mm_.2 ⟨q,x_G hq,rfl⟩
       refine ⟨_,rfl,_,cat hcs173 hu28,adr w173.heap.size,w191,r191,trivial,fun w1=>∃ R E7 c7,OIt KS 0 w1 w173.heap.size (some nb) Sn R/\VSt s av B lo vb d n vid k v w1 E7 c7 T6/\c7+leftO w1 w173.heap.size<=cnt+2300000000000/\FR2 lo d.g w173 w1/\w173.heap.size<w1.heap.size/\
        (E7=true↔E6=true/\∀ q∈lasts JNe.name x.needs,(∀ z,¬ R (.string q.name) z)->(!(memb v.ns q.name).isSome||there v q.names)=true),fun w1=>leftO w1 w173.heap.size,
        ⟨Sn,E6,c6,it191,st6'.ext0 x191,by omega,FR2.of x191,(by obtain ⟨_,_,_,_,h⟩:=it191.iter;exact a_3 h),⟨fun h=>⟨h,fun q hq hn=>by obtain ⟨y,hy⟩:=hSn2 q hq;exact absurd hy (hn y)⟩,fun h=>h.1⟩⟩,?_⟩
       rintro w194 ⟨Rn,E7,c7,itn,st7,hc7,fr7,hsz7,hE7⟩ K195 hK195;rcases itn.next (P:=Tryz.prog) 0 with ⟨o1,o2⟩|⟨kn,zn,w197,hRn,hltn,o1,itn2,x197,o2⟩
       ·refine .inl ⟨w194,o1,trivial,hK195 _ _ ⟨nofun,fun _=>⟨rfl,E7,T6,st7.more (by omega),?_,fun h7 i=>?_,fr6'.trans fr7⟩⟩⟩
        ·rw [hE7,hE6',hE5,hE4,hE10',objOK];have hj:x_T x v=true↔there v x.req=true/\∀ q∈lasts JNe.name x.needs,(!(memb v.ns q.name).isSome||there v q.names)=true:=by
          unfold x_T;rw [Bool.and_eq_true,List.all_eq_true]
         have hdp:(∀ n∈depsN x v,(J n v).1=true)↔∀ q∈lasts JPr.name x.deps,(memb v.ns q.name).isSome=true->(J q.node v).1=true:=by
          unfold depsN;rw [if_pos h5];constructor
          ·intro h q hq hm;exact h q.node (List.mem_filterMap.2 ⟨q,hq,by rw [if_pos hm]⟩)
          ·intro h m hm;obtain ⟨q,hq,hqm⟩:=List.mem_filterMap.1 hm;split at hqm
           ·rename_i hs;cases hqm;exact h q hq hs
           ·cases hqm
         have hmm:(∀ i∈membs v.ns,∀ t y,v.ns[i]? =some t->v.xs[i]? =some y->memOK J x t y=true)↔(∀ t i y,memb v.ns t=some i->v.xs[i]? =some y->(x_d J x t y).1=true)/\(x.names>0->∀ t i,memb v.ns t=some i->(J x.names (.mk 3 false 0 t [] [])).1=true):=by
          unfold memOK;constructor
          ·intro h;refine ⟨fun t i y hm hy=>?_,fun hp t i hm=>?_⟩
           ·have:=h i (x_f.2 ⟨t,(x_a.1 hm).1,hm⟩) t y (x_a.1 hm).1 hy;rw [Bool.and_eq_true] at this;exact this.2
           ·have hil:i<v.xs.length:=by have:=(List.getElem?_eq_some_iff.1 (x_a.1 hm).1).1;omega
            have:=h i (x_f.2 ⟨t,(x_a.1 hm).1,hm⟩) t _ (x_a.1 hm).1 (List.getElem?_eq_getElem hil);rw [Bool.and_eq_true,decide_eq_false (by omega),Bool.false_or] at this;exact this.1
          ·rintro ⟨h1',h2'⟩ i hi t y ht hy;obtain ⟨t',ht',hm⟩:=x_f.1 hi;rw [ht] at ht';cases ht';rw [Bool.and_eq_true,h1' t i y hm hy];by_cases hp:x.names>0
           ·rw [h2' hp t i hm,Bool.or_true];exact ⟨rfl,rfl⟩
           ·rw [decide_eq_true (by omega),Bool.true_or];exact ⟨rfl,rfl⟩
         rw [hj,hdp,hmm];constructor
         ·rintro ⟨⟨⟨⟨⟨q1,q2,q3⟩,q4⟩,q5⟩,q6⟩,q7⟩;exact ⟨q1,⟨q2,⟨q3,fun q hq=>q7 q hq fun z=>o2 _ _⟩,q4,q5⟩,fun q hq=>q6 q hq fun z=>m2 _ _⟩
         ·rintro ⟨q1,⟨q2,⟨q3,q7⟩,q4,q5⟩,q6⟩;exact ⟨⟨⟨⟨⟨q1,q2,q3⟩,q4⟩,q5⟩,fun q hq _=>q6 q hq⟩,fun q hq _=>q7 q hq⟩
        ·rw [hT6,hT1',and_assoc];refine and_congr Iff.rfl (and_congr Iff.rfl (not_congr ?_));unfold depsN;rw [if_pos h5];constructor
         ·rintro ⟨q,hq,-, hm,hk'⟩;exact ⟨q.node,List.mem_filterMap.2 ⟨q,hq,by rw [if_pos hm]⟩,hk'⟩
         ·rintro ⟨m,hm,hk'⟩;obtain ⟨q,hq,hqm⟩:=List.mem_filterMap.1 hm;split at hqm
          ·rename_i hs;cases hqm;exact ⟨q,hq,fun z=>m2 _ _,hs,hk'⟩
          ·cases hqm
       ·obtain ⟨q,hq,rfl,sa,sl,sc,rfl,hRs⟩:=hSn1 _ _ (itn.sub hRn);obtain ⟨st197,fr197⟩:=st7.iter x197 itn.iter st6'.hlo;have fr197':=(fr6'.trans fr7).trans fr197;obtain ⟨o202,g,hrun,hg⟩:=look fr197' q.name;have uniq:∀ q'∈lasts JNe.name x.needs,q'.name=q.name->q'=q:=fun q' hq' e=>by
         have e1:=x_1.1 ⟨hq',e⟩;have e2:=x_1.1 ⟨hq,(rfl:JNe.name q=q.name)⟩;rw [e1] at e2;exact Option.some.inj e2
        have step:∀ (E8':Bool) (w2:World) (c8:Nat),VSt s av B lo vb d n vid k v w2 E8' c8 T6->OIt KS 0 w2 w173.heap.size (some nb) Sn (fun k' v'=>k'≠ .string q.name/\Rn k' v')->leftO w2 w173.heap.size<leftO w194 w173.heap.size->c8<=c7+1->FR2 lo d.g w197 w2->(E8'=true↔E7=true/\(!(memb v.ns q.name).isSome||there v q.names)=true)->(∃ R E7 c7,OIt KS 0 w2 w173.heap.size (some nb) Sn R/\VSt s av B lo vb d n vid k v w2 E7 c7 T6/\c7+leftO w2 w173.heap.size<=cnt+2300000000000/\FR2 lo d.g w173 w2/\w173.heap.size<w2.heap.size/\
          (E7=true↔E6=true/\∀ q∈lasts JNe.name x.needs,(∀ z,¬ R (.string q.name) z)->(!(memb v.ns q.name).isSome||there v q.names)=true))/\leftO w2 w173.heap.size<leftO w194 w173.heap.size:=fun E8' w2 c8 hst hit hlt' hc8 hfr hE8'=>by
         refine ⟨⟨_,E8',c8,hit,hst,by omega,(fr7.trans fr197).trans hfr,by have:=fr197.x.size;have:=hfr.x.size;omega,?_⟩,hlt'⟩;rw [hE8',hE7,and_assoc];refine and_congr Iff.rfl ⟨fun ⟨h2,h3⟩ q' hq' hn=>?_,fun h=>⟨fun q' hq' hn=>h q' hq' fun z h'=>hn z h'.2,h q hq fun z h'=>h'.1 rfl⟩⟩;by_cases e:q'.name=q.name
         ·rw [uniq q' hq' e];exact h3
         ·exact h2 q' hq' fun z h'=>hn z ⟨fun e'=>e (by injection e'),h'⟩
        refine .inr ⟨_,_,w197,o1,trivial,hK195 _ _ ⟨fun _=>⟨_,_,o2,q.name,rfl,sa,sl,sc,rfl,o202,g,hrun true,fun hgt=>?_,fun hgf=>?_⟩,nofun⟩⟩
        ·have hms:(memb v.ns q.name).isSome=true:=by rw [<- hg];exact hgt
         have hRs':=hRs.ext (fr7.trans fr197).x up;refine st197.miss (by omega) (objAt' fr197') hRs' (by have:=hN.len.2.2.2.2.2.2.2 q (x_G hq);have:=hRs'.1;omega) fun w1 st1' fr1' xe=>?_;have hit:=st197.itXe itn2 xe;exact step _ w1 _ st1' hit.1 (by rw [hit.2];exact hltn) (Nat.le_refl _) fr1' (by rw [Bool.and_eq_true,hms];simp)
        ·have hms:(memb v.ns q.name).isSome=false:=by rw [<- hg];exact hgf
         exact step E7 w197 c7 st197 itn2 hltn (Nat.le_succ _) (FR2.refl ..) (by rw [hms];simp)
      ·obtain ⟨q,hq,rfl,rfl⟩:=(hSd _ _).1 (itd.sub hRd);obtain ⟨hql,hq0⟩:=hN.deps q (x_G hq);obtain ⟨st176,fr176⟩:=st6'.iter x176 itd.iter st5.hlo;have fr176':=fr6'.trans fr176;obtain ⟨o181,g,hrun,hg⟩:=look fr176' q.name;have uniq:∀ q'∈lasts JPr.name x.deps,q'.name=q.name->q'=q:=fun q' hq' e=>by
        have e1:=x_1.1 ⟨hq',e⟩;have e2:=x_1.1 ⟨hq,(rfl:JPr.name q=q.name)⟩;rw [e1] at e2;exact Option.some.inj e2
       have step:∀ (E8':Bool) (w2:World) (c8:Nat) (T8:Nat->Prop),VSt s av B lo vb d n vid k v w2 E8' c8 T8->OIt KS 0 w2 w164.heap.size (some pb) Sd (fun k' v'=>k'≠ .string q.name/\Rd k' v')->leftO w2 w164.heap.size<leftO w173 w164.heap.size->c8<=c6+1->FR2 lo d.g w176 w2->(E8'=true↔E6=true/\((memb v.ns q.name).isSome=true->(J q.node v).1=true))->(∀ j,T8 j↔T6 j/\¬ ((memb v.ns q.name).isSome=true/\mkd (J q.node v).2 j))->(∃ R E6 c6 T6,OIt KS 0 w2 w164.heap.size (some pb) Sd R/\VSt s av B lo vb d n vid k v w2 E6 c6 T6/\c6+leftO w2 w164.heap.size<=cnt+2200000000000/\FR2 lo d.g w w2/\w164.heap.size<w2.heap.size/\
         (E6=true↔E5=true/\∀ q∈lasts JPr.name x.deps,(∀ z,¬ R (.string q.name) z)->(memb v.ns q.name).isSome=true->(J q.node v).1=true)/\
         (∀ j,T6 j↔T1 j/\¬ ∃ q∈lasts JPr.name x.deps,(∀ z,¬ R (.string q.name) z)/\(memb v.ns q.name).isSome=true/\mkd (J q.node v).2 j))/\leftO w2 w164.heap.size<leftO w173 w164.heap.size:=fun E8' w2 c8 T8 hst hit hlt' hc8 hfr hE8' hT8=>by
        refine ⟨⟨_,E8',c8,T8,hit,hst,by omega,fr176'.trans hfr,by have:=fr176.x.size;have:=hfr.x.size;omega,?_,fun j=>?_⟩,hlt'⟩
        ·rw [hE8',hE6',and_assoc];refine and_congr Iff.rfl ⟨fun ⟨h2,h3⟩ q' hq' hn=>?_,fun h=>⟨fun q' hq' hn=>h q' hq' fun z h'=>hn z h'.2,h q hq fun z h'=>h'.1 rfl⟩⟩;by_cases e:q'.name=q.name
         ·rw [uniq q' hq' e];exact h3
         ·exact h2 q' hq' fun z h'=>hn z ⟨fun e'=>e (by injection e'),h'⟩
        ·rw [hT8,hT6,and_assoc];refine and_congr Iff.rfl ⟨fun ⟨h2,h3⟩ ⟨q',hq',hn,h4⟩=>?_,fun h=>⟨fun ⟨q',hq',hn,h4⟩=>h ⟨q',hq',fun z h'=>hn z h'.2,h4⟩,fun h4=>h ⟨q,hq,fun z h'=>h'.1 rfl,h4⟩⟩⟩;by_cases e:q'.name=q.name
         ·rw [uniq q' hq' e] at h4;exact h3 h4
         ·exact h2 ⟨q',hq',fun z h'=>hn z ⟨fun e'=>e (by injection e'),h'⟩,h4⟩
       refine .inr ⟨_,_,w176,m1,trivial,hK174 _ _ ⟨fun _=>⟨_,_,m2,q.name,rfl,_,rfl,o181,g,hrun true,fun hgt=>?_,fun hgf=>?_⟩,nofun⟩⟩
       ·have hms:(memb v.ns q.name).isSome=true:=by rw [<- hg];exact hgt
        refine (self st176 hql hq0 _ _).mono ?_;rintro _ w184 ⟨o,rfl,ls,ho,he⟩;have st184:=ls.st st176;refine ⟨o,rfl,trivial,(st184.addErr (by omega) (VErr.loc he st176.hlo)).mono ?_⟩;rintro _ w187 ⟨rfl,st187,fr187,x187⟩;have i184:=itd2.ext1 ls.x (fun b' hb' e=>by
         cases hb';rcases e with e|⟨e,-⟩
         ·obtain ⟨cur,hg'⟩:=st176.gb;obtain ⟨es,cl,h⟩:=itd2.map.obj (b:=pb) rfl;exact z_e h hg' e
         ·have:=st.hBlo;omega) (fun e=>by
         obtain ⟨_,_,_,_,h⟩:=itd2.iter;rcases e with e|⟨-, es,cl,h'⟩
         ·obtain ⟨cur,hg'⟩:=st176.gb;rw [e,hg'] at h;cases h
         ·rw [h'] at h;cases h)
        have i187:=st184.itXe i184.1 x187;refine ⟨rfl,trivial,step _ w187 _ _ st187 i187.1 (by rw [i187.2,i184.2];exact hltd) (Nat.le_refl _) (ls.fr2.trans fr187) ?_ fun j=>?_⟩
        ·rw [Bool.and_eq_true,ho,hms];simp
        ·rw [hms];simp
       ·have hms:(memb v.ns q.name).isSome=false:=by rw [<- hg];exact hgf
        exact step E6 w176 c6 T6 st176 itd2 hltd (Nat.le_succ _) (FR2.refl ..) (by rw [hms];simp) fun j=>by rw [hms];simp
     refine ⟨_,rfl,_,cat hcs160 hw160.names,fun hne=>?_,fun hno=>k163 w160 E4 c4 st4 (by omega) fr4 ?_⟩
     ·have hz:x.names≠0:=by
       have h:(!(ptr av x.names).isNone)=true:=hne;rw [w_5] at h;simpa using h
      have hpos:x.names>0:=by
       rcases hN.names with h|h
       ·exact absurd h hz
       ·omega
      obtain ⟨w222,r222,it222,x222⟩:=x_g (P:=Tryz.prog) (lo:=0) (q:=some b) u3 ⟨Nat.zero_le _,(objAt' fr4).2.1⟩;have hct4:leftO w222 w160.heap.size<=1100000:=by
       refine lt_ (it222.left_le (L:=(nmsOf v.ns).map Value.string) fun kk z hz=>?_) (by rw [List.length_map,z_v];exact hml);obtain ⟨t,i,y,o',rfl,hm,-⟩:=hO.2.2.1 _ _ hz;exact mm_.2 ⟨t,y_i.2 ⟨i,hm⟩,rfl⟩
      refine ⟨adr w160.heap.size,w222,r222,trivial,fun w1=>∃ R E5 c5,OIt KS 0 w1 w160.heap.size (some b) S R/\VSt s av B lo vb d n vid k v w1 E5 c5 T1/\c5+leftO w1 w160.heap.size<=cnt+2000001100000/\FR2 lo d.g w w1/\w160.heap.size<w1.heap.size/\
       (E5=true↔E4=true/\∀ t i,memb v.ns t=some i->(∀ z,¬ R (.string t) z)->(J x.names (.mk 3 false 0 t [] [])).1=true),fun w1=>leftO w1 w160.heap.size,
       ⟨S,E4,c4,it222,st4.ext0 x222,by omega,fr4.trans (FR2.of x222),(by obtain ⟨_,_,_,_,h⟩:=it222.iter;exact a_3 h),⟨fun h=>⟨h,fun t i hm hn=>by obtain ⟨z,hz⟩:=hO.2.2.2 t i hm;exact absurd hz (hn z)⟩,fun h=>h.1⟩⟩,?_⟩
      rintro w225 ⟨Rm,E5,c5,itm,st5,hc5,fr5,hsz5,hE5⟩ K226 hK226;rcases itm.next (P:=Tryz.prog) 0 with ⟨p1,p2⟩|⟨km,zm,w228,hRm,hltm,p1,itm2,x228,p2⟩
      ·refine .inl ⟨w225,p1,trivial,hK226 _ _ ⟨nofun,fun _=>k163 w225 E5 c5 st5 (by omega) fr5 (hE5.trans (and_congr Iff.rfl ⟨fun h _ t i hm=>h t i hm fun z=>p2 _ _,fun h t i hm _=>h hpos t i hm⟩))⟩⟩
      ·obtain ⟨t,i,y,o',rfl,hmt,hy,rfl,-⟩:=hO.2.2.1 _ _ (itm.sub hRm);obtain ⟨st228,fr228⟩:=st5.iter x228 itm.iter st4.hlo;obtain ⟨cs228,hcs228,hsc228⟩:=st228.sc h1 hx;have hw228:=hsc228.words hk;have hxl:1<=v.xs.length:=by have:=(List.getElem?_eq_some_iff.1 hy).1;omega
       have step:∀ (E8':Bool) (w2:World) (c8:Nat),VSt s av B lo vb d n vid k v w2 E8' c8 T1->OIt KS 0 w2 w160.heap.size (some b) S (fun k' v'=>k'≠ .string t/\Rm k' v')->leftO w2 w160.heap.size<leftO w225 w160.heap.size->c8<=c5+1->FR2 lo d.g w228 w2->(E8'=true↔E5=true/\(J x.names (.mk 3 false 0 t [] [])).1=true)->(∃ R E5 c5,OIt KS 0 w2 w160.heap.size (some b) S R/\VSt s av B lo vb d n vid k v w2 E5 c5 T1/\c5+leftO w2 w160.heap.size<=cnt+2000001100000/\FR2 lo d.g w w2/\w160.heap.size<w2.heap.size/\
         (E5=true↔E4=true/\∀ t i,memb v.ns t=some i->(∀ z,¬ R (.string t) z)->(J x.names (.mk 3 false 0 t [] [])).1=true))/\leftO w2 w160.heap.size<leftO w225 w160.heap.size:=fun E8' w2 c8 hst hit hlt' hc8 hfr hE8'=>by
        refine ⟨⟨_,E8',c8,hit,hst,by omega,(fr5.trans fr228).trans hfr,by have:=fr228.x.size;have:=hfr.x.size;omega,?_⟩,hlt'⟩;rw [hE8',hE5,and_assoc];refine and_congr Iff.rfl ⟨fun ⟨h2,h3⟩ t' i' hm' hn=>?_,fun h=>⟨fun t' i' hm' hn=>h t' i' hm' fun z h'=>hn z h'.2,h t i hmt fun z h'=>h'.1 rfl⟩⟩;by_cases e:t'=t
        ·rw [e];exact h3
        ·exact h2 t' i' hm' fun z h'=>hn z ⟨fun e'=>e (by injection e'),h'⟩
       refine .inr ⟨_,_,w228,p1,trivial,hK226 _ _ ⟨fun _=>⟨_,_,p2,t,rfl,_,rfl,_,cat hcs228 (pcell hw228.names hz),(sv st228 hN.names hz (y:=.mk 3 false 0 t [] []) (o':=some (9,.string t)) ⟨by decide,by decide,by decide,fun h=>absurd h (by decide),fun h=>absurd h (by decide),hok.names (mg_ (x_a.1 hmt).1),by simp,trivial⟩ (by simp only [szJ,szL];omega) ?_).mono ?_⟩,nofun⟩⟩
       ·simp [RA]
       rintro _ w235 ⟨o,rfl,x235,ho,he⟩;refine ⟨o,rfl,trivial,fun hone=>?_,fun hno=>?_⟩
       ·have hj:(J x.names (.mk 3 false 0 t [] [])).1=false:=by rw [<- ho];simpa using hone
        obtain ⟨q237,rfl,b7,s7,a7,l7,c7,o7,a8,l8,c8,rfl,hb7,hg7,hob7⟩:=he fun e=>by rw [e] at hone;cases hone
        have st235:=st228.ext0 x235;obtain ⟨a5,l5,c5',hv235⟩:=st235.blk;have xs1:=w_1 (w:=w235) (b:=b7) (i:=1) (.slice (some (adr d.g)) d.l d.c);have hob1:=w_4 hob7 (i:=1) (.slice (some (adr d.g)) d.l d.c);have y241:EF w228 (w235.setCell ((adr b7).add 1) (.slice (some (adr d.g)) d.l d.c)):=x235.trans xs1 fun k' hk' e=>by omega
        have st241:=st228.ext0 y241;obtain ⟨cs241,hcs241,hsc241⟩:=st241.sc h1 hx;obtain ⟨x'',e1,e2,e3,e4⟩:=z_w hS hN.names hz;obtain ⟨csn,hcsn,hscn⟩:=st241.ctx.sch.ok (x.names.toNat-1) x'' e3;rw [Nat.sub_add_cancel e2] at hcsn;obtain ⟨tn,htn⟩:=hscn.f4;have xs2:Ext (fun k=>k=b7) (w235.setCell ((adr b7).add 1) (.slice (some (adr d.g)) d.l d.c)) ((w235.setCell ((adr b7).add 1) (.slice (some (adr d.g)) d.l d.c)).setCell (adr b7) (.string tn)):=w_1 (i:=0) (.string tn);have hob2:objAt ((w235.setCell ((adr b7).add 1) (.slice (some (adr d.g)) d.l d.c)).setCell (adr b7) (.string tn)) b7=_:=w_4 hob1 (i:=0) (.string tn);have y247:=y241.trans xs2 (X:=fun _=>False) fun k' hk' e=>by omega
        have x248:EF ((w235.setCell ((adr b7).add 1) (.slice (some (adr d.g)) d.l d.c)).setCell (adr b7) (.string tn)) (((w235.setCell ((adr b7).add 1) (.slice (some (adr d.g)) d.l d.c)).setCell (adr b7) (.string tn)).alloc (.cells #[.string t] 292)):=(Ext.refl _).alloc _;have hob3:=x248.old _ _ id hob2;have xs3:=w_1 (w:=((w235.setCell ((adr b7).add 1) (.slice (some (adr d.g)) d.l d.c)).setCell (adr b7) (.string tn)).alloc (.cells #[.string t] 292)) (b:=b7) (i:=2) (ifcV (some (290,.pointer (some (adr ((w235.setCell ((adr b7).add 1) (.slice (some (adr d.g)) d.l d.c)).setCell (adr b7) (.string tn)).heap.size)))));have hob4:=w_4 hob3 (i:=2) (ifcV (some (290,.pointer (some (adr ((w235.setCell ((adr b7).add 1) (.slice (some (adr d.g)) d.l d.c)).setCell (adr b7) (.string tn)).heap.size)))));have y250:=(y247.then x248).trans xs3 (X:=fun _=>False) fun k' hk' e=>by omega
        have st250:=st228.ext0 y250;refine ⟨_,rfl,_,rfl,_,_,_,cat hv235 rfl,_,rfl,⟨_,_,hob7,rfl,by rw [Addr.add_lit];simp,rfl⟩,trivial,_,rfl,_,cat hcs241 (pcell (hsc241.words hk).names hz),_,rfl,tn,cat hcsn htn,_,rfl,⟨_,_,hob1,rfl,by simp,rfl⟩,trivial,trivial,trivial,_,rfl,⟨_,_,hob3,rfl,by rw [Addr.add_lit];simp,rfl⟩,trivial,?_⟩;refine (st250.addErr (by omega) (o:=some (169,.pointer (some (adr b7)))) fun _=>⟨_,rfl,b7,tn,_,_,_,_,_,_,_,rfl,by have:=st228.hlo;omega,GrpOK.ptr,hob4⟩).mono ?_;rintro _ w252 ⟨rfl,st252,fr252,x252⟩;have i250:=itm2.ext1 y250 (fun _ _=>id) id;have i252:=st250.itXe i250.1 x252;exact ⟨rfl,trivial,step _ w252 _ st252 i252.1 (by rw [i252.2,i250.2];exact hltm) (Nat.le_refl _) ((FR2.of y250).trans fr252) (by simp [hj])⟩
       ·have hj:(J x.names (.mk 3 false 0 t [] [])).1=true:=by rw [<- ho];simpa using hno
        have i235:=itm2.ext1 x235 (fun _ _=>id) id;exact step E5 w235 c5 (st228.ext0 x235) i235.1 (by rw [i235.2];exact hltm) (Nat.le_succ _) (FR2.of x235) (by simp [hj])
     ·have hz:x.names=0:=by
       have h:(!(ptr av x.names).isNone)=false:=hno;rw [w_5] at h;simpa using h
      exact ⟨fun h=>⟨h,fun h'=>by omega⟩,fun h=>h.1⟩
    refine ⟨fun hpos=>⟨trivial,trivial,?_⟩,fun hno=>k159 w61 E1 c1 st1 (by omega) fr1 ?_⟩
    ·refine ((st1.ext0 ((Ext.refl w61).alloc _)).addError (by omega) _).mono ?_;rintro _ w2 ⟨rfl,st2,fr2,-⟩;refine ⟨rfl,trivial,k159 w2 false (c1+1) st2 (by omega) (fr1.trans ((FR2.of ((Ext.refl w61).alloc _)).trans fr2)) ?_⟩;rw [<- hE1'];have:=odt hpos;exact ⟨nofun,fun h=>by omega⟩
    ·rw [<- hE1'];have:=odf hno;exact ⟨fun h=>⟨h,by omega⟩,fun h=>h.1⟩
   ·obtain ⟨t,i,y,o',rfl,hmt,hy,rfl,-⟩:=hO.2.2.1 _ _ (it.sub hRk);obtain ⟨st64,fr64⟩:=st1.iter x64 it.iter st20.hlo;have fr64':=fr1.trans fr64;have hown64:=hown.it it.iter x64;obtain ⟨a64,l64,c64,hv64,herr64,-⟩:=st64.errs;have hyo:=hok.sub (mg_ hy);have hysz:=x_y (mg_ hy);have hra:∀ {w1:World},FR2 lo d.g w w1->RA w1 B y o':=fun {w1} fr=>by
     obtain ⟨t',i',y',o2,e1,e2,e3,e4,e5⟩:=(objAt' fr).2.2.1 _ _ (it.sub hRk);cases e1;rw [hmt] at e2;cases e2;rw [hy] at e3;cases e3;have:o'=o2:=by
      cases o'<;>cases o2<;>simp [ifcV] at e4 ⊢;rename_i z1 z2;obtain ⟨t1,v1⟩:=z1;obtain ⟨t2,v2⟩:=z2;simpa [ifcV] using e4
     rw [this];exact e5
    have final:∀ (aa':OA) (al' ac':Nat) (w2:World) (E3:Bool) (c3:Nat) (T3:Nat->Prop) (xs':List Value),VSt s av B lo vb d n vid k v w2 E3 c3 T3->c3<=c1+1100002->FR2 lo d.g w64 w2->OIt KS 0 w2 w20.heap.size (some b) S (fun k' v'=>k'≠ .string t/\R k' v')->leftO w2 w20.heap.size=leftO w64 w20.heap.size->Own w20.heap.size w2 9 1 aa' al' ac' xs'->al'<=al+1->((E3=true/\al'=0)↔(E1=true/\al=0)/\(x_d J x t y).1=true)->(∀ j,T3 j↔T1 j/\¬ (j=i/\(x_d J x t y).2=true))->
      (∃ R E1 c1 T1 xs,OIt KS 0 w2 w20.heap.size (some b) S R/\VSt s av B lo vb d n vid k v w2 E1 c1 T1/\c1+leftO w2 w20.heap.size*1100002<=cnt+3+1100000*1100002/\FR2 lo d.g w w2/\w20.heap.size<w2.heap.size/\Own w20.heap.size w2 9 1 aa' al' ac' xs/\al'+leftO w2 w20.heap.size<=1100000/\
       ((E1=true/\al'=0)↔E10=true/\∀ t i y,memb v.ns t=some i->v.xs[i]? =some y->(∀ z,¬ R (.string t) z)->(x_d J x t y).1=true)/\
       (∀ j,T1 j↔T j/\¬ ∃ t y,memb v.ns t=some j/\v.xs[j]? =some y/\(∀ z,¬ R (.string t) z)/\(x_d J x t y).2=true))/\leftO w2 w20.heap.size<leftO w61 w20.heap.size:=by
     intro aa' al' ac' w2 E3 c3 T3 xs' hst hc3 hfr hit hle hown' hal' hE3 hT3;refine ⟨⟨_,E3,c3,T3,xs',hit,hst,?_,fr64'.trans hfr,by have:=fr64.x.size;have:=hfr.x.size;omega,hown',by omega,?_,fun j=>?_⟩,by omega⟩
     ·have h':(leftO w2 w20.heap.size+1)*1100002<=leftO w61 w20.heap.size*1100002:=Nat.mul_le_mul_right _ (by omega);rw [Nat.add_mul] at h';omega
     ·rw [hE3,hE1,and_assoc];refine and_congr Iff.rfl ⟨fun ⟨h2,h3⟩ t' i' y' hm' hy' hn=>?_,fun h=>⟨fun t' i' y' hm' hy' hn=>h t' i' y' hm' hy' fun z h'=>hn z h'.2,h t i y hmt hy fun z h'=>h'.1 rfl⟩⟩;by_cases e:t'=t
      ·subst e;rw [hmt] at hm';cases hm';rw [hy] at hy';cases hy';exact h3
      ·exact h2 t' i' y' hm' hy' fun z h'=>hn z ⟨fun e'=>e (by injection e'),h'⟩
     ·rw [hT3,hT1,and_assoc];refine and_congr Iff.rfl ⟨fun ⟨h2,h3⟩ ⟨t',y',hm',hy',hn,hj⟩=>?_,fun h=>⟨fun ⟨t',y',hm',hy',hn,hj⟩=>h ⟨t',y',hm',hy',fun z h'=>hn z h'.2,hj⟩,fun ⟨e,hj⟩=>h ⟨t,y,by rw [e];exact hmt,by rw [e];exact hy,fun z h'=>h'.1 rfl,hj⟩⟩⟩;by_cases e:t'=t
      ·subst e;rw [hmt] at hm';cases hm';rw [hy] at hy';cases hy';exact h3 ⟨rfl,hj⟩
      ·exact h2 ⟨t',y',hm',hy',fun z h'=>hn z ⟨fun e'=>e (by injection e'),h'⟩,hj⟩
    refine .inr ⟨_,_,w64,n3,trivial,hK62 _ _ ⟨fun _=>⟨_,_,n4,t,rfl,o',rfl,fun K69 hK69=>?_⟩,nofun⟩⟩;have k69:K69 false w64:=hK69 _ _ ⟨nofun,fun _ K72 hK72=>by
     obtain ⟨fp,hfp⟩:∃ fp,fp=x.props.reverse.find? fun q=>decide (q.name=t):=⟨_,rfl⟩;have k72:∀ (ev:Bool) (w74:World) (E2:Bool) (c2:Nat),VSt s av B lo vb d n vid k v w74 E2 c2 T1->c2<=c1+1->FR2 lo d.g w64 w74->OIt KS 0 w74 w20.heap.size (some b) S (fun k' v'=>k'≠ .string t/\R k' v')->leftO w74 w20.heap.size=leftO w64 w20.heap.size->Own w20.heap.size w74 9 1 aa al ac xs->(E2=true↔E1=true/\∀ q,fp=some q->(J q.node y).1=true)->ev=fp.isSome->K72 ev w74:=by
      intro ev w74 E2 c2 st74 hc2 fr74 it74 hle74 hown74 hE2 hev;refine hK72 ev w74 ?_;obtain ⟨cs74,hcs74,hsc74⟩:=st74.sc h1 hx;obtain ⟨u25,pb,SP,hu25,rfl,hpb,hGP,hSP1,hSP2,hSP3⟩:=(hsc74.words hk).pats;obtain ⟨w78,r78,it78,x78⟩:=x_g (P:=Tryz.prog) (lo:=0) (q:=some pb) u5 ⟨Nat.zero_le _,hGP⟩;have hctP:leftO w78 w74.heap.size<=x.pats.length:=by
       obtain ⟨ents,cl,he1,he2,he3,he4⟩:=hGP;refine lt_ (it78.left_le (L:=ents.toList.map (·.key)) fun kk z hz=>?_) (hSP3 _ he2.2.2 fun kk=>?_)
       ·obtain ⟨e',he',rfl,-⟩:=(he4 _ _).1 hz;exact mm_.2 ⟨e',he',rfl⟩
       ·rw [mm_];constructor
        ·rintro ⟨e',he',rfl⟩;exact ⟨_,(he4 _ _).2 ⟨e',he',rfl,rfl⟩⟩
        ·rintro ⟨z,hz⟩;obtain ⟨e',he',e1,-⟩:=(he4 _ _).1 hz;exact ⟨e',he',e1⟩
      have hr2:w20.heap.size≠w74.heap.size:=by
       obtain ⟨_,_,_,_,h⟩:=it74.iter;have:=a_3 h;omega
      have as74:=st74.ctx.sch.as_;refine ⟨_,rfl,_,cat hcs74 hu25,adr w74.heap.size,w78,r78,trivial,fun ev2 w1=>∃ RP E3 c3,OIt (fun k=>∃ tb,k=.iface 149 (.pointer (some (adr tb)))) 0 w1 w74.heap.size (some pb) SP RP/\VSt s av B lo vb d n vid k v w1 E3 c3 T1/\c3+leftO w1 w74.heap.size<=c1+1+x.pats.length/\FR2 lo d.g w74 w1/\w74.heap.size<w1.heap.size/\OIt KS 0 w1 w20.heap.size (some b) S (fun k' v'=>k'≠ .string t/\R k' v')/\leftO w1 w20.heap.size=leftO w64 w20.heap.size/\Own w20.heap.size w1 9 1 aa al ac xs/\
       (E3=true↔E2=true/\∀ q∈x.pats,(∃ kk z,SP kk z/\¬ RP kk z/\Rep w74 B av q kk z)->among t q.ts=true->(J q.node y).1=true)/\
       (ev2=true↔ev=true∨∃ q∈x.pats,(∃ kk z,SP kk z/\¬ RP kk z/\Rep w74 B av q kk z)/\among t q.ts=true),fun _ w1=>leftO w1 w74.heap.size,?_,?_⟩
      ·have i78:=it74.ext1 x78 (fun _ _=>id) id;exact ⟨SP,E2,c2,it78,st74.ext0 x78,by omega,FR2.of x78,(by obtain ⟨_,_,_,_,h⟩:=it78.iter;exact a_3 h),i78.1,by rw [i78.2,hle74],hown74.keep x78 fun _ _=>id,⟨fun h=>⟨h,fun q _ ⟨kk,z,h1,h2,_⟩=>absurd h1 h2⟩,fun h=>h.1⟩,⟨.inl,fun h=>h.elim id fun ⟨q,_,⟨kk,z,h1,h2,_⟩,_⟩=>absurd h1 h2⟩⟩
      rintro ev2 w82 ⟨RP,E3,c3,itp,st3,hc3,fr3,hsz3,it3,hle3,hown3,hE3,hev2⟩ K83 hK83;rcases itp.next (P:=Tryz.prog) 0 with ⟨s1,s2⟩|⟨kp,zp,w85,hRp,hltp,s1,itp2,x85,s2⟩
      ·refine .inl ⟨w82,s1,trivial,hK83 _ _ ⟨nofun,fun _ K103 hK103=>?_⟩⟩;have doneP:∀ q∈x.pats,∃ kk z,SP kk z/\¬ RP kk z/\Rep w74 B av q kk z:=fun q hq=>by
        obtain ⟨tb,g1,g2⟩:=hSP2 q hq;exact ⟨_,_,g2,s2 _ _,tb,rfl,g1,rfl⟩
       have hE3':E3=true↔E1=true/\(∀ q,fp=some q->(J q.node y).1=true)/\∀ q∈x.pats,among t q.ts=true->(J q.node y).1=true:=by
        rw [hE3,hE2,and_assoc];exact and_congr Iff.rfl (and_congr Iff.rfl ⟨fun h q hq=>h q hq (doneP q hq),fun h q hq _=>h q hq⟩)
       have hev2':ev2=true↔fp.isSome=true∨∃ q∈x.pats,among t q.ts=true:=by
        rw [hev2,hev];exact or_congr Iff.rfl ⟨fun ⟨q,hq,_,h⟩=>⟨q,hq,h⟩,fun ⟨q,hq,h⟩=>⟨q,hq,doneP q hq,h⟩⟩
       have jm:x_d J x t y=if ev2=true then ((fp.elim true fun q=>(J q.node y).1)&&(x.pats.filter fun q=>among t q.ts).all fun q=>(J q.node y).1,true) else jmore J x.more y:=by
        rw [B_3,<- hfp];have:(fp.isSome|| !(x.pats.filter fun q=>among t q.ts).isEmpty)=true↔ev2=true:=by
         rw [hev2',Bool.or_eq_true];refine or_congr Iff.rfl ?_;rw [Bool.not_eq_true',List.isEmpty_eq_false_iff_exists_mem];constructor
         ·rintro ⟨q,hq⟩;rw [List.mem_filter] at hq;exact ⟨q,hq.1,hq.2⟩
         ·rintro ⟨q,hq,h⟩;exact ⟨q,List.mem_filter.2 ⟨hq,h⟩⟩
        by_cases h:ev2=true
        ·rw [if_pos h,if_pos (this.2 h)]
        ·rw [if_neg h,if_neg fun h'=>h (this.1 h')]
       have jm1:ev2=true->((x_d J x t y).1=true↔(∀ q,fp=some q->(J q.node y).1=true)/\∀ q∈x.pats,among t q.ts=true->(J q.node y).1=true):=fun h=>by
        rw [jm,if_pos h];dsimp only;rw [Bool.and_eq_true,List.all_eq_true];refine and_congr ?_ ⟨fun h q hq ha=>h q (List.mem_filter.2 ⟨hq,ha⟩),fun h q hq=>h q (List.mem_filter.1 hq).1 (List.mem_filter.1 hq).2⟩;cases fp with
        | none=>simp
        | some q=>simp
       have fr3':=fr74.trans fr3;have hx3:c3<=c1+1100001:=by omega
       have k103:∀ (aa':OA) (al' ac':Nat) (evl:Bool) (w106:World) (E4:Bool) (c4:Nat) (xs':List Value),VSt s av B lo vb d n vid k v w106 E4 c4 T1->c4<=c1+1100002->FR2 lo d.g w64 w106->OIt KS 0 w106 w20.heap.size (some b) S (fun k' v'=>k'≠ .string t/\R k' v')->leftO w106 w20.heap.size=leftO w64 w20.heap.size->Own w20.heap.size w106 9 1 aa' al' ac' xs'->al'<=al+1->((E4=true/\al'=0)↔(E1=true/\al=0)/\(x_d J x t y).1=true)->evl=(x_d J x t y).2->K103 aa' al' ac' evl w106:=by
        intro aa' al' ac' evl w106 E4 c4 xs' st106 hc4 fr106 it106 hle106 hown106 hal' hE4 hevl;obtain ⟨a6,l6,c6,hv106⟩:=st106.blk;refine hK103 _ _ _ _ _ ⟨fun he=>?_,fun he=>final aa' al' ac' w106 E4 c4 T1 xs' st106 hc4 fr106 it106 hle106 hown106 hal' hE4 fun j=>⟨fun h=>⟨h,fun h'=>by rw [hevl] at he;rw [he] at h';cases h'.2⟩,fun h=>h.1⟩⟩;obtain ⟨pm,im,hub,dv,w112,hdel,st112,fr112,x112,hpm⟩:=st106.del h5 hmt;have i112:=it106.itMaps (fun b' hb'=>⟨(hpm b' hb').2,fun e=>by cases e;have:=(hpm b hb').1;have:=st.hBlo;omega⟩) x112;refine ⟨_,rfl,_,cat hv106 rfl,_,rfl,pm,cat0 hub rfl,dv,w112,hdel,trivial,final aa' al' ac' w112 E4 c4 _ xs' st112 hc4 (fr106.trans fr112) i112.1 (by rw [i112.2,hle106]) (hown106.mp (fun b' hb'=>(hpm b' hb').2) x112) hal' hE4 fun j=>⟨fun h=>⟨h.1,fun h'=>h.2 h'.1⟩,fun h=>⟨h.1,fun h'=>h.2 ⟨h',by rw [<- hevl];exact he⟩⟩⟩⟩
       obtain ⟨cs82,hcs82,hsc82⟩:=st3.sc h1 hx;have hmore:=(hsc82.words hk).more;intro K113 hK113;by_cases hev2c:ev2=true
       ·refine ⟨fun h=>(by rw [hev2c] at h;cases h),fun _=>hK113 _ _ ⟨nofun,fun _=>k103 aa al ac ev2 w82 E3 c3 xs st3 (by omega) fr3' it3 hle3 hown3 (by omega) ?_ ?_⟩⟩
        ·rw [hE3',jm1 hev2c];exact ⟨fun ⟨⟨q1,q2⟩,q3⟩=>⟨⟨q1,q3⟩,q2⟩,fun ⟨⟨q1,q3⟩,q2⟩=>⟨⟨q1,q2⟩,q3⟩⟩
        ·rw [jm,if_pos hev2c,hev2c]
       ·have hev2f:ev2=false:=by simpa using hev2c
        have hjm:x_d J x t y=jmore J x.more y:=by rw [jm,if_neg hev2c]
        have hno:(∀ q,fp=some q->(J q.node y).1=true)/\∀ q∈x.pats,among t q.ts=true->(J q.node y).1=true:=by
         have h':=fun h=>hev2c (hev2'.2 h);exact ⟨fun q hq=>absurd (.inl (by rw [hq];rfl)) h',fun q hq ha=>absurd (.inr ⟨q,hq,ha⟩) h'⟩
        have hE3'':E3=true↔E1=true:=by
         rw [hE3'];exact ⟨fun h=>h.1,fun h=>⟨h,hno⟩⟩
        have hmk:=hN.more;have mk:x.more.k=0∨x.more.k=1∨x.more.k=2∨x.more.k=3:=by omega
        refine ⟨fun _=>?_,fun h=>by rw [hev2f] at h;cases h⟩;rcases mk with m0|m0|m0|m0
        ·refine ⟨_,rfl,none,by rw [cat hcs82 hmore,if_pos m0];rfl,hK113 _ _ ⟨nofun,fun _=>k103 aa al ac ev2 w82 E3 c3 xs st3 (by omega) fr3' it3 hle3 hown3 (by omega) ?_ ?_⟩⟩
         ·rw [hE3'',hjm,jmore,m0];simp
         ·rw [hev2f,hjm,jmore,m0];simp
        ·have hm1:w82.cell? ((adr d.sb).add 26)=some (ifcV (some (4,.bool true))):=by
          rw [cat hcs82 hmore,if_neg (by omega),if_neg (by omega),m0];rfl
         refine ⟨_,rfl,_,hm1,hK113 _ _ ⟨fun _=>⟨_,rfl,_,hm1,fun K118 hK118=>⟨fun u hu=>?_,fun h=>absurd rfl (h _)⟩⟩,nofun⟩⟩;cases hu;refine ⟨_,rfl,hK118 _ _ _ ⟨fun _=>⟨nofun,fun _=>k103 aa al ac true w82 E3 c3 xs st3 (by omega) fr3' it3 hle3 hown3 (by omega) ?_ ?_⟩,nofun⟩⟩
         ·rw [hE3'',hjm,jmore,m0];simp
         ·rw [hjm,jmore,m0];simp
        ·have hm1:w82.cell? ((adr d.sb).add 26)=some (ifcV (some (4,.bool false))):=by
          rw [cat hcs82 hmore,if_neg (by omega),if_neg (by omega),m0];rfl
         refine ⟨_,rfl,_,hm1,hK113 _ _ ⟨fun _=>⟨_,rfl,_,hm1,fun K118 hK118=>⟨fun u hu=>?_,fun h=>absurd rfl (h _)⟩⟩,nofun⟩⟩;cases hu;refine ⟨_,rfl,hK118 _ _ _ ⟨fun _=>⟨fun _=>?_,nofun⟩,nofun⟩⟩;obtain ⟨p',C,w124,r124,hO124,x124⟩:=B_O hown3 (by have:=fr64.x.size;have:=fr3'.x.size;omega) (by omega) t;obtain ⟨st124,fr124⟩:=st3.strs x124 fun b' hb'=>by
          obtain ⟨g1,g2⟩:=hown3.isT b' hb';exact ⟨by have:=st20.hlo;omega,by omega,g2⟩
         have i124:=it3.itCells (fun b' hb'=>by obtain ⟨-, cs',fr',g2⟩:=hown3.isT b' hb';exact ⟨_,_,_,g2⟩) x124;refine ⟨trivial,some p',al+1,C,w124,r124,trivial,k103 _ _ _ true w124 E3 c3 _ st124 (by omega) (fr3'.trans fr124) i124.1 (by rw [i124.2,hle3]) hO124 (Nat.le_refl _) ?_ ?_⟩
         ·rw [hjm,jmore,m0];simp
         ·rw [hjm,jmore,m0];simp
        ·have hmn:=hN.moreN;have hm0:=hmn.2 m0;have hm1:w82.cell? ((adr d.sb).add 26)=some (ifcV (some (72,.pointer (some (adr (av x.more.node.toNat)))))):=by
          rw [cat hcs82 hmore,if_neg (by omega),if_pos m0];rfl
         refine ⟨_,rfl,_,hm1,hK113 _ _ ⟨fun _=>⟨_,rfl,_,hm1,fun K118 hK118=>⟨nofun,fun _=>hK118 _ _ _ ⟨nofun,fun _ K125 hK125=>⟨fun u hu=>?_,fun h=>absurd rfl (h _)⟩⟩⟩⟩,nofun⟩⟩;cases hu;refine ⟨_,rfl,hK125 _ _ _ ⟨fun _=>(val st3 hmn.1 hm0 hyo hysz (hra (fr64'.trans fr3')) t).mono ?_,nofun⟩⟩;rintro _ w130 ⟨o,rfl,fr130,ho,he⟩;have st130:=st3.fr fr130;refine ⟨o,rfl,trivial,(st130.addErr (by omega) (VErr.loc he st3.hlo)).mono ?_⟩;rintro _ w133 ⟨rfl,st133,fr133,x133⟩;have i130:=st3.itFr it3 fr130;have i133:=st130.itXe i130.1 x133;refine ⟨rfl,trivial,k103 aa al ac true w133 _ _ xs st133 (by omega) (fr3'.trans ((FR2.fr fr130).trans fr133)) i133.1 (by rw [i133.2,i130.2,hle3]) (st130.ownXe (st3.ownFr hown3 hgl fr130) x133) (by omega) ?_ ?_⟩
         ·rw [Bool.and_eq_true,hE3'',ho,hjm,jmore,m0];simp only [show ¬ (3:Int)=1 by decide,show ¬ (3:Int)=2 by decide,if_false,if_true];exact ⟨fun ⟨⟨q1,q2⟩,q3⟩=>⟨⟨q1,q3⟩,q2⟩,fun ⟨⟨q1,q3⟩,q2⟩=>⟨⟨q1,q2⟩,q3⟩⟩
         ·rw [hjm,jmore,m0];simp
      ·obtain ⟨q,hq,tb,rfl,htak,rfl⟩:=hSP1 _ _ (itp.sub hRp);obtain ⟨hql,hq0⟩:=hN.pats q hq;obtain ⟨st85,fr85⟩:=st3.iter x85 itp.iter st74.hlo;have it85:=it3.itIt hr2 itp.iter x85;have hown85:=hown3.it itp.iter x85;have htak85:RTak w85 B tb q.ts:=htak.ext (fr3.trans fr85).x up;have hrep:Rep w74 B av q (.iface 149 (.pointer (some (adr tb)))) (.pointer (some (adr (av q.node.toNat)))):=⟨tb,rfl,htak,rfl⟩;have uniq:∀ q'∈x.pats,Rep w74 B av q' (.iface 149 (.pointer (some (adr tb)))) (.pointer (some (adr (av q.node.toNat))))->q'=q:=fun q' hq' hr'=>Rep.one as74 (hN.pats q' hq') ⟨hql,hq0⟩ hr' hrep;have step:∀ (ev3:Bool) (E4:Bool) (w2:World) (c4:Nat),VSt s av B lo vb d n vid k v w2 E4 c4 T1->OIt (fun k=>∃ tb,k=.iface 149 (.pointer (some (adr tb)))) 0 w2 w74.heap.size (some pb) SP (fun k' v'=>k'≠ .iface 149 (.pointer (some (adr tb)))/\RP k' v')->leftO w2 w74.heap.size<leftO w82 w74.heap.size->c4<=c3+1->FR2 lo d.g w85 w2->OIt KS 0 w2 w20.heap.size (some b) S (fun k' v'=>k'≠ .string t/\R k' v')->leftO w2 w20.heap.size=leftO w64 w20.heap.size->Own w20.heap.size w2 9 1 aa al ac xs->(E4=true↔E3=true/\(among t q.ts=true->(J q.node y).1=true))->(ev3=true↔ev2=true∨among t q.ts=true)->(∃ RP E3 c3,OIt (fun k=>∃ tb,k=.iface 149 (.pointer (some (adr tb)))) 0 w2 w74.heap.size (some pb) SP RP/\VSt s av B lo vb d n vid k v w2 E3 c3 T1/\c3+leftO w2 w74.heap.size<=c1+1+x.pats.length/\FR2 lo d.g w74 w2/\w74.heap.size<w2.heap.size/\OIt KS 0 w2 w20.heap.size (some b) S (fun k' v'=>k'≠ .string t/\R k' v')/\leftO w2 w20.heap.size=leftO w64 w20.heap.size/\Own w20.heap.size w2 9 1 aa al ac xs/\
         (E3=true↔E2=true/\∀ q∈x.pats,(∃ kk z,SP kk z/\¬ RP kk z/\Rep w74 B av q kk z)->among t q.ts=true->(J q.node y).1=true)/\
         (ev3=true↔ev=true∨∃ q∈x.pats,(∃ kk z,SP kk z/\¬ RP kk z/\Rep w74 B av q kk z)/\among t q.ts=true))/\leftO w2 w74.heap.size<leftO w82 w74.heap.size:=by
        intro ev3 E4 w2 c4 hst hit hlt' hc4 hfr hit2 hle2 hown2 hE4 hev3;have newly:∀ q',(∃ kk z,SP kk z/\¬ (kk≠ .iface 149 (.pointer (some (adr tb)))/\RP kk z)/\Rep w74 B av q' kk z)->q'∈x.pats->q'=q∨∃ kk z,SP kk z/\¬ RP kk z/\Rep w74 B av q' kk z:=fun q' ⟨kk,z,g1,g2,g3⟩ hq'=>by
         by_cases e:kk=.iface 149 (.pointer (some (adr tb)))
         ·subst e;have:z=.pointer (some (adr (av q.node.toNat))):=hGP.one g1 (itp.sub hRp);subst this;exact .inl (uniq q' hq' g3)
         ·exact .inr ⟨kk,z,g1,fun h=>g2 ⟨e,h⟩,g3⟩
        have done:∀ q',(∃ kk z,SP kk z/\¬ RP kk z/\Rep w74 B av q' kk z)->∃ kk z,SP kk z/\¬ (kk≠ .iface 149 (.pointer (some (adr tb)))/\RP kk z)/\Rep w74 B av q' kk z:=fun q' ⟨kk,z,g1,g2,g3⟩=>⟨kk,z,g1,fun h=>g2 h.2,g3⟩;have doneq:∃ kk z,SP kk z/\¬ (kk≠ .iface 149 (.pointer (some (adr tb)))/\RP kk z)/\Rep w74 B av q kk z:=⟨_,_,itp.sub hRp,fun h=>h.1 rfl,hrep⟩;refine ⟨⟨_,E4,c4,hit,hst,by omega,(fr3.trans fr85).trans hfr,by have:=fr85.x.size;have:=hfr.x.size;omega,hit2,hle2,hown2,?_,?_⟩,hlt'⟩
        ·rw [hE4,hE3,and_assoc];refine and_congr Iff.rfl ⟨fun ⟨h2,h3⟩ q' hq' hd ha=>?_,fun h=>⟨fun q' hq' hd=>h q' hq' (done q' hd),h q hq doneq⟩⟩;rcases newly q' hd hq' with rfl|hd'
         ·exact h3 ha
         ·exact h2 q' hq' hd' ha
        ·rw [hev3,hev2,or_assoc];refine or_congr Iff.rfl ⟨?_,?_⟩
         ·rintro (⟨q',hq',hd,ha⟩|ha)
          ·exact ⟨q',hq',done q' hd,ha⟩
          ·exact ⟨q,hq,doneq,ha⟩
         ·rintro ⟨q',hq',hd,ha⟩;rcases newly q' hd hq' with rfl|hd'
          ·exact .inr ha
          ·exact .inl ⟨q',hq',hd',ha⟩
       obtain ⟨fn,hfn1,hfn2⟩:=B_D;refine .inr ⟨_,_,w85,s1,trivial,hK83 _ _ ⟨fun _=>⟨_,_,s2,some (149,.pointer (some (adr tb))),rfl,_,rfl,_,_,_,_,rfl,z_6 _ _,fn,hfn1,hfn2,(B_a htak85 (by have:=hN.ts.1 q hq;omega) t).mono ?_⟩,nofun⟩⟩;rintro _ w96 ⟨rfl,hw96⟩;obtain rfl:=hw96.symm;refine ⟨_,rfl,trivial,fun ham=>?_,fun ham=>step ev2 E3 w85 c3 st85 itp2 hltp (Nat.le_succ _) (FR2.refl ..) it85.1 (by rw [it85.2,hle3]) hown85 (by rw [ham];simp) (by rw [ham];simp)⟩;refine (val st85 hql hq0 hyo hysz (hra (((fr64'.trans fr74).trans fr3).trans fr85)) t).mono ?_;rintro _ w99 ⟨o,rfl,fr99,ho,he⟩;have st99:=st85.fr fr99;refine ⟨o,rfl,trivial,(st99.addErr (by omega) (VErr.loc he st85.hlo)).mono ?_⟩;rintro _ w102 ⟨rfl,st102,fr102,x102⟩;have p99:=st85.itFr itp2 fr99;have p102:=st99.itXe p99.1 x102;have i99:=st85.itFr it85.1 fr99;have i102:=st99.itXe i99.1 x102;exact ⟨rfl,trivial,step true _ w102 _ st102 p102.1 (by rw [p102.2,p99.2];exact hltp) (Nat.le_refl _) ((FR2.fr fr99).trans fr102) i102.1 (by rw [i102.2,i99.2,it85.2,hle3]) (st99.ownXe (st85.ownFr hown85 hgl fr99) x102) (by rw [Bool.and_eq_true,ho,ham];simp) (by rw [ham];simp)⟩
     obtain ⟨cs64,hcs64,hsc64⟩:=st64.sc h1 hx;obtain ⟨u24,hu24,ppb,SPr,rfl,hppb,hGPr,hSPr⟩:=(hsc64.words hk).props;obtain ⟨r24,g24,hrun24,hg24⟩:=x_l (P:=Tryz.prog) (lo:=0) (q:=some ppb) (u:=.string t) u4 k1 hi4 hz4 trivial ⟨Nat.zero_le _,hGPr⟩;rcases hg24 with ⟨rfl,hg24⟩|⟨rfl,rfl,hg24⟩
     ·obtain ⟨q,hq,e1,rfl⟩:=(hSPr _ _).1 hg24;have e1:q.name=t:=(Value.string.inj e1).symm;have hfq:fp=some q:=by rw [hfp];exact x_1.1 ⟨hq,e1⟩
      obtain ⟨hql,hq0⟩:=hN.props q (x_G hq);refine ⟨_,rfl,_,cat hcs64 hu24,_,true,hrun24 true,fun _=>(val st64 hql hq0 hyo hysz (hra fr64') t).mono ?_,nofun⟩;rintro _ w151 ⟨o,rfl,fr151,ho,he⟩;have st151:=st64.fr fr151;refine ⟨o,rfl,trivial,(st151.addErr (by omega) (VErr.loc he st64.hlo)).mono ?_⟩;rintro _ w154 ⟨rfl,st154,fr154,x154⟩;have i151:=st64.itFr it64 fr151;have i154:=st151.itXe i151.1 x154;exact ⟨rfl,trivial,k72 true w154 _ _ st154 (Nat.le_refl _) ((FR2.fr fr151).trans fr154) i154.1 (by rw [i154.2,i151.2]) (st151.ownXe (st64.ownFr hown64 hgl fr151) x154) (by rw [Bool.and_eq_true,ho,hfq];simp) (by rw [hfq];rfl)⟩
     ·have hfq:fp=none:=by
       cases hf:fp with
       | none=>rfl
       | some q=>
        rw [hfp] at hf;obtain ⟨hq,hqn⟩:=x_1.2 hf;exact absurd ((hSPr _ _).2 ⟨q,hq,by rw [hqn],rfl⟩) (hg24 _)
      exact ⟨_,rfl,_,cat hcs64 hu24,none,false,hrun24 true,nofun,fun _=>k72 false w64 E1 c1 st64 (Nat.le_succ _) (FR2.refl ..) it64 rfl hown64 (by rw [hfq];simp) (by rw [hfq];rfl)⟩⟩
    refine ⟨_,rfl,d.br,cat hv64 rfl,fun hbr=>⟨_,rfl,_,_,_,cat hv64 rfl,?_⟩,fun _=>k69⟩;show K69 (decide ((l64:Int)>0)) w64;rw [herr64];cases hE1e:E1 with
    | true=>exact k69
    | false=>
     refine hK69 _ _ ⟨fun _=>bad w64 E1 T1 c1 st64 (by omega) fr64' hE1e fun h=>?_,nofun⟩;have e10:E10=true:=hE10'.2 ⟨h.1,h.2.1.1,(by have:=h.2.1.2.1;unfold x_T at this;rw [Bool.and_eq_true] at this;exact this.1)⟩;have:=hE1.2 ⟨e10,fun t' i' y' hm' hy' _=>by
      have:=h.2.1.2.2 i' (x_f.2 ⟨t',(x_a.1 hm').1,hm'⟩) t' y' (x_a.1 hm').1 hy';unfold memOK at this;rw [Bool.and_eq_true] at this;exact this.2⟩
     rw [hE1e] at this;cases this.1⟩
  refine ⟨_,rfl,d.br,cat hv10 rfl,fun hbr=>⟨_,rfl,_,_,_,cat hv10 rfl,?_⟩,fun _=>k11⟩;show K11 (decide ((l10:Int)>0)) w10;rw [herr10];cases E10 with
  | true=>exact k11
  | false=>exact hK11 _ _ ⟨fun _=>bad w10 false T (cnt+3) st10 (by omega) fr10 rfl (fun h=>(by have:=hE10'.2 ⟨h.1,h.2.1.1,(by have:=h.2.1.2.1;unfold x_T at this;rw [Bool.and_eq_true] at this;exact this.1)⟩;cases this)),nofun⟩
 obtain ⟨cs8,hcs8,hsc8⟩:=st8.sc h1 hx;obtain ⟨ra,rl,rc,hreq,hR⟩:=(hsc8.words hk).req;have hrl:rl=x.req.length:=hR.1;refine ⟨_,rfl,ra,rl,rc,cat hcs8 hreq,fun hpos=>⟨_,rfl,ra,rl,rc,cat hcs8 hreq,st8.miss (by omega) (objAt' (fr6.trans fr8)) hR (by have:=hN.len.2.2.2.2.2.2.1;omega) fun w1 st1 fr1 _=>k9 w1 st1 ((fr6.trans fr8).trans fr1)⟩,fun hno=>k9 w8 ?_ (fr6.trans fr8)⟩;have:x.req=[]:=List.eq_nil_of_length_eq_zero (by have:=odf hno;omega);rw [this];simpa [there] using st8.more (Nat.le_succ _)
end
end Go.VC
namespace Go.VC
open Go Go.Proofs Go.Lib
variable [DB]
theorem x_F (s:BA):s.toList.length=s.size:=by rw [ByteArray.toList_eq,Array.length_toList];rfl
theorem z_8 {s:BA}{i:Nat}(h:i<s.size):s.toList[i]? =some (s[i]'h):=by
 rw [ByteArray.toList_eq,Array.getElem?_toList];exact Array.getElem?_eq_getElem h
theorem drop_cons {s:BA}{i:Nat}(h:i<s.size):s.toList.drop i=(s[i]'h)::s.toList.drop (i+1):=by
 have h':i<s.toList.length:=by rw [x_F];exact h
 rw [List.drop_eq_getElem_cons h'];congr 1;have:=z_8 h;rw [List.getElem?_eq_getElem h'] at this;exact Option.some.inj this
theorem z_7 {s:BA}:∀ (m i:Nat),i+m<=s.size->(∀ j,i<=j->(hj:j<i+m)->∀ h:j<s.size,(s[j]'h).toNat / 64=2)->x_c (s.toList.drop i)=x_c (s.toList.drop (i+m))
 | 0,i,_,_=>rfl
 | m+1,i,hm,h=>by
  have hi:i<s.size:=by omega
  have hb:=h i (Nat.le_refl _) (by omega) hi;rw [drop_cons hi,x_c,if_pos hb,Nat.zero_add,z_7 m (i+1) (by omega) fun j h1 h2 h3=>h j (by omega) (by omega) h3];congr 2;omega
theorem U8at.split {s:BA}{i:Nat}(h:U8at s i)(hi:i<s.size):1<=(Utf8.decode s i).2/\i+(Utf8.decode s i).2<=s.size/\U8at s (i+(Utf8.decode s i).2)/\x_c (s.toList.drop i)=1+x_c (s.toList.drop (i+(Utf8.decode s i).2)):=by
 cases h with
 | done=>omega
 | @step _ n _ h1 hn hd hb hc h=>
  rw [hd];refine ⟨h1,hn,h,?_⟩;rw [drop_cons hi,x_c,if_neg hb,z_7 (n-1) (i+1) (by omega) fun j g1 g2 g3=>hc j (by omega) (by omega)];congr 3;omega
theorem U8at.le {s:BA}{i:Nat}(h:U8at s i):i<=s.size:=by
 cases h with
 | done=>exact Nat.le_refl _
 | step hi=>omega
theorem get!_of {s:BA}{i:Nat}(h:i<s.size):s.get! i=s[i]'h:=by
 simp [ByteArray.get!,getElem!_pos,h];rfl
def dec9 (a:Nat->Nat)(cont:Nat->Bool):Nat × Nat:=
 if a 0<0x80 then (a 0,1)
 else if a 0 / 32==6&&cont 1 then (if (a 0 % 32)*64+a 1 % 64>=0x80 then ((a 0 % 32)*64+a 1 % 64,2) else (Utf8.runeError,1))
 else if a 0 / 16==14&&cont 1&&cont 2 then (if (a 0 % 16)*4096+(a 1 % 64)*64+a 2 % 64>=0x800&&Utf8.valid ((a 0 % 16)*4096+(a 1 % 64)*64+a 2 % 64:Nat) then ((a 0 % 16)*4096+(a 1 % 64)*64+a 2 % 64,3) else (Utf8.runeError,1))
 else if a 0 / 8==30&&cont 1&&cont 2&&cont 3 then (if (a 0 % 8)*262144+(a 1 % 64)*4096+(a 2 % 64)*64+a 3 % 64>=0x10000&&Utf8.valid ((a 0 % 8)*262144+(a 1 % 64)*4096+(a 2 % 64)*64+a 3 % 64:Nat) then ((a 0 % 8)*262144+(a 1 % 64)*4096+(a 2 % 64)*64+a 3 % 64,4) else (Utf8.runeError,1))
 else (Utf8.runeError,1)
theorem E_a {a a':Nat->Nat}{c c':Nat->Bool}(h1:c 1=c' 1)(h2:c 2=c' 2)(h3:c 3=c' 3)(h0:a 0=a' 0)(ha:∀ k,c' k=true->a k=a' k):dec9 a c=dec9 a' c':=by
 unfold dec9;rw [h1,h2,h3,h0];cases g1:c' 1 with
 | false=>simp only [Bool.and_false,Bool.false_and,Bool.false_eq_true,if_false]
 | true=>
  rw [ha 1 g1];cases g2:c' 2 with
  | false=>simp only [Bool.and_false,Bool.false_and,Bool.false_eq_true,if_false]
  | true=>
   rw [ha 2 g2];cases g3:c' 3 with
   | false=>simp only [Bool.and_false,Bool.false_eq_true,if_false]
   | true=>rw [ha 3 g3]
theorem U8at.rest {s t:BA}{o:Nat}(hs:t.size+o=s.size)(ht:∀ i (h:i<t.size),t[i]'h=s[o+i]'(by omega)):∀ {i:Nat},U8at s i->o<=i->U8at t (i-o):=by
 have ht':∀ i j (h:i<t.size) (e:o+i=j) (hj:j<s.size),t[i]'h=s[j]'hj:=fun i j h e hj=>by
  subst e;exact ht i h
 intro i h;induction h with
 | done=>
  intro _;rw [show s.size-o=t.size by omega];exact .done
 | @step i n hi h1 hn hd hb hc h ih=>
  intro ho;have e:i+n-o=i-o+n:=by omega
  have hdec:Utf8.decode t (i-o)=Utf8.decode s i:=by
   have g0:∀ k,i+k<s.size->t.get! (i-o+k)=s.get! (i+k):=fun k hk=>by
    rw [get!_of hk,get!_of (by omega:i-o+k<t.size),ht];congr 1;omega
   have c0:∀ k,(decide (i-o+k<t.size)&&(t.get! (i-o+k)).toNat / 64==2)=(decide (i+k<s.size)&&(s.get! (i+k)).toNat / 64==2):=fun k=>by
    by_cases hk:i+k<s.size
    ·rw [g0 k hk,decide_eq_true hk,decide_eq_true (by omega)]
    ·rw [decide_eq_false hk,decide_eq_false (by omega)];rfl
   show dec9 (fun k=>(t.get! (i-o+k)).toNat) (fun k=>decide (i-o+k<t.size)&&(t.get! (i-o+k)).toNat / 64==2)=dec9 (fun k=>(s.get! (i+k)).toNat) (fun k=>decide (i+k<s.size)&&(s.get! (i+k)).toNat / 64==2);refine E_a (c0 1) (c0 2) (c0 3) (by rw [g0 0 (by omega)]) fun k hk=>?_;rw [Bool.and_eq_true,decide_eq_true_eq] at hk;rw [g0 k (by omega)]
  refine .step (n:=n) (by omega) h1 (by omega) (by rw [hdec];exact hd) ?_ (fun j g1 g2=>?_) (by rw [<- e];exact ih (by omega))
  ·rw [ht' (i-o) i (by omega) (by omega) hi];exact hb
  ·rw [ht];exact hc (o+j) (by omega) (by omega)
theorem B_2 {w w':World}(h:EF w w'){k:Nat}(hk:w.heap.size<=k)(s:BA)(pos:Nat):EF w (w'.iterAt k s pos):=by
 refine ⟨fun b o hb hbo=>?_,by rw [iterAt_size];exact h.size,h.os,h.out⟩;have:=a_3 hbo;have h2:=h.old b o hb hbo;unfold objAt at h2 ⊢;rw [iterAt_other _ _ _ _ _ (by omega)];exact h2
theorem E_n {s:BA}(h8:U8at s 0)(hs:s.size<=1099511627776)(w:World):CP 175 #[.string s] w fun e w'=>e=.returned (.int .i64 (x_c s.toList:Nat))/\EF w w':=by
 have hr:=y_q s.toList;rw [x_F] at hr;refine x_n s w _ ⟨_,_,run_range_string w 9 s (by kernel_rfl),trivial,fun n w1=>0<=n/\∃ pos,objAt w1 w.heap.size=some (.stringIter s pos)/\U8at s pos/\n+x_c (s.toList.drop pos)=x_c s.toList/\EF w w1,fun n _=>((x_c s.toList:Int)-n).toNat,⟨by omega,0,World.iter_heap w s 0,h8,by simp,(Ext.refl w).alloc _⟩,?_⟩;rintro n w7 ⟨n0,pos,hk,h8p,hn,hx⟩ K8 hK8;by_cases hp:pos<s.size
 ·obtain ⟨g1,g2,g3,g4⟩:=h8p.split hp;refine .inr ⟨_,_,_,run_next_any_at w7 _ s pos 0 hk hp,trivial,hK8 true _ ⟨fun _=>?_,nofun⟩⟩;rw [f_c (by omega) (by omega)];refine ⟨⟨by omega,_,iterAt_heap w7 _ s pos _ hk,g3,by omega,B_2 hx (Nat.le_refl _) _ _⟩,by dsimp only;omega⟩
 ·refine .inl ⟨_,run_next_end_at w7 _ s pos 0 hk hp,trivial,hK8 false _ ⟨nofun,fun _=>⟨?_,hx⟩⟩⟩;rw [List.drop_eq_nil_of_le (by rw [x_F];omega)] at hn;simp only [x_c] at hn;have:n=(x_c s.toList:Nat):=by omega
  rw [this]
theorem c_RC {s:BA}(h8:U8at s 0)(hs:s.size<=1099511627776){w:World}{g cap:Nat}(hcap:s.size<=cap){fr:Nat × Nat}{T:TypeId}(hg:objAt w g=some (.cells (bytesRow s cap) T fr)):CP 158 #[.slice (some (adr g)) s.size cap] w fun e w'=>e=.returned (.int .i64 (x_c s.toList:Nat))/\EF w w':=by
 have hr:=y_q s.toList;rw [x_F] at hr;have cell:∀ j (h:j<s.size),w.cell? ((adr g).add j)=some (.int .u8 ((s[j]'h).toNat:Int)):=fun j h=>by
  rw [cat hg (bytesRow_at s cap j h)];rfl
 refine x_Y (some (adr g)) s.size cap w _ ⟨fun n w1=>0<=n/\n<=s.size/\w1=w/\U8at s n.toNat/\n+x_c (s.toList.drop n.toNat)=x_c s.toList,fun n _=>((s.size:Int)-n).toNat,⟨by omega,by omega,rfl,h8,by simp⟩,?_⟩;rintro n w1 ⟨n0,n1,rfl,h8n,hn⟩;refine ⟨fun hlt=>?_,fun hge=>⟨?_,Ext.refl _⟩⟩
 ·have hlt:=odt hlt;have hi:n.toNat<s.size:=by omega
  refine ⟨_,rfl,⟨n0,hlt⟩,_,by rw [Nat.mul_one];exact cell _ hi,fun hbig=>?_,fun hsm=>?_⟩
  ·refine ⟨⟨n0,by omega,by omega⟩,?_⟩;generalize hl:s.toList.drop n.toNat=l at hn;have hll:l.length=s.size-n.toNat:=by rw [<- hl,List.length_drop,x_F]
   have hts:(⟨l.toArray⟩:BA).size=s.size-n.toNat:=by
    rw [<- hll];simp [ByteArray.size]
   have htl:(⟨l.toArray⟩:BA).toList=l:=by rw [ByteArray.toList_eq]
   have hlg:∀ j (h:j<l.length),l[j]=s[n.toNat+j]'(by omega):=fun j h=>by
    have e1:l[j]? =s.toList[n.toNat+j]? :=by rw [<- hl,List.getElem?_drop]
    rw [List.getElem?_eq_getElem h,z_8 (by omega)] at e1;exact Option.some.inj e1
   refine ⟨⟨l.toArray⟩,w1,?_,trivial,?_⟩
   ·rw [if_neg (by omega),Option.map_some,Nat.mul_one,show ((s.size:Int).toNat-n.toNat:Nat)=l.length by omega];refine run_convert_bytes_back w1 252 9 5 _ _ l (by kernel_rfl) (by kernel_rfl) (by kernel_rfl) fun j hj=>?_;have e:(((adr g).add n.toNat).add j)=(adr g).add (n.toNat+j):=by
     rw [Addr.add_lit,Nat.zero_add,Addr.add_lit,Addr.add_lit,Nat.zero_add]
    rw [e,cell _ (by omega),hlg]
   ·have h8t:U8at ⟨l.toArray⟩ 0:=by
     have:=h8n.rest (t:=⟨l.toArray⟩) (o:=n.toNat) (by omega) (fun i h=>by
      have h':i<l.length:=by omega
      rw [<- hlg i h'];rfl) (Nat.le_refl _)
     rwa [Nat.sub_self] at this
    refine (E_n h8t (by omega) w1).mono ?_;rintro _ w2 ⟨rfl,hx⟩;refine ⟨_,rfl,trivial,?_,hx⟩;rw [htl];rw [f_c (by omega) (by omega)];rw [hn]
  ·have hsm:=odf hsm;have hd:=decode_ascii s n.toNat hi (by omega);obtain ⟨g1,g2,g3,g4⟩:=h8n.split hi;rw [hd] at g3 g4;dsimp only at g3 g4;rw [f_c (by omega) (by omega)];have e:(n+1).toNat=n.toNat+1:=by omega
   exact ⟨⟨by omega,by omega,rfl,by rw [e];exact g3,by rw [e];omega⟩,by dsimp only;omega⟩
 ·have hge:=odf hge;rw [List.drop_eq_nil_of_le (by rw [x_F];omega)] at hn;simp only [x_c] at hn;have:n=(x_c s.toList:Nat):=by omega
  rw [this]
section
variable {s:List JN} {av:Nat->Nat} {B f lo:Nat} {vb:Nat} {d:VdC} {n:Nat} {vid:Int} {k:Nat} {v:JV} {w:World} {E:Bool} {cnt:Nat} {T:Nat->Prop}
theorem E_H (st:VSt s av B lo vb d n vid k v w E cnt T){x:JN}(hN:okN s.length n x)(h1:1<=n)(hx:s[n-1]? =some x)(hk:x.kind=0)(h8:U8 v.t)(hcnt:cnt<=7000000000000):
  CP 131 #[.pointer (some (adr vb)),.string v.t] w fun e w'=>e=.returned (.tuple #[])/\∃ E',VSt s av B lo vb d n vid k v w' E' (cnt+4) T/\(E'=true↔E=true/\bound (x_c v.t.toList) x.minL x.maxL=true/\tkn v.t x.pat=true)/\FR2 lo d.g w w':=by
 have up:=FR2.up st.hBlo st.ctx.hg;obtain ⟨a0,l0,c0,hv⟩:=st.blk;obtain ⟨cs,hcs,hsc⟩:=st.sc h1 hx;have hw:=hsc.words hk;have lis:∀ {lim:JLim} {u:Value} {w:World},RLim w B lim u->∃ q,u=.pointer q/\(!q.isNone)=lim.is:=fun {lim u w} h=>by
  unfold RLim at h;cases hi:lim.is with
  | true=>
   rw [if_pos hi] at h;obtain ⟨b,T,fr,u0,rfl,-⟩:=h;exact ⟨_,rfl,rfl⟩
  | false=>
   rw [if_neg (by rw [hi];decide)] at h;exact ⟨_,h,rfl⟩
 refine x_P (some (adr vb)) v.t w _ ⟨_,rfl,_,cat hv rfl,fun K5 hK5 K63 hK63=>?_⟩;have k5:∀ (m:Int) (w7:World),(x.minL.is=true∨x.maxL.is=true->m=(x_c v.t.toList:Nat))->EF w w7->K5 m w7:=by
  intro m w7 hm x7;have st7:=st.ext0 x7;obtain ⟨cs7,hcs7,hsc7⟩:=st7.sc h1 hx;have hw7:=hsc7.words hk;refine hK5 m w7 fun K8 hK8=>?_;refine st7.lim (by omega) hcs7 hw7.minL (fun z=>decide (m<z)) _ _ (fun z=>#[.int .i64 m,.int .i64 z]) fun w9 st9 fr9=>hK8 w9 fun K10 hK10=>?_;generalize hE9:(E&&(!x.minL.is|| !decide (m<x.minL.n)))=E9 at st9;obtain ⟨cs9,hcs9,hsc9⟩:=st9.sc h1 hx;have hw9:=hsc9.words hk;refine st9.lim (by omega) hcs9 hw9.maxL (fun z=>decide (m>z)) _ _ (fun z=>#[.int .i64 m,.int .i64 z]) fun w11 st11 fr11=>hK10 w11 ?_;generalize hE11:(E9&&(!x.maxL.is|| !decide (m>x.maxL.n)))=E11 at st11;have hb:E11=(E&&bound (x_c v.t.toList) x.minL x.maxL):=by
   rw [<- hE11,<- hE9,Bool.and_assoc];congr 1;rw [y_U,y_o];unfold bound;congr 1
   ·cases hi:x.minL.is with
    | true=>rw [hm (.inl hi)]
    | false=>rfl
   ·cases hi:x.maxL.is with
    | true=>rw [hm (.inr hi)]
    | false=>rfl
  have fr:FR2 lo d.g w w11:=((FR2.of x7).trans fr9).trans fr11;obtain ⟨cs11,hcs11,hsc11⟩:=st11.sc h1 hx;have hw11:=hsc11.words hk;obtain ⟨u,hu,hpat⟩:=hw11.pat;have hlen:=hN.ts.2.1;have hE:∀ z:Bool,tkn v.t x.pat=z->((E11&&z)=true↔E=true/\bound (x_c v.t.toList) x.minL x.maxL=true/\tkn v.t x.pat=true):=fun z hz=>by
   rw [hb,hz];simp only [Bool.and_eq_true,and_assoc]
  by_cases hp:x.pat.is=true
  ·rw [if_pos hp] at hpat;obtain ⟨tb,rfl,htk⟩:=hpat;have hc:w11.cell? ((adr d.sb).add 44)=some (ifcV (some (149,.pointer (some (adr tb))))):=cat hcs11 hu;have htkn:tkn v.t x.pat=among v.t x.pat.ts:=by unfold tkn;rw [hp];rfl
   refine ⟨_,rfl,_,hc,fun _=>⟨_,rfl,_,hc,_,_,_,_,rfl,z_6 _ _,?_⟩,fun hno=>by cases hno⟩;obtain ⟨fn,g1,g2⟩:=B_D;refine ⟨fn,g1,g2,(B_a htk (by omega) v.t).mono ?_⟩;rintro _ w12 ⟨rfl,rfl⟩;refine ⟨_,rfl,trivial,fun hno=>⟨_,rfl,_,hc,_,_,_,_,rfl,B_d _ _,?_⟩,fun hyes=>⟨rfl,E11,st11.more (by omega),?_,fr⟩⟩
   ·obtain ⟨fn,g1,g2⟩:=C_y;refine ⟨fn,g1,g2,(y_x (some (adr tb)) w12 (fun e w'=>e=.returned (.string ⟨#[]⟩)/\w'=w12) ⟨rfl,rfl⟩).mono ?_⟩;rintro _ w13 ⟨rfl,rfl⟩;refine ⟨_,rfl,trivial,trivial,trivial,?_⟩;have x14:EF w13 (w13.alloc (.cells #[.string v.t,.string ⟨#[]⟩] 323)):=(Ext.refl _).alloc _;refine ((st11.ext0 x14).addError (by omega) _).mono ?_;rintro _ w15 ⟨rfl,st15,fr15,-⟩;refine ⟨rfl,trivial,rfl,false,st15.more (by omega),?_,(fr.trans (FR2.of x14)).trans fr15⟩;rw [<- hE false (by rw [htkn];simpa using hno),Bool.and_false]
   ·rw [<- hE true (by rw [htkn];simpa using hyes),Bool.and_true]
  ·rw [if_neg hp] at hpat;subst hpat;have hc:w11.cell? ((adr d.sb).add 44)=some (ifcV none):=cat hcs11 hu;refine ⟨_,rfl,_,hc,fun hno=>(by cases hno),fun _=>⟨rfl,E11,st11.more (by omega),?_,fr⟩⟩;rw [<- hE true (by unfold tkn;rw [Bool.not_eq_true] at hp;rw [hp];rfl),Bool.and_true]
 have k63:∀ b,(b=false->x.minL.is=false/\x.maxL.is=false)->K63 b w:=fun b hb=>hK63 b w ⟨fun _=>?_,fun hf=>k5 _ _ (fun h=>by obtain ⟨g1,g2⟩:=hb hf;rw [g1,g2] at h;simp at h) (Ext.refl w)⟩
 ·obtain ⟨u1,hu1,hl1⟩:=hw.minL;obtain ⟨u2,hu2,hl2⟩:=hw.maxL;obtain ⟨q1,rfl,e1⟩:=lis hl1;obtain ⟨q2,rfl,e2⟩:=lis hl2;refine ⟨_,rfl,_,cat hcs hu1,fun h=>⟨_,rfl,_,cat hcs hu2,k63 _ fun h'=>?_⟩,fun h=>k63 _ nofun⟩;rw [e1] at h;rw [e2] at h';exact ⟨h,h'⟩
 ·have r:=run_bytes_of_string (P:=Tryz.prog) w 9 252 5 v.t (by kernel_rfl) (by kernel_rfl) (by kernel_rfl);have hcap:=grownCap_ge w v.t.size 0 5;refine ⟨_,_,_,_,r,trivial,?_⟩;refine (c_RC h8.2 h8.1 hcap (w_3 _ _)).mono ?_;rintro _ w3 ⟨rfl,hx3⟩;exact ⟨_,rfl,trivial,k5 _ _ (fun _=>rfl) (((Ext.refl w).drew.alloc _).then hx3)⟩
end
end Go.VC
