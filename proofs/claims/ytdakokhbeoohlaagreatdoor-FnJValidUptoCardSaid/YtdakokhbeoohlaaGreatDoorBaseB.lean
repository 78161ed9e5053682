/- Part of the proof of a law of a rule over documents (BaseB), where what the arguments hold is of bulk at most 1048576. -/
import Derived.Test.YtdakokhbeoohlaaGreatDoorBaseA
import Derived.Scope
import Derived.Test.YtdakokhbeoohlaaGreatDoorProg
import Derived.KernelRfl
set_option linter.unusedVariables false
set_option linter.unusedSimpArgs false
namespace Go.VC
open Go
def b_r (P:Program)(o:Oper)(E:Nat->SV)(L:List LB)(w w':World):Prop:=
 match o.op with
 | .load t x=>match evalO E x with
  | .v (.l (.ptr a))=>∀ i,P.info? t=some i->∀ k,k<i.size->w'.cell? (a.add k)=w.cell? (a.add k)
  | .loc i _ _=>∀ lb,getLB L i=some lb->w'.heap[lb.b]? =w.heap[lb.b]?
  | _=>True
 | .lookup _ m _ _=>match evalO E m with
  | .v (.l (.map r))=>∀ b,r=some b->w'.heap[b]? =w.heap[b]?
  | _=>True
 | _=>True
section
variable {P:Program} {cfg:Cfg} {o:Oper} {E:Nat->SV} {L:List LB} {w:World} {K:KOp} {a:Act}
def Fl (P:Program)(L:List LB)(K:KOp)(w:World)(s:Sem Next)(same:World->Prop):Prop:=
 ∃ sv v,sv.is L v/\K sv L none w/\∀ w',same w'->s.run P w'=.ok (.value v) w'
theorem b_h {q:Sem Next}{same:World->Prop}{s:SV}{v:Value}(hr:∀ w',same w'->q.run P w'=.ok (.value v) w')(hs:s.is L v)(hk:K s L none w):Fl P L K w q same:=
 ⟨s,v,hs,hk,hr⟩
def sfind (a:ByteArray):List MapEntry->Nat->Option (Option (Nat × Value))
 | [],_=>some none
 | e::es,i=>match e.key with
  | .string b=>if a==b then some (some (i,e.val)) else sfind a es (i+1)
  | _=>none
theorem e_a (a:ByteArray):∀ (es:List MapEntry) (i:Nat),Instr.findNow .string (.string a) es i=sfind a es i
 | [],_=>rfl
 | e::es,i=>by
  simp only [Instr.findNow,sfind];cases hk:e.key<;>simp only [Instr.sameNow];rename_i b;cases hab:(a==b)<;>simp [e_a a es (i+1)]
theorem j_l {kt:TypeId}(hkt:P.underlying kt=some .string)(a:ByteArray)(v:Value):(Op.equal kt (.string a) v).run P w=match v with
  | .string b=>.ok (a==b) w
  | _=>.halt (.stuck "==: the operands do not fit the type, or the type is not comparable") w:=by
 unfold Op.equal;show (Op.equalIn (9999+1) kt _ _).run P w=_;generalize 9999=d;simp only [Op.equalIn,Sem.run_bind,a_l hkt,Result.andThen_ok];cases v<;>rfl
theorem d_S {kt:TypeId}(hkt:P.underlying kt=some .string)(a:ByteArray):∀ (es:List MapEntry) (i:Nat) (r:Option (Nat × Value)),(Instr.findAsking kt (.string a) es i).run P w=.ok r w->sfind a es i=some r
 | [],i,r,h=>by simp [Instr.findAsking] at h;subst h;rfl
 | e::es,i,r,h=>by
  simp only [Instr.findAsking,Sem.run_bind,j_l hkt] at h;simp only [sfind];cases hk:e.key<;>simp only [hk,Result.andThen_halt,reduceCtorEq] at h;rename_i b;simp only [Result.andThen_ok] at h;cases hab:(a==b) with
  | true=>simp [hab] at h;subst h;simp [hab]
  | false=>simp [hab] at h;simpa [hab] using d_S hkt a es (i+1) r h
theorem c_Q {kt:TypeId}(hkt:P.underlying kt=some .string)(a:ByteArray)(es:List MapEntry):(∀ r,(Instr.findKey kt (.string a) es).run P w=.ok r w->sfind a es 0=some r)/\
  (∀ r,sfind a es 0=some r->(Instr.findKey kt (.string a) es).run P w=.ok r w):=by
 unfold Instr.findKey;simp only [Sem.run_bind,a_l hkt,Result.andThen_ok,e_a];cases hs:sfind a es 0 with
 | some r=>simp
 | none=>
  refine ⟨fun r h=>?_,fun r h=>by cases h⟩;have:=d_S hkt a es 0 r h;rw [hs] at this;cases this
theorem k_C {kt:TypeId}{a:ByteArray}{es:List MapEntry}{x:Option (Nat × Value)}{w1:World}(hkt:P.underlying kt=some .string)(h:(Instr.findKey kt (.string a) es).run P w=.ok x w1):w1=w:=by
 unfold Instr.findKey at h;simp only [Sem.run_bind,a_l hkt,Result.andThen_ok,e_a] at h;cases hs:sfind a es 0 with
 | some r=>simp [hs] at h;exact h.2.symm
 | none=>
  simp only [hs] at h;exfalso;have key:∀ (es:List MapEntry) (i:Nat),sfind a es i=none->∃ hh,(Instr.findAsking kt (.string a) es i).run P w=.halt hh w:=by
   intro es;induction es with
   | nil=>intro i h;simp [sfind] at h
   | cons e es ih=>
    intro i h;simp only [sfind] at h;simp only [Instr.findAsking,Sem.run_bind,j_l hkt];cases hk:e.key<;>simp only [hk] at h ⊢ <;>first
     | exact ⟨_,rfl⟩
     | skip
    rename_i b;cases hab:(a==b) with
    | true=>simp [hab] at h
    | false=>
     simp [hab] at h;obtain ⟨hh,e'⟩:=ih (i+1) h;exact ⟨hh,by simp [e']⟩
  obtain ⟨hh,e⟩:=key es 0 hs;rw [e] at h;cases h
theorem b_s {kt:TypeId}(hkt:P.underlying kt=some .string)(b:Bool)(a:ByteArray):(Instr.checkKey b 10000 kt (.string a)).run P w=.ok () w:=by
 show (Instr.checkKey b (9999+1) kt (.string a)).run P w=_;generalize 9999=d;simp only [Instr.checkKey,Sem.run_bind,a_l hkt,Result.andThen_ok]
 try rfl
def k_6 (w:World)(es:List MapEntry):Option Nat->Prop
 | none=>es=[]
 | some b=>∃ ents cl,w.heap[b]? =some (.map ents cl)/\ents.toList=es
theorem c_z {t kt e:TypeId}{r:Option Nat}{u:ByteArray}{ok:Bool}{es:List MapEntry}(hu:P.underlying t=some (.map kt e))(hkt:P.underlying kt=some .string)
  (hm:k_6 w es r) {x:Option (Nat × Value)} (hf:sfind u es 0=some x):
  (Instr.lookup t (.map r) (.string u) ok).run P w=(match x with
   | some (_,v)=>.ok (if ok then .tuple #[v,.bool true] else v) w
   | none=>((zeroValue e).run P w).andThen fun z w=>.ok (if ok then .tuple #[z,.bool false] else z) w):=by
 unfold Instr.lookup;cases r with
 | none=>
  simp only [k_6] at hm;subst hm;simp only [sfind,Option.some.injEq] at hf;subst hf;have hk:=(c_Q (P:=P) (w:=w) hkt u []).2 none rfl;simp only [Sem.run_bind,a_l hu,Result.andThen_ok,Sem.run_pure,b_s hkt,hk]
 | some b=>
  obtain ⟨ents,cl,hb,rfl⟩:=hm;have hk:=(c_Q (P:=P) (w:=w) hkt u ents.toList).2 x hf;have hg:(getObj b).run P w=.ok (.map ents cl) w:=by simp [getObj,Sem.run,hb]
  simp only [Sem.run_bind,a_l hu,Result.andThen_ok,hg,Sem.run_pure,b_s hkt,hk];cases x with
  | none=>cases hz:(zeroValue e).run P w<;>simp [hz]
  | some y=>simp
theorem h_p {e:TypeId}{w w':World}{z:Value}(h:(zeroValue e).run P w=.ok z w):(zeroValue e).run P w'=.ok z w':=by
 simp only [zeroValue,typeInfo,Sem.run_bind,run_program,Result.andThen_ok] at h ⊢;cases hi:P.info? e with
 | none=>simp [hi] at h
 | some i=>
  simp only [hi,Sem.run_pure,Result.andThen_ok] at h ⊢;cases hz:i.zero with
  | none=>simp [hz] at h
  | some v=>simp [hz] at h ⊢;exact h
theorem h_o {e:TypeId}{w:World}{z:Value}{w1:World}(h:(zeroValue e).run P w=.ok z w1):w1=w:=by
 simp only [zeroValue,typeInfo,Sem.run_bind,run_program,Result.andThen_ok] at h;cases hi:P.info? e with
 | none=>simp [hi] at h
 | some i=>
  simp only [hi,Sem.run_pure,Result.andThen_ok] at h;cases hz:i.zero with
  | none=>simp [hz] at h
  | some v=>simp [hz] at h;exact h.2.symm
theorem g_o {t kt e:TypeId}{r:Option Nat}{u:ByteArray}{ok:Bool}{v:Value}{w w':World}(hu:P.underlying t=some (.map kt e))(hkt:P.underlying kt=some .string)
  (hs:∀ b,r=some b->w'.heap[b]? =w.heap[b]?) (h:(Instr.lookup t (.map r) (Lf.str u).den ok).run P w=.ok v w):(Instr.lookup t (.map r) (.string u) ok).run P w'=.ok v w':=by
 simp only [Lf.den] at h;have hm:∃ es:List MapEntry,(∀ w'':World,(∀ b,r=some b->w''.heap[b]? =w.heap[b]?)->k_6 w'' es r):=by
  cases r with
  | none=>exact ⟨[],fun _ _=>rfl⟩
  | some b=>
   cases hb:w.heap[b]? with
   | none=>
    exfalso;simp [Instr.lookup,a_l hu,getObj,Sem.run,hb] at h
   | some o=>
    cases o
    case map ents cl=>exact ⟨ents.toList,fun w'' hw=>⟨ents,cl,by rw [hw b rfl,hb],rfl⟩⟩
    all_goals (exfalso;simp [Instr.lookup,a_l hu,getObj,Sem.run,hb] at h)
 obtain ⟨es,hm⟩:=hm;cases hf:sfind u es 0 with
 | none=>
  exfalso;have hk:∀ x w1,(Instr.findKey kt (.string u) es).run P w≠ .ok x w1:=by
   intro x w1 e;have:=k_C hkt e;subst this;have:=(c_Q (P:=P) hkt u es).1 x e;rw [hf] at this;cases this
  have hm1:=hm w (fun _ _=>rfl);cases r with
  | none=>
   simp only [k_6] at hm1;subst hm1;simp [sfind] at hf
  | some b=>
   obtain ⟨ents,cl,hb,rfl⟩:=hm1;have hg:(getObj b).run P w=.ok (.map ents cl) w:=by simp [getObj,Sem.run,hb]
   simp only [Instr.lookup,Sem.run_bind,a_l hu,Result.andThen_ok,hg,Sem.run_pure,b_s hkt] at h;cases hx:(Instr.findKey kt (.string u) ents.toList).run P w with
   | ok x w1=>exact hk x w1 hx
   | halt hh w1=>simp [hx] at h
 | some x=>
  have h1:=c_z (P:=P) (ok:=ok) hu hkt (hm w fun _ _=>rfl) hf;have h2:=c_z (P:=P) (ok:=ok) hu hkt (hm w' hs) hf;rw [h1] at h;rw [h2];cases x with
  | some y=>simp at h ⊢;exact h
  | none=>
   simp only at h ⊢;cases hz:(zeroValue e).run P w with
   | halt hh w1=>simp [hz] at h
   | ok z w1=>
    have:=h_o hz;subst this;simp only [hz,Result.andThen_ok] at h;simp only [h_p (w':=w') hz,Result.andThen_ok];simp at h ⊢;exact h
theorem m_k (hf:c_5 P E o=true)(h:vcOp P cfg o E L none w K)(he:EnvOk E L a)(hl:LocOk L w):Fl P L K w (execOp a.eval o) (b_r P o E L w):=by
 obtain ⟨dst,op,type,pos,after,guard⟩:=o;cases op
 case move x=>
  exact b_h (v:=a.eval x) (fun w' _=>by simp [execOp]) (b_D he x) h
 case pick c x y=>
  simp only [vcOp] at h;split at h
  ·rename_i hc;exact b_h (v:=a.eval x) (fun w' _=>by simp [execOp,asBool,a_d he hc,TV.den,Lf.den]) (b_D he x) h
  ·rename_i hc;exact b_h (v:=a.eval y) (fun w' _=>by simp [execOp,asBool,a_d he hc,TV.den,Lf.den]) (b_D he y) h
  ·rename_i z hc;split at h
   ·rename_i p q hx hy;refine b_h (v:=.bool (bif z then p else q)) (fun w' _=>?_) (by simp [SV.is,TV.den,Lf.den]) h;simp [execOp,asBool,a_d he hc,a_d he hx,a_d he hy,TV.den,Lf.den]
   ·exact h.elim
  ·exact h.elim
 case build t ps=>
  simp only [vcOp] at h;split at h
  ·rename_i fs zs ys hu hz hps;split at h
   ·rename_i places hpl;split at h
    ·rename_i cs hcs;obtain ⟨h1,h⟩:=h;obtain ⟨it,v,hi,hv,hvc⟩:=f_d hz;have hb:P.built t (ps.map fun p=>(p.1,a.eval p.2)).toList=some (dens cs).toArray:=by
      have hf:=f_G _ _ _ _ hcs h1;have hpe:=e_4 he _ _ hps;simp only [Array.toList_map,hpe,Program.built,hi,hu,hv,hpl,hvc];exact hf
     exact b_h (s:=.v (.agg cs)) (v:=.agg (dens cs).toArray) (fun w' _=>by
      have hr:=run_build (P:=P) w' t (ps.map fun p=>(p.1,a.eval p.2)) _ hb;simp only [execOp,Sem.run_bind,hr,Result.andThen_ok,Sem.run_pure]) rfl h
    ·exact h.elim
   ·exact h.elim
  ·rename_i len e zs ys hu hz hps;split at h
   ·rename_i ie hie;split at h
    ·rename_i cs hcs;obtain ⟨h1,h⟩:=h;obtain ⟨it,v,hi,hv,hvc⟩:=f_d hz;have hb:P.built t (ps.map fun p=>(p.1,a.eval p.2)).toList=some (dens cs).toArray:=by
      have hf:=f_G _ _ _ _ hcs h1;have hpe:=e_4 he _ _ hps;simp only [Array.toList_map,hpe,Program.built,hi,hu,hv,hie,hvc];exact hf
     exact b_h (s:=.v (.agg cs)) (v:=.agg (dens cs).toArray) (fun w' _=>by
      have hr:=run_build (P:=P) w' t (ps.map fun p=>(p.1,a.eval p.2)) _ hb;simp only [execOp,Sem.run_bind,hr,Result.andThen_ok,Sem.run_pure]) rfl h
    ·exact h.elim
   ·exact h.elim
  ·exact h.elim
 case nilCheck x=>
  simp only [vcOp] at h;split at h
  ·rename_i p hx;exact b_h (v:=.pointer (some p)) (fun w' _=>by simp [execOp,a_d he hx,TV.den,Lf.den]) (by simp [SV.is,TV.den,Lf.den]) h
  ·rename_i q hx;obtain ⟨p,rfl,h⟩:=h;exact b_h (v:=.pointer (some p)) (fun w' _=>by simp [execOp,a_d he hx,TV.den,Lf.den]) (by simp [SV.is,TV.den,Lf.den]) h
  ·rename_i i b off hx;have hv:=c_e he hx;exact b_h (s:=.loc i b off) (v:=.pointer (some ⟨b,off,none⟩)) (fun w' _=>by simp [execOp,hv.1]) ⟨rfl,hv.2⟩ h
  ·exact h.elim
 case makeInterface t x=>
  simp only [vcOp] at h;split at h
  ·exact h.elim
  ·rename_i d y hni hu hx;refine b_h (s:=.v (.l (.ifc (some (t,y.den))))) (v:=.iface t y.den) (fun w' _=>?_) rfl h;simp only [execOp,Instr.makeInterface,a_d he hx,Sem.run_bind,a_l hu,Result.andThen_ok];cases d<;>simp_all
  ·exact h.elim
 case makeFunc fn first captured=>
  cases fn
  case func f=>
   simp only [vcOp] at h;split at h
   ·rename_i ys hf hy;have e1:first=#[]:=by simpa using hf
    have e2:=c_d he _ _ hy;refine b_h (s:=.v (.l (.fn f (tdens ys)))) (v:=.func (.func f) #[] (tdens ys).toArray) (fun w' _=>?_) rfl h;have e3:captured.map a.eval=(tdens ys).toArray:=by rw [<- e2];simp [<- Array.toList_map]
    simp [execOp,Instr.makeFunc,e1,e3]
   ·exact h.elim
  all_goals exact h.elim
 case fieldAddr s x f=>
  simp only [vcOp] at h;split at h
  ·rename_i off size ft hf;split at h
   ·exact h.elim
   ·rename_i hz;have hz:size≠0:=fun e=>hz (by rw [e];rfl);unfold d_E at hf;split at hf
    ·rename_i fs hu;split at hf
     ·rename_i fd hfd;split at hf
      ·rename_i i hi;cases hf;split at h
       ·rename_i p hx;have ex:a.eval x=.pointer (some p):=a_d he hx;refine b_h (s:=.v (.l (.ptr (adj p fd.offset)))) (v:=.pointer (some (p.add fd.offset))) (fun w' _=>?_) (by simp [SV.is,TV.den,Lf.den,c_2]) h;simp [execOp,Instr.fieldAt,a_l hu,hfd,ex,Instr.sureAddr,fieldPlace,a_0 hi,hz]
       ·rename_i k b q hx;obtain ⟨ex,hlb⟩:=c_e he hx;refine b_h (s:=.loc k b (q+fd.offset)) (v:=.pointer (some ⟨b,q+fd.offset,none⟩)) (fun w' _=>?_) ⟨rfl,hlb⟩ h;simp [execOp,Instr.fieldAt,a_l hu,hfd,ex,Instr.sureAddr,fieldPlace,a_0 hi,hz,b_U]
       ·exact h.elim
      ·cases hf
     ·cases hf
    ·cases hf
  ·exact h.elim
 case field t x f=>
  simp only [vcOp] at h;split at h
  ·rename_i off size ft cs hf hx;split at h
   ·rename_i y hy;unfold d_E at hf;split at hf
    ·rename_i fs hu;split at hf
     ·rename_i fd hfd;split at hf
      ·rename_i i hi;cases hf;have ex:a.eval x=.agg (dens cs).toArray:=a_d he hx;refine b_h (s:=.v y) (v:=y.den) (fun w' _=>?_) rfl h;unfold g_u at hy;split at hy
       ·rename_i d i' hu' hi';have hp':(part fd.type (dens cs).toArray fd.offset).run P w'=.ok y.den w':=by
         simp only [part,Sem.run_bind,g_J hu',Result.andThen_ok];split at hy
         ·rename_i hagg;split at hy
          ·rename_i hle;cases hy;simp only [hagg,if_true,Sem.run_bind,a_0 hi',Result.andThen_ok,Sem.run_pure,TV.den,d_K];congr 2;apply Array.ext_getElem?;intro k;simp [List.getElem?_take,List.getElem?_drop,Array.getElem?_extract]
          ·cases hy
         ·rename_i hagg;obtain ⟨z,hz,rfl⟩:=Option.map_eq_some_iff.1 hy;have hagg:d_l P fd.type=false:=by simpa using hagg
          simp [hagg,f_D,hz,TV.den]
        simp [execOp,Instr.field,a_l hu,hfd,ex,asAgg,hp']
       ·cases hy
      ·cases hf
     ·cases hf
    ·cases hf
   ·exact h.elim
  ·exact h.elim
 case indexAddr t x i=>
  simp only [vcOp] at h;split at h
  ·rename_i e size by_ b l c k n hel hx hi;obtain ⟨p,rfl,hb,h⟩:=h;unfold elemP at hel;split at hel
   ·rename_i el hu;split at hel
    ·rename_i ti hti;cases hel;have ex:a.eval x=.slice (some p) l c:=a_d he hx;have ei:a.eval i=.int k n:=a_d he hi;refine b_h (s:=.v (.l (.ptr (p.add (n.toNat*ti.size))))) (v:=.pointer (some (p.add (n.toNat*ti.size)))) (fun w' _=>?_) rfl h;simp [execOp,Instr.indexAt,ex,ei,asIntOf,a_l hu,hb.1,hb.2,a_0 hti]
    ·cases hel
   ·cases hel
  ·exact h.elim
 case index t x i=>
  simp only [vcOp] at h;split at h
  ·rename_i u k n hu hx hi;obtain ⟨hb,h⟩:=h;have ex:a.eval x=.string u:=a_d he hx;have ei:a.eval i=.int k n:=a_d he hi;refine b_h (s:=.v (.l (.int .u8 (sget u n)))) (v:=.int .u8 (sget u n)) (fun w' _=>?_) rfl h;have hlt:n.toNat<u.size:=by omega
   simp [execOp,Instr.index,ex,ei,asIntOf,a_l hu,hb.1,sget,hlt]
  ·exact h.elim
 case extract x i=>
  simp only [vcOp] at h;split at h
  ·rename_i cs hx;have ex:a.eval x=.tuple (tdens cs).toArray:=by have:=b_D he x;rw [hx] at this;exact this
   split at h
   ·rename_i u hy;obtain ⟨y,hu,h⟩:=a_T h;refine b_h (s:=.v y) (v:=y.den) (fun w' _=>?_) rfl h;have e2:TV.den (.l (.val u))=y.den:=hu;simp [execOp,Instr.extract,ex,g_T,hy,e2]
   ·rename_i y hno hy;refine b_h (s:=.v y) (v:=y.den) (fun w' _=>?_) rfl h;simp [execOp,Instr.extract,ex,g_T,hy]
   ·exact h.elim
  ·exact h.elim
 case slice t x lo hi mx=>
  cases mx with
  | some _=>exact h.elim
  | none=>
   simp only [vcOp] at h;split at h
   ·rename_i l r hlo hhi;have eo:∀ (z:Option Operand) (q:Option (IntKind × Int)),optV E z=some q->z.map a.eval=q.map fun p=>.int p.1 p.2:=by
     intro z q hz;cases z with
     | none=>simp [optV] at hz;subst hz;rfl
     | some z=>
      simp only [optV] at hz;split at hz
      ·rename_i k n hk;cases hz;have:a.eval z=.int k n:=a_d he hk;simp [this]
      ·cases hz
    have el:=eo _ _ hlo;have er:=eo _ _ hhi;unfold k_H at h;split at h
    ·rename_i u hx;have ex:a.eval x=.string u:=a_d he hx;split at h
     ·rename_i hu;obtain ⟨hb,h⟩:=h;refine b_h (s:=.v (.l (.str (u.extract (loI l).toNat (hiI (u.size:Int) r).toNat)))) (fun w' _=>?_) rfl h;simp only [execOp,Instr.sliceAt,Sem.run_bind,a_l hu,Result.andThen_ok,Instr.slice,ex,el,er,Option.map_none,Option.isSome_none,Bool.false_eq_true,if_false,d_I hb];rfl
     ·exact h.elim
    ·rename_i b n c hx;have ex:a.eval x=.slice b n c:=a_d he hx;split at h
     ·rename_i e size by_ hel;obtain ⟨hb,h⟩:=h;unfold elemP at hel;split at hel
      ·rename_i el' hu;split at hel
       ·rename_i ti hti;cases hel;refine b_h (s:=.v (.l (.slice (if c=(loI l).toNat then b else b.map (·.add ((loI l).toNat*ti.size))) ((hiI (n:Int) r).toNat-(loI l).toNat) (c-(loI l).toNat)))) (fun w' _=>?_) rfl h;simp only [execOp,Instr.sliceAt,Sem.run_bind,a_l hu,Result.andThen_ok,Instr.slice,ex,el,er,Option.map_none,a_0 hti,d_I hb];rfl
       ·cases hel
      ·cases hel
     ·exact h.elim
    ·exact h.elim
   ·exact h.elim
 case typeAssert x t u ok=>
  simp only [vcOp,i_V] at h;split at h
  ·rename_i ov hx;have ex:a.eval x=ifcV ov:=a_d he hx;split at h
   ·exact h.elim
   ·rename_i d hni hu;have hni':∀ ms,d≠ .interface ms:=fun ms e=>hni ms e;cases ok with
    | true=>
     simp only [if_true] at h;obtain ⟨h1,h2⟩:=h;by_cases hh:∃ y,ov=some (u,y)
     ·obtain ⟨y,rfl⟩:=hh;obtain ⟨z,rfl,hk⟩:=a_T (h1 y rfl);refine b_h (s:=.tup [z,.l (.b true)]) (v:=.tuple #[z.den,.bool true]) (fun w' _=>?_) (by simp [SV.is,tdens,TV.den,Lf.den]) hk;simp [execOp,ex,c_b hu hni',a_4]
     ·have h2:=h2 (fun y e=>hh ⟨y,e⟩);split at h2
      ·rename_i z hz;refine b_h (s:=.tup [z,.l (.b false)]) (v:=.tuple #[z.den,.bool false]) (fun w' _=>?_) (by simp [SV.is,tdens,TV.den,Lf.den]) h2;simp only [execOp,ex,Sem.run_bind,c_b hu hni'];cases ov with
       | none=>simp [a_4,e_N hz]
       | some y=>
        obtain ⟨tt,y⟩:=y;have hne:tt≠u:=fun e=>hh ⟨y,by rw [e]⟩;simp [a_4,hne,e_N hz]
      ·exact h2.elim
    | false=>
     simp only [Bool.false_eq_true,if_false] at h;obtain ⟨z,ez,hk⟩:=a_T h;refine b_h (s:=.v z) (v:=z.den) (fun w' _=>?_) rfl hk;simp [execOp,ex,c_b hu hni',ez,a_4]
   ·exact h.elim
  ·exact h.elim
 case unOp uop t x=>
  cases uop
  case not=>
   simp only [vcOp] at h;split at h
   ·rename_i z hx;exact b_h (s:=.v (.l (.b (!z)))) (v:=.bool (!z)) (fun w' _=>by simp [execOp,Op.unary,a_d he hx,TV.den,Lf.den]) rfl h
   ·rename_i z hx;exact b_h (s:=.v (.l (.bool (!z)))) (v:=.bool (!z)) (fun w' _=>by simp [execOp,Op.unary,a_d he hx,TV.den,Lf.den]) rfl h
   ·exact h.elim
  case neg=>
   simp only [vcOp] at h;split at h
   ·rename_i k z hx;exact b_h (s:=.v (.l (.int k (k.wrap ((0:Int)-z))))) (v:=.int k (k.wrap ((0:Int)-z))) (fun w' _=>by simp [execOp,Op.unary,Op.intArith,a_d he hx,TV.den,Lf.den]) rfl h
   ·exact h.elim
  all_goals exact h.elim
 case load t x=>
  simp only [vcOp] at h;split at h
  ·rename_i p hx;obtain ⟨y,h,hr⟩:=j_r h;refine b_h (s:=.v y) (v:=y.den) (fun w' hs=>?_) rfl h;simp only [b_r,hx] at hs;simp [execOp,Instr.loadAt,Instr.sureAddr,a_d he hx,TV.den,Lf.den,hr w' hs]
  ·rename_i i b off hx;split at h
   ·rename_i lb hlb;split at h
    ·rename_i y hy;obtain ⟨hv,lb',h1,rfl⟩:=c_e he hx;rw [hlb] at h1;cases h1;refine b_h (s:=.v y) (v:=y.den) (fun w' hs=>?_) rfl h;simp only [b_r,hx] at hs;have hb:=(hs lb hlb).trans (hl.at_ _ _ hlb);simp [execOp,Instr.loadAt,Instr.sureAddr,hv,k_o hy hb]
    ·exact h.elim
   ·exact h.elim
  ·exact h.elim
 case lookup t m k ok=>
  have hf':c_5 P E ⟨dst,.lookup t m k ok,type,pos,after,guard⟩=true:=hf;simp only [c_5] at hf';split at hf'
  ·rename_i kt et u hu hk;split at hf'
   ·rename_i hkt;simp only [vcOp] at h;split at h
    ·rename_i kt' e r y hu' hm hk';rw [hu] at hu';cases hu';rw [hk] at hk';cases hk';have em:a.eval m=.map r:=a_d he hm;have ek:a.eval k=.string u:=a_d he hk;split at h
     ·rename_i hok;subst hok;obtain ⟨x,z,h1,h⟩:=a_T h;refine b_h (s:=.tup [x,.l (.bool z)]) (v:=.tuple #[x.den,.bool z]) (fun w' hs=>?_) (by simp [SV.is,tdens,TV.den,Lf.den]) h;simp only [b_r,hm] at hs;have:=g_o hu hkt hs h1;simp [execOp,em,ek,this]
     ·rename_i hok;have hok:ok=false:=by simpa using hok
      subst hok;obtain ⟨x,h1,h⟩:=a_T h;refine b_h (s:=.v x) (v:=x.den) (fun w' hs=>?_) rfl h;simp only [b_r,hm] at hs;have:=g_o hu hkt hs h1;simp [execOp,em,ek,this]
    ·exact h.elim
   ·cases hf'
  ·cases hf'
 case convert s d x=>
  simp only [vcOp] at h;split at h
  ·rename_i p hp';unfold l_n at hp';split at hp'
   ·rename_i k0 k ik n hs hd hx;cases hp';exact b_h (s:=.v (.l (.int k (k.wrap n)))) (v:=.int k (k.wrap n)) (fun w' _=>by simp [execOp,Go.convert,a_l hs,a_l hd,a_d he hx,TV.den,Lf.den,Conv.intToInt]) rfl h
   ·rename_i u hs hd hx;cases hp';exact b_h (s:=.v (.l (.str u))) (v:=.string u) (fun w' _=>by simp [execOp,Go.convert,a_l hs,a_l hd,a_d he hx,TV.den,Lf.den]) rfl h
   ·cases hp'
  ·rename_i hn;exfalso;unfold l_n at hn;simp only [c_5] at hf;split at hf
   ·rename_i h1 h2 h3;simp [h1,h2,h3] at hn
   ·rename_i h1 h2 h3;simp [h1,h2,h3] at hn
   ·cases hf
 case binOp bop t x y yt=>
  simp only [c_5] at hf;split at hf
  ·rename_i p q hx hy;have ex:a.eval x=p.den:=a_d he hx;have ey:a.eval y=q.den:=a_d he hy;obtain ⟨r,hr⟩:=Option.isSome_iff_exists.1 hf;simp only [vcOp,hx,hy,hr] at h;cases hc:tyOk P t p q&&(!(needC p q)||isC x||isC y) with
   | false=>rw [hc] at h;exact h.elim
   | true=>
    rw [hc] at h;simp only [Bool.and_eq_true] at hc;exact b_h (s:=.v (.l r)) (v:=r.den) (fun w' _=>by simp [execOp,ex,ey,h_E (P:=P) (w:=w') (t:=t) hr hc.2,k_P (P:=P) (w:=w') hr hc.1]) rfl h
  ·cases hf
 case call c=>
  obtain ⟨callee,args,argTypes⟩:=c;cases callee with
  | value f=>simp [c_5] at hf
  | invoke r m=>simp [c_5] at hf
  | builtin b=>
   cases b
   case len=>
    simp only [c_5] at hf;simp only [vcOp] at h;split at h
    ·rename_i x t hx ht;have e1:args=#[x]:=by rw [<- Array.toList_inj];simpa using hx
     have e2:argTypes=#[t]:=by rw [<- Array.toList_inj];simpa using ht
     subst e1 e2;split at h
     ·rename_i s hu hs;exact b_h (s:=.v (.l (.int .i64 (s.size:Int)))) (v:=.int .i64 (s.size:Int)) (fun w' _=>by simp [execOp,resolve,invoke,Go.builtin,Builtin.len_,a_l hu,a_d he hs,TV.den,Lf.den,goInt]) rfl h
     ·rename_i el q n c hu hs;exact b_h (s:=.v (.l (.int .i64 (n:Int)))) (v:=.int .i64 (n:Int)) (fun w' _=>by simp [execOp,resolve,invoke,Go.builtin,Builtin.len_,a_l hu,a_d he hs,TV.den,Lf.den,goInt]) rfl h
     ·rename_i kt e r hu hs;simp [m_o,hs] at hf
     ·exact h.elim
    ·exact h.elim
   all_goals simp [c_5] at hf
 all_goals (simp [c_5] at hf)
end
section
variable {P:Program} {cfg:Cfg} {D:List Deferred} {ops:Array Oper} {E:Nat->SV} {L:List LB} {w:World} {a:Act}
def e_g (L:List LB)(tk:List (Nat × Chk))(T:Tks):Prop:=
 ∀ x∈T,(∀ w,x.2 w w)/\((∀ w w',x.2 w w')∨
  (∃ b n,(x.1,Chk.cells b n)∈tk/\∀ w w',sameN b w w' n->x.2 w w')∨
  (∃ r,(x.1,Chk.obj r)∈tk/\∀ w w',(∀ b,r=some b->w'.heap[b]? =w.heap[b]?)->x.2 w w')∨
  (∃ i lb,(x.1,Chk.loc i lb.ver)∈tk/\getLB L i=some lb/\∀ w w',w.heap[lb.b]? =some (.cells (dens lb.cs).toArray lb.t (0,0))->w'.heap[lb.b]? =some (.cells (dens lb.cs).toArray lb.t (0,0))->x.2 w w'))
theorem j_Q {p:Addr}{w w':World}:∀ {n:Nat},sameN p w w' n->∀ k,k<n->w'.cell? (p.add k)=w.cell? (p.add k)
 | 0,_,k,hk=>by omega
 | 1,h,k,hk=>by
  have:k=0:=by omega
  subst this;have h0:p.add 0=p:=by simp [Addr.add]
  rw [h0];exact h
 | n+2,h,k,hk=>by
  obtain ⟨h1,h2⟩:=h;by_cases hkn:k=n+1
  ·subst hkn;rw [<- c_2];exact h1
  ·exact j_Q h2 k (by omega)
theorem d_B {j:Nat}{w w':World}{L':List LB}:∀ {tk:List (Nat × Chk)},chks ops j w w' L' tk->∀ x∈tk,anc ops x.1 40 j=false->x.2.holds w w' L'
 | [],_,x,hx,_=>by cases hx
 | (i,c)::l,h,x,hx,ha=>by
  simp only [chks] at h;rcases List.mem_cons.1 hx with rfl|hx
  ·simp only [ha,cond_false] at h;exact h.1
  ·cases hb:anc ops i 40 j with
   | true=>simp only [hb,cond_true] at h;exact d_B h x hx ha
   | false=>simp only [hb,cond_false] at h;exact d_B h.2 x hx ha
theorem d_h {j:Nat}:∀ {tk:List (Nat × Chk)} (x:Nat × Chk),x∈tk->anc ops x.1 40 j=false->x∈dropK ops j tk
 | [],x,hx,_=>by cases hx
 | (i,c)::l,x,hx,ha=>by
  simp only [dropK];rcases List.mem_cons.1 hx with rfl|hx
  ·simp [ha]
  ·cases anc ops i 40 j with
   | true=>exact d_h x hx ha
   | false=>exact List.mem_cons_of_mem _ (d_h x hx ha)
theorem e_g.step {tk:List (Nat × Chk)}{T:Tks}{j:Nat}{L':List LB}{w w':World}(h:e_g L tk T)(hc:chks ops j w w' L' tk)(hl:LocOk L w)(hl':LocOk L' w')(hx:LExt L L'):
  (∀ x∈T,anc ops x.1 40 j=false->x.2 w w')/\e_g L' (dropK ops j tk) (dropT ops j T):=by
 constructor
 ·intro x hxT ha;obtain ⟨_,h1⟩:=h x hxT;rcases h1 with h1|⟨b,n,hm,h1⟩|⟨r,hm,h1⟩|⟨i,lb,hm,hlb,h1⟩
  ·exact h1 w w'
  ·exact h1 w w' (d_B hc _ hm ha)
  ·exact h1 w w' (d_B hc _ hm ha)
  ·have:=d_B hc _ hm ha;simp only [Chk.holds] at this;obtain ⟨lb',e1,e2,e3,_,_,e4⟩:=hx i lb hlb;rw [e1] at this;have ecs:=e4 this;refine h1 w w' (hl.at_ _ _ hlb) ?_;have:=hl'.at_ _ _ e1;rw [e2,e3,ecs] at this;exact this
 ·intro x hxT;simp only [dropT,List.mem_filter,Bool.not_eq_true'] at hxT;obtain ⟨hxT,ha⟩:=hxT;obtain ⟨h0,h1⟩:=h x hxT;refine ⟨h0,?_⟩;rcases h1 with h1|⟨b,n,hm,h1⟩|⟨r,hm,h1⟩|⟨i,lb,hm,hlb,h1⟩
  ·exact .inl h1
  ·exact .inr (.inl ⟨b,n,d_h _ hm ha,h1⟩)
  ·exact .inr (.inr (.inl ⟨r,d_h _ hm ha,h1⟩))
  ·have:=d_B hc _ hm ha;simp only [Chk.holds] at this;obtain ⟨lb',e1,e2,e3,_,_,e4⟩:=hx i lb hlb;rw [e1] at this;have ecs:=e4 this;refine .inr (.inr (.inr ⟨i,lb',?_,e1,?_⟩))
   ·have hv:lb'.ver=lb.ver:=this;rw [hv];exact d_h _ hm ha
   ·intro w w' q1 q2;rw [e2,e3,ecs] at q1 q2;exact h1 w w' q1 q2
theorem e_g.mono {tk tk':List (Nat × Chk)}{T:Tks}(h:e_g L tk T)(hs:∀ x∈tk,x∈tk'):e_g L tk' T:=by
 intro x hx;obtain ⟨h0,h1⟩:=h x hx;refine ⟨h0,?_⟩;rcases h1 with h1|⟨b,n,hm,h1⟩|⟨r,hm,h1⟩|⟨i,lb,hm,hlb,h1⟩
 ·exact .inl h1
 ·exact .inr (.inl ⟨b,n,hs _ hm,h1⟩)
 ·exact .inr (.inr (.inl ⟨r,hs _ hm,h1⟩))
 ·exact .inr (.inr (.inr ⟨i,lb,hs _ hm,hlb,h1⟩))
def cnt (ops:Array Oper)(listed:Array Bool):Nat:=((List.range ops.size).filter fun i=> !listed.getD i true).length
theorem i_j {listed:Array Bool}{i:Nat}(hi:i∈Region.ready .any ops listed):cnt ops (listed.setIfInBounds i true)<cnt ops listed:=by
 obtain ⟨h0,o,ho,_⟩:=mem_ready.1 hi;have hlt:i<ops.size:=(Array.getElem?_eq_some_iff.1 ho).1;unfold cnt;have hsub:∀ (l:List Nat),l.Nodup->((l.filter fun k=> !(listed.setIfInBounds i true).getD k true).length<=(l.filter fun k=> !listed.getD k true).length)/\
   (i∈l->(l.filter fun k=> !(listed.setIfInBounds i true).getD k true).length<(l.filter fun k=> !listed.getD k true).length):=by
  intro l;induction l with
  | nil=>intro _;simp
  | cons k l ih=>
   intro hn;obtain ⟨ih1,ih2⟩:=ih (List.nodup_cons.1 hn).2;by_cases hk:i=k
   ·subst hk;have h1:(listed.setIfInBounds i true).getD i true=true:=by
     simp [Array.getElem?_setIfInBounds];split<;>rfl
    have hni:i∉l:=(List.nodup_cons.1 hn).1;simp only [List.filter_cons,h1,h0,Bool.not_true,Bool.false_eq_true,if_false,Bool.not_false,if_true,List.length_cons];exact ⟨by omega,fun _=>by omega⟩
   ·have h1:(listed.setIfInBounds i true).getD k true=listed.getD k true:=getD_set_ne true hk;simp only [List.filter_cons,h1];split
    ·simp only [List.length_cons];exact ⟨by omega,fun hm=>by
      rcases List.mem_cons.1 hm with e|hm
      ·exact (hk e).elim
      ·have:=ih2 hm;omega⟩
    ·exact ⟨ih1,fun hm=>by
      rcases List.mem_cons.1 hm with e|hm
      ·exact (hk e).elim
      ·exact ih2 hm⟩
 exact (hsub (List.range ops.size) List.nodup_range).2 (List.mem_range.2 hlt)
theorem k_e {listed:Array Bool}{i:Nat}(hi:i∈Region.ready .any ops listed):0<cnt ops listed:=Nat.lt_of_le_of_lt (Nat.zero_le _) (i_j hi)
theorem j_n (he:EnvOk E L a):∀ {l:List Nat} {t:Nat} {x:Bool},g_g ops E l=some (t,x)->E t=.v (.l (.bool x))
 | [],_,_,h=>by simp [g_g] at h
 | i::l,t,x,h=>by
  simp only [g_g] at h;split at h
  ·rename_i o ho;have hg:=m_l (ops:=ops) (o:=o) he;split at h
   ·rename_i t' x' want hgd;rw [hgd] at hg;cases h;exact hg.1
   ·exact j_n he h
  ·cases h
theorem d_9 {listed:Array Bool}:∀ {l:List Nat} {j:Nat},h_K ops E listed l=some j->j∈l/\Region.free .any ops listed j=true/\∃ o,ops[j]? =some o/\gd ops E o=.no
 | [],_,h=>by simp [h_K] at h
 | i::l,j,h=>by
  simp only [h_K] at h;split at h
  ·rename_i o ho;split at h
   ·rename_i hgd;split at h
    ·rename_i hf;cases h;exact ⟨List.mem_cons_self ..,hf,o,ho,hgd⟩
    ·obtain ⟨h1,h2⟩:=d_9 h;exact ⟨List.mem_cons_of_mem _ h1,h2⟩
   ·obtain ⟨h1,h2⟩:=d_9 h;exact ⟨List.mem_cons_of_mem _ h1,h2⟩
  ·cases h
theorem e_y {listed:Array Bool}:∀ {l:List Nat} {j:Nat},e_x P E ops listed l=some j->j∈l/\Region.free .any ops listed j=true/\∃ o,ops[j]? =some o/\c_5 P E o=true
 | [],_,h=>by simp [e_x] at h
 | i::l,j,h=>by
  simp only [e_x] at h;split at h
  ·rename_i o ho;split at h
   ·rename_i hf;simp only [Bool.and_eq_true] at hf;cases h;exact ⟨List.mem_cons_self ..,hf.2,o,ho,hf.1⟩
   ·obtain ⟨h1,h2⟩:=e_y h;exact ⟨List.mem_cons_of_mem _ h1,h2⟩
  ·cases h
def k_k (P:Program)(o:Oper)(E:Nat->SV)(L:List LB):World->World->Prop:=fun w w'=>b_r P o E L w w'
theorem f_p (o:Oper):b_r P o E L w w:=by
 unfold b_r;split
 ·split
  ·intros;rfl
  ·intros;rfl
  ·trivial
 ·split
  ·intros;rfl
  ·trivial
 ·trivial
theorem i_O {o:Oper}{w1 w2 w3:World}(h:b_r P o E L w1 w2)(k:b_r P o E L w2 w3):b_r P o E L w1 w3:=by
 obtain ⟨dst,op,type,pos,after,guard⟩:=o;cases op<;>try trivial
 case load t x=>
  simp only [b_r] at h k ⊢;split
  ·rename_i p hp;simp only [hp] at h k;intro i hi q hq;exact (k i hi q hq).trans (h i hi q hq)
  ·rename_i i b off hp;simp only [hp] at h k;intro lb hlb;exact (k lb hlb).trans (h lb hlb)
  ·trivial
 case lookup t m kk ok=>
  simp only [b_r] at h k ⊢;split
  ·rename_i r hp;simp only [hp] at h k;intro b hb;exact (k b hb).trans (h b hb)
  ·trivial
theorem k_l {tk:List (Nat × Chk)}{T:Tks}{o:Oper}{j:Nat}(h:e_g L tk T)(hl:∀ i lb,getLB L i=some lb->True):e_g L (chkOf P o E L j++tk) ((j,k_k P o E L)::T):=by
 have h':=h.mono (tk':=chkOf P o E L j++tk) fun x hx=>List.mem_append_right _ hx;intro x hx;rcases List.mem_cons.1 hx with rfl|hx
 ·refine ⟨fun w=>f_p o,?_⟩;simp only [k_k,b_r,chkOf];cases hop:o.op<;>simp only [hop]
  all_goals first
   | (exact .inl fun _ _=>trivial)
   | skip
  case load t x=>
   cases hx:evalO E x with
   | v y=>
    cases y with
    | l y=>
     cases y with
     | ptr p=>
      cases hi:P.info? t with
      | none=>exact .inl fun w w' i hi'=>by cases hi'
      | some ti=>
       refine .inr (.inl ⟨p,ti.size,by simp,fun w w' hs i hi' k hk=>?_⟩);cases hi';exact j_Q hs k hk
     | _=>exact .inl fun _ _=>trivial
    | agg cs=>exact .inl fun _ _=>trivial
   | tup cs=>exact .inl fun _ _=>trivial
   | loc i b off=>
    cases hlb:getLB L i with
    | none=>exact .inl fun w w' lb h=>by rw [hlb] at h;cases h
    | some lb=>
     refine .inr (.inr (.inr ⟨i,lb,by simp [hlb],hlb,fun w w' q1 q2 lb' h=>?_⟩));rw [hlb] at h;cases h;rw [q1,q2]
   | undef=>exact .inl fun _ _=>trivial
   | junk=>exact .inl fun _ _=>trivial
  case lookup t m k ok=>
   cases hm:evalO E m with
   | v y=>
    cases y with
    | l y=>
     cases y with
     | map r=>exact .inr (.inr (.inl ⟨r,by simp,fun w w' hs=>hs⟩))
     | _=>exact .inl fun _ _=>trivial
    | agg cs=>exact .inl fun _ _=>trivial
   | tup cs=>exact .inl fun _ _=>trivial
   | loc i b off=>exact .inl fun _ _=>trivial
   | undef=>exact .inl fun _ _=>trivial
   | junk=>exact .inl fun _ _=>trivial
 ·exact h' x hx
theorem j_W (hns:Region.noSelect ops=true)(ms:List Nat)(L0:List LB)(a0:Act)(Q:(Nat->SV)->List LB->World->Prop)(hm:∀ (o:Oper),o∈ops.toList->∀ d,o.dst=some d->inN d ms=true):
  ∀ (n:Nat) (listed:Array Bool) (tk:List (Nat × Chk)) (T:Tks) (E:Nat->SV) (L:List LB) (w:World) (a:Act) (m:Nat),
  d_V P cfg ops n listed tk Q E L w->Agr D cfg.N E L a w->LExt L0 L->(∀ t,inN t ms=false->a.eval (.tmp t)=a0.eval (.tmp t))->f_P ops listed->e_g L tk T->cnt ops listed<=m->
  d_W P ops (RegQ D cfg ms L0 a0 Q) m listed T a w:=by
 intro n;induction n with
 | zero=>intro listed tk T E L w a m h;exact h.elim
 | succ n ih=>
  intro listed tk T E L w a m h ha hx hf hcl hT hm';have hfr:∀ (o:Oper),o∈ops.toList->∀ v t,inN t ms=false->(a.put o.dst v).eval (.tmp t)=a0.eval (.tmp t):=fun o ho v t ht=>by
   rw [g_f (fun k hk hkt=>by rw [hkt] at hk;rw [hm o ho t hk] at ht;cases ht)];exact hf t ht
  have hmem:∀ {j:Nat} {o:Oper},ops[j]? =some o->o∈ops.toList:=fun h=>Array.mem_toList_iff.2 (Array.mem_of_getElem? h);simp only [d_V] at h;split at h
  ·rename_i hr;cases m with
   | zero=>exact ⟨hr,rfl,E,L,h,ha,hx,hf⟩
   | succ m=>exact ⟨fun _=>⟨rfl,E,L,h,ha,hx,hf⟩,fun i hi=>by rw [hr] at hi;cases hi⟩
  ·rename_i i rs hr;split at h
   ·rename_i t x hask;have ht:=j_n ha.env hask;cases x with
    | true=>exact ih listed tk T _ L w a m (h.1 rfl) ⟨ha.size,ha.defers,d_G ha.env ht,ha.loc⟩ hx hf hcl hT hm'
    | false=>exact ih listed tk T _ L w a m (h.2 rfl) ⟨ha.size,ha.defers,d_G ha.env ht,ha.loc⟩ hx hf hcl hT hm'
   ·split at h
    ·rename_i j hno;obtain ⟨hj,hfree,o,ho,hgd⟩:=d_9 hno;rw [<- hr] at hj;simp only [ho] at h;have hg:=m_l (ops:=ops) (o:=o) ha.env;rw [hgd] at hg;have hpos:=k_e hj;have hdec:=i_j hj;obtain ⟨m,rfl⟩:∃ k,m=k+1:=⟨m-1,by omega⟩;refine g_V (S:=fun _=>True) (c:=fun _ _=>True) (v:=undef) ho hns hcl (fun x hxT=>(hT x hxT).1) hfree hj (fun c a w h=>by cases h.1) (fun _ _ _ _=>trivial) (.inr ⟨hg,rfl⟩) trivial ?_;refine ih _ tk _ _ L w _ m h (ha.put (s:=.undef) (v:=undef) rfl ha.loc (LExt.refl L) o.dst) hx (hfr o (hmem ho) undef) (c_G hcl hj) ?_ (by omega);intro x hxT;rcases List.mem_cons.1 hxT with rfl|hxT
     ·exact ⟨fun _=>trivial,.inl fun _ _=>trivial⟩
     ·exact hT x hxT
    ·split at h
     ·rename_i j htk;obtain ⟨hj,hfree,o,ho,hfl⟩:=e_y htk;rw [<- hr] at hj;simp only [ho] at h;have hg:=m_l (ops:=ops) (o:=o) ha.env;split at h<;>rename_i hgd
      ·rw [hgd] at hg;obtain ⟨s,v,hs,hk,hrun⟩:=m_k hfl h ha.env ha.loc;have hpos:=k_e hj;have hdec:=i_j hj;obtain ⟨m,rfl⟩:∃ k,m=k+1:=⟨m-1,by omega⟩;have hk':d_V P cfg ops n (listed.setIfInBounds j true) (chkOf P o E L j++tk) Q (putE cfg.N E o.dst s) L w:=by
        cases s<;>first|exact hk|exact hk.elim
       refine g_V (S:=fun w'=>b_r P o E L w w') (c:=k_k P o E L) (v:=v) ho hns hcl (fun x hxT=>(hT x hxT).1) hfree hj (fun c a w h=>by cases h.1) (fun w1 w2 hc hS=>i_O hS hc) (.inl ⟨hg,hrun⟩) (f_p o) ?_;exact ih _ _ _ _ L w _ m hk' (ha.put hs ha.loc (LExt.refl L) o.dst) hx (hfr o (hmem ho) v) (c_G hcl hj) (k_l hT fun _ _ _=>trivial) (by omega)
      ·exact h.elim
     ·have hi0:i∈Region.ready .any ops listed:=by rw [hr];exact List.mem_cons_self ..
      have hpos0:=k_e hi0;obtain ⟨m,rfl⟩:∃ k,m=k+1:=⟨m-1,by omega⟩;refine ⟨fun e=>(by rw [hr] at e;cases e),fun j hj=>?_⟩;have h:=k_N h j (hr▸hj);have hi:=hj;have hdec:=i_j hi;split at h
      ·rename_i o ho;have hg:=m_l (ops:=ops) (o:=o) ha.env;split at h<;>rename_i hgd
       ·rw [hgd] at hg;unfold wpOp;simp only [ho,hg,if_true];refine .inl (OpOk.wp (OpOk.mono (h_5 h ha.env ha.loc (PreOk.none _ _)) ?_));rintro v w' ⟨s,L',pre',hs,⟨hc,hk⟩,hl',_,hx'⟩;have hst:=hT.step hc ha.loc hl' hx';exact ⟨hst.1,ih _ _ _ _ L' w' _ m hk (ha.put hs hl' hx' o.dst) (hx.trans hx') (hfr o (hmem ho) v) (c_G hcl hi) hst.2 (by omega)⟩
       ·rw [hgd] at hg;unfold wpOp;simp only [ho,hg,Bool.false_eq_true,if_false];refine ⟨fun x hxT _=>(hT x hxT).1 w,?_⟩;refine ih _ tk _ _ L w _ m h (ha.put (s:=.undef) (v:=undef) rfl ha.loc (LExt.refl L) o.dst) hx (hfr o (hmem ho) undef) (c_G hcl hi) ?_ (by omega);intro x hxT;exact hT x (List.mem_filter.1 hxT).1
       ·exact h.elim
      ·exact h.elim
end
def h_C:Sh->Lf->Prop
 | .bool,.bool _=>True
 | .int k,.int k' _=>k=k'
 | .str,.str _=>True
 | .ptr,.optr _=>True
 | .slice,.slice _ _ _=>True
 | .map,.map _=>True
 | .ifc,.ifc _=>True
 | .val,.val _=>True
 | _,_=>False
def canon:List Sh->List Lf->Prop
 | [],[]=>True
 | s::l,x::xs=>h_C s x/\canon l xs
 | _,_=>False
theorem l_r {s:Sh}{K:Lf->Prop}(h:∀ x,h_C s x->K x):all1 s K:=by
 cases s<;>simp only [all1]<;>intros<;>exact h _ (by simp [h_C])
theorem h_t:∀ {l:List Sh} {K:List Lf->Prop},(∀ xs,canon l xs->K xs)->allL l K
 | [],_,h=>h [] trivial
 | s::l,K,h=>l_r fun x hx=>h_t fun xs hxs=>h (x::xs) ⟨hx,hxs⟩
theorem l_Z {s:Sh}{K:Lf->Prop}(h:all1 s K){x:Lf}(hx:h_C s x):K x:=by
 cases s<;>cases x<;>simp only [h_C] at hx<;>simp only [all1] at h
 case int.int=>subst hx;exact h _
 all_goals first|exact h _|exact h _ _ _
theorem i_1:∀ {l:List Sh} {K:List Lf->Prop},allL l K->∀ {xs},canon l xs->K xs
 | [],_,h,[],_=>h
 | [],_,_,_::_,hx=>hx.elim
 | _::_,_,_,[],hx=>hx.elim
 | s::l,K,h,x::xs,hx=>i_1 (l_Z h hx.1) hx.2
def mkFn:(l:List Sh)->(List Lf->World->Prop)->Fn l
 | [],F=>fun w=>F [] w
 | .bool::l,F=>fun x=>mkFn l fun xs w=>F (.bool x::xs) w
 | .int k::l,F=>fun n=>mkFn l fun xs w=>F (.int k n::xs) w
 | .str::l,F=>fun s=>mkFn l fun xs w=>F (.str s::xs) w
 | .ptr::l,F=>fun q=>mkFn l fun xs w=>F (.optr q::xs) w
 | .slice::l,F=>fun a n c=>mkFn l fun xs w=>F (.slice a n c::xs) w
 | .map::l,F=>fun r=>mkFn l fun xs w=>F (.map r::xs) w
 | .ifc::l,F=>fun o=>mkFn l fun xs w=>F (.ifc o::xs) w
 | .val::l,F=>fun v=>mkFn l fun xs w=>F (.val v::xs) w
theorem e_h:∀ (l:List Sh) (F:List Lf->World->Prop) (xs:List Lf) (w:World),canon l xs->(appL l (mkFn l F) xs w↔F xs w)
 | [],F,[],w,_=>Iff.rfl
 | [],_,_::_,_,h=>h.elim
 | _::_,_,[],_,h=>h.elim
 | s::l,F,x::xs,w,h=>by
  obtain ⟨h1,h2⟩:=h;cases s<;>cases x<;>simp only [h_C] at h1
  case int.int k k' n=>subst h1;simp only [appL,mkFn,if_true];exact e_h l _ xs w h2
  all_goals exact e_h l _ xs w h2
theorem a_N:∀ (l:List Sh) (F:Fn l) (xs:List Lf) (w:World),appL l F xs w->∃ ys,canon l ys/\dens ys=dens xs/\ys.length=xs.length/\appL l F ys w/\∀ G:FnN l,appN l G ys w=appN l G xs w
 | [],F,[],w,h=>⟨[],trivial,rfl,rfl,h,fun _=>rfl⟩
 | [],_,_::_,_,h=>by simp [appL] at h
 | s::l,F,[],w,h=>by cases s<;>simp [appL] at h
 | .bool::l,F,x::xs,w,h=>by
  cases x<;>simp only [appL] at h
  all_goals
   obtain ⟨ys,h1,h2,h3,h4,h5⟩:=a_N l _ xs w h;rename_i b;exact ⟨.bool b::ys,⟨trivial,h1⟩,by simp [dens,Lf.den,h2],by simp [h3],h4,fun G=>h5 _⟩
 | .int k::l,F,x::xs,w,h=>by
  cases x<;>simp only [appL] at h;rename_i k' n;split at h
  ·rename_i hk;subst hk;obtain ⟨ys,h1,h2,h3,h4,h5⟩:=a_N l _ xs w h;exact ⟨.int k n::ys,⟨rfl,h1⟩,by simp [dens,Lf.den,h2],by simp [h3],by simpa [appL] using h4,fun G=>h5 _⟩
  ·exact h.elim
 | .str::l,F,x::xs,w,h=>by
  cases x<;>simp only [appL] at h;obtain ⟨ys,h1,h2,h3,h4,h5⟩:=a_N l _ xs w h;rename_i b;exact ⟨.str b::ys,⟨trivial,h1⟩,by simp [dens,Lf.den,h2],by simp [h3],h4,fun G=>h5 _⟩
 | .ptr::l,F,x::xs,w,h=>by
  cases x<;>simp only [appL] at h
  ·obtain ⟨ys,h1,h2,h3,h4,h5⟩:=a_N l _ xs w h;exact ⟨.optr none::ys,⟨trivial,h1⟩,by simp [dens,Lf.den,h2],by simp [h3],h4,fun G=>h5 _⟩
  ·obtain ⟨ys,h1,h2,h3,h4,h5⟩:=a_N l _ xs w h;rename_i b;exact ⟨.optr (some b)::ys,⟨trivial,h1⟩,by simp [dens,Lf.den,h2],by simp [h3],h4,fun G=>h5 _⟩
  ·obtain ⟨ys,h1,h2,h3,h4,h5⟩:=a_N l _ xs w h;rename_i b;exact ⟨.optr b::ys,⟨trivial,h1⟩,by simp [dens,Lf.den,h2],by simp [h3],h4,fun G=>h5 _⟩
 | .slice::l,F,x::xs,w,h=>by
  cases x<;>simp only [appL] at h;obtain ⟨ys,h1,h2,h3,h4,h5⟩:=a_N l _ xs w h;rename_i b n c;exact ⟨.slice b n c::ys,⟨trivial,h1⟩,by simp [dens,Lf.den,h2],by simp [h3],h4,fun G=>h5 _⟩
 | .map::l,F,x::xs,w,h=>by
  cases x<;>simp only [appL] at h;obtain ⟨ys,h1,h2,h3,h4,h5⟩:=a_N l _ xs w h;rename_i b;exact ⟨.map b::ys,⟨trivial,h1⟩,by simp [dens,Lf.den,h2],by simp [h3],h4,fun G=>h5 _⟩
 | .ifc::l,F,x::xs,w,h=>by
  cases x<;>simp only [appL] at h
  ·obtain ⟨ys,h1,h2,h3,h4,h5⟩:=a_N l _ xs w h;exact ⟨.ifc none::ys,⟨trivial,h1⟩,by simp [dens,Lf.den,ifcV,h2],by simp [h3],h4,fun G=>h5 _⟩
  ·obtain ⟨ys,h1,h2,h3,h4,h5⟩:=a_N l _ xs w h;rename_i b;exact ⟨.ifc b::ys,⟨trivial,h1⟩,by simp [dens,Lf.den,h2],by simp [h3],h4,fun G=>h5 _⟩
 | .val::l,F,x::xs,w,h=>by
  have h:appL l (F x.den) xs w:=by cases x<;>exact h
  obtain ⟨ys,h1,h2,h3,h4,h5⟩:=a_N l _ xs w h;exact ⟨.val x.den::ys,⟨trivial,h1⟩,by simp [dens,Lf.den,h2],by simp [h3],h4,fun G=>by cases x<;>exact h5 _⟩
theorem m_m {E:Nat->SV}:∀ {vs:List (Nat × Sh)} {xs:List Lf},getE E vs=some xs->xs.length=vs.length/\∀ (ys:List Lf),ys.length=xs.length->dens ys=dens xs->∀ (E0:Nat->SV) (t:Nat),(∃ y,setE vs ys E0 t=.v (.l y)/\∃ x,E t=.v (.l x)/\y.den=x.den)∨(setE vs ys E0 t=E0 t)
 | [],xs,h=>by
  simp [getE] at h;subst h;exact ⟨rfl,fun ys hy _ E0 t=>.inr (by cases ys<;>rfl)⟩
 | (u,s)::vs,xs,h=>by
  simp only [getE] at h;split at h
  ·rename_i x xs' hx hxs;cases h;obtain ⟨h1,h2⟩:=m_m hxs;refine ⟨by simp [h1],fun ys hy hd E0 t=>?_⟩;cases ys with
   | nil=>simp at hy
   | cons y ys=>
    simp only [dens,List.cons.injEq] at hd;simp only [setE];by_cases ht:t=u
    ·subst ht;exact .inl ⟨y,by simp,x,hx,hd.1⟩
    ·simp only [e_i ht,cond_false];exact h2 ys (by simpa using hy) hd.2 E0 t
  ·cases h
theorem h_W {ls:List (Nat × List Sh)}{L':List LB}:∀ {L:List LB} {k:Nat},g_L ls L' k L=true->∀ i lb,getLB L i=some lb->isIn (k+i) ls=false->∃ lb',getLB L' (k+i)=some lb'/\lb'.ver=lb.ver
 | [],_,_,_,_,h,_=>by simp [getLB] at h
 | x::l,k,h,0,lb,hi,hn=>by
  simp only [getLB,Option.some.injEq] at hi;subst hi;simp only [g_L,Bool.and_eq_true,Bool.or_eq_true] at h;simp only [Nat.add_zero] at hn ⊢;rw [hn] at h;obtain ⟨h1,_⟩:=h;rcases h1 with h1|h1
  ·cases h1
  ·split at h1
   ·rename_i y hy;exact ⟨y,hy,Nat.eq_of_beq_eq_true h1⟩
   ·cases h1
 | x::l,k,h,i+1,lb,hi,hn=>by
  simp only [getLB] at hi;simp only [g_L,Bool.and_eq_true] at h;have:=h_W h.2 i lb hi (by rw [show Nat.succ k+i=k+(i+1) by omega];exact hn)
  rwa [show Nat.succ k+i=k+(i+1) by omega] at this
def LSh (L L':List LB):Prop:=∀ i lb,getLB L i=some lb->∃ lb',getLB L' i=some lb'/\lb'.b=lb.b/\lb'.t=lb.t/\lb'.cs.length=lb.cs.length
theorem LExt.sh {L L':List LB}(h:LExt L L'):LSh L L':=fun i lb hi=>by
 obtain ⟨lb',e1,e2,e3,e4,_⟩:=h i lb hi;exact ⟨lb',e1,e2,e3,e4⟩
theorem l_j {L':List LB}:∀ (ls:List (Nat × List Sh)) (xs ys:List Lf) (L:List LB),getLs L' ls=some xs->ys.length=xs.length->dens ys=dens xs->LSh L L'->
  LExt L (setLs ls ys L)/\(∀ i lb,getLB (setLs ls ys L) i=some lb->∃ lb0,getLB L i=some lb0/\lb.b=lb0.b/\lb.t=lb0.t/\(isIn i ls=false->lb=lb0)/\(isIn i ls=true->∃ lb',getLB L' i=some lb'/\dens lb.cs=dens lb'.cs))
 | [],xs,ys,L,_,_,_,_=>⟨LExt.refl L,fun i lb h=>⟨lb,h,rfl,rfl,fun _=>rfl,fun h=>by simp [isIn] at h⟩⟩
 | (k,ss)::r,xs,ys,L,h,hl,hd,hx=>by
  simp only [getLs] at h;split at h
  ·rename_i lk xs' hk hr;split at h
   ·rename_i hlen;have hlen:=Nat.eq_of_beq_eq_true hlen;cases h;simp only [List.length_append] at hl;have hd1:dens (ys.take ss.length)=dens lk.cs/\dens (ys.drop ss.length)=dens xs':=by
     have e:dens (ys.take ss.length)++dens (ys.drop ss.length)=dens lk.cs++dens xs':=by
      rw [<- b_N,List.take_append_drop,hd,b_N]
     exact List.append_inj e (by simp [a_r];omega)
    have hlt:(ys.take ss.length).length=lk.cs.length:=by simp;omega
    have hA:LExt L (setLB L k (ys.take ss.length)):=by
     intro i lb hi;obtain ⟨lb',e1,e2,e3,e4⟩:=hx i lb hi;by_cases hki:k=i
     ·subst hki;refine ⟨⟨lb.b,lb.t,ys.take ss.length,lb.ver+1⟩,by rw [a_7,if_pos rfl,hi];rfl,rfl,rfl,?_,by simp,fun e=>by simp at e⟩;rw [hk] at e1;cases e1;rw [hlt,e4]
     ·exact ⟨lb,by rw [a_7,if_neg hki];exact hi,rfl,rfl,rfl,Nat.le_refl _,fun _=>rfl⟩
    have hB:∀ i lb,getLB (setLB L k (ys.take ss.length)) i=some lb->∃ lb0,getLB L i=some lb0/\lb.b=lb0.b/\lb.t=lb0.t/\lb.cs.length=lb0.cs.length/\(k≠i->lb=lb0)/\(k=i->dens lb.cs=dens lk.cs):=by
     intro i lb hi;rw [a_7] at hi;split at hi
     ·rename_i hki;subst hki;obtain ⟨lb0,e0,rfl⟩:=Option.map_eq_some_iff.1 hi;obtain ⟨lb',e1,e2,e3,e4⟩:=hx k lb0 e0;rw [hk] at e1;cases e1;exact ⟨lb0,e0,rfl,rfl,by simp only;rw [hlt,e4],fun h=>(h rfl).elim,fun _=>hd1.1⟩
     ·rename_i hki;exact ⟨lb,hi,rfl,rfl,rfl,fun _=>rfl,fun h=>(hki h).elim⟩
    have hx1:LSh (setLB L k (ys.take ss.length)) L':=by
     intro i lb hi;obtain ⟨lb0,e0,e1,e2,e3,_,_⟩:=hB i lb hi;obtain ⟨lb',f1,f2,f3,f4⟩:=hx i lb0 e0;exact ⟨lb',f1,f2.trans e1.symm,f3.trans e2.symm,f4.trans e3.symm⟩
    obtain ⟨i1,i2⟩:=l_j r xs' (ys.drop ss.length) _ hr (by simp;omega) hd1.2 hx1;refine ⟨hA.trans i1,fun i lb hi=>?_⟩;obtain ⟨lb1,f1,f2,f3,f4,f5⟩:=i2 i lb hi;obtain ⟨lb0,e0,e1,e2,e3,e4,e5⟩:=hB i lb1 f1;refine ⟨lb0,e0,f2.trans e1,f3.trans e2,fun hn=>?_,fun hn=>?_⟩
    ·simp only [isIn,Bool.or_eq_false_iff] at hn;have hki:k≠i:=fun e=>by rw [e,e_j] at hn;simp at hn
     rw [f4 hn.2,e4 hki]
    ·by_cases hr':isIn i r=true
     ·exact f5 hr'
     ·have hr':isIn i r=false:=by simpa using hr'
      simp only [isIn,hr',Bool.or_false] at hn;have hki:=Nat.eq_of_beq_eq_true hn;subst hki;rw [f4 hr'];exact ⟨lk,hk,e5 rfl⟩
   ·cases h
  ·cases h
section
variable {P:Program} {cfg:Cfg} {D:List Deferred}
theorem i_t {j:Jn}{L0 L':List LB}{E0 E':Nat->SV}{ms:List Nat}{a0 a':Act}{w':World}{xs ys:List Lf}(hg:j.get L0 E' L'=some xs)(hl:ys.length=xs.length)(hd:dens ys=dens xs)
  (ha0:EnvOk E0 L0 a0) (ha:Agr D cfg.N E' L' a' w') (hx:LExt L0 L') (hf:∀ t,inN t ms=false->a'.eval (.tmp t)=a0.eval (.tmp t)):
  Agr D cfg.N (j.E ms ys E0) (j.L ys L0) a' w'/\LExt L0 (j.L ys L0):=by
 unfold Jn.get at hg;split at hg
 ·rename_i xv xl hv hls;split at hg
  ·rename_i hver;cases hg;obtain ⟨hvl,hve⟩:=m_m hv;simp only [List.length_append] at hl;have hsplit:dens (ys.take j.vs.length)=dens xv/\dens (ys.drop j.vs.length)=dens xl:=by
    have e:dens (ys.take j.vs.length)++dens (ys.drop j.vs.length)=dens xv++dens xl:=by
     rw [<- b_N,List.take_append_drop,hd,b_N]
    exact List.append_inj e (by simp [a_r];omega)
   obtain ⟨h1,h2⟩:=l_j j.ls xl (ys.drop j.vs.length) L0 hls (by simp;omega) hsplit.2 hx.sh;have hL:LExt L0 (j.L ys L0):=h1;refine ⟨⟨ha.size,ha.defers,fun t=>?_,?_⟩,hL⟩
   ·
    have hsame:∀ E1:Nat->SV,setE j.vs ys E1 t=setE j.vs (ys.take j.vs.length) E1 t:=by
     intro E1;have gen:∀ (vs:List (Nat × Sh)) (ys:List Lf),setE vs ys E1 t=setE vs (ys.take vs.length) E1 t:=by
      intro vs;induction vs with
      | nil=>intro ys;cases ys<;>rfl
      | cons v vs ih=>
       intro ys;obtain ⟨u,s⟩:=v;cases ys with
       | nil=>rfl
       | cons y ys=>simp only [List.length_cons,List.take_succ_cons,setE];rw [ih ys]
     exact gen j.vs ys
    show (setE j.vs ys (junkE ms E0) t).is (j.L ys L0) (a'.eval (.tmp t));rw [hsame];rcases hve (ys.take j.vs.length) (by simp;omega) hsplit.1 (junkE ms E0) t with ⟨y,hy,x,hxE,hyx⟩|he
    ·rw [hy];have:=ha.env t;rw [hxE] at this;show a'.eval (.tmp t)=(TV.l y).den;rw [this];exact hyx.symm
    ·rw [he];simp only [junkE];cases hin:inN t ms with
     | true=>trivial
     | false=>
      simp only [cond_false];rw [hf t hin];exact (ha0 t).ext hL
   ·refine ⟨fun i lb hi=>?_,fun i k x y hi hk hik=>?_⟩
    ·obtain ⟨lb0,e0,e1,e2,e3,e4⟩:=h2 i lb hi;obtain ⟨lb',f1,f2,f3,_,_,f5⟩:=hx i lb0 e0;have hb:=ha.loc.at_ i lb' f1;by_cases hin:isIn i j.ls=true
     ·obtain ⟨lb2,g1,g2⟩:=e4 hin;rw [f1] at g1;cases g1;rw [e1,e2,g2,<- f2,<- f3];exact hb
     ·have hin:isIn i j.ls=false:=by simpa using hin
      have:=h_W (k:=0) hver i lb0 e0 (by simpa using hin);simp only [Nat.zero_add] at this;obtain ⟨lb2,g1,g2⟩:=this;rw [f1] at g1;cases g1;rw [e3 hin,<- f2,<- f3,<- f5 g2];exact hb
    ·obtain ⟨x0,ex0,ex1,_⟩:=h2 i x hi;obtain ⟨y0,ey0,ey1,_⟩:=h2 k y hk;obtain ⟨x',fx1,fx2,_⟩:=hx i x0 ex0;obtain ⟨y',fy1,fy2,_⟩:=hx k y0 ey0;have:=ha.loc.ne i k x' y' fx1 fy1 hik;rw [ex1,ey1,<- fx2,<- fy2];exact this
  ·cases hg
 ·cases hg
end
def CodeQ (D:List Deferred)(cfg:Cfg)(ms:List Nat)(L0:List LB)(a0:Act)(Q:KC):Exit->Act->World->Prop:=fun e a' w'=>
  ∃ E' L',Q e E' L' w'/\Agr D cfg.N E' L' a' w'/\LExt L0 L'/\∀ t,inN t ms=false->a'.eval (.tmp t)=a0.eval (.tmp t)
theorem k_U:∀ {l:List Oper} {o:Oper} {d:Nat},o∈l->o.dst=some d->inN d (dsts l)=true
  | [],_,_,h,_=>by cases h
  | x::l,o,d,h,hd=>by
    simp only [dsts];rcases List.mem_cons.1 h with rfl|h
    · simp [hd,inN,e_j]
    · have:=k_U h hd
      cases x.dst<;>simp [inN,this]
theorem least {p:Nat->Prop}(h:∃ n,p n):∃ n,p n/\∀ k,p k->n<=k:=by
  obtain ⟨n,hn⟩:=h;induction n using Nat.strongRecOn with
  | _ n ih=>
    by_cases hk:∃ k,k<n/\p k
    · obtain ⟨k,hlt,hpk⟩:=hk
      exact ih k hlt hpk
    · exact ⟨n,hn,fun k hpk=>Nat.le_of_not_lt fun hlt=>hk ⟨k,hlt,hpk⟩⟩
section
variable {P:Program} {cfg:Cfg} {D:List Deferred}
theorem CodeQ.widen {ms ms':List Nat}{L0 L1:List LB}{a0 a1:Act}{Q:KC}{e:Exit}{a':Act}{w':World}(h:CodeQ D cfg ms L1 a1 Q e a' w')(hx:LExt L0 L1)
    (hf:∀ t,inN t ms'=false->inN t ms=false/\a1.eval (.tmp t)=a0.eval (.tmp t)):CodeQ D cfg ms' L0 a0 Q e a' w':=by
  obtain ⟨E',L',h1,h2,h3,h4⟩:=h;exact ⟨E',L',h1,h2,hx.trans h3,fun t ht=>(h4 t (hf t ht).1).trans (hf t ht).2⟩
theorem j_V (hmix:P.follows .mixedOrders=true):∀ (ann:Ann) (c:Code) (Q:KC) (E:Nat->SV) (L:List LB) (w:World) (a:Act),
    b_L P cfg ann c Q E L w->Agr D cfg.N E L a w->c.wp P (CodeQ D cfg (mods c) L a Q) a w:=by
  intro ann;induction ann with
  | leaf=>
    intro c Q E L w a h ha;have here:∀ e,Q e E L w->CodeQ D cfg (mods c) L a Q e a w:=fun e hq=>⟨E,L,hq,ha,LExt.refl L,fun _ _=>rfl⟩;cases c<;>simp only [b_L] at h
    case skip=>exact wp_skip (here _ h)
    case label l=>exact wp_label (here _ h)
    case ret=>exact wp_ret (here _ h)
    case exit id=>exact wp_exit (here _ h)
    case region id ops draw=>
      have hd:∀ o∈ops.toList,∀ d,o.dst=some d->inN d (mods (.region id ops draw))=true:=fun o ho d hd=>k_U ho hd;have fin:∀ e a' w',RegQ D cfg (mods (.region id ops draw)) L a (fun E' L' w'=>Q .normal E' L' w') e a' w'->CodeQ D cfg (mods (.region id ops draw)) L a Q e a' w':=by
        rintro e a' w' ⟨rfl,E',L',h1,h2,h3,h4⟩;exact ⟨E',L',h1,h2,h3,h4⟩
      cases draw with
      | true=>
        simp only [if_true] at h;cases hns:Region.noSelect ops with
        | false=>rw [hns] at h;exact h.elim
        | true=>
          rw [hns] at h;have h:=h w.drew rfl;refine wp_mono (k_J hmix ?_) fin;have hcnt:cnt ops (Array.replicate ops.size false)<=ops.size:=by
            unfold cnt;exact Nat.le_trans (List.length_filter_le _ _) (by simp)
          exact j_W hns _ L a _ hd 200 _ [] [] E L w.drew a ops.size h ⟨ha.size,ha.defers,ha.env,ha.loc.drew⟩ (LExt.refl L) (fun _ _=>rfl) (k_b ops) (fun x hx=>by cases hx) hcnt
      | false=>
        simp only [Bool.false_eq_true,if_false] at h;exact wp_mono (wp_region_list (j_X _ L a _ ops.toList E L none w a h ha (PreOk.none _ _) (LExt.refl L) (fun _ _=>rfl) hd)) fin
  | seq x y ihx ihy=>
    intro c Q E L w a h ha;cases c<;>simp only [b_L] at h;rename_i cx cy;refine wp_seq (wp_mono (ihx cx _ E L w a h ha) ?_);rintro e a' w' ⟨E',L',h1,h2,h3,h4⟩;have hf:∀ t,inN t (mods (.seq cx cy))=false->inN t (mods cx)=false/\inN t (mods cy)=false:=fun t ht=>by
      simp only [mods,d_F,Bool.or_eq_false_iff] at ht;exact ht
    cases e with
    | normal=>
      exact wp_mono (ihy cy Q E' L' w' a' h1 h2) fun e a'' w'' hh=>hh.widen h3 fun t ht=>⟨(hf t ht).2,h4 t (hf t ht).1⟩
    | _=>exact ⟨E',L',h1,h2,h3,fun t ht=>h4 t (hf t ht).1⟩
  | join j x y ihx ihy=>
    intro c Q E L w a h ha;cases c<;>simp only [b_L] at h;rename_i cx cy;have hf:∀ t,inN t (mods (.seq cx cy))=false->inN t (mods cx)=false/\inN t (mods cy)=false:=fun t ht=>by
      simp only [mods,d_F,Bool.or_eq_false_iff] at ht;exact ht
    let F:List Lf->World->Prop:=fun xs w'=>∀ a',Agr D cfg.N (j.E (mods cx) xs E) (j.L xs L) a' w'->LExt L (j.L xs L)->(∀ t,inN t (mods cx)=false->a'.eval (.tmp t)=a.eval (.tmp t))->
      cy.wp P (CodeQ D cfg (mods (.seq cx cy)) L a Q) a' w'
    have hK:=h (mkFn j.shs F) (h_t fun xs hxs w' hy=>(e_h _ F xs w' hxs).2 fun a' hag hx hfr=>
      wp_mono (ihy cy Q _ _ w' a' hy hag) fun e a'' w'' hh=>hh.widen hx fun t ht=>⟨(hf t ht).2,hfr t (hf t ht).1⟩)
    refine wp_seq (wp_mono (ihx cx _ E L w a hK ha) ?_);rintro e a' w' ⟨E',L',h1,h2,h3,h4⟩;cases e with
    | normal=>
      simp only [appE] at h1;split at h1
      · rename_i xs hget
        obtain ⟨ys,c1,c2,c3,c4,_⟩:=a_N _ _ xs w' h1;have hFy:=(e_h _ F ys w' c1).1 c4;obtain ⟨g1,g2⟩:=i_t hget c3 c2 ha.env h2 h3 h4;exact hFy a' g1 g2 h4
      · exact h1.elim
    | _=>exact ⟨E',L',h1,h2,h3,fun t ht=>h4 t (hf t ht).1⟩
  | cond x y ihx ihy=>
    intro c Q E L w a h ha;cases c<;>simp only [b_L] at h;rename_i q cx cy;have hf:∀ t,inN t (mods (.cond q cx cy))=false->inN t (mods cx)=false/\inN t (mods cy)=false:=fun t ht=>by
      simp only [mods,d_F,Bool.or_eq_false_iff] at ht;exact ht
    split at h
    · rename_i hq
      exact wp_cond_true (a_d ha.env hq) (wp_mono (ihx cx Q E L w a h ha) fun e a' w' hh=>hh.widen (LExt.refl L) fun t ht=>⟨(hf t ht).1,rfl⟩)
    · rename_i hq
      exact wp_cond_false (a_d ha.env hq) (wp_mono (ihy cy Q E L w a h ha) fun e a' w' hh=>hh.widen (LExt.refl L) fun t ht=>⟨(hf t ht).2,rfl⟩)
    · rename_i z hq
      split at h
      · rename_i t
        have hEt:E t=.v (.l (.bool z)):=hq;refine wp_cond_split (a_d ha.env hq) (fun hz=>?_) (fun hz=>?_)
        · subst hz
          exact wp_mono (ihx cx Q _ L w a (h.1 rfl) ⟨ha.size,ha.defers,d_G ha.env hEt,ha.loc⟩) fun e a' w' hh=>hh.widen (LExt.refl L) fun t ht=>⟨(hf t ht).1,rfl⟩
        · subst hz
          exact wp_mono (ihy cy Q _ L w a (h.2 rfl) ⟨ha.size,ha.defers,d_G ha.env hEt,ha.loc⟩) fun e a' w' hh=>hh.widen (LExt.refl L) fun t ht=>⟨(hf t ht).2,rfl⟩
      · exact h.elim
    · exact h.elim
  | blk x ih=>
    intro c Q E L w a h ha;cases c<;>simp only [b_L] at h
    case scope cx=>
      refine wp_scope_straight (wp_mono (ih cx _ E L w a h ha) ?_);rintro e a' w' ⟨E',L',h1,h2,h3,h4⟩;cases e with
      | goto l=>exact h1.elim
      | _=>exact ⟨E',L',h1,h2,h3,h4⟩
    rename_i id cx;refine wp_block (wp_mono (ih cx _ E L w a h ha) ?_);rintro e a' w' ⟨E',L',h1,h2,h3,h4⟩;cases e with
    | exit id'=>
      simp only [Exit.inBlock];by_cases hid:id'=id
      · subst hid
        simp only [e_j,cond_true] at h1;simp only [if_true];exact ⟨E',L',h1,h2,h3,h4⟩
      · simp only [e_i hid,cond_false] at h1
        simp only [hid,if_false];exact ⟨E',L',h1,h2,h3,h4⟩
    | _=>exact ⟨E',L',h1,h2,h3,h4⟩
  | loop j x ih=>
    intro c Q E L w a h ha;cases c<;>simp only [b_L] at h;rename_i cx;obtain ⟨I,μ,h0,hr⟩:=h
    classical
    let Inv:Nat->Act->World->Prop:=fun n a' w'=>∃ ys,canon j.shs ys/\appL j.shs I ys w'/\appN j.shs μ ys w'=n/\Agr D cfg.N (j.E (mods cx) ys E) (j.L ys L) a' w'/\LExt L (j.L ys L)/\∀ t,inN t (mods cx)=false->a'.eval (.tmp t)=a.eval (.tmp t)
    let M:Act->World->Nat:=fun a' w'=>if h:∃ n,Inv n a' w' then Classical.choose (least h) else 0
    refine wp_loop (fun a' w'=>∃ n,Inv n a' w') M ?_ ?_
    · simp only [appE] at h0
      split at h0
      · rename_i xs hget
        obtain ⟨ys,c1,c2,c3,c4,_⟩:=a_N _ _ xs w h0;obtain ⟨g1,g2⟩:=i_t hget c3 c2 ha.env ha (LExt.refl L) (fun _ _=>rfl);exact ⟨_,ys,c1,c4,rfl,g1,g2,fun _ _=>rfl⟩
      · exact h0.elim
    · intro a1 w1 hex
      have hM:M a1 w1=Classical.choose (least hex):=by simp only [M,dif_pos hex]
      obtain ⟨⟨ys,c1,c4,hn,g1,g2,g3⟩,_⟩:=Classical.choose_spec (least hex);have hbody:=i_1 hr c1 w1 c4;refine wp_mono (ih cx _ _ _ w1 a1 hbody g1) ?_;rintro e a' w' ⟨E',L',h1,h2,h3,h4⟩;have hf':∀ t,inN t (mods cx)=false->a'.eval (.tmp t)=a.eval (.tmp t):=fun t ht=>(h4 t ht).trans (g3 t ht);cases e with
      | normal=>
        obtain ⟨h1,hlt⟩:=h1;simp only [appE] at h1;split at h1
        · rename_i xs hget
          obtain ⟨zs,d1,d2,d3,d4,d5⟩:=a_N _ _ xs w' h1;obtain ⟨k1,k2⟩:=i_t hget d3 d2 ha.env h2 (g2.trans h3) hf';simp only [appEN,hget] at hlt;have hinv:Inv (appN j.shs μ zs w') a' w':=⟨zs,d1,d4,rfl,k1,k2,hf'⟩;have hex':∃ n,Inv n a' w':=⟨_,hinv⟩;have hM':M a' w'=Classical.choose (least hex'):=by simp only [M,dif_pos hex']
          have hle:=(Classical.choose_spec (least hex')).2 _ hinv;refine ⟨hex',?_⟩;rw [hM,hM'];rw [d5 μ] at hle;omega
        · exact h1.elim
      | _=>exact ⟨E',L',h1,h2,g2.trans h3,fun t ht=>(h4 t ht).trans (g3 t ht)⟩
def j_P (tmps:Array Value):ResultVar->Sem Value
  | .tmp t=>pure (tmps.getD t undef)
  | .cell c t=>do loadVar t (<- asAddr (tmps.getD c undef))
theorem l_T (fn:Func)(tmps:Array Value):results fn tmps=(do
    let vs <- fn.results.mapM (j_P tmps)
    pure (if h:vs.size=1 then vs[0] else .tuple vs)):=by
  unfold results;congr 2
theorem f_O {E:Nat->SV}{L:List LB}{a:Act}{w:World}(he:EnvOk E L a)(hl:LocOk L w):∀ {l:List ResultVar} {K:List TV->Prop},vcRes P E L w l K->
    ∃ xs,K xs/\(l.mapM (j_P a.tmps)).run P w=.ok (tdens xs) w
  | [],K,h=>⟨[],h,rfl⟩
  | .tmp t::l,K,h=>by
    simp only [vcRes] at h;split at h
    · rename_i x hx
      obtain ⟨xs,hk,hr⟩:=f_O he hl h;refine ⟨x::xs,hk,?_⟩;have:=he t;rw [hx] at this;have e:a.tmps.getD t undef=x.den:=this;simp only [List.mapM_cons,Sem.run_bind,j_P,e,Sem.run_pure,Result.andThen_ok,hr,tdens]
    · exact h.elim
  | .cell c t::l,K,h=>by
    simp only [vcRes] at h;split at h
    · rename_i i b off hx
      split at h
      · rename_i lb hlb
        split at h
        · rename_i x hp
          obtain ⟨xs,hk,hr⟩:=f_O he hl h;have:=he c;rw [hx] at this;obtain ⟨e,lb',h1,rfl⟩:=this;rw [hlb] at h1;cases h1;have e:a.tmps.getD c undef=.pointer (some ⟨lb.b,off,none⟩):=e;refine ⟨x::xs,hk,?_⟩;have ea:(asAddr (a.tmps.getD c undef)).run P w=.ok ⟨lb.b,off,none⟩ w:=by rw [e];rfl
          simp only [List.mapM_cons,j_P,Sem.run_bind,ea,Sem.run_pure,Result.andThen_ok,k_o hp (hl.at_ _ _ hlb),hr,tdens]
        · exact h.elim
      · exact h.elim
    · rename_i p hx
      obtain ⟨x,hr0,h⟩:=j_q h;obtain ⟨xs,hk,hr⟩:=f_O he hl h;have:=he c;rw [hx] at this;have e:a.tmps.getD c undef=.pointer (some p):=this;refine ⟨x::xs,hk,?_⟩;have ea:(asAddr (a.tmps.getD c undef)).run P w=.ok p w:=by rw [e];rfl
      simp only [List.mapM_cons,j_P,Sem.run_bind,ea,Sem.run_pure,Result.andThen_ok,hr0,hr,tdens]
    · exact h.elim
theorem f_l:∀ l:List TV,(tdens l).length=l.length
  | []=>rfl
  | _::l=>by simp [tdens,f_l l]
theorem h_T {fn:Func}{E:Nat->SV}{L:List LB}{a:Act}{w:World}{K:List TV->Prop}(he:EnvOk E L a)(hl:LocOk L w)(h:vcRes P E L w fn.results.toList K):
    ∃ xs,K xs/\(results fn a.tmps).run P w=.ok (retV xs) w:=by
  obtain ⟨xs,hk,hr⟩:=f_O he hl h;refine ⟨xs,hk,?_⟩;rw [l_T];simp only [Array.mapM_eq_mapM_toList,Sem.run_bind,Sem.run_map];rw [hr];simp only [Result.andThen_ok,Sem.run_pure];cases xs with
  | nil=>simp [tdens,retV]
  | cons x xs=>
    cases xs with
    | nil=>simp [tdens,retV]
    | cons y ys=>simp [tdens,retV]
theorem n_4 (args:List TV)(n:Nat)(hn:args.length<=n):EnvOk (argE args) [] { tmps:=(tdens args).toArray++Array.replicate (n-(tdens args).toArray.size) undef,defers:=[]}:=by
  intro t;have key:∀ (l:List TV) (t:Nat),(argE l t=.junk)∨∃ x,argE l t=.v x/\(tdens l)[t]? =some x.den:=by
    intro l;induction l with
    | nil=>intro t;exact .inl rfl
    | cons x l ih=>
      intro t;cases t with
      | zero=>exact .inr ⟨x,rfl,rfl⟩
      | succ t => rcases ih t with h|⟨y,h1,h2⟩
                  · exact .inl h
                  · exact .inr ⟨y,h1,by simpa [tdens] using h2⟩
  rcases key args t with h|⟨x,h1,h2⟩
  · rw [h];trivial
  · rw [h1]
    show _=x.den;have hlt:=(List.getElem?_eq_some_iff.1 h2).1;simp only [Act.eval,Array.getD_eq_getD_getElem?];rw [Array.getElem?_append_left (by simpa using hlt)];simp [h2]
theorem n_M (hmix:P.follows .mixedOrders=true){f:FuncId}{fn:Func}(hf:P.funcs[f]? =some fn)(loc:List Nat)(ann:Ann)(args:List TV)(w:World)(R:Ending->World->Prop)
    (h:vcFn P fn loc ann args w R):Calls P f (tdens args).toArray w R:=by
  unfold vcFn at h;split at h
  · rename_i c hb
    cases hn:Nat.ble args.length fn.ntmps with
    | false=>rw [hn] at h;exact h.elim
    | true=>
      rw [hn] at h;simp only [cond_true] at h;have hn:=Nat.le_of_ble_eq_true hn;have ha:Agr [] fn.ntmps (argE args) [] { tmps:=(tdens args).toArray++Array.replicate (fn.ntmps-(tdens args).toArray.size) undef,defers:=[]} w:=by
        refine ⟨?_,rfl,n_4 args fn.ntmps hn,⟨fun i lb h=>by simp [getLB] at h,fun i j x y h=>by simp [getLB] at h⟩⟩;simp [f_l];omega
      refine calls_of_wp hf hb (wp_mono (j_V (cfg:=⟨fn.ntmps,loc⟩) hmix ann c _ _ _ w _ h ha) ?_);rintro e a' w' ⟨E',L',h1,h2,_,_⟩;cases e with
      | normal=>
        obtain ⟨xs,hR,hr⟩:=h_T h2.env h2.loc h1;exact ⟨h2.defers,_,hr,hR⟩
      | ret=>
        obtain ⟨xs,hR,hr⟩:=h_T h2.env h2.loc h1;exact ⟨h2.defers,_,hr,hR⟩
      | _=>exact h1.elim
  · exact h.elim
end
abbrev adr (b:Nat):Addr:=⟨b,0,none⟩
theorem mixed:Proofs.Tryz.prog.follows .mixedOrders=true:=by kernel_rfl
abbrev OA:=Option Addr
abbrev BA:=ByteArray
abbrev EW:=Ending->World->Prop
abbrev CP (f:FuncId)(args:Array Value)(w:World)(R:EW):Prop:=Calls Proofs.Tryz.prog f args w R
@[simp] abbrev Lb (w:World) (p:Addr) (K:Bool->Prop):Prop:=∃ x,w.cell? p=some (.bool x)/\K x
@[simp] abbrev Ls (w:World) (p:Addr) (K:ByteArray->Prop):Prop:=∃ x,w.cell? p=some (.string x)/\K x
@[simp] abbrev Lp (w:World) (p:Addr) (K:Option Addr->Prop):Prop:=∃ x,w.cell? p=some (.pointer x)/\K x
@[simp] abbrev Lm (w:World) (p:Addr) (K:Option Nat->Prop):Prop:=∃ x,w.cell? p=some (.map x)/\K x
@[simp] abbrev Li (w:World) (p:Addr) (K:Int->Prop):Prop:=∃ x,w.cell? p=some (.int .i64 x)/\K x
@[simp] abbrev Ll (w:World) (p:Addr) (K:Option Addr->Nat->Nat->Prop):Prop:=∃ a l c,w.cell? p=some (.slice a l c)/\K a l c
@[simp] abbrev Lo (w:World) (p:Addr) (K:Option (TypeId × Value)->Prop):Prop:=∃ o,w.cell? p=some (ifcV o)/\K o
@[simp] abbrev Lv (w:World) (p:Addr) (K:Value->Prop):Prop:=∃ v,w.cell? p=some v/\K v
@[simp] abbrev Br (b:Bool) (A B:Prop):Prop:=(b=true->A)/\(b=false->B)
@[simp] abbrev Nr (b:Bool) (A B:Prop):Prop:=(b=false->A)/\(b=true->B)
@[simp] abbrev Pt (q:Option Addr) (K:Addr->Prop):Prop:=∃ p,q=some p/\K p
@[simp] abbrev Ix (q:Option Addr) (n:Int) (l:Nat) (K:Addr->Prop):Prop:=∃ p,q=some p/\(0<=n/\n<(l:Int))/\K p
@[simp] abbrev C0 (f:FuncId) (args:Array Value) (w:World) (K:World->Prop):Prop:=CP f args w fun e w'=>e=.returned (.tuple #[])/\K w'
@[simp] abbrev Cl (f:FuncId) (args:Array Value) (w:World) (K:Option Addr->Nat->Nat->World->Prop):Prop:=CP f args w fun e w'=>∃ a l c,e=.returned (.slice a l c)/\K a l c w'
@[simp] abbrev Cb (f:FuncId) (args:Array Value) (w:World) (K:Bool->World->Prop):Prop:=CP f args w fun e w'=>∃ x,e=.returned (.bool x)/\K x w'
@[simp] abbrev Cs (f:FuncId) (args:Array Value) (w:World) (K:ByteArray->World->Prop):Prop:=CP f args w fun e w'=>∃ x,e=.returned (.string x)/\K x w'
@[simp] abbrev Cp (f:FuncId) (args:Array Value) (w:World) (K:Option Addr->World->Prop):Prop:=CP f args w fun e w'=>∃ x,e=.returned (.pointer x)/\K x w'
@[simp] abbrev Ci (f:FuncId) (args:Array Value) (w:World) (K:Int->World->Prop):Prop:=CP f args w fun e w'=>∃ x,e=.returned (.int .i64 x)/\K x w'
@[simp] abbrev L_ssllslbl (w:World) (p:Addr) (K:BA->BA->OA->Nat->Nat->OA->Nat->Nat->BA->OA->Nat->Nat->Bool->OA->Nat->Nat->Prop):Prop:=Ls w p fun x0=>Ls w (p.add 1) fun x1=>Ll w (p.add 2) fun x2 x3 x4=>Ll w (p.add 3) fun x5 x6 x7=>Ls w (p.add 4) fun x8=>Ll w (p.add 5) fun x9 x10 x11=>Lb w (p.add 6) fun x12=>Ll w (p.add 7) fun x13 x14 x15=>K x0 x1 x2 x3 x4 x5 x6 x7 x8 x9 x10 x11 x12 x13 x14 x15
@[simp] abbrev L_ssslbll (w:World) (p:Addr) (K:BA->BA->BA->OA->Nat->Nat->Bool->OA->Nat->Nat->OA->Nat->Nat->Prop):Prop:=Ls w p fun x0=>Ls w (p.add 1) fun x1=>Ls w (p.add 2) fun x2=>Ll w (p.add 3) fun x3 x4 x5=>Lb w (p.add 4) fun x6=>Ll w (p.add 5) fun x7 x8 x9=>Ll w (p.add 6) fun x10 x11 x12=>K x0 x1 x2 x3 x4 x5 x6 x7 x8 x9 x10 x11 x12
@[simp] abbrev L_ssllb (w:World) (p:Addr) (K:BA->BA->OA->Nat->Nat->OA->Nat->Nat->Bool->Prop):Prop:=Ls w p fun x0=>Ls w (p.add 1) fun x1=>Ll w (p.add 2) fun x2 x3 x4=>Ll w (p.add 3) fun x5 x6 x7=>Lb w (p.add 4) fun x8=>K x0 x1 x2 x3 x4 x5 x6 x7 x8
@[simp] abbrev L_ssl (w:World) (p:Addr) (K:BA->BA->OA->Nat->Nat->Prop):Prop:=Ls w p fun x0=>Ls w (p.add 1) fun x1=>Ll w (p.add 2) fun x2 x3 x4=>K x0 x1 x2 x3 x4
@[simp] abbrev L_sl (w:World) (p:Addr) (K:BA->OA->Nat->Nat->Prop):Prop:=Ls w p fun x0=>Ll w (p.add 1) fun x1 x2 x3=>K x0 x1 x2 x3
@[simp] abbrev L_ss (w:World) (p:Addr) (K:BA->BA->Prop):Prop:=Ls w p fun x0=>Ls w (p.add 1) fun x1=>K x0 x1
@[simp] abbrev L_sll (w:World) (p:Addr) (K:BA->OA->Nat->Nat->OA->Nat->Nat->Prop):Prop:=Ls w p fun x0=>Ll w (p.add 1) fun x1 x2 x3=>Ll w (p.add 2) fun x4 x5 x6=>K x0 x1 x2 x3 x4 x5 x6
@[simp] abbrev L_slb (w:World) (p:Addr) (K:BA->OA->Nat->Nat->Bool->Prop):Prop:=Ls w p fun x0=>Ll w (p.add 1) fun x1 x2 x3=>Lb w (p.add 2) fun x4=>K x0 x1 x2 x3 x4
@[simp] abbrev L_isl (w:World) (p:Addr) (K:Int->BA->OA->Nat->Nat->Prop):Prop:=Li w p fun x0=>Ls w (p.add 1) fun x1=>Ll w (p.add 2) fun x2 x3 x4=>K x0 x1 x2 x3 x4
@[simp] abbrev L_sisl (w:World) (p:Addr) (K:BA->Int->BA->OA->Nat->Nat->Prop):Prop:=Ls w p fun x0=>Li w (p.add 1) fun x1=>Ls w (p.add 2) fun x2=>Ll w (p.add 3) fun x3 x4 x5=>K x0 x1 x2 x3 x4 x5
@[simp] abbrev L_isssiii (w:World) (p:Addr) (K:Int->BA->BA->BA->Int->Int->Int->Prop):Prop:=Li w p fun x0=>Ls w (p.add 1) fun x1=>Ls w (p.add 2) fun x2=>Ls w (p.add 3) fun x3=>Li w (p.add 4) fun x4=>Li w (p.add 5) fun x5=>Li w (p.add 6) fun x6=>K x0 x1 x2 x3 x4 x5 x6
@[simp] abbrev L_isssll (w:World) (p:Addr) (K:Int->BA->BA->BA->OA->Nat->Nat->OA->Nat->Nat->Prop):Prop:=Li w p fun x0=>Ls w (p.add 1) fun x1=>Ls w (p.add 2) fun x2=>Ls w (p.add 3) fun x3=>Ll w (p.add 4) fun x4 x5 x6=>Ll w (p.add 5) fun x7 x8 x9=>K x0 x1 x2 x3 x4 x5 x6 x7 x8 x9
@[simp] abbrev L_issslll (w:World) (p:Addr) (K:Int->BA->BA->BA->OA->Nat->Nat->OA->Nat->Nat->OA->Nat->Nat->Prop):Prop:=Li w p fun x0=>Ls w (p.add 1) fun x1=>Ls w (p.add 2) fun x2=>Ls w (p.add 3) fun x3=>Ll w (p.add 4) fun x4 x5 x6=>Ll w (p.add 5) fun x7 x8 x9=>Ll w (p.add 6) fun x10 x11 x12=>K x0 x1 x2 x3 x4 x5 x6 x7 x8 x9 x10 x11 x12
@[simp] abbrev L_ssllll (w:World) (p:Addr) (K:BA->BA->OA->Nat->Nat->OA->Nat->Nat->OA->Nat->Nat->OA->Nat->Nat->Prop):Prop:=Ls w p fun x0=>Ls w (p.add 1) fun x1=>Ll w (p.add 2) fun x2 x3 x4=>Ll w (p.add 3) fun x5 x6 x7=>Ll w (p.add 4) fun x8 x9 x10=>Ll w (p.add 5) fun x11 x12 x13=>K x0 x1 x2 x3 x4 x5 x6 x7 x8 x9 x10 x11 x12 x13
@[simp] abbrev L_slbll (w:World) (p:Addr) (K:BA->OA->Nat->Nat->Bool->OA->Nat->Nat->OA->Nat->Nat->Prop):Prop:=Ls w p fun x0=>Ll w (p.add 1) fun x1 x2 x3=>Lb w (p.add 2) fun x4=>Ll w (p.add 3) fun x5 x6 x7=>Ll w (p.add 4) fun x8 x9 x10=>K x0 x1 x2 x3 x4 x5 x6 x7 x8 x9 x10
@[simp] abbrev L_sslll (w:World) (p:Addr) (K:BA->BA->OA->Nat->Nat->OA->Nat->Nat->OA->Nat->Nat->Prop):Prop:=Ls w p fun x0=>Ls w (p.add 1) fun x1=>Ll w (p.add 2) fun x2 x3 x4=>Ll w (p.add 3) fun x5 x6 x7=>Ll w (p.add 4) fun x8 x9 x10=>K x0 x1 x2 x3 x4 x5 x6 x7 x8 x9 x10
@[simp] abbrev L_ssll (w:World) (p:Addr) (K:BA->BA->OA->Nat->Nat->OA->Nat->Nat->Prop):Prop:=Ls w p fun x0=>Ls w (p.add 1) fun x1=>Ll w (p.add 2) fun x2 x3 x4=>Ll w (p.add 3) fun x5 x6 x7=>K x0 x1 x2 x3 x4 x5 x6 x7
@[simp] abbrev L_lllll (w:World) (p:Addr) (K:OA->Nat->Nat->OA->Nat->Nat->OA->Nat->Nat->OA->Nat->Nat->OA->Nat->Nat->Prop):Prop:=Ll w p fun x0 x1 x2=>Ll w (p.add 1) fun x3 x4 x5=>Ll w (p.add 2) fun x6 x7 x8=>Ll w (p.add 3) fun x9 x10 x11=>Ll w (p.add 4) fun x12 x13 x14=>K x0 x1 x2 x3 x4 x5 x6 x7 x8 x9 x10 x11 x12 x13 x14
@[simp] abbrev L_ll (w:World) (p:Addr) (K:OA->Nat->Nat->OA->Nat->Nat->Prop):Prop:=Ll w p fun x0 x1 x2=>Ll w (p.add 1) fun x3 x4 x5=>K x0 x1 x2 x3 x4 x5
@[simp] abbrev L_llssslll (w:World) (p:Addr) (K:OA->Nat->Nat->OA->Nat->Nat->BA->BA->BA->OA->Nat->Nat->OA->Nat->Nat->OA->Nat->Nat->Prop):Prop:=Ll w p fun x0 x1 x2=>Ll w (p.add 1) fun x3 x4 x5=>Ls w (p.add 2) fun x6=>Ls w (p.add 3) fun x7=>Ls w (p.add 4) fun x8=>Ll w (p.add 5) fun x9 x10 x11=>Ll w (p.add 6) fun x12 x13 x14=>Ll w (p.add 7) fun x15 x16 x17=>K x0 x1 x2 x3 x4 x5 x6 x7 x8 x9 x10 x11 x12 x13 x14 x15 x16 x17
@[simp] abbrev L_llsssll (w:World) (p:Addr) (K:OA->Nat->Nat->OA->Nat->Nat->BA->BA->BA->OA->Nat->Nat->OA->Nat->Nat->Prop):Prop:=Ll w p fun x0 x1 x2=>Ll w (p.add 1) fun x3 x4 x5=>Ls w (p.add 2) fun x6=>Ls w (p.add 3) fun x7=>Ls w (p.add 4) fun x8=>Ll w (p.add 5) fun x9 x10 x11=>Ll w (p.add 6) fun x12 x13 x14=>K x0 x1 x2 x3 x4 x5 x6 x7 x8 x9 x10 x11 x12 x13 x14
@[simp] abbrev L_ibisll (w:World) (p:Addr) (K:Int->Bool->Int->BA->OA->Nat->Nat->OA->Nat->Nat->Prop):Prop:=Li w p fun x0=>Lb w (p.add 1) fun x1=>Li w (p.add 2) fun x2=>Ls w (p.add 3) fun x3=>Ll w (p.add 4) fun x4 x5 x6=>Ll w (p.add 5) fun x7 x8 x9=>K x0 x1 x2 x3 x4 x5 x6 x7 x8 x9
@[simp] abbrev L_iillliiiilbllbibiblblbibibibibliiibibillllliiiiibliil (w:World) (p:Addr) (K:Int->Int->OA->Nat->Nat->OA->Nat->Nat->OA->Nat->Nat->Int->Int->Int->Int->OA->Nat->Nat->Bool->OA->Nat->Nat->OA->Nat->Nat->Bool->Int->Bool->Int->Bool->OA->Nat->Nat->Bool->OA->Nat->Nat->Bool->Int->Bool->Int->Bool->Int->Bool->Int->Bool->OA->Nat->Nat->Int->Int->Int->Bool->Int->Bool->Int->OA->Nat->Nat->OA->Nat->Nat->OA->Nat->Nat->OA->Nat->Nat->OA->Nat->Nat->Int->Int->Int->Int->Int->Bool->OA->Nat->Nat->Int->Int->OA->Nat->Nat->Prop):Prop:=Li w p fun x0=>Li w (p.add 1) fun x1=>Ll w (p.add 2) fun x2 x3 x4=>Ll w (p.add 3) fun x5 x6 x7=>Ll w (p.add 4) fun x8 x9 x10=>Li w (p.add 5) fun x11=>Li w (p.add 6) fun x12=>Li w (p.add 7) fun x13=>Li w (p.add 8) fun x14=>Ll w (p.add 9) fun x15 x16 x17=>Lb w (p.add 10) fun x18=>Ll w (p.add 11) fun x19 x20 x21=>Ll w (p.add 12) fun x22 x23 x24=>Lb w (p.add 13) fun x25=>Li w (p.add 14) fun x26=>Lb w (p.add 15) fun x27=>Li w (p.add 16) fun x28=>Lb w (p.add 17) fun x29=>Ll w (p.add 18) fun x30 x31 x32=>Lb w (p.add 19) fun x33=>Ll w (p.add 20) fun x34 x35 x36=>Lb w (p.add 21) fun x37=>Li w (p.add 22) fun x38=>Lb w (p.add 23) fun x39=>Li w (p.add 24) fun x40=>Lb w (p.add 25) fun x41=>Li w (p.add 26) fun x42=>Lb w (p.add 27) fun x43=>Li w (p.add 28) fun x44=>Lb w (p.add 29) fun x45=>Ll w (p.add 30) fun x46 x47 x48=>Li w (p.add 31) fun x49=>Li w (p.add 32) fun x50=>Li w (p.add 33) fun x51=>Lb w (p.add 34) fun x52=>Li w (p.add 35) fun x53=>Lb w (p.add 36) fun x54=>Li w (p.add 37) fun x55=>Ll w (p.add 38) fun x56 x57 x58=>Ll w (p.add 39) fun x59 x60 x61=>Ll w (p.add 40) fun x62 x63 x64=>Ll w (p.add 41) fun x65 x66 x67=>Ll w (p.add 42) fun x68 x69 x70=>Li w (p.add 43) fun x71=>Li w (p.add 44) fun x72=>Li w (p.add 45) fun x73=>Li w (p.add 46) fun x74=>Li w (p.add 47) fun x75=>Lb w (p.add 48) fun x76=>Ll w (p.add 49) fun x77 x78 x79=>Li w (p.add 50) fun x80=>Li w (p.add 51) fun x81=>Ll w (p.add 52) fun x82 x83 x84=>K x0 x1 x2 x3 x4 x5 x6 x7 x8 x9 x10 x11 x12 x13 x14 x15 x16 x17 x18 x19 x20 x21 x22 x23 x24 x25 x26 x27 x28 x29 x30 x31 x32 x33 x34 x35 x36 x37 x38 x39 x40 x41 x42 x43 x44 x45 x46 x47 x48 x49 x50 x51 x52 x53 x54 x55 x56 x57 x58 x59 x60 x61 x62 x63 x64 x65 x66 x67 x68 x69 x70 x71 x72 x73 x74 x75 x76 x77 x78 x79 x80 x81 x82 x83 x84
@[simp] abbrev L_si (w:World) (p:Addr) (K:BA->Int->Prop):Prop:=Ls w p fun x0=>Li w (p.add 1) fun x1=>K x0 x1
@[simp] abbrev L_li (w:World) (p:Addr) (K:OA->Nat->Nat->Int->Prop):Prop:=Ll w p fun x0 x1 x2=>Li w (p.add 1) fun x3=>K x0 x1 x2 x3
@[simp] abbrev L_sli (w:World) (p:Addr) (K:BA->OA->Nat->Nat->Int->Prop):Prop:=Ls w p fun x0=>Ll w (p.add 1) fun x1 x2 x3=>Li w (p.add 2) fun x4=>K x0 x1 x2 x3 x4
@[simp] abbrev L_bi (w:World) (p:Addr) (K:Bool->Int->Prop):Prop:=Lb w p fun x0=>Li w (p.add 1) fun x1=>K x0 x1
@[simp] abbrev L_bl (w:World) (p:Addr) (K:Bool->OA->Nat->Nat->Prop):Prop:=Lb w p fun x0=>Ll w (p.add 1) fun x1 x2 x3=>K x0 x1 x2 x3
@[simp] abbrev L_ii (w:World) (p:Addr) (K:Int->Int->Prop):Prop:=Li w p fun x0=>Li w (p.add 1) fun x1=>K x0 x1
def inTs:List TypeId->TypeId->Bool
 | [],_=>false
 | t::l,T=>Nat.beq t T||inTs l T
abbrev Off (w:World)(a:Addr)(n:Nat)(ts:List TypeId):Prop:=∃ (cs:Array Value) (T:TypeId),objAt w a.block=some (.cells cs T (0,0))/\a.spot=none/\a.off+n<=cs.size/\inTs ts T=false
def jnAt:List (Nat × Jn)->Nat->Option Jn
 | [],_=>none
 | (k,j)::l,n=>bif Nat.beq k n then some j else jnAt l n
def fill (js:List (Nat × Jn)):Code->Nat->Ann × Nat
 | .seq x y,n=>match fill js x (n+1) with
  | (a,n1)=>match fill js y n1 with
   | (b,n2)=>(match jnAt js n with |some j=>.join j a b|none=>.seq a b,n2)
 | .cond _ x y,n=>match fill js x (n+1) with
  | (a,n1)=>match fill js y n1 with
   | (b,n2)=>(.cond a b,n2)
 | .block _ x,n=>match fill js x (n+1) with
  | (a,n1)=>(.blk a,n1)
 | .scope x,n=>match fill js x (n+1) with
  | (a,n1)=>(.blk a,n1)
 | .loop x,n=>match fill js x (n+1) with
  | (a,n1)=>(.loop (match jnAt js n with |some j=>j|none=>⟨[],[]⟩) a,n1)
 | _,n=>(.leaf,n+1)
theorem vcq {f:FuncId}{fn:Func}(hf:Proofs.Tryz.prog.funcs[f]? =some fn)(loc:List Nat)(js:List (Nat × Jn))(args:List TV){w:World}{R:EW}{B:Prop}(h:B){den:Array Value}
  (e:vcFn Proofs.Tryz.prog fn loc (match fn.body with |some c=>(fill js c 0).1|none=>.leaf) args w R=B:=by kernel_rfl) (ed:(tdens args).toArray=den:=by kernel_rfl):Calls Proofs.Tryz.prog f den w R:=
 ed▸n_M mixed hf loc _ args w R (Eq.mpr e h)
abbrev Ap (t:TypeId)(x y:Value)(w:World)(K:Option Addr->Nat->Nat->World->Prop):Prop:=∃ a l c,∃ w',(Go.builtin .append #[t,t] t #[false,false] #[x,y]).run Proofs.Tryz.prog w=.ok (.value (.slice a l c)) w'/\K a l c w'
end Go.VC
