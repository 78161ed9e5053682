/- Part of the proof of a law of a rule over documents (LexA), where what the arguments hold is of bulk at most 1048576. -/
import Derived.Test.YtmnhdjhlcgfpkaaGreatTextA
import Derived.Test.YtmnhdjhlcgfpkaaGreatBaseC
import Derived.Laws.StructEq
import Derived.Test.YtmnhdjhlcgfpkaaGreatTextB
import Derived.Laws.Cover4
import Derived.Laws.IdiomStrings
import Derived.Laws.Concat
set_option linter.unusedVariables false
set_option linter.unusedSectionVars false
set_option linter.deprecated false
namespace Go.VC
open Go Go.Proofs
variable [DB]
variable {a:BA}{xs:List Value}{bs c n oc ol:Nat}{out:OA}{Q:Prop}{w1 w2:World}
theorem c_A (a b:BA):(a.toList==b.toList)=decide (a=b):=by
 by_cases h:a=b
 ·subst h;simp
 ·have hne:a.toList≠b.toList:=fun e=>h (by
   rw [ByteArray.toList_eq,ByteArray.toList_eq] at e;cases a;cases b;simp only [ByteArray.mk.injEq];exact Array.toList_inj.1 e)
  simp [h,hne]
theorem a_b {b:BA}:(a.toList==b.toList)=true↔a=b:=by rw [c_A];simp
theorem a_f {b:BA}:(a.toList==b.toList)=false↔a≠b:=by rw [c_A];simp
abbrev RetB (w:World)(Q:Bool->Prop):Ending->World->Prop:=fun e w'=>∃ b,e=.returned (.bool b)/\EF w w'/\Q b
theorem RetB.base {f:FuncId}{args:Array Value}{w0 w:World}{Q:Bool->Prop}(h:CP f args w (RetB w Q))(hx:EF w0 w):
  CP f args w fun e w'=>∃ b,e=.returned (.bool b)/\(∀ T,KeepT T w w')/\EF w0 w'/\Q b:=
 h.mono fun e w' ⟨b,e1,h1,h2⟩=>⟨b,e1,h1.keepT,hx.then h1,h2⟩
theorem c_IsStart (r:Int)(w:World):CP 151 #[.int .i32 r] w (RetB w fun _=>True):=by
 refine g_w r w _ fun K hK=>?_;have hK':∀ b,K b w:=fun b=>hK b w ⟨b,rfl,Ext.refl w,trivial⟩;simp [hK']
theorem c_IsDigit (r:Int)(w:World):CP 152 #[.int .i32 r] w (RetB w fun _=>True):=by
 refine j_B r w _ fun K hK=>?_;have hK':∀ b,K b w:=fun b=>hK b w ⟨b,rfl,Ext.refl w,trivial⟩;simp [hK']
theorem a_B (s:BA)(hs:s.size<=4194304)(w:World):CP 98 #[.string s] w (RetB w fun b=>b=true->s≠⟨#[]⟩):=by
 refine n_w s w _ ⟨fun i w1=>0<=i/\i<=s.size/\EF w w1,fun i _=>(s.size-i).toNat,⟨by omega,by omega,Ext.refl w⟩,?_⟩;rintro i w1 ⟨h0,h1,hx⟩;refine ⟨fun hlt=>?_,fun hge=>⟨_,rfl,hx,fun h=>by rw [c_A] at h;simpa using h⟩⟩;have hlt:=odt hlt;refine ⟨⟨h0,hlt⟩,fun K hK=>?_⟩;have hK':∀ b w2,EF w w2->K b w2:=fun b w2 hx2=>hK b w2
  ⟨fun _=>⟨false,rfl,hx2,fun h=>by cases h⟩,fun _=>by rw [a_a h0 (by omega)];exact ⟨⟨by omega,by omega,hx2⟩,by dsimp only;omega⟩⟩
 refine (c_IsStart _ w1).mono ?_;rintro _ w2 ⟨b,rfl,hx2,-⟩;refine ⟨b,rfl,trivial,fun _=>⟨fun _=>(c_IsDigit _ w2).mono ?_,fun _=>hK' _ _ (hx.then hx2)⟩,fun _=>hK' _ _ (hx.then hx2)⟩;rintro _ w3 ⟨b3,rfl,hx3,-⟩;exact ⟨b3,rfl,trivial,hK' _ _ ((hx.then hx2).then hx3)⟩
theorem c_in (s:BA){a:OA}{l:Nat}{xs:List BA}{w:World}(hl:RStrs w a l c xs):
  CP 60 #[.string s,.slice a l c] w (RetB w fun b=>b=true↔s∈xs):=by
 obtain ⟨e1,e3⟩:=hl.len;refine q_in s a l c w _ ⟨fun i w1=>0<=i/\i<=l/\w1=w/\s∉xs.take i.toNat,fun i _=>(l-i).toNat,⟨by omega,by omega,rfl,by simp⟩,?_⟩;rintro i w1 ⟨h0,h1,rfl,hn⟩;refine ⟨fun hlt=>?_,fun hge=>⟨_,rfl,Ext.refl _,?_⟩⟩
 ·have hlt:=odt hlt;obtain ⟨p,x,hp,hxs,cs,hc,rfl⟩:=hl.get h0 hlt;refine ⟨p,hp,⟨h0,hlt⟩,x,hc.1.choose_spec.2.cell,fun he=>⟨_,rfl,Ext.refl _,?_⟩,fun hne=>?_⟩
  ·rw [a_b.1 he] at hxs;simp [mg_ hxs]
  ·have hne:=a_f.1 hne;rw [a_a h0 (by omega)];refine ⟨⟨by omega,by omega,rfl,?_⟩,by dsimp only;omega⟩;rw [show (i+1).toNat=i.toNat+1 by omega,List.take_succ,hxs];simp [hn,Ne.symm hne]
 ·have:i=l:=by have:=odf hge;omega
  subst this;rw [e1] at hn;simp at hn;simp [hn]
theorem h_y (s:BA)(hs:s.size<=4194304)(w:World):CP 197 #[.string s] w (RetB w fun _=>True):=by
 refine l_L s w _ ⟨fun i w1=>0<=i/\i<=s.size/\w1=w,fun i _=>((s.size:Int)-i).toNat,⟨by omega,by omega,rfl⟩,?_⟩;rintro i w1 ⟨h0,h1,rfl⟩;refine ⟨fun hlt=>?_,fun hge=>?_⟩
 ·have hlt:=odt hlt;intro K hK;have hK':∀ b,K b w1:=fun b=>hK b w1 ⟨fun _=>⟨false,rfl,Ext.refl _,trivial⟩,fun _=>by
   rw [a_a h0 (by omega)];exact next h0 hlt rfl⟩
  simp [hK',h0,hlt]
 ·intro K hK;have hK':∀ b,K b w1:=fun b=>hK b w1 ⟨b,rfl,Ext.refl _,trivial⟩;have hsz:∀ h:s≠⟨#[]⟩,0<s.size:=fun h=>Nat.pos_of_ne_zero fun e=>h (by
   cases s with
   | mk d=>simp [ByteArray.size] at e;simp [e])
  refine ⟨fun hne=>?_,fun _=>hK' _⟩;have hp:=hsz (by rw [c_A] at hne;simpa using hne);have e:wr ((s.size:Int)-1)=(s.size:Int)-1:=by
   have:=a_a (n:=(s.size:Int)-2);rcases Nat.lt_or_ge s.size 2 with h|h
   ·obtain h:s.size=1:=by omega
    rw [h];rfl
   ·have:=this (by omega) (by omega);rw [show (s.size:Int)-2+1=s.size-1 by omega] at this;exact this
  refine ⟨⟨by omega,by omega⟩,fun _=>⟨?_,fun _=>hK' _,fun _=>hK' _⟩,fun _=>hK' _⟩;rw [e];constructor<;>omega
theorem c_C (s:BA)(hs:s.size<=4194304)(w:World):CP 162 #[.string s] w (RetB w fun _=>True):=by
 refine m_O s w _ fun K hK=>?_;refine ⟨fun _=>(h_y s hs w).mono ?_,fun _=>hK _ _ ⟨_,rfl,Ext.refl w,trivial⟩⟩;rintro _ w2 ⟨b,rfl,hx2,-⟩;exact ⟨b,rfl,trivial,hK _ _ ⟨_,rfl,hx2,trivial⟩⟩
theorem o_a {a:OA}{l:Nat}{xs:List BA}{w:World}(hl:RStrs w a l c xs):
  CP 198 #[.slice a l c] w (RetB w fun b=>b=true->∀ s∈xs,s≠⟨#[]⟩):=by
 obtain ⟨e1,e3⟩:=hl.len;refine o_B a l c w _ ⟨fun i w1=>0<=i/\i<=l/\EF w w1/\∀ s∈xs.take i.toNat,s≠⟨#[]⟩,fun i _=>((l:Int)-i).toNat,⟨by omega,by omega,Ext.refl w,by simp⟩,?_⟩;rintro i w1 ⟨h0,h1,hx,hn⟩;refine ⟨fun hlt=>?_,fun hge=>⟨true,rfl,hx,fun _=>a_o e1 hge hn⟩⟩;have hlt:=odt hlt;obtain ⟨p,x,hp,hxs,cs,hc,rfl⟩:=hl.get h0 hlt;refine ⟨p,hp,⟨h0,hlt⟩,x,hx.cell hc.1.choose_spec.2 id,(a_B x hc.2.1 w1).mono ?_⟩;rintro _ w2 ⟨b,rfl,hx2,hb⟩;refine ⟨b,rfl,trivial,fun _=>⟨false,rfl,hx.then hx2,fun h=>by cases h⟩,fun hb'=>?_⟩;rw [a_a h0 (by omega)];exact next h0 hlt ⟨hx.then hx2,a_g h0 hn hxs (hb (by simpa using hb'))⟩
theorem h_A (s:BA)(w:World):CP 199 #[.string s] w (fun e w'=>∃ n:Int,e=.returned (.int .i64 n)/\w'=w):=by
 refine l_Q s w _ fun K hK=>?_;have hK':∀ b,K b w:=fun b=>hK b w ⟨fun _=>⟨_,rfl,rfl⟩,fun _=>⟨fun _=>⟨_,rfl,rfl⟩,fun _=>⟨_,rfl,rfl⟩⟩⟩;simp [hK']
theorem o_O (s:BA)(hs:s.size<=4194304)(w:World):CP 210 #[.string s] w (RetB w fun _=>True):=by
 refine o_1 s w _ ⟨fun i w1=>0<=i/\i<=s.size/\w1=w,fun i _=>((s.size:Int)-i).toNat,⟨by omega,by omega,rfl⟩,?_⟩;rintro i w1 ⟨h0,h1,rfl⟩;refine ⟨fun hlt=>?_,fun hge=>⟨_,rfl,Ext.refl _,trivial⟩⟩;have hlt:=odt hlt;intro K hK;have hK':∀ b,K b w1:=fun b=>hK b w1 ⟨fun _=>⟨false,rfl,Ext.refl _,trivial⟩,fun _=>by
  rw [a_a h0 (by omega)];exact next h0 hlt rfl⟩
 simp [hK',h0,hlt]
theorem ff (h:false=true):Q:=nomatch h
theorem tf (h:true=false):Q:=nomatch h
theorem nf (h:(!false)=false):Q:=nomatch h
theorem nt (h:(!true)=true):Q:=nomatch h
theorem b_E {t:TypeId}{x y:Operand}{a b:Value}{w:World}:(eqGuard .add t x y a b).run Tryz.prog w=.ok () w:=rfl
theorem b_q {b:BA}{w:World}(ha:a.size<=4611686018427387904)(hb:b.size<=4611686018427387904-1):
  (binOp .add 9 (.string a) (.string b)).run Tryz.prog w=.ok (.string (a++b)) w:=by
 have h:¬ (((a.size+b.size:Nat):Int)>IntKind.i64.max):=by
  have:IntKind.i64.max=9223372036854775807:=rfl;rw [this];omega
 show (Op.stringOp .add a b).run Tryz.prog w=_;unfold Op.stringOp;simp only [if_neg h];rfl
theorem adr_add (k j:Nat):(adr k).add j=⟨k,j,none⟩:=by
 unfold Addr.add;split
 ·rename_i h;rw [h]
 ·simp
structure Tk where
 k:Int
 s:BA
 a:Int
 b:Int
 c:Int
 d:Int
abbrev h_4 (t:Tk):List Value:=[.int .i64 t.k,.string t.s,.int .i64 t.a,.int .i64 t.b,.int .i64 t.c,.int .i64 t.d]
theorem At.kt {w w':World}{T:TypeId}{a:Addr}{v:Value}(h:At w T a v)(k:KeepT T w w'):At w' T a v:=by
 obtain ⟨cs,fr,h1,h2,h3⟩:=h;exact ⟨cs,fr,k _ _ _ h1,h2,h3⟩
theorem Own.kt {base:Nat}{w w':World}{T:Nat}{a:OA}{l:Nat}(h:Own base w T n a l c xs)(k:KeepT T w w'):Own base w' T n a l c xs:=by
 obtain ⟨h1,h2⟩:=h;exact ⟨h1,h2.elim .inl fun ⟨g,cap,cur,e1,e2,e3,e4⟩=>.inr ⟨g,cap,cur,e1,e2,k g cur (0,0) e3,e4⟩⟩
structure Lx (base b:Nat) (A:OA) (L C:Nat) (at_:Int) (l:Nat) (seen:Int) (w:World):Prop where
 ge:base<=b
 sz:base<=w.heap.size
 len:L<=4194304/\L<=C
 text:∃ (p:Addr) (ns:List Int),(L=0∨A=some p)/\ns.length=L/\∀ j n,ns[j]? =some n->At w 21 (p.add j) (.int .i32 n)
 blk:∃ (T:OA) (c:Nat) (sure:Bool) (line frm:Int) (tk:List Tk),Blk w b 436 [.slice A L C,.int .i64 at_,.slice T l c,.bool sure,.int .i64 seen,.int .i64 line,.int .i64 frm]/\0<=seen/\seen<=L/\Own base w 422 6 T l c (tk.flatMap h_4)
structure Fr (base:Nat) (w w':World):Prop where
 ext:Ext (fun k=>base<=k) w w'
 kt:∀ T,T≠436->T≠422->KeepT T w w'
theorem Fr.refl (base:Nat)(w:World):Fr base w w:=⟨Ext.refl w,fun T _ _=>(Ext.refl (X:=fun _=>False) w).keepT T⟩
theorem Fr.trans {base:Nat}{w w' w'':World}(h:Fr base w w')(k:Fr base w' w''):Fr base w w'':=⟨h.ext.trans k.ext fun _ _ h=>h,fun T h1 h2 b c fr hb=>k.kt T h1 h2 b c fr (h.kt T h1 h2 b c fr hb)⟩
theorem Fr.of0 {base:Nat}{w w':World}(h:EF w w'):Fr base w w':=⟨h.mono fun _ _ f=>f.elim,fun T _ _=>h.keepT T⟩
theorem Fr.drew {base:Nat}{w:World}(h:Fr base w w1)(e:w2=w1.drew):Fr base w w2:=h.trans (Fr.of0 (by rw [e];exact (Ext.refl w1).drew))
section
variable {base b:Nat} {A:OA} {L C:Nat} {at_:Int} {l:Nat} {seen:Int} {w w':World}
theorem Lx.ext0 (h:Lx base b A L C at_ l seen w)(x:EF w w'):Lx base b A L C at_ l seen w':=by
 obtain ⟨p,ns,hp,hl,ht⟩:=h.text;obtain ⟨T,c,sure,line,frm,tk,hb,h1,h2,ho⟩:=h.blk;exact ⟨h.ge,lt_ h.sz x.size,h.len,⟨p,ns,hp,hl,fun j n hj=>x.at id (ht j n hj)⟩,T,c,sure,line,frm,tk,hb.ext x id,h1,h2,ho.kt (x.keepT _)⟩
theorem Lx.drew (h:Lx base b A L C at_ l seen w)(e:w'=w.drew):Lx base b A L C at_ l seen w':=h.ext0 (by rw [e];exact (Ext.refl w).drew)
theorem Lx.c0 (h:Lx base b A L C at_ l seen w):w.cell? ⟨b,0,none⟩=some (.slice A L C):=by
 obtain ⟨T,c,sure,line,frm,tk,hb,-⟩:=h.blk;exact (hb.at (j:=0) rfl).cell
theorem Lx.c1 (h:Lx base b A L C at_ l seen w):w.cell? ⟨b,1,none⟩=some (.int .i64 at_):=by
 obtain ⟨T,c,sure,line,frm,tk,hb,-⟩:=h.blk;exact (hb.at (j:=1) rfl).cell
theorem Lx.c3 (h:Lx base b A L C at_ l seen w):∃ sure,w.cell? ⟨b,3,none⟩=some (.bool sure):=by
 obtain ⟨T,c,sure,line,frm,tk,hb,-⟩:=h.blk;exact ⟨sure,(hb.at (j:=3) rfl).cell⟩
theorem Lx.c4 (h:Lx base b A L C at_ l seen w):w.cell? ⟨b,4,none⟩=some (.int .i64 seen):=by
 obtain ⟨T,c,sure,line,frm,tk,hb,-⟩:=h.blk;exact (hb.at (j:=4) rfl).cell
theorem Lx.off (h:Lx base b A L C at_ l seen w){j:Nat}(hj:j+1<=7):∃ (cs:Array Value) (T:TypeId),objAt w b=some (.cells cs T (0,0))/\(none:Option Nat)=none/\j+1<=cs.size/\false=false:=by
 obtain ⟨T,c,sure,line,frm,tk,hb,-⟩:=h.blk;exact hb.off (q:=fun _=>false) (by simpa using hj) rfl
theorem Lx.seen' (h:Lx base b A L C at_ l seen w):0<=seen/\seen<=L:=by
 obtain ⟨T,c,sure,line,frm,tk,hb,h1,h2,-⟩:=h.blk;exact ⟨h1,h2⟩
theorem Lx.fr (h:Lx base b A L C at_ l seen w)(j:Nat)(v:Value):Fr base w (w.setCell ⟨b,j,none⟩ v):=by
 obtain ⟨T,c,sure,line,frm,tk,hb,-⟩:=h.blk;have x:Ext (XM b) w (w.setCell ⟨b,j,none⟩ v):=Ext.setCell (X:=XM b) (Ext.refl w) (a:=⟨b,j,none⟩) (.inl rfl) _;exact ⟨x.mono fun k _ e=>by rw [show k=b from e];exact h.ge,fun T h1 _=>x.keepT1 hb h1⟩
theorem Lx.keep (h:Lx base b A L C at_ l seen w)(j:Nat)(v:Value){at' seen':Int}(hs:0<=seen'/\seen'<=L)
  (hset:∀ T c sure line frm,∃ sure' line' frm',[Value.slice A L C,.int .i64 at_,.slice T l c,.bool sure,.int .i64 seen,.int .i64 line,.int .i64 frm].set j v=[.slice A L C,.int .i64 at',.slice T l c,.bool sure',.int .i64 seen',.int .i64 line',.int .i64 frm']):
  Lx base b A L C at' l seen' (w.setCell ⟨b,j,none⟩ v):=by
 have f:=h.fr j v;obtain ⟨p,ns,hp,hl,ht⟩:=h.text;obtain ⟨T,c,sure,line,frm,tk,hb,h1,h2,ho⟩:=h.blk;have x:Ext (XM b) w (w.setCell ⟨b,j,none⟩ v):=Ext.setCell (X:=XM b) (Ext.refl w) (a:=⟨b,j,none⟩) (.inl rfl) _;obtain ⟨sure',line',frm',e⟩:=hset T c sure line frm;refine ⟨h.ge,lt_ h.sz f.ext.size,h.len,⟨p,ns,hp,hl,fun j n hj=>(ht j n hj).kt (f.kt _ (by decide) (by decide))⟩,T,c,sure',line',frm',tk,?_,hs.1,hs.2,ho.kt (x.keepT1 hb (by decide))⟩;have:=hb.set j v
 rwa [e] at this
theorem Lx.set1 (h:Lx base b A L C at_ l seen w)(at':Int):Lx base b A L C at' l seen (w.setCell ⟨b,1,none⟩ (.int .i64 at')):=h.keep 1 _ h.seen' fun _ _ _ _ _=>⟨_,_,_,rfl⟩
theorem Lx.set3 (h:Lx base b A L C at_ l seen w)(s:Bool):Lx base b A L C at_ l seen (w.setCell ⟨b,3,none⟩ (.bool s)):=h.keep 3 _ h.seen' fun _ _ _ _ _=>⟨_,_,_,rfl⟩
theorem Lx.set4 (h:Lx base b A L C at_ l seen w){s:Int}(hs:0<=s/\s<=L):Lx base b A L C at_ l s (w.setCell ⟨b,4,none⟩ (.int .i64 s)):=h.keep 4 _ hs fun _ _ _ _ _=>⟨_,_,_,rfl⟩
theorem Lx.set5 (h:Lx base b A L C at_ l seen w)(s:Int):Lx base b A L C at_ l seen (w.setCell ⟨b,5,none⟩ (.int .i64 s)):=h.keep 5 _ h.seen' fun _ _ _ _ _=>⟨_,_,_,rfl⟩
theorem Lx.set6 (h:Lx base b A L C at_ l seen w)(s:Int):Lx base b A L C at_ l seen (w.setCell ⟨b,6,none⟩ (.int .i64 s)):=h.keep 6 _ h.seen' fun _ _ _ _ _=>⟨_,_,_,rfl⟩
theorem Lx.rune (h:Lx base b A L C at_ l seen w){i:Int}(h0:0<=i)(hi:i<(L:Int)):∃ p n,A=some p/\w.cell? (p.add (i.toNat*1))=some (.int .i32 n):=by
 obtain ⟨p,ns,hp,hl,ht⟩:=h.text;have hp:A=some p:=hp.elim (fun e=>by omega) id;have hlt:i.toNat<ns.length:=by omega
 refine ⟨p,ns[i.toNat],hp,?_⟩;rw [Nat.mul_one];exact (ht _ _ (List.getElem?_eq_getElem hlt)).cell
end
abbrev LxS (base b:Nat)(A:OA)(L C:Nat)(at_:Int)(l:Nat)(w:World):Prop:=∃ seen,Lx base b A L C at_ l seen w
theorem f_c {a b:Int}(h: -4611686018427387904<=a+b)(h':a+b<4611686018427387904):wr (a+b)=a+b:=by
 have e:(a+b) % 2 ^ 64=if 0<=a+b then a+b else a+b+2 ^ 64:=by split<;>omega
 simp only [IntKind.wrap,IntKind.bits,IntKind.signed,e,Bool.true_and,decide_eq_true_eq];split<;>split<;>omega
section
variable {base b:Nat} {A:OA} {L C:Nat} {at_:Int} {l:Nat} {seen:Int} {w w':World}
theorem Lx.inc (h:Lx base b A L C at_ l seen w)(k:Int)(h1: -4611686018427387904<=at_+k)(h2:at_+k<4611686018427387904):Lx base b A L C (at_+k) l seen (w.setCell ⟨b,1,none⟩ (.int .i64 (wr (at_+k)))):=by
 rw [f_c h1 h2];exact h.set1 _
theorem Lx.inc4 (h:Lx base b A L C at_ l seen w)(hs:seen<L):Lx base b A L C at_ l (seen+1) (w.setCell ⟨b,4,none⟩ (.int .i64 (wr (seen+1)))):=by
 have:=h.seen';have:=h.len.1;rw [f_c (by omega) (by omega)];exact h.set4 (by omega)
end
theorem h_w (r:Int)(w:World):CP 233 #[.int .i32 r] w fun e w'=>∃ z,e=.returned (.bool z)/\w'=w:=by
 refine h_R r w _ fun K hK=>?_;have k:∀ z,K z w:=fun z=>hK z w ⟨z,rfl,rfl⟩;exact ⟨fun _=>⟨fun _=>⟨fun _=>k _,fun _=>k _⟩,fun _=>k _⟩,fun _=>k _⟩
theorem n_Q (r:Int)(w:World):CP 235 #[.int .i32 r] w fun e w'=>∃ n,e=.returned (.int .i64 n)/\w'=w:=by
 refine o_2 r w _ ?_
 repeat' first
  | exact ⟨_,rfl,rfl⟩
  | refine And.intro ?_ ?_
  | intro _
theorem f_h {base b:Nat}{A:OA}{L C:Nat}{at_:Int}{l:Nat}{seen:Int}{w:World}(h:Lx base b A L C at_ l seen w){on:Int}(h0:0<=at_)(h1:0<=on)(h2:at_<=4194400)(h3:on<=100):
  CP 236 #[.pointer (some (adr b)),.int .i64 on] w fun e w'=>∃ n,e=.returned (.int .i32 n)/\(n≠0->at_+on<L)/\EF w w':=by
 have hw:wr (at_+on)=at_+on:=f_c (by omega) (by omega);refine f_m (some (adr b)) on w _ fun w3 e3=>?_;have x3:EF w w3:=by rw [e3];exact (Ext.refl w).drew
 have l3:=h.ext0 x3;refine ⟨adr b,rfl,at_,l3.c1,adr b,rfl,A,L,C,l3.c0,fun hlt=>?_,fun hge=>⟨0,rfl,fun h=>absurd rfl h,x3⟩⟩;intro w8 e8;have x8:EF w3 w8:=by rw [e8];exact (Ext.refl w3).drew
 have l8:=l3.ext0 x8;have hlt:=odt hlt;rw [hw] at hlt;obtain ⟨p,n,hp,hc⟩:=l8.rune (i:=at_+on) (by omega) hlt;refine ⟨adr b,rfl,A,L,C,l8.c0,adr b,rfl,at_,l8.c1,p,hp,?_⟩;rw [hw];exact ⟨⟨by omega,hlt⟩,n,hc,trivial,n,rfl,fun _=>hlt,x3.then x8⟩
def msr (L b j:Nat)(w:World):Nat:=match w.cell? ⟨b,j,none⟩ with
 | some (.int _ n)=>((L:Int)-n).toNat
 | _=>0
theorem b_1 {L b j:Nat}{w:World}{n:Int}(h:w.cell? ⟨b,j,none⟩=some (.int .i64 n)):msr L b j w=((L:Int)-n).toNat:=by
 unfold msr;rw [h]
theorem i_g {base b:Nat}{A:OA}{L C:Nat}{at_:Int}{l:Nat}{w:World}(h:LxS base b A L C at_ l w){to:Int}(ht:to<=L):
  CP 240 #[.pointer (some (adr b)),.int .i64 to] w fun e w'=>e=.returned (.tuple #[])/\LxS base b A L C at_ l w'/\Fr base w w':=by
 obtain ⟨s0,h⟩:=h;refine i_I (some (adr b)) to w _ ⟨fun w1=>LxS base b A L C at_ l w1/\Fr base w w1,msr L b 4,⟨⟨s0,h⟩,Fr.refl base w⟩,?_⟩;rintro w5 ⟨⟨seen,l5⟩,f5⟩;obtain ⟨g0,g1⟩:=l5.seen';have hL:=l5.len.1;refine ⟨adr b,rfl,seen,l5.c4,fun hlt=>?_,fun _=>⟨rfl,⟨seen,l5⟩,f5⟩⟩;have hlt:=odt hlt;have hw1:wr (seen+1)=seen+1:=f_c (by omega) (by omega);intro K8 hK8;have key8:∀ w9,Lx base b A L C at_ l seen w9->Fr base w w9->K8 w9:=by
  intro w9 l9 f9;refine hK8 w9 ⟨adr b,rfl,seen,l9.c4,adr b,rfl,l9.off (j:=4) (by omega),trivial,?_⟩;have l13:=l9.inc4 (by omega);refine ⟨⟨⟨_,l13⟩,f9.trans (l9.fr 4 _)⟩,?_⟩;show msr L b 4 (w9.setCell ⟨b,4,none⟩ (.int .i64 (wr (seen+1))))<_;rw [b_1 l13.c4,b_1 l5.c4];omega
 intro w14 e14;have l14:=l5.drew e14;have f14:=f5.drew e14;obtain ⟨p,n,hp,hc⟩:=l14.rune g0 (by omega);refine ⟨adr b,rfl,A,L,C,l14.c0,adr b,rfl,seen,l14.c4,p,hp,⟨g0,by omega⟩,n,hc,trivial,fun K21 hK21=>?_⟩;have key21:∀ z w23,Lx base b A L C at_ l seen w23->Fr base w w23->K21 z w23:=by
  intro z w23 l23 f23;refine hK21 z w23 ⟨fun _=>key8 w23 l23 f23,fun _ K24 hK24=>?_⟩;have key24:∀ z,K24 z w23:=by
   intro z;refine hK24 z w23 ⟨fun _ w27 e27=>?_,fun _=>key8 w23 l23 f23⟩;have l27:=l23.drew e27;have f27:=f23.drew e27;obtain ⟨T,c,sure,line,frm,tk,hb,-⟩:=l27.blk;have l33:=l27.set5 (wr (line+1));have l35:=l33.set6 (wr (seen+1));exact ⟨adr b,rfl,line,(hb.at (j:=5) rfl).cell,adr b,rfl,seen,l27.c4,adr b,rfl,l27.off (j:=5) (by omega),trivial,trivial,adr b,rfl,l33.off (j:=6) (by omega),trivial,trivial,key8 _ l35 ((f27.trans (l27.fr 5 _)).trans (l33.fr 6 _))⟩
  exact ⟨fun _=>key24 _,fun _=>key24 _⟩
 intro w36 e36;have l36:=l14.drew e36;have f36:=f14.drew e36;refine ⟨fun _=>⟨adr b,rfl,seen,l36.c4,adr b,rfl,A,L,C,l36.c0,fun hlt2=>?_,fun _=>key21 _ w36 l36 f36⟩,fun _=>key21 _ w36 l36 f36⟩;have hlt2:=odt hlt2;rw [hw1] at hlt2;obtain ⟨p2,n2,hp2,hc2⟩:=l36.rune (i:=seen+1) (by omega) hlt2;refine ⟨adr b,rfl,A,L,C,l36.c0,adr b,rfl,seen,l36.c4,p2,hp2,?_⟩;rw [hw1];exact ⟨⟨by omega,hlt2⟩,n2,hc2,key21 _ w36 l36 f36⟩
theorem c_O {base b:Nat}{A:OA}{L C:Nat}{at_:Int}{l:Nat}{w:World}(h:LxS base b A L C at_ l w){kind start:Int}{s:BA}(ht:start<=L)(hl:l+1<=16777216):
  CP 234 #[.pointer (some (adr b)),.int .i64 kind,.string s,.int .i64 start] w fun e w'=>e=.returned (.tuple #[])/\LxS base b A L C at_ (l+1) w'/\Fr base w w':=by
 refine k_x (some (adr b)) kind s start w _ ((i_g h ht).mono ?_);rintro _ w6 ⟨rfl,⟨seen,l6⟩,f6⟩;refine ⟨rfl,trivial,fun w7 e7=>?_⟩;have l7:=l6.drew e7;have f7:=f6.drew e7;obtain ⟨p,ns,hp,hln,htx⟩:=l7.text;obtain ⟨T,c,sure,line,frm,tk,hb,h1,h2,ho⟩:=l7.blk;have hx:EF w7 (w7.alloc (.cells (h_4 ⟨kind,s,start,at_,line,wr (wr (start-frm)+1)⟩).toArray 422)):=(Ext.refl w7).alloc _;have B16:=Blk.made w7 422 (h_4 ⟨kind,s,start,at_,line,wr (wr (start-frm)+1)⟩);obtain ⟨T',c',w18,r18,o18,x18,n18⟩:=c_a 418 422 Tryz.t422 _ 6 _ (by kernel_rfl) (by kernel_rfl) rfl (by kernel_rfl) rfl (by kernel_rfl) (by omega) (ho.kt (hx.keepT _)) (lt_ l7.sz hx.size) (p:=adr w7.heap.size) (l':=1) (c':=1)
  (news:=h_4 ⟨kind,s,start,at_,line,wr (wr (start-frm)+1)⟩) rfl (fun j u hj=>by
   rw [adr_add];exact (B16.at hj).cell) (fun u hu=>by
   simp only [mc_,nn_,or_false] at hu;rcases hu with rfl|rfl|rfl|rfl|rfl|rfl<;>rfl) hl (by decide) 418 #[false,false]
 have hT:T≠none->∀ q,T=some q->q.block≠b:=fun _ q hq e=>by
  have:=(ho.base q.block ⟨q,hq,rfl⟩);obtain ⟨g1,g2|⟨g,cap,cur,e1,e2,e3,e4⟩⟩:=ho
  ·rw [hq] at g2;simp at g2
  ·simp only [Value.slice.injEq] at e1;rw [e1.1] at hq;cases hq;have e:g=b:=e;rw [e] at e3;have:=hb.symm.trans e3;simp at this
 have hnb:¬ blkOf T b:=fun ⟨q,hq,e⟩=>hT (by rw [hq];simp) q hq e;have hb18:=(hb.ext hx id).ext x18 hnb;have f18:Fr base w w18:=(f7.trans (Fr.of0 hx)).trans ⟨x18.mono fun k _ e=>(ho.base k e).1,fun T' h1 h2=>(ho.kt (hx.keepT _)).keepT x18 h2⟩;have l18:Lx base b A L C at_ (l+1) seen (w18.setCell ⟨b,2,none⟩ (.slice T' (l+1) c')):=by
  have x20:Ext (XM b) w18 (w18.setCell ⟨b,2,none⟩ (.slice T' (l+1) c')):=Ext.setCell (X:=XM b) (Ext.refl w18) (a:=⟨b,2,none⟩) (.inl rfl) _;refine ⟨l7.ge,lt_ (lt_ (lt_ l7.sz hx.size) x18.size) x20.size,l7.len,⟨p,ns,hp,hln,fun j n hj=>((((htx j n hj).kt (hx.keepT _)).kt ((ho.kt (hx.keepT _)).keepT x18 (by decide))).kt (x20.keepT1 hb18 (by decide)))⟩,T',c',sure,line,frm,tk++[⟨kind,s,start,at_,line,wr (wr (start-frm)+1)⟩],hb18.set 2 _,h1,h2,?_⟩;have:=o18.kt (x20.keepT1 hb18 (by decide));simpa using this
 have fin:Fr base w (w18.setCell ⟨b,2,none⟩ (.slice T' (l+1) c')):=f18.trans (by
  have x20:Ext (XM b) w18 (w18.setCell ⟨b,2,none⟩ (.slice T' (l+1) c')):=Ext.setCell (X:=XM b) (Ext.refl w18) (a:=⟨b,2,none⟩) (.inl rfl) _;exact ⟨x20.mono fun k _ e=>by rw [show k=b from e];exact l7.ge,fun T h1 _=>x20.keepT1 hb18 h1⟩)
 refine ⟨adr b,rfl,T,l,c,(hb.at (j:=2) rfl).cell,adr b,rfl,at_,l7.c1,adr b,rfl,line,(hb.at (j:=5) rfl).cell,adr b,rfl,frm,(hb.at (j:=6) rfl).cell,trivial,trivial,⟨hx.cell_eq id (hb.at (j:=2) rfl).cell,trivial⟩,T',l+1,c',w18,r18,trivial,trivial,adr b,rfl,hb18.off (j:=2) (n:=1) (q:=fun _=>false) (by simp) rfl,trivial,trivial,rfl,⟨seen,l18⟩,fin⟩
theorem c_IsDigit' (r:Int)(w:World):CP 152 #[.int .i32 r] w fun e w'=>∃ z,e=.returned (.bool z)/\(z=true->r≠0)/\w'=w:=by
 refine j_B r w _ fun K hK=>⟨fun h=>hK _ w ⟨_,rfl,fun _=>?_,rfl⟩,fun _=>hK _ w ⟨_,rfl,nofun,rfl⟩⟩;have:=odt h;omega
theorem c_IsStart' (r:Int)(w:World):CP 151 #[.int .i32 r] w fun e w'=>∃ z,e=.returned (.bool z)/\(z=true->r≠0)/\w'=w:=by
 refine g_w r w _ fun K hK=>?_;have k:∀ z,(z=true->r≠0)->K z w:=fun z hz=>hK z w ⟨z,rfl,hz,rfl⟩;refine ⟨fun _=>⟨fun h=>⟨fun _=>⟨fun h=>k _ fun _=>?_,fun _=>k _ nofun⟩,fun _=>k _ fun _=>?_⟩,fun _=>⟨fun h=>k _ fun _=>?_,fun _=>k _ nofun⟩⟩,fun h=>k _ fun _=>?_⟩
 ·have:=odt h;omega
 ·have:=odt h;omega
 ·have:=odt h;omega
 ·have:r=95:=by simpa using h
  omega
theorem c_y {base b:Nat}{A:OA}{L C:Nat}{at_:Int}{l:Nat}{w:World}(h:LxS base b A L C at_ l w)(h0:0<=at_)(h1:at_<=L):
  CP 241 #[.pointer (some (adr b))] w fun e w'=>∃ z at',e=.returned (.bool z)/\at_<=at'/\at'<=L/\(z=true->at_<at')/\LxS base b A L C at' l w'/\Fr base w w':=by
 obtain ⟨s0,h⟩:=h;refine h_k (some (adr b)) w _ ⟨adr b,rfl,at_,h.c1,fun w1=>∃ at',at_<=at'/\at'<=L/\LxS base b A L C at' l w1/\Fr base w w1,msr L b 1,⟨at_,Int.le_refl _,h1,⟨s0,h⟩,Fr.refl base w⟩,?_⟩;rintro w6 ⟨at',g0,g1,⟨seen,l6⟩,f6⟩;have hL:=l6.len.1;refine (f_h l6 (by omega) (by omega) (by omega) (by omega)).mono ?_;rintro _ w8 ⟨n,rfl,hn,x8⟩;have l8:=l6.ext0 x8;refine ⟨n,rfl,trivial,(c_IsDigit' n w8).mono ?_⟩;rintro _ w11 ⟨z,rfl,hz0,rfl⟩;have l11:=l8;have f11:=f6.trans (Fr.of0 x8);refine ⟨z,rfl,trivial,fun hz=>?_,fun _=>⟨adr b,rfl,at',l11.c1,_,at',rfl,g0,g1,fun hz=>by simpa using hz,⟨seen,l11⟩,f11⟩⟩;have hlt:at'<L:=by
  have:=hn (hz0 hz);omega
 have l16:=l11.inc 1 (by omega) (by omega);refine ⟨adr b,rfl,at',l11.c1,adr b,rfl,l11.off (j:=1) (by omega),trivial,⟨at'+1,by omega,by omega,⟨seen,l16⟩,f11.trans (l11.fr 1 _)⟩,?_⟩;show msr L b 1 (w11.setCell ⟨b,1,none⟩ (.int .i64 (wr (at'+1))))<_;rw [b_1 l16.c1,b_1 l6.c1];omega
theorem j_k {w:World}(l c:Nat):(convert 434 9 (.slice none l c)).run Tryz.prog w=.ok (.string .empty) w:=run_convert_runes_nil w 434 9 21 l c (by kernel_rfl) (by kernel_rfl) (by kernel_rfl)
theorem Lx.conv {base b:Nat}{A:OA}{L C:Nat}{at_:Int}{l:Nat}{seen:Int}{w:World}(h:Lx base b A L C at_ l seen w){i j:Int}(h0:0<=i)(h1:i<=j)(h2:j<=L):
  ∃ s,(convert 434 9 (.slice (if C=i.toNat then A else Option.map (fun x:Addr=>x.add (i.toNat*1)) A) (j.toNat-i.toNat) (C-i.toNat))).run Tryz.prog w=.ok (.string s) w:=by
 obtain ⟨p,ns,hp,hl,ht⟩:=h.text;have hC:=h.len.2;cases A with
 | none=>
  refine ⟨.empty,?_⟩;have:(if C=i.toNat then (none:OA) else Option.map (fun x:Addr=>x.add (i.toNat*1)) none)=none:=by split<;>rfl
  rw [this];exact j_k _ _
 | some q=>
  have:∃ q',(if C=i.toNat then some q else Option.map (fun x:Addr=>x.add (i.toNat*1)) (some q))=some q'/\(i<j->q'=q.add i.toNat):=by
   split
   ·exact ⟨q,rfl,fun hlt=>by omega⟩
   ·exact ⟨_,rfl,fun _=>by rw [Nat.mul_one]⟩
  obtain ⟨q',hq',hqa⟩:=this;rw [hq'];rcases (by omega:i<j∨j<=i) with hlt|hge
  ·have hpq:p=q:=by
    rcases hp with e|e
    ·omega
    ·exact (Option.some.inj e).symm
   refine ⟨_,run_convert_runes w 434 9 21 q' (j.toNat-i.toNat) (C-i.toNat) (ns.drop i.toNat) (by rw [List.length_drop];omega) (by kernel_rfl) (by kernel_rfl) (by kernel_rfl) fun k hk=>?_⟩;rw [List.length_drop] at hk;rw [hqa hlt,<- hpq,add_add'];have hk':i.toNat+k<ns.length:=by omega
   have:=(ht (i.toNat+k) ns[i.toNat+k] (List.getElem?_eq_getElem hk')).cell;rw [this,List.getD_eq_getElem?_getD,List.getElem?_drop,List.getElem?_eq_getElem hk'];rfl
  ·exact ⟨_,run_convert_runes w 434 9 21 q' (j.toNat-i.toNat) (C-i.toNat) [] (by simp;omega) (by kernel_rfl) (by kernel_rfl) (by kernel_rfl) fun k hk=>by simp at hk⟩
abbrev TokR (base b:Nat)(A:OA)(L C:Nat)(at_:Int)(l:Nat)(w:World)(e:Ending)(w':World):Prop:=
 ∃ (z:Bool) (at':Int) (l':Nat),e=.returned (.bool z)/\LxS base b A L C at' l' w'/\Fr base w w'/\(z=true->at_<at'/\at'<=L/\l'<=l+1)
section
variable {base b:Nat} {A:OA} {L C:Nat} {at_:Int} {l:Nat} {w:World}
theorem peek {at_:Int}{w:World}(h:LxS base b A L C at_ l w){on:Int}(h0:0<=at_)(h1:0<=on)(h2:at_<=4194400)(h3:on<=100):
  CP 236 #[.pointer (some (adr b)),.int .i64 on] w fun e w'=>∃ n,e=.returned (.int .i32 n)/\(n≠0->at_+on<L)/\LxS base b A L C at_ l w'/\Fr base w w'/\EF w w':=by
 obtain ⟨seen,h⟩:=h;refine (f_h h h0 h1 h2 h3).mono ?_;rintro _ w' ⟨n,rfl,hn,x⟩;exact ⟨n,rfl,hn,⟨seen,h.ext0 x⟩,Fr.of0 x,x⟩
theorem g_8 (h:LxS base b A L C at_ l w)(hL:L<=4194304)(h0:0<=at_)(h1:at_<=L)(hl:l+1<=16777216):
  CP 237 #[.pointer (some (adr b))] w fun e w'=>TokR base b A L C at_ l w e w':=by
 have hc1:w.cell? ⟨b,1,none⟩=some (.int .i64 at_):=h.choose_spec.c1;refine h_m (some (adr b)) w _ ⟨adr b,rfl,at_,hc1,fun K4 hK4=>?_⟩;have key4:∀ (at':Int) w5,at_<=at'->at'<=L->LxS base b A L C at' l w5->Fr base w w5->K4 w5:=by
  intro at5 w5 ha hb l5 f5;refine hK4 w5 fun K6 hK6=>?_;have key6:∀ z (at':Int) w8,(z=false->at_<at')->0<=at'->at'<=L->LxS base b A L C at' l w8->Fr base w w8->K6 z w8:=by
   intro z at8 w8 hz ha hb l8 f8;refine hK6 z w8 ⟨fun _=>⟨false,at8,l,rfl,l8,f8,nofun⟩,fun hzf=>?_⟩;have hlt8:=hz hzf;intro K9 hK9;have key9:∀ k (at':Int) w11,at_<at'->at'<=L->LxS base b A L C at' l w11->Fr base w w11->K9 k w11:=by
    intro k at11 w11 ha hb l11 f11;refine hK9 k w11 fun K12 hK12=>?_;have key12:∀ k (at':Int) w14,at_<at'->at'<=L->LxS base b A L C at' l w14->Fr base w w14->K12 k w14:=by
     intro k at14 w14 ha hb l14 f14;refine hK12 k w14 fun K15 hK15=>?_;have key15:∀ w16,LxS base b A L C at14 l w16->Fr base w w16->K15 w16:=by
      intro w16 l16 f16;refine hK15 w16 fun w17 e17=>?_;obtain ⟨seen,l16⟩:=l16;have l17:=l16.drew e17;have f17:=f16.drew e17;obtain ⟨s,hs⟩:=l17.conv h0 (Int.le_of_lt ha) hb;refine ⟨adr b,rfl,A,L,C,l17.c0,adr b,rfl,at14,l17.c1,⟨h0,Int.le_of_lt ha,by have:=l17.len.2;omega⟩,s,w17,hs,trivial,trivial,?_⟩;refine (c_O ⟨seen,l17⟩ (by omega) hl).mono ?_;rintro _ w25 ⟨rfl,l25,f25⟩;exact ⟨rfl,trivial,trivial,true,at14,l+1,rfl,l25,f17.trans f25,fun _=>⟨ha,hb,Nat.le_refl _⟩⟩
     intro K26 hK26;have key26:∀ z w28,LxS base b A L C at14 l w28->Fr base w w28->K26 z w28:=by
      intro z w28 l28 f28;obtain ⟨seen,l28⟩:=l28;exact hK26 z w28 ⟨fun _=>⟨adr b,rfl,l28.off (j:=3) (by omega),trivial,key15 _ ⟨seen,l28.set3 false⟩ (f28.trans (l28.fr 3 _))⟩,fun _=>key15 _ ⟨seen,l28⟩ f28⟩
     refine (peek l14 (by omega) (by omega) (by omega) (by omega)).mono ?_;rintro _ w32 ⟨n,rfl,-, l32,f32,-⟩;refine ⟨n,rfl,trivial,(c_IsStart' n w32).mono ?_⟩;rintro _ _ ⟨z,rfl,-, rfl⟩;refine ⟨z,rfl,trivial,fun _=>?_,fun _=>key26 _ _ l32 (f14.trans f32)⟩;refine (peek l32 (by omega) (by omega) (by omega) (by omega)).mono ?_;rintro _ w38 ⟨n,rfl,-, l38,f38,-⟩;exact ⟨n,rfl,trivial,key26 _ _ l38 ((f14.trans f32).trans f38)⟩
    intro K40 hK40;have key40:∀ z w42,(z=true->at11<L)->LxS base b A L C at11 l w42->Fr base w w42->K40 z w42:=by
     intro z w42 hz l42 f42;refine hK40 z w42 ⟨fun hzt=>?_,fun _=>key12 k at11 w42 ha hb l42 f42⟩;have hlt:=hz hzt;obtain ⟨seen,l42⟩:=l42;have l46:=l42.inc 1 (by omega) (by omega);have f46:=f42.trans (l42.fr 1 (.int .i64 (wr (at11+1))));refine ⟨adr b,rfl,at11,l42.c1,adr b,rfl,l42.off (j:=1) (by omega),trivial,fun K47 hK47=>?_⟩;have key47:∀ (at':Int) w48,at_<at'->at'<=L->LxS base b A L C at' l w48->Fr base w w48->K47 w48:=by
      intro at48 w48 ha hb l48 f48;refine hK47 w48 ((c_y l48 (by omega) hb).mono ?_);rintro _ w50 ⟨z,at50,rfl,g0,g1,g2,l50,f50⟩;exact ⟨z,rfl,trivial,fun _=>⟨false,at50,l,rfl,l50,f48.trans f50,nofun⟩,fun _=>key12 17 at50 w50 (by omega) g1 l50 (f48.trans f50)⟩
     intro K52 hK52;have key52:∀ z w54,(z=true->at11+1<L)->LxS base b A L C (at11+1) l w54->Fr base w w54->K52 z w54:=by
      intro z w54 hz l54 f54;refine hK52 z w54 ⟨fun hzt=>?_,fun _=>key47 (at11+1) w54 (by omega) (by omega) l54 f54⟩;have hlt:=hz hzt;obtain ⟨seen,l54⟩:=l54;exact ⟨adr b,rfl,at11+1,l54.c1,adr b,rfl,l54.off (j:=1) (by omega),trivial,key47 (at11+1+1) _ (by omega) (by omega) ⟨seen,l54.inc 1 (by omega) (by omega)⟩ (f54.trans (l54.fr 1 _))⟩
     refine (peek ⟨seen,l46⟩ (by omega) (by omega) (by omega) (by omega)).mono ?_;rintro _ w60 ⟨n,rfl,hn,l60,f60,-⟩;refine ⟨n,rfl,trivial,fun he=>?_,fun he=>key52 _ w60 (fun _=>?_) l60 (f46.trans f60)⟩
     ·refine (peek l60 (by omega) (by omega) (by omega) (by omega)).mono ?_;rintro _ w63 ⟨n,rfl,hn,l63,f63,-⟩;refine ⟨n,rfl,trivial,key52 _ w63 (fun hz=>?_) l63 ((f46.trans f60).trans f63)⟩;have:n=45:=by simpa using hz
      have:=hn (by omega);omega
     ·have:n=43:=by simpa using he
      have:=hn (by omega);omega
    refine (peek l11 (by omega) (by omega) (by omega) (by omega)).mono ?_;rintro _ w66 ⟨n,rfl,hn,l66,f66,-⟩;refine ⟨n,rfl,trivial,fun he=>?_,fun he=>key40 _ w66 (fun _=>?_) l66 (f11.trans f66)⟩
    ·refine (peek l66 (by omega) (by omega) (by omega) (by omega)).mono ?_;rintro _ w69 ⟨n,rfl,hn,l69,f69,-⟩;refine ⟨n,rfl,trivial,key40 _ w69 (fun hz=>?_) l69 ((f11.trans f66).trans f69)⟩;have:n=69:=by simpa using hz
     have:=hn (by omega);omega
    ·have:n=101:=by simpa using he
     have:=hn (by omega);omega
   refine (peek l8 (by omega) (by omega) (by omega) (by omega)).mono ?_;rintro _ w72 ⟨n,rfl,hn,l72,f72,-⟩;refine ⟨n,rfl,trivial,fun he=>?_,fun _=>key9 16 at8 w72 hlt8 hb l72 (f8.trans f72)⟩;have:n=46:=by simpa using he
   have hlt:=hn (by omega);obtain ⟨seen,l72⟩:=l72;refine ⟨adr b,rfl,at8,l72.c1,adr b,rfl,l72.off (j:=1) (by omega),trivial,?_⟩;refine (c_y ⟨seen,l72.inc 1 (by omega) (by omega)⟩ (by omega) (by omega)).mono ?_;rintro _ w79 ⟨z,at79,rfl,g0,g1,g2,l79,f79⟩;have f:=((f8.trans f72).trans (l72.fr 1 _)).trans f79;exact ⟨z,rfl,trivial,fun _=>⟨false,at79,l,rfl,l79,f,nofun⟩,fun _=>key9 17 at79 w79 (by omega) g1 l79 f⟩
  refine (peek l5 (by omega) (by omega) (by omega) (by omega)).mono ?_;rintro _ w82 ⟨n,rfl,hn,l82,f82,-⟩;have dig:∀ w88,LxS base b A L C at5 l w88->Fr base w w88->CP 241 #[.pointer (some (adr b))] w88 fun e w'=>∃ z:Bool,e=.returned (.bool z)/\True/\K6 (!z) w':=by
   intro w88 l88 f88;refine (c_y l88 (by omega) hb).mono ?_;rintro _ w91 ⟨z,at91,rfl,g0,g1,g2,l91,f91⟩;exact ⟨z,rfl,trivial,key6 _ at91 w91 (fun hz=>by
    have:=g2 (by simpa using hz);omega) (by omega) g1 l91 (f88.trans f91)⟩
  refine ⟨n,rfl,trivial,fun he=>?_,fun _=>dig w82 l82 (f5.trans f82)⟩;refine (peek l82 (by omega) (by omega) (by omega) (by omega)).mono ?_;rintro _ w85 ⟨n,rfl,-, l85,f85,-⟩;refine ⟨n,rfl,trivial,(c_IsDigit' n w85).mono ?_⟩;rintro _ _ ⟨z,rfl,-, rfl⟩;exact ⟨z,rfl,trivial,fun _=>dig _ l85 ((f5.trans f82).trans f85),fun _=>key6 true at5 _ nofun (by omega) hb l85 ((f5.trans f82).trans f85)⟩
 refine (peek h (by omega) (by omega) (by omega) (by omega)).mono ?_;rintro _ w97 ⟨n,rfl,hn,l97,f97,-⟩;refine ⟨n,rfl,trivial,fun he=>?_,fun _=>key4 at_ w97 (Int.le_refl _) h1 l97 f97⟩;have:n=45:=by simpa using he
 have hlt:=hn (by omega);obtain ⟨seen,l97⟩:=l97;exact ⟨adr b,rfl,at_,l97.c1,adr b,rfl,l97.off (j:=1) (by omega),trivial,key4 (at_+1) _ (by omega) (by omega) ⟨seen,l97.inc 1 (by omega) (by omega)⟩ (f97.trans (l97.fr 1 _))⟩
end
abbrev runes (ns:List Int):List Value:=ns.map (Value.int .i32)
theorem f_L {w:World}{l:Nat}{ns:List Int}(ho:Own bs w 21 1 out l c (runes ns))(hb:bs<=w.heap.size)(news:List Int)(hn:0<news.length)(hl:l+news.length<=16777216):
  ∃ (A:OA) (C:Nat) (w':World),(Go.builtin .append #[434,434] 434 #[false,false] #[.slice out l c,.slice (some (adr w.heap.size)) news.length news.length]).run Tryz.prog (w.alloc (.cells (runes news).toArray 21))=.ok (.value (.slice A (l+news.length) C)) w'/\
   Own bs w' 21 1 A (l+news.length) C (runes (ns++news))/\Ext (blkOf out) w w':=by
 have hx:EF w (w.alloc (.cells (runes news).toArray 21)):=(Ext.refl w).alloc _;have B:=Blk.made w 21 (runes news);obtain ⟨A,C,w',r,o,x,-⟩:=c_a 434 21 Tryz.t21 _ 1 _ (by kernel_rfl) (by kernel_rfl) rfl (by kernel_rfl) rfl (by kernel_rfl) (by omega) (ho.kt (hx.keepT _)) (lt_ hb hx.size) (p:=adr w.heap.size) (l':=news.length) (c':=news.length)
  (news:=runes news) (by simp) (fun j u hj=>by
   rw [adr_add];exact (B.at hj).cell) (fun u hu=>by
   obtain ⟨n,-, rfl⟩:=mm_.1 hu;rfl) hl (by decide) 434 #[false,false]
 refine ⟨A,C,w',r,?_,(hx.mono fun _ _ f=>f.elim).trans x fun _ _ e=>e⟩;have e:runes (ns++news)=runes ns++runes news:=by simp [runes]
 rw [e];exact o
theorem i_l {w:World}{l:Nat}{ns:List Int}(ho:Own bs w 21 1 out l c (runes ns)):∃ s,(convert 434 9 (.slice out l c)).run Tryz.prog w=.ok (.string s) w/\s.size<=4*l:=by
 have hlen:=ho.len.1;rw [Nat.mul_one,List.length_map] at hlen;cases out with
 | none=>exact ⟨.empty,j_k _ _,by simp⟩
 | some p=>
  refine ⟨_,run_convert_runes w 434 9 21 p l c ns (by omega) (by kernel_rfl) (by kernel_rfl) (by kernel_rfl) fun k hk=>?_,?_⟩
  ·have hk':(runes ns)[k]? =some (.int .i32 ns[k]):=by simp [runes,List.getElem?_eq_getElem hk]
   obtain ⟨q,hq,ha⟩:=ho.at hk';cases hq;rw [ha.cell,List.getD_eq_getElem?_getD,List.getElem?_eq_getElem hk];rfl
  ·have:=runesBytes_size_le (ns.take l);have h2:(ns.take l).length<=l:=List.length_take_le _ _;omega
section
variable {base b:Nat} {A:OA} {L C:Nat} {at_:Int} {l:Nat} {w:World}
theorem Fr.own (h:Fr base w w1)(hb:base<=w.heap.size){T:Nat}(ho:Own w.heap.size w1 T n out ol oc xs)(x:Ext (blkOf out) w1 w2):Fr base w w2:=by
 refine ⟨h.ext.trans x fun k hk e=>lt_ hb (ho.base k e).1,fun T' h1 h2 k c fr hk=>?_⟩;have hlt:=a_3 hk;exact x.old k _ (fun e=>by
  have:=(ho.base k e).1;omega) (h.kt T' h1 h2 k c fr hk)
theorem Lx.own {at':Int}{l':Nat}{s s':Int}(h:Lx base b A L C at_ l s w)(h1:Lx base b A L C at' l' s' w1)(f:Fr base w w1)(ho:Own w.heap.size w1 21 n out ol oc xs)(x:Ext (blkOf out) w1 w2):Lx base b A L C at' l' s' w2:=by
 have f2:=f.own h.sz ho x;obtain ⟨p,ns,hp,hl,ht⟩:=h.text;obtain ⟨T,c,sure,line,frm,tk,hb,g1,g2,hto⟩:=h1.blk;exact ⟨h.ge,lt_ h1.sz x.size,h.len,⟨p,ns,hp,hl,fun j n hj=>(ht j n hj).kt (f2.kt _ (by decide) (by decide))⟩,T,c,sure,line,frm,tk,ho.keepT x (by decide) _ _ _ hb,g1,g2,hto.kt (ho.keepT x (by decide))⟩
theorem Own.fr (ho:Own bs w1 21 n out ol oc xs)(f:Fr base w1 w2):Own bs w2 21 n out ol oc xs:=ho.kt (f.kt _ (by decide) (by decide))
theorem p_f (r:Int)(w:World):CP 247 #[.int .i32 r] w fun e w'=>∃ n,e=.returned (.int .i64 n)/\(0<=n->r≠0)/\w'=w:=by
 refine p_l r w _ ((c_IsDigit' r w).mono ?_);rintro _ w3 ⟨z,rfl,hz,h3⟩;rw [h3];refine ⟨z,rfl,trivial,fun h=>⟨_,rfl,fun _=>hz h,rfl⟩,fun _ K5 hK5=>?_⟩;have key5:∀ z,(z=true->r≠0)->K5 z w:=by
  intro z hz;refine hK5 z w ⟨fun h=>⟨_,rfl,fun _=>hz h,rfl⟩,fun _ K8 hK8=>?_⟩;have key8:∀ z,(z=true->r≠0)->K8 z w:=fun z hz=>hK8 z w ⟨fun h=>⟨_,rfl,fun _=>hz h,rfl⟩,fun _=>⟨-1,rfl,fun h=>absurd h (by decide),rfl⟩⟩;exact ⟨fun h=>key8 _ fun _=>by
   have:=odt h;omega,fun _=>key8 _ nofun⟩
 exact ⟨fun h=>key5 _ fun _=>by
  have:=odt h;omega,fun _=>key5 _ nofun⟩
theorem g_7 (h:LxS base b A L C at_ l w)(hL:L<=4194304)(h0:0<=at_)(h1:at_<=L):
  CP 244 #[.pointer (some (adr b))] w fun e w'=>∃ n z at',e=.returned (.tuple #[.int .i32 n,.bool z])/\LxS base b A L C at' l w'/\Fr base w w'/\(z=true->at_<=at'/\at'<=L):=by
 refine h_l (some (adr b)) w _ ((peek h h0 (by omega) (by omega) (by omega)).mono ?_);rintro _ w3 ⟨n4,rfl,hn,⟨seen,l3⟩,f3,-⟩;have l8:=l3.inc 1 (by omega) (by omega);have f8:=f3.trans (l3.fr 1 (.int .i64 (wr (at_+1))));refine ⟨n4,rfl,trivial,adr b,rfl,at_,l3.c1,adr b,rfl,l3.off (j:=1) (by omega),trivial,fun K9 hK9=>?_⟩;have ok:n4≠0->∀ m:Int,∃ n z at',Ending.returned (.tuple #[.int .i32 m,.bool true])=.returned (.tuple #[.int .i32 n,.bool z])/\LxS base b A L C at' l (w3.setCell ⟨b,1,none⟩ (.int .i64 (wr (at_+1))))/\Fr base w (w3.setCell ⟨b,1,none⟩ (.int .i64 (wr (at_+1))))/\(z=true->at_<=at'/\at'<=L):=by
  intro hne m;have:=hn hne;exact ⟨m,true,at_+1,rfl,⟨seen,l8⟩,f8,fun _=>⟨by omega,by omega⟩⟩
 have bad:∀ (m at':Int) w',LxS base b A L C at' l w'->Fr base w w'->∃ n z at',Ending.returned (.tuple #[.int .i32 m,.bool false])=.returned (.tuple #[.int .i32 n,.bool z])/\LxS base b A L C at' l w'/\Fr base w w'/\(z=true->at_<=at'/\at'<=L):=
  fun m at' w' l' f'=>⟨m,false,at',rfl,l',f',nofun⟩
 have ne:∀ {k:Int},(n4==k)=true->k≠0->n4≠0:=fun {k} h hk=>by
  have:n4=k:=by simpa using h
  omega
 have key9:∀ z,(z=true->n4≠0)->K9 z (w3.setCell ⟨b,1,none⟩ (.int .i64 (wr (at_+1)))):=by
  intro z hz;refine hK9 z _ ⟨fun h=>ok (hz h) _,fun _=>⟨fun h=>ok (ne h (by decide)) _,fun _=>⟨fun h=>ok (ne h (by decide)) _,fun _=>⟨fun h=>ok (ne h (by decide)) _,fun _=>⟨fun h=>ok (ne h (by decide)) _,fun _=>⟨fun h=>ok (ne h (by decide)) _,fun _=>⟨fun hu=>?_,fun _=>bad _ _ _ ⟨seen,l8⟩ f8⟩⟩⟩⟩⟩⟩⟩;have hlt:=hn (ne hu (by decide));refine (peek ⟨seen,l8⟩ (by omega) (by omega) (by omega) (by omega)).mono ?_;rintro _ w13 ⟨n14,rfl,hn14,⟨s13,l13⟩,f13,-⟩;have g13:=f8.trans f13;refine ⟨n14,rfl,trivial,fun _=>⟨adr b,rfl,l13.off (j:=3) (by omega),trivial,bad _ _ _ ⟨s13,l13.set3 false⟩ (g13.trans (l13.fr 3 _))⟩,fun _=>?_⟩;refine ⟨fun _ i w1=>0<=i/\i<=4/\∃ at',at_<=at'/\at'<=L/\LxS base b A L C at' l w1/\Fr base w w1,fun _ i _=>((4:Int)-i).toNat,⟨by omega,by omega,at_+1,by omega,by omega,⟨s13,l13⟩,g13⟩,?_⟩;rintro n19 i w21 ⟨i0,i1,at',a0,a1,l21,f21⟩;refine ⟨fun hlt4=>?_,fun _=>?_⟩
  ·have hlt4:=odt hlt4;refine (peek l21 (by omega) (by omega) (by omega) (by omega)).mono ?_;rintro _ w23 ⟨n24,rfl,hn24,l23,f23,-⟩;have g23:=f21.trans f23;refine ⟨n24,rfl,trivial,?_⟩;refine (p_f n24 w23).mono ?_;rintro _ w26 ⟨n27,rfl,hx,h26⟩;rw [h26];refine ⟨n27,rfl,trivial,fun _=>bad _ _ _ l23 g23,fun hge=>?_⟩;have hge:=odf hge;have hlt2:=hn24 (hx (by omega));obtain ⟨s23,l23⟩:=l23;refine ⟨adr b,rfl,at',l23.c1,adr b,rfl,l23.off (j:=1) (by omega),trivial,?_⟩;rw [show wr (i+1)=i+1 from a_a i0 (by omega)];exact ⟨⟨by omega,by omega,at'+1,by omega,by omega,⟨s23,l23.inc 1 (by omega) (by omega)⟩,g23.trans (l23.fr 1 _)⟩,by show ((4:Int)-(i+1)).toNat<((4:Int)-i).toNat;omega⟩
  ·intro K32 hK32;have key32:∀ w',LxS base b A L C at' l w'->Fr base w w'->K32 w':=fun w' l' f'=>hK32 w' ⟨_,true,at',rfl,l',f',fun _=>⟨a0,a1⟩⟩;intro K34 hK34;have key34:∀ z,K34 z w21:=by
    intro z;obtain ⟨s21,l21⟩:=l21;exact hK34 z w21 ⟨fun _=>⟨adr b,rfl,l21.off (j:=3) (by omega),trivial,key32 _ ⟨s21,l21.set3 false⟩ (f21.trans (l21.fr 3 _))⟩,fun _=>key32 _ ⟨s21,l21⟩ f21⟩
   exact ⟨fun _=>key34 _,fun _=>key34 _⟩
 exact ⟨fun h=>key9 true fun _=>ne h (by decide),fun _=>⟨fun h=>key9 true fun _=>ne h (by decide),fun _=>key9 _ fun h=>ne h (by decide)⟩⟩
structure Gt (base b:Nat) (A:OA) (L C:Nat) (at_:Int) (l:Nat) (w:World) (out:OA) (ol oc:Nat) (w1:World):Prop where
 st:∃ at',at_<at'/\at'<=L/\LxS base b A L C at' l w1/\(ol:Int)<=at'
 fr:Fr base w w1
 own:∃ ns,Own w.heap.size w1 21 1 out ol oc (runes ns)
theorem g_9 (h:LxS base b A L C at_ l w)(h0:0<=at_)(h1:at_<L)(hl:l+1<=16777216):
  CP 239 #[.pointer (some (adr b))] w fun e w'=>TokR base b A L C at_ l w e w':=by
 obtain ⟨s0,h⟩:=h;have hL:=h.len.1;have hsz:=h.sz;have l7:=h.inc 1 (by omega) (by omega);have f7:=h.fr 1 (.int .i64 (wr (at_+1)));refine h_n (some (adr b)) w _ ⟨adr b,rfl,at_,h.c1,adr b,rfl,at_,h.c1,adr b,rfl,h.off (j:=1) (by omega),trivial,?_⟩;refine ⟨fun out ol oc w1=>Gt base b A L C at_ l w out ol oc w1,fun _ _ _ w1=>msr L b 1 w1,⟨⟨at_+1,by omega,by omega,⟨s0,l7⟩,by omega⟩,f7,[],Own.nil ..⟩,?_⟩;rintro out ol oc w11 ⟨⟨at',a0,a1,⟨s11,l11⟩,hol⟩,f11,ns,ho⟩;intro w12 e12;have l12:=l11.drew e12;have f12:=f11.drew e12;have ho12:Own w.heap.size w12 21 1 out ol oc (runes ns):=ho.fr (Fr.drew (Fr.refl base w11) e12);refine ⟨adr b,rfl,at',l12.c1,adr b,rfl,A,L,C,l12.c0,fun hlt=>?_,fun _=>⟨false,at',l,rfl,⟨s11,l12⟩,f12,nofun⟩⟩;have hlt:=odt hlt;intro w17 e17;have l17:=l12.drew e17;have f17:=f12.drew e17;have ho17:Own w.heap.size w17 21 1 out ol oc (runes ns):=ho12.fr (Fr.drew (Fr.refl base w12) e17);obtain ⟨p,r,hp,hc⟩:=l17.rune (i:=at') (by omega) hlt;have l27:=l17.inc 1 (by omega) (by omega);have g27:=l17.fr 1 (.int .i64 (wr (at'+1)));have f27:=f17.trans g27;have ho27:=ho17.fr g27;refine ⟨adr b,rfl,A,L,C,l17.c0,adr b,rfl,at',l17.c1,p,hp,⟨by omega,hlt⟩,r,hc,trivial,adr b,rfl,at',l17.c1,adr b,rfl,l17.off (j:=1) (by omega),trivial,fun _=>?_,fun _=>?_⟩
 ·obtain ⟨s,hs,-⟩:=i_l ho27;refine ⟨s,_,hs,trivial,?_⟩;refine (c_O ⟨s11,l27⟩ (by omega) hl).mono ?_;rintro _ w31 ⟨rfl,l31,f31⟩;exact ⟨rfl,trivial,true,at'+1,l+1,rfl,l31,f27.trans f31,fun _=>⟨by omega,by omega,Nat.le_refl _⟩⟩
 ·intro K32 hK32;have hm11:msr L b 1 w11=((L:Int)-at').toNat:=b_1 l11.c1;have key32:∀ z w34,LxS base b A L C (at'+1) l w34->Fr base w w34->Own w.heap.size w34 21 1 out ol oc (runes ns)->K32 z w34:=by
   intro z w34 l34 f34 o34;refine hK32 z w34 ⟨fun _=>⟨false,at'+1,l,rfl,l34,f34,nofun⟩,fun _=>⟨fun _=>?_,fun _=>?_⟩⟩
   ·refine (g_7 l34 hL (by omega) (by omega)).mono ?_;rintro _ w36 ⟨n,z,at'',rfl,l36,f36,hz⟩;have g36:=f34.trans f36;refine ⟨n,z,rfl,trivial,fun _=>⟨false,at'',l,rfl,l36,g36,nofun⟩,fun hzt=>?_⟩;have hz:=hz (by simpa using hzt);have o36:=o34.fr f36;obtain ⟨A',C',w41,r41,o41,x41⟩:=f_L o36 g36.ext.size [n] (by simp) (by simp;omega);obtain ⟨s36,l36⟩:=l36;have l41:=Lx.own h l36 g36 o36 x41;refine ⟨trivial,A',ol+1,C',w41,r41,trivial,⟨⟨at'',by omega,hz.2,⟨s36,l41⟩,by omega⟩,g36.own hsz o36 x41,_,o41⟩,?_⟩;show msr L b 1 w41<msr L b 1 w11;rw [hm11,b_1 l41.c1];omega
   ·obtain ⟨A',C',w44,r44,o44,x44⟩:=f_L o34 f34.ext.size [r] (by simp) (by simp;omega);obtain ⟨s34,l34⟩:=l34;have l44:=Lx.own h l34 f34 o34 x44;refine ⟨trivial,A',ol+1,C',w44,r44,trivial,⟨⟨at'+1,by omega,by omega,⟨s34,l44⟩,by omega⟩,f34.own hsz o34 x44,_,o44⟩,?_⟩;show msr L b 1 w44<msr L b 1 w11;rw [hm11,b_1 l44.c1];omega
  refine ⟨fun _=>⟨fun _=>?_,fun _=>key32 _ _ ⟨s11,l27⟩ f27 ho27⟩,fun _=>key32 _ _ ⟨s11,l27⟩ f27 ho27⟩;refine (h_w r _).mono ?_;rintro _ w46 ⟨z,rfl,h46⟩;rw [h46];exact ⟨z,rfl,trivial,key32 _ _ ⟨s11,l27⟩ f27 ho27⟩
end
end Go.VC
