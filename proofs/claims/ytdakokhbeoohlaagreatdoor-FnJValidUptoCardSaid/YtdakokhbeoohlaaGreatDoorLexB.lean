/- Part of the proof of a law of a rule over documents (LexB), where what the arguments hold is of bulk at most 1048576. -/
import Derived.Test.YtdakokhbeoohlaaGreatDoorLexA
import Derived.Laws.Small
set_option linter.unusedVariables false
set_option linter.unusedSectionVars false
namespace Go.VC
open Go Go.Proofs
variable [DB]
abbrev strs (xs:List BA):List Value:=xs.map Value.string
def LsW (base:Nat)(w:World)(A:OA)(l c M:Nat):Prop:=l<=c/\(l=0∨∃ (p:Addr) (cs:Array Value),A=some p/\p.spot=none/\base<=p.block/\objAt w p.block=some (.cells cs 9 (0,0))/\∀ i,i<l->∃ s:BA,cs[p.off+i]? =some (.string s)/\s.size<=M)
theorem LsW.of {base:Nat}{w:World}{A:OA}{l c M:Nat}{xs:List BA}(h:Own base w 9 1 A l c (strs xs))(hx:∀ x∈xs,x.size<=M):LsW base w A l c M:=by
 have hl:=h.len;have hxl:xs.length=l:=by simpa using hl.1
 refine ⟨hl.2,?_⟩;have hat:∀ {j:Nat} {u:Value},(strs xs)[j]? =some u->∃ p,A=some p/\At w 9 (p.add j) u:=fun hu=>h.at hu;rcases Nat.eq_zero_or_pos l with h0|h0
 ·exact .inl h0
 ·right;have h0':0<xs.length:=by omega
  obtain ⟨p,hp,ha⟩:=hat (j:=0) (u:=.string xs[0]) (by simp [strs,List.getElem?_eq_getElem h0']);obtain ⟨cs,fr,o,hs,hc⟩:=ha;have hb:=(h.base p.block ⟨p,hp,rfl⟩).1;have e0:p.add 0=p:=by simp [Addr.add]
  rw [e0] at o hs hc;have hfr:fr=(0,0):=by
   obtain ⟨g1,g2|⟨g,cap,cur,e1,e2,e3,e4⟩⟩:=h
   ·obtain ⟨e,-⟩:=g2;rw [hp] at e;simp at e
   ·simp only [Value.slice.injEq] at e1;rw [e1.1] at hp;cases hp;have:=o.symm.trans e3;simp only [Option.some.injEq,Obj.cells.injEq] at this;exact this.2.2
  subst hfr;refine ⟨p,cs,hp,hs,hb,o,fun i hi=>?_⟩;have hi':i<xs.length:=by omega
  obtain ⟨q,hq,cs',fr',o',hs',hc'⟩:=hat (j:=i) (u:=.string xs[i]) (by simp [strs,List.getElem?_eq_getElem hi']);rw [hp] at hq;cases hq;have eb:(p.add i).block=p.block:=by unfold Addr.add;split<;>rfl
  have eo:(p.add i).off=p.off+i:=by unfold Addr.add;split<;>simp_all
  rw [eb] at o';have:=o.symm.trans o';simp only [Option.some.injEq,Obj.cells.injEq] at this;rw [eo,<- this.1] at hc';exact ⟨xs[i],hc',hx _ (List.getElem_mem _)⟩
section
variable {base:Nat} {w w':World} {A:OA} {l c M:Nat}
theorem LsW.ext0 (h:LsW base w A l c M)(x:EF w w'):LsW base w' A l c M:=by
 obtain ⟨h1,h2⟩:=h;refine ⟨h1,h2.elim .inl fun ⟨p,cs,a,b,d,e,f⟩=>.inr ⟨p,cs,a,b,d,x.old _ _ id e,f⟩⟩
theorem adr_add' (p:Addr)(i:Nat)(hs:p.spot=none):p.add i=⟨p.block,p.off+i,none⟩:=by
 unfold Addr.add;split
 ·rename_i h;cases p;simp_all
 ·rfl
theorem LsW.get (h:LsW base w A l c M){i:Int}(h0:0<=i)(hi:i<(l:Int)):∃ (p:Addr) (s:BA),A=some p/\w.cell? (p.add (i.toNat*1))=some (.string s)/\s.size<=M:=by
 obtain ⟨h1,h2|⟨p,cs,a,b,d,e,f⟩⟩:=h
 ·omega
 ·obtain ⟨s,hs,hm⟩:=f i.toNat (by omega);refine ⟨p,s,a,?_,hm⟩;rw [Nat.mul_one,adr_add' p _ b];exact (show At w 9 ⟨p.block,p.off+i.toNat,none⟩ (.string s) from ⟨cs,_,e,rfl,hs⟩).cell
theorem LsW.set (h:LsW base w A l c M){i:Int}(h0:0<=i)(hi:i<(l:Int))(s:BA)(hs:s.size<=M):∃ p,A=some p/\(∃ (cs:Array Value) (T:TypeId),objAt w ((p.add (i.toNat*1))).block=some (.cells cs T (0,0))/\((p.add (i.toNat*1))).spot=none/\((p.add (i.toNat*1))).off+1<=cs.size/\false=false)/\
  LsW base (w.setCell (p.add (i.toNat*1)) (.string s)) A l c M/\Ext (fun k=>base<=k) w (w.setCell (p.add (i.toNat*1)) (.string s)):=by
 obtain ⟨h1,h2|⟨p,cs,a,b,d,e,f⟩⟩:=h
 ·omega
 ·have hlt:p.off+i.toNat<cs.size:=by
   obtain ⟨s',hs',-⟩:=f i.toNat (by omega);exact (Array.getElem?_eq_some_iff.1 hs').1
  rw [Nat.mul_one];refine ⟨p,a,?_,?_,?_⟩
  ·rw [adr_add' p _ b];exact ⟨cs,9,e,rfl,hlt,rfl⟩
  ·rw [adr_add' p _ b];refine ⟨h1,.inr ⟨p,cs.setIfInBounds (p.off+i.toNat) (.string s),a,b,d,a_E (a:=⟨p.block,p.off+i.toNat,none⟩) e rfl,fun k hk=>?_⟩⟩;rw [Array.getElem?_setIfInBounds];split
   ·exact ⟨s,by first|rfl|rw [if_pos hlt],hs⟩
   ·exact f k hk
  ·rw [adr_add' p _ b];exact Ext.setCell (X:=fun k=>base<=k) (Ext.refl w) (a:=⟨p.block,p.off+i.toNat,none⟩) (.inl d) _
end
theorem n_k {a b:Int}(h: -4611686018427387904<=a-b)(h':a-b<4611686018427387904):wr (a-b)=a-b:=by
 rw [Int.sub_eq_add_neg] at *;exact f_c h h'
section
variable {base b:Nat} {A:OA} {L C:Nat} {at_:Int} {l:Nat} {w:World}
abbrev Start (r:Int):Prop:=r=95∨(97<=r/\r<=122)∨(65<=r/\r<=90)
end
section
variable {base b:Nat} {A:OA} {L C:Nat} {at_:Int} {l:Nat} {w:World}
end
end Go.VC
