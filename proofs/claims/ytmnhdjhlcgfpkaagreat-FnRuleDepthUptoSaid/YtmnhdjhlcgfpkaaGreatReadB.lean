/- Part of the proof of a law of a rule over documents (ReadB), where what the arguments hold is of bulk at most 1048576. -/
import Derived.Test.YtmnhdjhlcgfpkaaGreatReadA
import Derived.Test.YtmnhdjhlcgfpkaaGreatSpecC
import Derived.Test.YtmnhdjhlcgfpkaaGreatRows
import Derived.ProofKit
import Derived.OpenShut
import Derived.JoinedCond
import Derived.ChangeStays
import Derived.ReadAgain
set_option linter.unusedVariables false
namespace Go.Proofs.YtmnhdjhlcgfpkaaGreat
open Go Go.VC Go.ChangeShapes Go.WideShapes Go.ChangeAt Go.RowKit
set_option maxRecDepth 4000
theorem own:ownKnob Tryz.prog.godebug=none:=by kernel_rfl
theorem kids:Kids Tryz.prog (· <Tryz.prog.types.size):=kids_rows (by kernel_rfl) (by kernel_rfl)
theorem full:∀ t e,t<Tryz.prog.types.size->Tryz.prog.underlying t=some (.slice e)->0<Tryz.prog.cellsOf e:=slices_full_of Tryz.prog (by kernel_rfl)
theorem o_f {W W':World}(h:EF W W')(may:MemPlace->Prop):W.keptBut W' may:=by
 refine ⟨h.os,h.out,fun i hi=>?_⟩;have h1:W.heap[i]? =some W.heap[i]:=Array.getElem?_eq_getElem hi;have h2:W'.heap[i]? =some W.heap[i]:=h.old i _ id h1;rw [h1,h2];cases W.heap[i]<;>simp
theorem l_l {H:Type}{enc:TypeId × Value->H}{W W':World}(h:EF W W'){t:TypeId}{v:Value}{d:DataW H}{ps:List MemPlace}(ht:t<Tryz.prog.types.size)(hd:DataW.Trod enc Tryz.prog W 0 (fun _=>true) true t v d ps)(hlt:∀ p∈ps,p.block<W.heap.size):
  DataW.Trod enc Tryz.prog W' 0 (fun b=>decide (b<W.heap.size)) true t v d ps:=by
 obtain ⟨n,hn⟩:=hd;refine ⟨n,DataW.trod_stays kids (fun {t e} ht he=>full t e ht he) (fun h=>Bool.noConfusion h) ht hn (fun p hp=>?_) fun p hp=>by simpa using hlt p hp⟩;have hl:=hlt p hp;have h1:W.heap[p.block]? =some W.heap[p.block]:=Array.getElem?_eq_getElem hl;have h2:W'.heap[p.block]? =some W.heap[p.block]:=h.old _ _ id h1;cases p with
 | cell b off=>
  show W'.cell? ⟨b,off,none⟩=W.cell? ⟨b,off,none⟩;simp only [World.cell?];rw [show W'.heap[b]? =_ from h2,show W.heap[b]? =_ from h1]
 | map b=>exact h2.trans h1.symm
abbrev LawOf (f:FuncId):Prop:=∀ [DB] {q6:OA} {q6l q6c:Nat} {q7:OA} {q7l q7c:Nat} {ops:List OpD} {frags:List Frag} {w:World},
  docW ops frags<=2097152->ROps w q6 q6l q6c ops->a_X w q7 q7l q7c frags->DB.B<=w.heap.size->
  CP f #[.agg #[.slice q6 q6l q6c,.slice q7 q7l q7c]] w fun e w'=>e=.returned (.bool true)/\EF w w'
theorem n_N {W:World}{base:Nat}{t:TypeId}{fs:Array Field}{v:Value}(ht:Tryz.prog.underlying t=some (.struct fs))(h:Value.okWide Tryz.prog W .any base t v):∃ cs,v=.agg cs:=by
 unfold Value.okWide at h;rw [ht] at h;obtain ⟨cs,h,-⟩:=h;exact ⟨cs,h⟩
theorem o_g {f:FuncId}(law:LawOf f){fn:Func}(hp:fn.params=#[30])(hr:fn.resultTypes=#[4]){s:ChangeSpec}(hv:s.vars=[])
  (hs:∀ (H:Type) (y:DataW H),s.fn H [y]={ results:=[.lit (.bool true)],args:=[y]}) (H:Type) (enc:TypeId × Value->H) (W:World) (base:Nat) (args:Array Value) (ds gs:List (DataW H)) (before:List MemPlace)
  (hval:∀ (j:Nat) t v,fn.params[j]? =some t->args[j]? =some v->Value.okWide Tryz.prog W .any base t v)
  (hW:DataW.Whole enc Tryz.prog fn.params.toList s.vars false W args.toList ds gs before) (hk:Rows.uptoSmall H (ds++gs)=true):
  CP f args W fun e W'=>∃ v,e=.returned v/\s.post enc Tryz.prog fn false true false false W args v W':=by
 have hlt:=hW.lt;have hW':=hW;obtain ⟨p,q,hA,hV,rfl,hfz,hnd⟩:=hW;rw [hv] at hV;obtain ⟨rfl,rfl⟩:=trodVars_none hV;rw [hp] at hA hval;obtain ⟨v',d',rfl,rfl,h2⟩:=trodAll_one hA;have hv1:Value.okWide Tryz.prog W .any base 30 v':=hval 0 30 v' rfl rfl;clear hval;obtain ⟨cs',rfl⟩:=n_N Tryz.underlying30 hv1;have hb:Rows.uptoBulkAll [d']<=1048576:=by
  have:=odt hk;simpa using this
 simp only [Rows.uptoBulkAll] at hb;have h2':=h2;obtain ⟨n2,t2⟩:=h2'
 letI:DB:=⟨W.heap.size⟩
 have hB:W.heap.size<=DB.B:=Nat.le_refl _;obtain ⟨b0,k0,g0,b1,k1,g1,y0,y1,e2,s0,s1,o0,o1,o2⟩:=n_C (enc:=enc) (N:=1048576) hB (by omega) ⟨n2,d',p,t2,by omega⟩;have ecs':cs'=#[.slice b0 k0 g0,.slice b1 k1 g1]:=Array.toList_inj.1 e2;have key:=law (by omega) s0 s1 (Nat.le_refl _);rw [<- ecs'] at key;refine key.mono ?_;rintro _ W' ⟨rfl,hx⟩;refine ⟨.bool true,rfl,[d'],[],_,[],p,[],hW',?_,?_,?_,o_f hx _,nofun⟩
 ·simp only [List.append_nil];rw [hs,hr];exact trodAll_cons_mk (shut_bool Tryz.underlying4 _) trodAll_mk0
 ·simp only [List.append_nil];rw [hs,hp];exact trodAll_mk1 (l_l hx (odt (by kernel_rfl)) h2 fun p hp=>hlt p (by simp [hp]))
 ·simp only [List.append_nil];rw [hv,hs];rfl
end Go.Proofs.YtmnhdjhlcgfpkaaGreat
