/- Part of the proof of a law of a rule over documents (JVA), where what the arguments hold is of bulk at most 1048576. -/
import Derived.Test.YtdakokhbeoohlaaGreatDoorBaseB
import Derived.Test.YtdakokhbeoohlaaGreatDoorJpF
import Derived.Test.YtdakokhbeoohlaaGreatDoorJpG
set_option linter.unusedVariables false
namespace Go.VC
open Go Go.Proofs
set_option maxRecDepth 100000
theorem z_G (a:OA)(b c:Nat)(d:Int)(e:Bool)(f:Int)(g:BA)(i:OA)(j k:Nat)(l:OA)(m n:Nat)(w:World)(R:EW)(h:
 True/\(let o:=w.alloc (.cells #[N9 d,.bool e,N9 f,T9 g,S9 i j k,S9 l m n] 27);
 ∀ p:Bool->World->Prop,(∀ q:Bool,∀ r:World,
 ((Br q (R (R9 (.bool true)) r) (∀ s:Bool->World->Prop,(∀ t:Bool,∀ u:World,
 (R (R9 (.bool t)) u)->
 s t u)->
 ∀ v,v=r.drew->Cb 14 #[S9 a b c,(.agg #[N9 d,.bool e,N9 f,T9 g,S9 i j k,S9 l m n])] v (fun x y=>(KeepT 27 v y/\True)/\True/\(Br (!x) (True/\s true y) (Cb 15 #[S9 a b c,(.agg #[N9 d,.bool e,N9 f,T9 g,S9 i j k,S9 l m n])] y (fun z A=>(KeepT 27 y A/\True)/\((0=0)/\True)/\Cb 16 #[S9 a b c,(.agg #[N9 d,.bool e,N9 f,T9 g,S9 i j k,S9 l m n])] A (fun B C=>(KeepT 27 A C/\True)/\True/\True/\s (z==B) C))))))))->
 p q r)->
 (Nr (decide ((b:Int)>2147483647)) (Cb 13 #[(.agg #[N9 d,.bool e,N9 f,T9 g,S9 i j k,S9 l m n])] o (fun D E=>(KeepT 27 o E/\True)/\p (!D) E)) (p true o)))):CP 3 #[S9 a b c,(.agg #[N9 d,.bool e,N9 f,T9 g,S9 i j k,S9 l m n])] w R:=
 vcq Tryz.func3 [3] [(3,⟨[(12,.bool)],[]⟩),(10,⟨[(4,.bool)],[]⟩)] [.l (.slice a b c),.agg [.int .i64 d,.bool e,.int .i64 f,.str g,.slice i j k,.slice l m n]] h
variable [DB]
theorem B_R {s:List JN}{w:World}{a:OA}{l c:Nat}(hr:RJNs w a l c s)(hsm:∀ x∈s,smN x){v:JV}{cs:List Value}(hv:RJV w v cs)(hsz:szJ v<=1100000)(hI:y_C w)(hB:DB.B<=w.heap.size):
  CP 3 #[.slice a l c,.agg cs.toArray] w fun e w'=>e=.returned (.bool true)/\EF w w':=by
 have hv0:=hv;obtain ⟨k,b,n,t,ns,xs⟩:=v;obtain ⟨a1,l1,c1,a2,l2,c2,rfl,ht,r1,r2⟩:=w_8.1 hv;refine z_G a l c k b n t a1 l1 c1 a2 l2 c2 w _ ⟨trivial,?_⟩;intro w8;have x8:EF w w8:=(Ext.refl _).alloc _;clear_value w8;intro K9 hK9;have k9:∀ (z:Bool) (w':World),EF w w'->K9 z w':=fun z w' x'=>hK9 z w' ⟨fun _=>⟨rfl,x'⟩,fun _ K12 hK12 w15 hw15=>by
  have x15:EF w w15:=hw15▸x'.drew;clear hw15;refine (E_r hsm (RJNs.keep x15.keep hr) (hv0.keep x15.keep) (lt_ hB x15.size)).mono ?_;rintro _ w17 ⟨b18,rfl,x17,hfit⟩;have y17:=x15.then x17;refine ⟨b18,rfl,⟨x17.keepT _,trivial⟩,trivial,fun _=>⟨trivial,hK12 _ _ ⟨rfl,y17⟩⟩,fun hb=>?_⟩;have hF:=hfit (by simpa using hb);refine (C_5 (f:=MJ s.length (.mk k b n t ns xs) 1+1) (RJNs.keep y17.keep hr) (hv0.keep y17.keep) hF.ne hF.ok hF.u hF.new hF.v hsz (Nat.lt_succ_self _) (hI.ext y17) (lt_ hB y17.size)).mono ?_;rintro _ w20 ⟨rfl,x20⟩;have y20:=y17.then x20;refine ⟨_,rfl,⟨x20.keepT _,trivial⟩,⟨rfl,trivial⟩,(C_6 (f:=MJ s.length (.mk k b n t ns xs) 1+1) hF.ok hF.ne (RJNs.keep y20.keep hr) (hv0.keep y20.keep) hF.v (lt_ hB y20.size) (Nat.lt_succ_self _)).mono ?_⟩;rintro _ w23 ⟨b24,rfl,x23,rfl⟩;exact ⟨_,rfl,⟨x23.keepT _,trivial⟩,trivial,trivial,hK12 _ _ ⟨by rw [beq_self_eq_true],y20.then x23⟩⟩⟩
 refine ⟨fun _=>(C_v (hv0.keep x8.keep)).mono ?_,fun _=>k9 _ _ x8⟩;rintro _ w26 ⟨b27,rfl,x26,-⟩;exact ⟨b27,rfl,⟨x26.keepT _,trivial⟩,k9 _ _ (x8.then x26)⟩
end Go.VC
