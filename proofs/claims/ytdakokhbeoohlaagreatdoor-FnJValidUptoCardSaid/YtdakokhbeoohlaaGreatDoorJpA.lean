/- Part of the proof of a law of a rule over documents (JpA), where what the arguments hold is of bulk at most 1048576. -/
import Derived.Test.YtdakokhbeoohlaaGreatDoorBaseB
import Derived.Test.YtdakokhbeoohlaaGreatDoorLexA
import Derived.Test.YtdakokhbeoohlaaGreatDoorSpecA
import Derived.Test.YtdakokhbeoohlaaGreatDoorWideA
import Derived.Test.YtdakokhbeoohlaaGreatDoorLexB
import GoSem.Core.Utf8
set_option linter.unusedVariables false
set_option linter.unusedSectionVars false
set_option linter.deprecated false
namespace Go.VC
open Go Go.Proofs
set_option maxRecDepth 100000
theorem D_K (a:BA)(b:Int)(w:World)(R:EW)(h:
 (0<=b/\b<(a.size:Int))/\∀ c:Int->Int->Int->World->Prop,(∀ d:Int,∀ e:Int,∀ f:Int,∀ g:World,
 (∀ i:Bool->World->Prop,(∀ j:Bool,∀ k:World,
 ((Br j (R (R9 (N9 0)) k) (∃ (l:Int->World->Prop) (m:Int->World->Nat),l 2 k/\
 (∀ n:Int,∀ o:World,l n o->
 (Br (decide (n<d)) (∀ p:Bool->World->Prop,(∀ q:Bool,∀ r:World,
 ((Br q (R (R9 (N9 0)) r) ((l (wr (n+1)) r/\m (wr (n+1)) r<m n o))))->
 p q r)->
 (0<=(wr (b+n))/\(wr (b+n))<(a.size:Int))/\(Nr (decide ((sget a (wr (b+n)))<128)) ((0<=(wr (b+n))/\(wr (b+n))<(a.size:Int))/\p (decide ((sget a (wr (b+n)))>191)) o) (p true o))) (R (R9 (N9 d)) o))))))->
 i j k)->
 (Nr (decide ((wr (b+d))>(a.size:Int))) ((0<=(wr (b+1))/\(wr (b+1))<(a.size:Int))/\(Nr (decide ((sget a (wr (b+1)))<e)) ((0<=(wr (b+1))/\(wr (b+1))<(a.size:Int))/\i (decide ((sget a (wr (b+1)))>f)) g) (i true g))) (i true g)))->
 c d e f g)->
 (Br (decide ((sget a b)<128)) (R (R9 (N9 1)) w) (∀ s:Bool->World->Prop,(∀ t:Bool,∀ u:World,
 ((Br t (c 2 128 191 u) (∀ v:Bool->World->Prop,(∀ x:Bool,∀ y:World,
 ((Br x (∀ z:Int->World->Prop,(∀ A:Int,∀ B:World,
 ((Br ((sget a b)==237) (c 3 A 159 B) (c 3 A 191 B)))->
 z A B)->
 (Br ((sget a b)==224) (z 160 y) (z 128 y))) (∀ C:Bool->World->Prop,(∀ D:Bool,∀ E:World,
 ((Br D (∀ F:Int->World->Prop,(∀ G:Int,∀ H:World,
 ((Br ((sget a b)==244) (c 4 G 143 H) (c 4 G 191 H)))->
 F G H)->
 (Br ((sget a b)==240) (F 144 E) (F 128 E))) (R (R9 (N9 0)) E)))->
 C D E)->
 (Br (decide ((sget a b)>=240)) (C (decide ((sget a b)<=244)) y) (C false y)))))->
 v x y)->
 (Br (decide ((sget a b)>=224)) (v (decide ((sget a b)<=239)) u) (v false u)))))->
 s t u)->
 (Br (decide ((sget a b)>=194)) (s (decide ((sget a b)<=223)) w) (s false w))))):CP 110 #[T9 a,N9 b] w R:=
 vcq Tryz.func110 [] [(8,⟨[(6,.int .i64),(7,.int .u8),(8,.int .u8)],[]⟩),(16,⟨[(16,.bool)],[]⟩),(20,⟨[(23,.bool)],[]⟩),(25,⟨[(7,.int .u8)],[]⟩),(36,⟨[(34,.bool)],[]⟩),(41,⟨[(7,.int .u8)],[]⟩),(56,⟨[(66,.bool)],[]⟩),(67,⟨[(9,.int .i64)],[]⟩),(76,⟨[(85,.bool)],[]⟩)] [.l (.str a),.l (.int .i64 b)] h
theorem D_H (a:Int)(b:Bool)(c:Int)(d:BA)(e:OA)(f g:Nat)(i:OA)(j k:Nat)(l:OA)(m n:Nat)(w:World)(R:EW)(h:
 True/\(let o:=w.alloc (.cells #[N9 a,.bool b,N9 c,T9 d,S9 e f g,S9 i j k] 27);
 ∃ (p:Int->World->Prop) (q:Int->World->Nat),p 0 o/\
 (∀ r:Int,∀ s:World,p r s->
 (Br (decide (r<(m:Int))) (∀ t,t=s.drew->Ix l r m fun u=>Ls t (u.add (r.toNat*1)) fun v=>Ci 74 #[(.agg #[N9 a,.bool b,N9 c,T9 d,S9 e f g,S9 i j k]),T9 v] t (fun x y=>(KeepT 27 t y/\True)/\True/\(Br (decide (x<0)) (R (R9 (.bool false)) y) ((p (wr (r+1)) y/\q (wr (r+1)) y<q r s))))) (R (R9 (.bool true)) s))))):CP 106 #[(.agg #[N9 a,.bool b,N9 c,T9 d,S9 e f g,S9 i j k]),S9 l m n] w R:=
 vcq Tryz.func106 [2] [(6,⟨[(5,.int .i64)],[]⟩)] [.agg [.int .i64 a,.bool b,.int .i64 c,.str d,.slice e f g,.slice i j k],.l (.slice l m n)] h
theorem A_T (a:BA)(w:World)(R:EW)(h:
 True/\(let b:=w.alloc (.cells #[.bool false,(T9 (⟨#[]⟩:BA)),N9 0] 130);
 (Br (decide ((a.size:Int)>40)) (True/\True/\(let c:=setB b (w.heap.size) [.bool false,(T9 (⟨#[]⟩:BA)),N9 0] 130;
 R (R9 (.tuple #[(.agg #[.bool false,(T9 (⟨#[]⟩:BA)),N9 0]),.bool false])) c)) (∀ d:Int->World->Prop,(∀ e:Int,∀ f:World,
 (Ci 136 #[T9 a,N9 e] f (fun g i=>(KeepT 130 f i/\True)/\(0<=e/\e<=g/\g<=(a.size:Int))/\Cb 137 #[(T9 (a.extract e.toNat g.toNat))] i (fun j k=>(KeepT 130 i k/\True)/\(Br (!j) (True/\True/\(let l:=setB k (w.heap.size) [.bool false,(T9 (⟨#[]⟩:BA)),N9 0] 130;
 R (R9 (.tuple #[(.agg #[.bool false,(T9 (⟨#[]⟩:BA)),N9 0]),.bool false])) l)) (∀ m:Int->World->Prop,(∀ n:Int,∀ o:World,
 ((0<=n/\n<=(a.size:Int)/\(a.size:Int)<=(a.size:Int))/\CP 138 #[(T9 (a.extract n.toNat (a.size:Int).toNat))] o (fun p q=>∃ r,∃ s,p=R9 (.tuple #[N9 r,.bool s])/\(KeepT 130 o q/\True)/\(Br (!s) (True/\True/\(let t:=setB q (w.heap.size) [.bool false,(T9 (⟨#[]⟩:BA)),N9 0] 130;
 R (R9 (.tuple #[(.agg #[.bool false,(T9 (⟨#[]⟩:BA)),N9 0]),.bool false])) t)) ((0<=e/\e<=g/\g<=(a.size:Int))/\∀ u:Int->BA->World->Prop,(∀ v:Int,∀ x:BA,∀ y:World,
 (True/\CP 139 #[(.agg #[(.bool (e==1)),T9 x,N9 v])] y (fun z A=>∃ B,∃ C,∃ D,z=R9 (.agg #[.bool B,T9 C,N9 D])/\(KeepT 130 y A/\True)/\True/\(let E:=setB A (w.heap.size) [.bool B,T9 C,N9 D] 130;
 R (R9 (.tuple #[(.agg #[.bool B,T9 C,N9 D]),.bool true])) E)))->
 u v x y)->
 (Br (decide (n>g)) ((0<=(wr (g+1))/\(wr (g+1))<=n/\n<=(a.size:Int))/\∃ F,∃ G,(eqGuard .add 9 (Operand.tmp 68) (Operand.tmp 73) (T9 (a.extract e.toNat g.toNat)) (T9 (a.extract (wr (g+1)).toNat n.toNat))).run Tryz.prog q=.ok () q/\(binOp .add 9 (T9 (a.extract e.toNat g.toNat)) (T9 (a.extract (wr (g+1)).toNat n.toNat))).run Tryz.prog q=.ok (T9 F) G/\(KeepT 130 q G/\True)/\u (wr (r-(wr ((wr (n-g))-1)))) F G) (u r (a.extract e.toNat g.toNat) q))))))->
 m n o)->
 ∀ H:Bool->World->Prop,(∀ I:Bool,∀ J:World,
 ((Br I (Ci 136 #[T9 a,(N9 (wr (g+1)))] J (fun K L=>(KeepT 130 J L/\True)/\(Br (K==(wr (g+1))) (True/\True/\(let M:=setB L (w.heap.size) [.bool false,(T9 (⟨#[]⟩:BA)),N9 0] 130;
 R (R9 (.tuple #[(.agg #[.bool false,(T9 (⟨#[]⟩:BA)),N9 0]),.bool false])) M)) (m K L)))) (m g J)))->
 H I J)->
 (Br (decide (g<(a.size:Int))) ((0<=g/\g<(a.size:Int))/\H ((sget a g)==46) k) (H false k)))))))->
 d e f)->
 ∀ N:Bool->World->Prop,(∀ O:Bool,∀ P:World,
 ((Br O (d 1 P) (d 0 P)))->
 N O P)->
 (Br (!(a.toList==(⟨#[]⟩:BA).toList)) ((0<=(0:Int)/\0<(a.size:Int))/\N ((sget a 0)==45) b) (N false b)))))):CP 107 #[T9 a] w R:=
 vcq Tryz.func107 [2] [(12,⟨[(4,.int .i64)],[]⟩),(13,⟨[(20,.bool)],[]⟩),(30,⟨[(6,.int .i64)],[]⟩),(31,⟨[(41,.bool)],[]⟩),(56,⟨[(7,.int .i64),(9,.str)],[]⟩)] [.l (.str a)] h
theorem B_f (a:BA)(w:World)(R:EW)(h:
 (Br (a.toList==(⟨#[]⟩:BA).toList) (R (R9 (.tuple #[N9 0,.bool true])) w) (∀ b:Bool->World->Prop,(∀ c:Bool,∀ d:World,
 ((Br c (R (R9 (.tuple #[N9 0,.bool false])) d) ((0<=(1:Int)/\1<=(a.size:Int)/\(a.size:Int)<=(a.size:Int))/\∀ e:Bool->World->Prop,(∀ f:Bool,∀ g:World,
 (∀ i:BA->World->Prop,(∀ j:BA,∀ k:World,
 (∀ l:Bool->World->Prop,(∀ m:Bool,∀ n:World,
 ((Br m (R (R9 (.tuple #[N9 0,.bool false])) n) ((Br f (Ci 163 #[T9 j] n (fun o p=>True/\R (R9 (.tuple #[(N9 (wr (0-o))),.bool true])) p)) (Ci 163 #[T9 j] n (fun q r=>True/\R (R9 (.tuple #[N9 q,.bool true])) r))))))->
 l m n)->
 Cb 162 #[T9 j] k (fun s t=>True/\(Nr (!s) (l (decide ((j.size:Int)>2)) t) (l true t))))->
 i j k)->
 ∀ u:Bool->World->Prop,(∀ v:Bool,∀ x:World,
 ((Br v ((0<=(1:Int)/\(1:Int)<=((a.extract (1:Int).toNat (a.size:Int).toNat).size:Int)/\((a.extract (1:Int).toNat (a.size:Int).toNat).size:Int)<=((a.extract (1:Int).toNat (a.size:Int).toNat).size:Int))/\i ((a.extract (1:Int).toNat (a.size:Int).toNat).extract (1:Int).toNat ((a.extract (1:Int).toNat (a.size:Int).toNat).size:Int).toNat) x) (i (a.extract (1:Int).toNat (a.size:Int).toNat) x)))->
 u v x)->
 (Nr f ((Br (!((a.extract (1:Int).toNat (a.size:Int).toNat).toList==(⟨#[]⟩:BA).toList)) ((0<=(0:Int)/\(0:Int)<((a.extract (1:Int).toNat (a.size:Int).toNat).size:Int))/\u ((sget (a.extract (1:Int).toNat (a.size:Int).toNat) 0)==43) g) (u false g))) (u true g)))->
 e f g)->
 (Br (!((a.extract (1:Int).toNat (a.size:Int).toNat).toList==(⟨#[]⟩:BA).toList)) ((0<=(0:Int)/\(0:Int)<((a.extract (1:Int).toNat (a.size:Int).toNat).size:Int))/\e ((sget (a.extract (1:Int).toNat (a.size:Int).toNat) 0)==45) d) (e false d)))))->
 b c d)->
 (0<=(0:Int)/\0<(a.size:Int))/\(Br ((sget a 0) !=101) ((0<=(0:Int)/\0<(a.size:Int))/\b ((sget a 0) !=69) w) (b false w))))):CP 138 #[T9 a] w R:=
 vcq Tryz.func138 [] [(11,⟨[(14,.bool)],[]⟩),(20,⟨[(4,.bool)],[]⟩),(22,⟨[(0,.str)],[]⟩),(23,⟨[(33,.bool)],[]⟩),(29,⟨[(43,.bool)],[]⟩)] [.l (.str a)] h
theorem E_j (a:Bool)(b:BA)(c:Int)(w:World)(R:EW)(h:
 True/\(let d:=w.alloc (.cells #[.bool a,T9 b,N9 c] 130);
 True/\(let e:=d.alloc (.cells #[.bool false,(T9 (⟨#[]⟩:BA)),N9 0] 130);
 Cs 140 #[T9 b] e (fun f g=>(KeepT 130 e g/\True)/\True/\(let i:=setB g (w.heap.size) [.bool a,T9 f,N9 c] 130;
 ∃ (j:Bool->BA->Int->World->Prop) (k:Bool->BA->Int->World->Nat),j a f c i/\
 (∀ l:Bool,∀ m:BA,∀ n:Int,∀ o:World,j l m n o->
 ∀ p:Bool->World->Prop,(∀ q:Bool,∀ r:World,
 ((Br q ((0<=(0:Int)/\0<=(wr ((m.size:Int)-1))/\(wr ((m.size:Int)-1))<=(m.size:Int))/\True/\(let s:=setB r (w.heap.size) [.bool l,(T9 (m.extract (0:Int).toNat (wr ((m.size:Int)-1)).toNat)),N9 n] 130;
 True/\(let t:=setB s (w.heap.size) [.bool l,(T9 (m.extract (0:Int).toNat (wr ((m.size:Int)-1)).toNat)),(N9 (wr (n+1)))] 130;
 (j l (m.extract (0:Int).toNat (wr ((m.size:Int)-1)).toNat) (wr (n+1)) t/\k l (m.extract (0:Int).toNat (wr ((m.size:Int)-1)).toNat) (wr (n+1)) t<k l m n o)))) ((Br (m.toList==(⟨#[]⟩:BA).toList) (True/\True/\(let u:=setB r (d.heap.size) [.bool false,(T9 (⟨#[]⟩:BA)),N9 0] 130;
 R (R9 (.agg #[.bool false,(T9 (⟨#[]⟩:BA)),N9 0])) u)) (True/\(let v:=setB r (d.heap.size) [.bool l,T9 m,N9 n] 130;
 R (R9 (.agg #[.bool l,T9 m,N9 n])) v))))))->
 p q r)->
 (Br (!(m.toList==(⟨#[]⟩:BA).toList)) ((0<=(wr ((m.size:Int)-1))/\(wr ((m.size:Int)-1))<(m.size:Int))/\p ((sget m (wr ((m.size:Int)-1)))==48) o) (p false o)))))))):CP 139 #[(.agg #[.bool a,T9 b,N9 c])] w R:=
 vcq Tryz.func139 [1,2] [(6,⟨[],[(0,[.bool,.str,.int .i64])]⟩),(8,⟨[(19,.bool)],[]⟩)] [.agg [.bool a,.str b,.int .i64 c]] h
theorem D_Y (a:BA)(b:Int)(w:World)(R:EW)(h:
 ∃ (c:Int->World->Prop) (d:Int->World->Nat),c b w/\
 (∀ e:Int,∀ f:World,c e f->
 ∀ g:Bool->World->Prop,(∀ i:Bool,∀ j:World,
 ((Br i ((c (wr (e+1)) j/\d (wr (e+1)) j<d e f)) (R (R9 (N9 e)) j)))->
 g i j)->
 (Br (decide (e<(a.size:Int))) ((0<=e/\e<(a.size:Int))/\Cb 161 #[(.int .u8 (sget a e))] f (fun k l=>True/\g k l)) (g false f)))):CP 136 #[T9 a,N9 b] w R:=
 vcq Tryz.func136 [] [(4,⟨[(1,.int .i64)],[]⟩),(6,⟨[(14,.bool)],[]⟩)] [.l (.str a),.l (.int .i64 b)] h
theorem D_F (a:BA)(w:World)(R:EW)(h:
 ∀ b:Bool->World->Prop,(∀ c:Bool,∀ d:World,
 (R (R9 (.bool c)) d)->
 b c d)->
 Cb 162 #[T9 a] w (fun e f=>True/\(Br e ((Nr ((a.size:Int)==1) ((0<=(0:Int)/\0<(a.size:Int))/\b ((sget a 0) !=48) f) (b true f))) (b false f)))):CP 137 #[T9 a] w R:=
 vcq Tryz.func137 [] [(2,⟨[(2,.bool)],[]⟩)] [.l (.str a)] h
theorem D_B (a:Int)(w:World)(R:EW)(h:
 ∀ b:Bool->World->Prop,(∀ c:Bool,∀ d:World,
 (R (R9 (.bool c)) d)->
 b c d)->
 (Br (decide (a>=48)) (b (decide (a<=57)) w) (b false w))):CP 161 #[.int .u8 a] w R:=
 vcq Tryz.func161 [] [(2,⟨[(2,.bool)],[]⟩)] [.l (.int .u8 a)] h
theorem C_O (a:BA)(w:World)(R:EW)(h:
 ∃ (b:Int->World->Prop) (c:Int->World->Nat),b 0 w/\
 (∀ d:Int,∀ e:World,b d e->
 (Br (decide (d<(a.size:Int))) ((0<=d/\d<(a.size:Int))/\Cb 161 #[(.int .u8 (sget a d))] e (fun f g=>True/\(Br (!f) (R (R9 (.bool false)) g) ((b (wr (d+1)) g/\c (wr (d+1)) g<c d e))))) (R (R9 (.bool (decide ((a.size:Int)>0)))) e)))):CP 162 #[T9 a] w R:=
 vcq Tryz.func162 [] [(6,⟨[(3,.int .i64)],[]⟩)] [.l (.str a)] h
theorem C_R (a:BA)(w:World)(R:EW)(h:
 ∃ (b:Int->Int->World->Prop) (c:Int->Int->World->Nat),b 0 0 w/\
 (∀ d:Int,∀ e:Int,∀ f:World,b d e f->
 (Br (decide (e<(a.size:Int))) ((0<=e/\e<(a.size:Int))/\(b (wr ((wr (10*d))+(wr (IntKind.u8.wrap ((sget a e)-48))))) (wr (e+1)) f/\c (wr ((wr (10*d))+(wr (IntKind.u8.wrap ((sget a e)-48))))) (wr (e+1)) f<c d e f)) (R (R9 (N9 d)) f)))):CP 163 #[T9 a] w R:=
 vcq Tryz.func163 [] [(8,⟨[(3,.int .i64),(4,.int .i64)],[]⟩)] [.l (.str a)] h
theorem E_i (a:BA)(w:World)(R:EW)(h:
 ∃ (b:BA->World->Prop) (c:BA->World->Nat),b a w/\
 (∀ d:BA,∀ e:World,b d e->
 ∀ f:Bool->World->Prop,(∀ g:Bool,∀ i:World,
 ((Br g ((0<=(1:Int)/\1<=(d.size:Int)/\(d.size:Int)<=(d.size:Int))/\(b (d.extract (1:Int).toNat (d.size:Int).toNat) i/\c (d.extract (1:Int).toNat (d.size:Int).toNat) i<c d e)) (R (R9 (T9 d)) i)))->
 f g i)->
 (Br (!(d.toList==(⟨#[]⟩:BA).toList)) ((0<=(0:Int)/\0<(d.size:Int))/\f ((sget d 0)==48) e) (f false e)))):CP 140 #[T9 a] w R:=
 vcq Tryz.func140 [] [(4,⟨[(0,.str)],[]⟩),(6,⟨[(9,.bool)],[]⟩)] [.l (.str a)] h
theorem A_Q (a:BA)(w:World)(R:EW)(h:
 CP 107 #[T9 a] w (fun b c=>∃ d,∃ e,∃ f,∃ g,b=R9 (.tuple #[(.agg #[.bool d,T9 e,N9 f]),.bool g])/\True/\True/\True/\(let j:=c.alloc (.cells #[.bool d,T9 e,N9 f] 130);
 R (R9 (.bool g)) j))):CP 89 #[T9 a] w R:=
 vcq Tryz.func89 [3] [] [.l (.str a)] h
set_option maxRecDepth 100000
theorem E_h (a:BA)(w:World)(R:EW)(h:
 ∃ (b:Int->World->Prop) (c:Int->World->Nat),b 0 w/\
 (∀ d:Int,∀ e:World,b d e->
 (Br (decide (d<(a.size:Int))) (Ci 110 #[T9 a,N9 d] e (fun f g=>True/\(Br (f==0) (R (R9 (.bool false)) g) ((b (wr (d+f)) g/\c (wr (d+f)) g<c d e))))) (R (R9 (.bool true)) e)))):CP 88 #[T9 a] w R:=
 vcq Tryz.func88 [] [(6,⟨[(3,.int .i64)],[]⟩)] [.l (.str a)] h
theorem C_N (a:Int)(b:Bool)(c:Int)(d:BA)(e:OA)(f g:Nat)(i:OA)(j k:Nat)(w:World)(R:EW)(h:
 True/\(let l:=w.alloc (.cells #[N9 a,.bool b,N9 c,T9 d,S9 e f g,S9 i j k] 27);
 Cb 60 #[(.agg #[N9 a,.bool b,N9 c,T9 d,S9 e f g,S9 i j k]),N9 1000] l (fun m n=>(KeepT 27 l n/\True)/\R (R9 (.bool m)) n))):CP 38 #[(.agg #[N9 a,.bool b,N9 c,T9 d,S9 e f g,S9 i j k])] w R:=
 vcq Tryz.func38 [1] [] [.agg [.int .i64 a,.bool b,.int .i64 c,.str d,.slice e f g,.slice i j k]] h
theorem B_g (a:Int)(b:Bool)(c:Int)(d:BA)(e:OA)(f g:Nat)(i:OA)(j k:Nat)(l:Int)(w:World)(R:EW)(h:
 True/\(let m:=w.alloc (.cells #[N9 a,.bool b,N9 c,T9 d,S9 e f g,S9 i j k] 27);
 (Br (l==0) (R (R9 (.bool false)) m) (∀ n:Bool->World->Prop,(∀ o:Bool,∀ p:World,
 ((Br o (R (R9 (.bool false)) p) (∃ (q:Int->World->Prop) (r:Int->World->Nat),q 0 p/\
 (∀ s:Int,∀ t:World,q s t->
 (Br (decide (s<(f:Int))) (Ix e s f fun u=>Ls t (u.add (s.toNat*1)) fun v=>Cb 88 #[T9 v] t (fun x y=>(KeepT 27 t y/\True)/\(Br (!x) (R (R9 (.bool false)) y) ((q (wr (s+1)) y/\r (wr (s+1)) y<r s t))))) (∃ (z:Int->World->Prop) (A:Int->World->Nat),z 0 t/\
 (∀ B:Int,∀ C:World,z B C->
 (Br (decide (B<(j:Int))) (Ix i B j fun D=>L_ibisll C (D.add (B.toNat*6)) fun E F G H I J K L M N=>Cb 60 #[(.agg #[N9 E,.bool F,N9 G,T9 H,S9 I J K,S9 L M N]),(N9 (wr (l-1)))] C (fun O P=>(KeepT 27 C P/\True)/\(Br (!O) (R (R9 (.bool false)) P) ((z (wr (B+1)) P/\A (wr (B+1)) P<A B C))))) (R (R9 (.bool true)) C)))))))))->
 n o p)->
 (Nr (decide (a<0)) ((Nr (decide (a>5)) (Cb 88 #[T9 d] m (fun Q S=>(KeepT 27 m S/\True)/\(Nr (!Q) ((Br (a==2) ((Br (!(d.toList==(⟨#[]⟩:BA).toList)) (Cb 89 #[T9 d] S (fun U V=>(KeepT 27 S V/\True)/\(Nr (!U) ((Br (a==5) (n ((f:Int) !=(j:Int)) V) (n false V))) (n true V)))) ((Br (a==5) (n ((f:Int) !=(j:Int)) S) (n false S))))) ((Br (a==5) (n ((f:Int) !=(j:Int)) S) (n false S))))) (n true S)))) (n true m))) (n true m)))))):CP 60 #[(.agg #[N9 a,.bool b,N9 c,T9 d,S9 e f g,S9 i j k]),N9 l] w R:=
 vcq Tryz.func60 [2] [(11,⟨[(52,.bool)],[]⟩),(22,⟨[(5,.int .i64)],[]⟩),(43,⟨[(6,.int .i64)],[]⟩)] [.agg [.int .i64 a,.bool b,.int .i64 c,.str d,.slice e f g,.slice i j k],.l (.int .i64 l)] h
theorem C_J (a:Int)(b:Bool)(c:Int)(d:BA)(e:OA)(f g:Nat)(i:OA)(j k:Nat)(w:World)(R:EW)(h:
 True/\(let l:=w.alloc (.cells #[N9 a,.bool b,N9 c,T9 d,S9 e f g,S9 i j k] 27);
 (Br (a==2) (R (R9 (.bool false)) l) (∃ (m:Int->World->Prop) (n:Int->World->Nat),m 0 l/\
 (∀ o:Int,∀ p:World,m o p->
 (Br (decide (o<(j:Int))) (Ix i o j fun q=>L_ibisll p (q.add (o.toNat*6)) fun r s t u v x y z A B=>Cb 39 #[(.agg #[N9 r,.bool s,N9 t,T9 u,S9 v x y,S9 z A B])] p (fun C D=>(KeepT 27 p D/\True)/\(Br (!C) (R (R9 (.bool false)) D) ((m (wr (o+1)) D/\n (wr (o+1)) D<n o p))))) (R (R9 (.bool true)) p))))))):CP 39 #[(.agg #[N9 a,.bool b,N9 c,T9 d,S9 e f g,S9 i j k])] w R:=
 vcq Tryz.func39 [1] [(14,⟨[(3,.int .i64)],[]⟩)] [.agg [.int .i64 a,.bool b,.int .i64 c,.str d,.slice e f g,.slice i j k]] h
theorem y_Z (a:OA)(b c:Nat)(w:World)(R:EW)(h:
 ∃ (d:Int->World->Prop) (e:Int->World->Nat),d 0 w/\
 (∀ f:Int,∀ g:World,d f g->
 (Br (decide (f<(b:Int))) (∀ i:Bool->World->Prop,(∀ j:Bool,∀ k:World,
 ((Br j (R (R9 (.bool false)) k) ((d (wr (f+1)) k/\e (wr (f+1)) k<e f g))))->
 i j k)->
 Ix a f b fun l=>L_ibisll g (l.add (f.toNat*6)) fun m n o p q r s t u v=>Cb 38 #[(.agg #[N9 m,.bool n,N9 o,T9 p,S9 q r s,S9 t u v])] g (fun x y=>True/\(Nr (!x) (Ix a f b fun z=>L_ibisll y (z.add (f.toNat*6)) fun A B C D E F G H I J=>Cb 39 #[(.agg #[N9 A,.bool B,N9 C,T9 D,S9 E F G,S9 H I J])] y (fun K L=>True/\i (!K) L)) (i true y)))) (R (R9 (.bool true)) g)))):CP 30 #[S9 a b c] w R:=
 vcq Tryz.func30 [] [(6,⟨[(3,.int .i64)],[]⟩),(15,⟨[(23,.bool)],[]⟩)] [.l (.slice a b c)] h
theorem y_N (a:OA)(b c:Nat)(w:World)(R:EW)(h:
 ∃ (d:Int->World->Prop) (e:Int->World->Nat),d 0 w/\
 (∀ f:Int,∀ g:World,d f g->
 (Br (decide (f<(b:Int))) (∀ i:Bool->World->Prop,(∀ j:Bool,∀ k:World,
 ((Br j (R (R9 (.bool false)) k) ((d (wr (f+1)) k/\e (wr (f+1)) k<e f g))))->
 i j k)->
 Ix a f b fun l=>Li g (l.add (f.toNat*6)) fun m=>(Br (m==4) (Ix a f b fun n=>Ll g ((n.add (f.toNat*6)).add 5) fun o p q=>(Nr (decide ((p:Int)>20)) (Ix a f b fun r=>Ll g ((r.add (f.toNat*6)).add 5) fun s t u=>Cb 31 #[S9 s t u] g (fun v x=>True/\i (!v) x)) (i true g))) (Ix a f b fun y=>Ll g ((y.add (f.toNat*6)).add 5) fun z A B=>Cb 31 #[S9 z A B] g (fun C D=>True/\i (!C) D)))) (R (R9 (.bool true)) g)))):CP 31 #[S9 a b c] w R:=
 vcq Tryz.func31 [] [(6,⟨[(3,.int .i64)],[]⟩),(15,⟨[(33,.bool)],[]⟩)] [.l (.slice a b c)] h
theorem C_M (a:Int)(b:Bool)(c:Int)(d:BA)(e:OA)(f g:Nat)(i:OA)(j k:Nat)(l:BA)(w:World)(R:EW)(h:
 True/\(let m:=w.alloc (.cells #[N9 a,.bool b,N9 c,T9 d,S9 e f g,S9 i j k] 27);
 ∃ (n:Int->World->Prop) (o:Int->World->Nat),n (wr ((f:Int)-1)) m/\
 (∀ p:Int,∀ q:World,n p q->
 (Br (decide (p>=0)) (Ix e p f fun r=>Ls q (r.add (p.toNat*1)) fun s=>(Br (s.toList==l.toList) (R (R9 (N9 p)) q) ((n (wr (p-1)) q/\o (wr (p-1)) q<o p q)))) (R (R9 (N9 (-1:Int))) q))))):CP 74 #[(.agg #[N9 a,.bool b,N9 c,T9 d,S9 e f g,S9 i j k]),T9 l] w R:=
 vcq Tryz.func74 [2] [(6,⟨[(5,.int .i64)],[]⟩)] [.agg [.int .i64 a,.bool b,.int .i64 c,.str d,.slice e f g,.slice i j k],.l (.str l)] h
theorem B_5 (a:Int)(b:Bool)(c:Int)(d:BA)(e:OA)(f g:Nat)(i:OA)(j k:Nat)(w:World)(R:EW)(h:
 True/\(let l:=w.alloc (.cells #[N9 a,.bool b,N9 c,T9 d,S9 e f g,S9 i j k] 27);
 ∃ (m:OA->Nat->Nat->Int->World->Prop) (n:OA->Nat->Nat->Int->World->Nat),m none 0 0 0 l/\
 (∀ (o:OA) (p q:Nat),∀ r:Int,∀ s:World,m o p q r s->
 (Br (decide (r<(f:Int))) (∀ t:OA->Nat->Nat->World->Prop,(∀ (u:OA) (v x:Nat),∀ y:World,
 ((m u v x (wr (r+1)) y/\n u v x (wr (r+1)) y<n o p q r s))->
 t u v x y)->
 ∀ z,z=s.drew->Ix e r f fun A=>Ls z (A.add (r.toNat*1)) fun B=>Ci 74 #[(.agg #[N9 a,.bool b,N9 c,T9 d,S9 e f g,S9 i j k]),T9 B] z (fun C D=>(KeepT 27 z D/\True)/\True/\(Br (C==r) (True/\(let E:=D.alloc (.cells #[N9 r] 3);
 ∃ F G H,∃ I,(Go.builtin .append #[32,32] 32 #[false,false] #[S9 o p q,(S9 (some (adr D.heap.size)) 1 1)]).run Tryz.prog E=.ok (.value (S9 F G H)) I/\(KeepT 27 E I/\True)/\t F G H I)) (t o p q D)))) (R (R9 (S9 o p q)) s))))):CP 84 #[(.agg #[N9 a,.bool b,N9 c,T9 d,S9 e f g,S9 i j k])] w R:=
 vcq Tryz.func84 [1] [(8,⟨[(3,.slice),(4,.int .i64)],[]⟩),(15,⟨[(3,.slice)],[]⟩)] [.agg [.int .i64 a,.bool b,.int .i64 c,.str d,.slice e f g,.slice i j k]] h
theorem C_K (a:Int)(b:Bool)(c:Int)(d:BA)(e:OA)(f g:Nat)(i:OA)(j k:Nat)(l:Int)(m:Bool)(n:Int)(o:BA)(p:OA)(q r:Nat)(s:OA)(t u:Nat)(w:World)(R:EW)(h:
 True/\(let v:=w.alloc (.cells #[N9 a,.bool b,N9 c,T9 d,S9 e f g,S9 i j k] 27);
 True/\(let x:=v.alloc (.cells #[N9 l,.bool m,N9 n,T9 o,S9 p q r,S9 s t u] 27);
 (Br (a !=l) (R (R9 (.bool false)) x) (∀ y:World->Prop,(∀ z:World,
 (R (R9 (.bool true)) z)->
 y z)->
 (Br (a==1) (R (R9 (.bool (b==m))) x) ((Br (a==2) (∀ A,A=x.drew->CP 77 #[(.agg #[N9 a,.bool b,N9 c,T9 d,S9 e f g,S9 i j k])] A (fun B C=>∃ D,∃ E,∃ F,B=R9 (.agg #[.bool D,T9 E,N9 F])/\(KeepT 27 A C/\True)/\((0=0)/\True)/\CP 77 #[(.agg #[N9 l,.bool m,N9 n,T9 o,S9 p q r,S9 s t u])] C (fun G H=>∃ I,∃ J,∃ K,G=R9 (.agg #[.bool I,T9 J,N9 K])/\(KeepT 27 C H/\True)/\True/\Ci 104 #[(.agg #[.bool D,T9 E,N9 F]),(.agg #[.bool I,T9 J,N9 K])] H (fun L M=>(KeepT 27 H M/\True)/\True/\True/\R (R9 (.bool (L==0))) M)))) ((Br (a==3) (R (R9 (.bool (d.toList==o.toList))) x) ((Br (a==4) ((Br ((j:Int) !=(t:Int)) (R (R9 (.bool false)) x) (∃ (N:Int->World->Prop) (O:Int->World->Nat),N 0 x/\
 (∀ P:Int,∀ Q:World,N P Q->
 (Br (decide (P<(j:Int))) (∀ S,S=Q.drew->Ix i P j fun U=>L_ibisll S (U.add (P.toNat*6)) fun V W X Y Z aa ab ac ad ae=>Ix s P t fun af=>L_ibisll S (af.add (P.toNat*6)) fun ag ah ai aj ak al am an ao ap=>Cb 70 #[(.agg #[N9 V,.bool W,N9 X,T9 Y,S9 Z aa ab,S9 ac ad ae]),(.agg #[N9 ag,.bool ah,N9 ai,T9 aj,S9 ak al am,S9 an ao ap])] S (fun aq ar=>(KeepT 27 S ar/\True)/\True/\(Br (!aq) (R (R9 (.bool false)) ar) ((N (wr (P+1)) ar/\O (wr (P+1)) ar<O P Q))))) (y Q)))))) ((Br (a==5) (∀ au:Bool->World->Prop,(∀ av:Bool,∀ ax:World,
 (R (R9 (.bool av)) ax)->
 au av ax)->
 Cb 105 #[(.agg #[N9 a,.bool b,N9 c,T9 d,S9 e f g,S9 i j k]),(.agg #[N9 l,.bool m,N9 n,T9 o,S9 p q r,S9 s t u])] x (fun ay az=>(KeepT 27 x az/\True)/\(Br ay (Cb 105 #[(.agg #[N9 l,.bool m,N9 n,T9 o,S9 p q r,S9 s t u]),(.agg #[N9 a,.bool b,N9 c,T9 d,S9 e f g,S9 i j k])] az (fun aA aB=>(KeepT 27 az aB/\True)/\au aA aB)) (au false az)))) (y x))))))))))))))):CP 70 #[(.agg #[N9 a,.bool b,N9 c,T9 d,S9 e f g,S9 i j k]),(.agg #[N9 l,.bool m,N9 n,T9 o,S9 p q r,S9 s t u])] w R:=
 vcq Tryz.func70 [2,3] [(10,⟨[],[]⟩),(46,⟨[(5,.int .i64)],[]⟩),(66,⟨[(4,.bool)],[]⟩)] [.agg [.int .i64 a,.bool b,.int .i64 c,.str d,.slice e f g,.slice i j k],.agg [.int .i64 l,.bool m,.int .i64 n,.str o,.slice p q r,.slice s t u]] h
theorem C_U (a:Int)(b:Bool)(c:Int)(d:BA)(e:OA)(f g:Nat)(i:OA)(j k:Nat)(l:Int)(m:Bool)(n:Int)(o:BA)(p:OA)(q r:Nat)(s:OA)(t u:Nat)(w:World)(R:EW)(h:
 True/\(let v:=w.alloc (.cells #[N9 a,.bool b,N9 c,T9 d,S9 e f g,S9 i j k] 27);
 True/\(let x:=v.alloc (.cells #[N9 l,.bool m,N9 n,T9 o,S9 p q r,S9 s t u] 27);
 Cl 84 #[(.agg #[N9 a,.bool b,N9 c,T9 d,S9 e f g,S9 i j k])] x (fun y z A B=>(KeepT 27 x B/\True)/\∃ (C:Int->World->Prop) (D:Int->World->Nat),C 0 B/\
 (∀ E:Int,∀ F:World,C E F->
 (Br (decide (E<(z:Int))) (∀ G,G=F.drew->Ix y E z fun H=>Li G (H.add (E.toNat*1)) fun I=>Ix e I f fun J=>Ls G (J.add (I.toNat*1)) fun K=>Ci 74 #[(.agg #[N9 l,.bool m,N9 n,T9 o,S9 p q r,S9 s t u]),T9 K] G (fun L M=>(KeepT 27 G M/\True)/\True/\True/\∀ N:Bool->World->Prop,(∀ O:Bool,∀ P:World,
 ((Br O (R (R9 (.bool false)) P) ((C (wr (E+1)) P/\D (wr (E+1)) P<D E F))))->
 N O P)->
 ∀ Q,Q=M.drew->(Br (decide (L<0)) (N true Q) (Ix y E z fun S=>Li Q (S.add (E.toNat*1)) fun U=>Ix i U j fun V=>L_ibisll Q (V.add (U.toNat*6)) fun W X Y Z aa ab ac ad ae af=>Ix s L t fun ag=>L_ibisll Q (ag.add (L.toNat*6)) fun ah ai aj ak al am an ao ap aq=>Cb 70 #[(.agg #[N9 W,.bool X,N9 Y,T9 Z,S9 aa ab ac,S9 ad ae af]),(.agg #[N9 ah,.bool ai,N9 aj,T9 ak,S9 al am an,S9 ao ap aq])] Q (fun ar au=>(KeepT 27 Q au/\True)/\True/\N (!ar) au))))) (R (R9 (.bool true)) F))))))):CP 105 #[(.agg #[N9 a,.bool b,N9 c,T9 d,S9 e f g,S9 i j k]),(.agg #[N9 l,.bool m,N9 n,T9 o,S9 p q r,S9 s t u])] w R:=
 vcq Tryz.func105 [2,3] [(8,⟨[(6,.int .i64)],[]⟩),(19,⟨[(44,.bool)],[]⟩)] [.agg [.int .i64 a,.bool b,.int .i64 c,.str d,.slice e f g,.slice i j k],.agg [.int .i64 l,.bool m,.int .i64 n,.str o,.slice p q r,.slice s t u]] h
theorem D_u (a:BA)(b:OA)(c d:Nat)(w:World)(R:EW)(h:
 ∃ (e:Int->World->Prop) (f:Int->World->Nat),e 0 w/\
 (∀ g:Int,∀ i:World,e g i->
 (Br (decide (g<(c:Int))) (Ix b g c fun j=>Ls i (j.add (g.toNat*1)) fun k=>(Br (k.toList==a.toList) (R (R9 (.bool true)) i) ((e (wr (g+1)) i/\f (wr (g+1)) i<f g i)))) (R (R9 (.bool false)) i)))):CP 80 #[T9 a,S9 b c d] w R:=
 vcq Tryz.func80 [] [(6,⟨[(5,.int .i64)],[]⟩)] [.l (.str a),.l (.slice b c d)] h
theorem E_g (a:Int)(b:Bool)(c:Int)(d:BA)(e:OA)(f g:Nat)(i:OA)(j k:Nat)(w:World)(R:EW)(h:
 True/\(let l:=w.alloc (.cells #[N9 a,.bool b,N9 c,T9 d,S9 e f g,S9 i j k] 27);
 (Br (a==0) (R (R9 (T9 (⟨#[110,117,108,108]⟩:BA))) l) ((Br (a==1) (R (R9 (T9 (⟨#[98,111,111,108,101,97,110]⟩:BA))) l) ((Br (a==2) (R (R9 (T9 (⟨#[110,117,109,98,101,114]⟩:BA))) l) ((Br (a==3) (R (R9 (T9 (⟨#[115,116,114,105,110,103]⟩:BA))) l) ((Br (a==4) (R (R9 (T9 (⟨#[97,114,114,97,121]⟩:BA))) l) (R (R9 (T9 (⟨#[111,98,106,101,99,116]⟩:BA))) l)))))))))))):CP 102 #[(.agg #[N9 a,.bool b,N9 c,T9 d,S9 e f g,S9 i j k])] w R:=
 vcq Tryz.func102 [1] [] [.agg [.int .i64 a,.bool b,.int .i64 c,.str d,.slice e f g,.slice i j k]] h
theorem C_L (a:BA)(w:World)(R:EW)(h:
 ∀ b:Bool->World->Prop,(∀ c:Bool,∀ d:World,
 ((Br c (R (R9 (.bool true)) d) (R (R9 (.bool false)) d)))->
 b c d)->
 (Br (a.toList==(⟨#[110,117,108,108]⟩:BA).toList) (b true w) ((Br (a.toList==(⟨#[98,111,111,108,101,97,110]⟩:BA).toList) (b true w) ((Br (a.toList==(⟨#[111,98,106,101,99,116]⟩:BA).toList) (b true w) ((Br (a.toList==(⟨#[97,114,114,97,121]⟩:BA).toList) (b true w) ((Br (a.toList==(⟨#[110,117,109,98,101,114]⟩:BA).toList) (b true w) ((Br (a.toList==(⟨#[115,116,114,105,110,103]⟩:BA).toList) (b true w) (b (a.toList==(⟨#[105,110,116,101,103,101,114]⟩:BA).toList) w))))))))))))):CP 56 #[T9 a] w R:=
 vcq Tryz.func56 [] [(6,⟨[(4,.bool)],[]⟩)] [.l (.str a)] h
theorem D_I (a:Int)(b:Bool)(c:Int)(d:BA)(e:OA)(f g:Nat)(i:OA)(j k:Nat)(l:OA)(m n:Nat)(w:World)(R:EW)(h:
 True/\(let o:=w.alloc (.cells #[N9 a,.bool b,N9 c,T9 d,S9 e f g,S9 i j k] 27);
 Cs 102 #[(.agg #[N9 a,.bool b,N9 c,T9 d,S9 e f g,S9 i j k])] o (fun p q=>(KeepT 27 o q/\True)/\∃ (r:Int->World->Prop) (s:Int->World->Nat),r 0 q/\
 (∀ t:Int,∀ u:World,r t u->
 (Br (decide (t<(m:Int))) (∀ v:Bool->World->Prop,(∀ x:Bool,∀ y:World,
 ((Br x (R (R9 (.bool true)) y) ((r (wr (t+1)) y/\s (wr (t+1)) y<s t u))))->
 v x y)->
 Ix l t m fun z=>Ls u (z.add (t.toNat*1)) fun A=>(Nr (A.toList==p.toList) (Ix l t m fun B=>Ls u (B.add (t.toNat*1)) fun C=>(Br (C.toList==(⟨#[105,110,116,101,103,101,114]⟩:BA).toList) ((Br (p.toList==(⟨#[110,117,109,98,101,114]⟩:BA).toList) (CP 77 #[(.agg #[N9 a,.bool b,N9 c,T9 d,S9 e f g,S9 i j k])] u (fun D E=>∃ F,∃ G,∃ H,D=R9 (.agg #[.bool F,T9 G,N9 H])/\(KeepT 27 u E/\True)/\Cb 103 #[(.agg #[.bool F,T9 G,N9 H])] E (fun I J=>(KeepT 27 E J/\True)/\v I J))) (v false u))) (v false u))) (v true u))) (R (R9 (.bool false)) u)))))):CP 68 #[(.agg #[N9 a,.bool b,N9 c,T9 d,S9 e f g,S9 i j k]),S9 l m n] w R:=
 vcq Tryz.func68 [2] [(8,⟨[(6,.int .i64)],[]⟩),(17,⟨[(36,.bool)],[]⟩)] [.agg [.int .i64 a,.bool b,.int .i64 c,.str d,.slice e f g,.slice i j k],.l (.slice l m n)] h
theorem C_P (a:Int)(b:Bool)(c:Int)(d:BA)(e:OA)(f g:Nat)(i:OA)(j k:Nat)(l:OA)(m n:Nat)(w:World)(R:EW)(h:
 True/\(let o:=w.alloc (.cells #[N9 a,.bool b,N9 c,T9 d,S9 e f g,S9 i j k] 27);
 ∃ (p:Int->World->Prop) (q:Int->World->Nat),p 0 o/\
 (∀ r:Int,∀ s:World,p r s->
 (Br (decide (r<(m:Int))) (∀ t,t=s.drew->Ix l r m fun u=>L_ibisll t (u.add (r.toNat*6)) fun v x y z A B C D E F=>Cb 70 #[(.agg #[N9 a,.bool b,N9 c,T9 d,S9 e f g,S9 i j k]),(.agg #[N9 v,.bool x,N9 y,T9 z,S9 A B C,S9 D E F])] t (fun G H=>(KeepT 27 t H/\True)/\True/\(Br G (R (R9 (.bool true)) H) ((p (wr (r+1)) H/\q (wr (r+1)) H<q r s))))) (R (R9 (.bool false)) s))))):CP 69 #[(.agg #[N9 a,.bool b,N9 c,T9 d,S9 e f g,S9 i j k]),S9 l m n] w R:=
 vcq Tryz.func69 [2] [(6,⟨[(5,.int .i64)],[]⟩)] [.agg [.int .i64 a,.bool b,.int .i64 c,.str d,.slice e f g,.slice i j k],.l (.slice l m n)] h
theorem D_x (a:OA)(b c:Nat)(w:World)(R:EW)(h:
 ∃ (d:Int->World->Prop) (e:Int->World->Nat),d 1 w/\
 (∀ f:Int,∀ g:World,d f g->
 (Br (decide (f<(b:Int))) (∃ (i:Int->World->Prop) (j:Int->World->Nat),i 0 g/\
 (∀ k:Int,∀ l:World,i k l->
 (Br (decide (k<f)) (∀ m,m=l.drew->Ix a k b fun n=>L_ibisll m (n.add (k.toNat*6)) fun o p q r s t u v x y=>Ix a f b fun z=>L_ibisll m (z.add (f.toNat*6)) fun A B C D E F G H I J=>Cb 70 #[(.agg #[N9 o,.bool p,N9 q,T9 r,S9 s t u,S9 v x y]),(.agg #[N9 A,.bool B,N9 C,T9 D,S9 E F G,S9 H I J])] m (fun K L=>True/\True/\(Br K (R (R9 (.tuple #[N9 k,N9 f])) L) ((i (wr (k+1)) L/\j (wr (k+1)) L<j k l))))) ((d (wr (f+1)) l/\e (wr (f+1)) l<e f g))))) (R (R9 (.tuple #[(N9 (-1:Int)),(N9 (-1:Int))])) g)))):CP 81 #[S9 a b c] w R:=
 vcq Tryz.func81 [] [(6,⟨[(4,.int .i64)],[]⟩),(18,⟨[(5,.int .i64)],[]⟩)] [.l (.slice a b c)] h
theorem B_6 (a:Int)(b:Bool)(c:Int)(d:Bool)(e:Int)(w:World)(R:EW)(h:
 True/\(let f:=w.alloc (.cells #[.bool b,N9 c] 34);
 True/\(let g:=f.alloc (.cells #[.bool d,N9 e] 34);
 ∀ i:Bool->World->Prop,(∀ j:Bool,∀ k:World,
 (R (R9 (.bool j)) k)->
 i j k)->
 (Nr (!b) ((Br (decide (a>=c)) ((Nr (!d) (i (decide (a<=e)) g) (i true g))) (i false g))) ((Nr (!d) (i (decide (a<=e)) g) (i true g))))))):CP 48 #[N9 a,(.agg #[.bool b,N9 c]),(.agg #[.bool d,N9 e])] w R:=
 vcq Tryz.func48 [4,5] [(2,⟨[(6,.bool)],[]⟩)] [.l (.int .i64 a),.agg [.bool b,.int .i64 c],.agg [.bool d,.int .i64 e]] h
theorem D_v (a:BA)(w:World)(R:EW)(h:
 ∃ (b:Int->Int->World->Prop) (c:Int->Int->World->Nat),b 0 0 w/\
 (∀ d:Int,∀ e:Int,∀ f:World,b d e f->
 (Br (decide (e<(a.size:Int))) (∀ g:Int->World->Prop,(∀ i:Int,∀ j:World,
 ((b i (wr (e+1)) j/\c i (wr (e+1)) j<c d e f))->
 g i j)->
 ∀ k:Bool->World->Prop,(∀ l:Bool,∀ m:World,
 ((Br l (g (wr (d+1)) m) (g d m)))->
 k l m)->
 (0<=e/\e<(a.size:Int))/\(Nr (decide ((sget a e)<128)) ((0<=e/\e<(a.size:Int))/\k (decide ((sget a e)>191)) f) (k true f))) (R (R9 (N9 d)) f)))):CP 49 #[T9 a] w R:=
 vcq Tryz.func49 [] [(8,⟨[(3,.int .i64),(4,.int .i64)],[]⟩),(15,⟨[(3,.int .i64)],[]⟩),(17,⟨[(20,.bool)],[]⟩)] [.l (.str a)] h
theorem D_G (a:BA)(b:Bool)(c:OA)(d e:Nat)(w:World)(R:EW)(h:
 True/\(let f:=w.alloc (.cells #[.bool b,S9 c d e] 36);
 ∀ g:Bool->World->Prop,(∀ i:Bool,∀ j:World,
 (R (R9 (.bool i)) j)->
 g i j)->
 (Nr (!b) (Cb 80 #[T9 a,S9 c d e] f (fun k l=>(KeepT 36 f l/\True)/\g k l)) (g true f)))):CP 50 #[T9 a,(.agg #[.bool b,S9 c d e])] w R:=
 vcq Tryz.func50 [3] [(2,⟨[(4,.bool)],[]⟩)] [.l (.str a),.agg [.bool b,.slice c d e]] h
theorem A_t (a:OA)(b c:Nat)(d:OA)(e f:Nat)(w:World)(R:EW)(h:
 ∃ (g:Int->World->Prop) (i:Int->World->Nat),g 0 w/\
 (∀ j:Int,∀ k:World,g j k->
 ∀ l:Bool->World->Prop,(∀ m:Bool,∀ n:World,
 ((Br m (∀ o:World->Prop,(∀ p:World,
 ((g (wr (j+1)) p/\i (wr (j+1)) p<i j k))->
 o p)->
 Ix a j b fun q=>Lb n (q.add (j.toNat*1)) fun r=>(Nr r (Ix d j e fun s=>Lb n (s.add (j.toNat*1)) fun t=>Ix a j b fun u=>Off n (u.add (j.toNat*1)) 1 []/\True/\(let v:=(n.setCell (u.add (j.toNat*1)) (.bool t));
 o v)) (Ix a j b fun x=>Off n (x.add (j.toNat*1)) 1 []/\True/\(let y:=(n.setCell (x.add (j.toNat*1)) (.bool true));
 o y)))) (R (R9 (.tuple #[])) n)))->
 l m n)->
 (Br (decide (j<(b:Int))) (l (decide (j<(e:Int))) k) (l false k)))):CP 71 #[S9 a b c,S9 d e f] w R:=
 vcq Tryz.func71 [] [(3,⟨[(4,.int .i64)],[]⟩),(5,⟨[(14,.bool)],[]⟩),(10,⟨[],[]⟩)] [.l (.slice a b c),.l (.slice d e f)] h
theorem A_u (a:OA)(b c:Nat)(d:Int)(e:Bool)(f:Int)(g:BA)(i:OA)(j k:Nat)(l:OA)(m n:Nat)(o:BA)(w:World)(R:EW)(h:
 True/\(let p:=w.alloc (.cells #[N9 d,.bool e,N9 f,T9 g,S9 i j k,S9 l m n] 27);
 ∃ (q:Int->World->Prop) (r:Int->World->Nat),q 0 p/\
 (∀ s:Int,∀ t:World,q s t->
 ∀ u:Bool->World->Prop,(∀ v:Bool,∀ x:World,
 ((Br v (∀ y:World->Prop,(∀ z:World,
 ((q (wr (s+1)) z/\r (wr (s+1)) z<r s t))->
 y z)->
 Ix a s b fun A=>Lb x (A.add (s.toNat*1)) fun B=>(Nr B (Ix i s j fun C=>Ls x (C.add (s.toNat*1)) fun D=>Ix a s b fun E=>Off x (E.add (s.toNat*1)) 1 [27]/\True/\(let F:=(x.setCell (E.add (s.toNat*1)) (.bool (D.toList==o.toList)));
 y F)) (Ix a s b fun G=>Off x (G.add (s.toNat*1)) 1 [27]/\True/\(let H:=(x.setCell (G.add (s.toNat*1)) (.bool true));
 y H)))) (R (R9 (.tuple #[])) x)))->
 u v x)->
 (Br (decide (s<(b:Int))) (u (decide (s<(j:Int))) t) (u false t))))):CP 87 #[S9 a b c,(.agg #[N9 d,.bool e,N9 f,T9 g,S9 i j k,S9 l m n]),T9 o] w R:=
 vcq Tryz.func87 [4] [(5,⟨[(6,.int .i64)],[]⟩),(7,⟨[(17,.bool)],[]⟩),(12,⟨[],[]⟩)] [.l (.slice a b c),.agg [.int .i64 d,.bool e,.int .i64 f,.str g,.slice i j k,.slice l m n],.l (.str o)] h
theorem B_j (a:Int)(b:Int)(w:World)(R:EW)(h:
 (Br (decide (a<b)) (R (R9 (N9 a)) w) (R (R9 (N9 b)) w))):CP 156 #[N9 a,N9 b] w R:=
 vcq Tryz.func156 [] [] [.l (.int .i64 a),.l (.int .i64 b)] h
theorem y_u (a:Int)(w:World)(R:EW)(h:
 (Br (a==2) (R (R9 (T9 (⟨#[110,117,108,108]⟩:BA))) w) ((Br (a==4) (R (R9 (T9 (⟨#[98,111,111,108,101,97,110]⟩:BA))) w) ((Br (a==8) (R (R9 (T9 (⟨#[110,117,109,98,101,114]⟩:BA))) w) ((Br (a==16) (R (R9 (T9 (⟨#[105,110,116,101,103,101,114]⟩:BA))) w) ((Br (a==32) (R (R9 (T9 (⟨#[115,116,114,105,110,103]⟩:BA))) w) ((Br (a==64) (R (R9 (T9 (⟨#[97,114,114,97,121]⟩:BA))) w) ((Br (a==128) (R (R9 (T9 (⟨#[111,98,106,101,99,116]⟩:BA))) w) (R (R9 (T9 (⟨#[]⟩:BA))) w))))))))))))))):CP 124 #[N9 a] w R:=
 vcq Tryz.func124 [] [] [.l (.int .i64 a)] h
theorem y_y (a:Int)(b:Int)(w:World)(R:EW)(h:
 ∃ c,∃ d,(eqGuard .and 3 (Operand.tmp 5) (Operand.tmp 6) (.int .i64 a) (.int .i64 b)).run Tryz.prog w=.ok () w/\(binOp .and 3 (.int .i64 a) (.int .i64 b)).run Tryz.prog w=.ok (.int .i64 c) d/\True/\R (.returned (.bool (c !=0))) d):CP 123 #[.int .i64 a,.int .i64 b] w R:=
 vcq Tryz.func123 [] [] [.l (.int .i64 a),.l (.int .i64 b)] h
theorem y_M (a:Int)(w:World)(R:EW)(h:
 R (.returned (.bool (a==0))) w):CP 122 #[.int .i64 a] w R:=
 vcq Tryz.func122 [] [] [.l (.int .i64 a)] h
inductive JV where
 | mk (k:Int) (b:Bool) (n:Int) (t:BA) (ns:List BA) (xs:List JV)
def JV.k:JV->Int
 | .mk k _ _ _ _ _=>k
def JV.b:JV->Bool
 | .mk _ b _ _ _ _=>b
def JV.n:JV->Int
 | .mk _ _ n _ _ _=>n
def JV.t:JV->BA
 | .mk _ _ _ t _ _=>t
def JV.ns:JV->List BA
 | .mk _ _ _ _ ns _=>ns
def JV.xs:JV->List JV
 | .mk _ _ _ _ _ xs=>xs
structure JLim where
 is:Bool
 n:Int
structure JTak where
 is:Bool
 ts:List BA
structure JPr where
 name:BA
 node:Int
structure JPa where
 ts:List BA
 node:Int
structure JNe where
 name:BA
 names:List BA
structure JDe where
 name:BA
 names:List BA
 node:Int
structure JMo where
 k:Int
 node:Int
structure JN where
 kind:Int
 ref:Int
 allOf:List Int
 anyOf:List Int
 oneOf:List Int
 nt:Int
 iff:Int
 thn:Int
 els:Int
 types:List BA
 hasEnum:Bool
 enm:List JV
 cst:List JV
 minL:JLim
 maxL:JLim
 pat:JTak
 fmt:JTak
 minI:JLim
 maxI:JLim
 minC:JLim
 maxC:JLim
 uniq:Bool
 first:List Int
 items:Int
 cont:Int
 restI:Int
 minP:JLim
 maxP:JLim
 req:List BA
 needs:List JNe
 deps:List JPr
 props:List JPr
 pats:List JPa
 more:JMo
 names:Int
 restP:Int
 single:Int
 hasPl:Bool
 places:List Int
 others:JMo
 dep:List JDe
def memb (ns:List BA)(s:BA):Option Nat:=(List.range ns.length).reverse.find? fun i=>decide (ns[i]? =some s)
def membs (ns:List BA):List Nat:=(List.range ns.length).filter fun i=>match ns[i]? with
 | some s=>decide (memb ns s=some i)
 | none=>false
def wthn (E:JV->JV->Bool)(a b:JV):Bool:=(membs a.ns).all fun i=>match a.ns[i]?,a.xs[i]? with
 | some s,some x=>match (memb b.ns s).bind fun k=>b.xs[k]? with
  | some y=>E x y
  | none=>false
 | _,_=>false
def all2 (E:JV->JV->Bool):List JV->List JV->Bool
 | [],[]=>true
 | x::l,y::m=>E x y&&all2 E l m
 | _,_=>false
def eqF:Nat->JV->JV->Bool
 | 0,_,_=>false
 | f+1,a,b=>decide (a.k=b.k)&&(if a.k=1 then a.b==b.b else if a.k=2 then decide (a.n=b.n) else if a.k=3 then decide (a.t=b.t) else if a.k=4 then all2 (eqF f) a.xs b.xs else if a.k=5 then wthn (eqF f) a b&&wthn (eqF f) b a else true)
mutual
def szJ:JV->Nat
 | .mk _ _ _ _ _ xs=>1+szL xs
def szL:List JV->Nat
 | []=>0
 | x::l=>szJ x+szL l
end
def eqJ (a b:JV):Bool:=eqF (szJ a+szJ b) a b
def twins:List JV->Bool
 | []=>false
 | x::l=>l.any (eqJ x)||twins l
def kindN (k:Int):BA:=if k=0 then ⟨#[110,117,108,108]⟩ else if k=1 then ⟨#[98,111,111,108,101,97,110]⟩ else if k=2 then ⟨#[110,117,109,98,101,114]⟩ else if k=3 then ⟨#[115,116,114,105,110,103]⟩ else if k=4 then ⟨#[97,114,114,97,121]⟩ else ⟨#[111,98,106,101,99,116]⟩
def x_c:List UInt8->Nat
 | []=>0
 | b::l=>(if b.toNat / 64=2 then 0 else 1)+x_c l
def bound (n:Int)(least most:JLim):Bool:=(!least.is||decide (n>=least.n))&&(!most.is||decide (n<=most.n))
def among (s:BA)(l:List BA):Bool:=l.any fun u=>decide (u=s)
def tkn (s:BA)(t:JTak):Bool:= !t.is||among s t.ts
def joinM:List Bool->List Bool->List Bool
 | [],_=>[]
 | m,[]=>m
 | x::m,y::l=>(x||y)::joinM m l
def there (v:JV)(l:List BA):Bool:=l.all fun s=>(memb v.ns s).isSome
abbrev JJ:=Int->JV->Bool × List Bool
section
variable (d:Int) (J:JJ)
def w_7 (v:JV):List Int->Nat × List Bool->Nat × List Bool
 | [],st=>st
 | n::l,st=>w_7 v l ((if (J n v).1 then st.1+1 else st.1),joinM st.2 (J n v).2)
def jmore (m:JMo)(v:JV):Bool × Bool:=if m.k=1 then (true,true) else if m.k=2 then (false,true) else if m.k=3 then ((J m.node v).1,true) else (true,false)
def jelem (x:JN)(i:Nat)(v:JV):Bool × Bool:=
 let on (n:Int):Bool × Bool:=if n=0 then (true,false) else ((J n v).1,true)
 if d<2020 then (if x.hasPl=true then (match x.places[i]? with |some n=>on n|none=>jmore J x.others v) else on x.single)
 else match x.first[i]? with
  | some n=>on n
  | none=>on x.items
def x_d (x:JN)(name:BA)(v:JV):Bool × Bool:=
 let p:=x.props.reverse.find? fun q=>decide (q.name=name)
 let qs:=x.pats.filter fun q=>among name q.ts
 if p.isSome|| !qs.isEmpty then ((match p with |some q=>(J q.node v).1|none=>true)&&qs.all fun q=>(J q.node v).1,true) else jmore J x.more v
def lasts {α:Type}(f:α->BA):List α->List α
 | []=>[]
 | x::l=>if l.any (fun y=>decide (f y=f x)) then lasts f l else x::lasts f l
def jdeps (v:JV):List Int->Bool × List Bool->Bool × List Bool
 | [],st=>st
 | n::l,st=>jdeps v l (st.1&&(J n v).1,joinM st.2 (J n v).2)
def jcond (x:JN)(v:JV)(m:List Bool):Bool × List Bool:=
 let m1:=joinM m (J x.iff v).2
 let nx:=if (J x.iff v).1 then x.thn else x.els
 if nx=0 then (true,m1) else ((J nx v).1,joinM m1 (J nx v).2)
def x_e (x:JN)(v:JV)(m:List Bool):Bool × List Bool:=
 let r:=if x.ref>0 then ((J x.ref v).1,joinM m (J x.ref v).2) else (true,m)
 let a:=w_7 J v x.allOf (0,r.2)
 let b:=w_7 J v x.anyOf (0,a.2)
 let c:=w_7 J v x.oneOf (0,b.2)
 let ok:=r.1&&decide (a.1=x.allOf.length)&&(x.anyOf.isEmpty||decide (b.1>=1))&&(x.oneOf.isEmpty||decide (c.1=1))&&(decide (x.nt<=0)|| !(J x.nt v).1)
 let e:=if x.iff>0 then jcond J x v c.2 else (true,c.2)
 let f:=if v.k=5 then jdeps J v ((lasts JPr.name x.deps).filterMap fun q=>if (memb v.ns q.name).isSome then some q.node else none) (true,e.2) else (true,e.2)
 let g:=if v.k=5 then (lasts JDe.name x.dep).filter fun q=>(memb v.ns q.name).isSome else []
 let h:=jdeps J v (g.filterMap fun q=>if q.node=0 then none else some q.node) (true,f.2)
 (ok&&e.1&&f.1&&h.1&&g.all fun q=>decide (q.node≠0)||there v q.names,h.2)
def E_J (m:List Bool)(i:Nat)(b:Bool):List Bool:=m.modify i fun z=>z||b
def x_8 (x:JN)(v:JV)(m:List Bool):Bool × List Bool:=
 let es:=v.xs.zipIdx.map fun y=>jelem d J x y.2 y.1
 let m1:=joinM m (es.map (·.2))
 let cs:=v.xs.map fun y=>(J x.cont y).1
 let m2:=if x.cont>0/\d>=2020 then joinM m1 cs else m1
 let least:JLim:=if x.minC.is then x.minC else ⟨true,1⟩
 let ok:=bound v.xs.length x.minI x.maxI&& !(x.uniq&&twins v.xs)&&es.all (·.1)&&(decide (x.cont<=0)||bound (cs.filter id).length least x.maxC)
 if x.restI>0 then (ok&&(v.xs.zip m2).all fun y=>y.2||(J x.restI y.1).1,m2.map fun _=>true) else (ok,m2)
def nameM (ns:List BA)(s:BA)(m:List Bool):List Bool:=joinM m (ns.map fun u=>decide (u=s))
def x_T (x:JN)(v:JV):Bool:=there v x.req&&(lasts JNe.name x.needs).all fun q=> !(memb v.ns q.name).isSome||there v q.names
def jmems (x:JN)(v:JV):List Nat->Bool × List Bool->Bool × List Bool
 | [],st=>st
 | i::l,st=>match v.ns[i]?,v.xs[i]? with
  | some s,some y=>
   let r:=x_d J x s y
   jmems x v l (st.1&&(decide (x.names<=0)||(J x.names (.mk 3 false 0 s [] [])).1)&&r.1,if r.2 then nameM v.ns s st.2 else st.2)
  | _,_=>jmems x v l st
def jrest (x:JN)(v:JV):List Nat->Bool × List Bool->Bool × List Bool
 | [],st=>st
 | i::l,st=>match v.ns[i]?,v.xs[i]? with
  | some s,some y=>if st.2[i]? =some true then jrest x v l st else jrest x v l (st.1&&(J x.restP y).1,nameM v.ns s st.2)
  | _,_=>jrest x v l st
def x_w (x:JN)(v:JV)(m:List Bool):Bool × List Bool:=
 let l:=membs v.ns
 let a:=jmems J x v l (bound l.length x.minP x.maxP&&x_T x v,m)
 if x.restP>0 then jrest J x v l a else a
def x_j (x:JN)(v:JV):Bool:=(x.types.isEmpty||among (kindN v.k) x.types)&&(!x.hasEnum||x.enm.any (eqJ v))&&(match x.cst with |[]=>true|c::_=>eqJ v c)
end
def w_2 (d:Int)(s:List JN):Nat->JJ
 | 0,_,v=>(false,v.xs.map fun _=>false)
 | f+1,n,v=>match s[(n-1).toNat]? with
  | none=>(false,v.xs.map fun _=>false)
  | some x=>
   let m0:=v.xs.map fun _=>false
   if x.kind≠0 then (decide (x.kind=1),m0) else
   let J:=w_2 d s f
   let a:=x_e J x v m0
   let b:Bool × List Bool:=if v.k=3 then (bound (x_c v.t.toList) x.minL x.maxL&&tkn v.t x.pat&&tkn v.t x.fmt,a.2) else if v.k=4 then x_8 d J x v a.2 else if v.k=5 then x_w J x v a.2 else (true,a.2)
   if x_j x v&&a.1&&b.1 then (true,b.2) else (false,m0)
variable [DB]
mutual
def RJV (w:World):JV->List Value->Prop
 | .mk k b n t ns xs,cs=>∃ (a:OA) (l c:Nat) (a':OA) (l' c':Nat),cs=[.int .i64 k,.bool b,.int .i64 n,.string t,.slice a l c,.slice a' l' c']/\t.size<=4194304/\RStrs w a l c ns/\
   l'=xs.length/\l'<=c'/\l'<=4194304/\RJVs' w xs a' 0
def RJVs' (w:World):List JV->OA->Nat->Prop
 | [],_,_=>True
 | t::l,a,i=>(∃ p,a=some p/\∃ cs,a_x w 27 (p.add (i*6)) 0 cs/\RJV w t cs)/\RJVs' w l a (i+1)
end
def RJVs (w:World)(a:OA)(l c:Nat)(xs:List JV):Prop:=SlL w 27 6 (RJV w) a l c xs
theorem RJVs'_get {w:World}:∀ {el:List JV} {a:OA} {i:Nat},RJVs' w el a i↔∀ (j:Nat) (x:JV),el[j]? =some x->∃ p,a=some p/\∃ cs,a_x w 27 (p.add ((i+j)*6)) 0 cs/\RJV w x cs
 | [],a,i=>by simp [RJVs']
 | t::l,a,i=>by
  simp only [RJVs'];rw [RJVs'_get];constructor
  ·rintro ⟨h1,h2⟩ j x hx;cases j with
   | zero=>
    obtain rfl:t=x:=by simpa using hx
    simpa using h1
   | succ j=>
    have:=h2 j x (by simpa using hx)
    rwa [show i+1+j=i+(j+1) by omega] at this
  ·intro h;refine ⟨by simpa using h 0 t rfl,fun j x hx=>?_⟩;have:=h (j+1) x (by simpa using hx)
   rwa [show i+(j+1)=i+1+j by omega] at this
theorem w_8 {w:World}{k n:Int}{b:Bool}{t:BA}{ns:List BA}{xs:List JV}{cs:List Value}:
  RJV w (.mk k b n t ns xs) cs↔∃ (a:OA) (l c:Nat) (a':OA) (l' c':Nat),cs=[.int .i64 k,.bool b,.int .i64 n,.string t,.slice a l c,.slice a' l' c']/\t.size<=4194304/\RStrs w a l c ns/\RJVs w a' l' c' xs:=by
 simp only [RJV,RJVs,SlL,Sl];constructor
 ·rintro ⟨a,l,c,a',l',c',h1,h2,h3,h4,h5,h6,h7⟩;rw [RJVs'_get] at h7;simp only [Nat.zero_add] at h7;exact ⟨a,l,c,a',l',c',h1,h2,h3,h4,h5,h6,h7⟩
 ·rintro ⟨a,l,c,a',l',c',h1,h2,h3,h4,h5,h6,h7⟩;refine ⟨a,l,c,a',l',c',h1,h2,h3,h4,h5,h6,?_⟩;rw [RJVs'_get];simp only [Nat.zero_add];exact h7
mutual
theorem RJV.keep {w w':World}(h:Keep w w'):∀ {x:JV} {cs:List Value},RJV w x cs->RJV w' x cs
 | .mk k b n t ns xs,cs,hx=>by
  simp only [RJV] at hx ⊢;obtain ⟨a,l,c,a',l',c',h1,h2,h3,h4,h5,h6,h7⟩:=hx;exact ⟨a,l,c,a',l',c',h1,h2,h3.keep h,h4,h5,h6,RJVs'.keep h h7⟩
theorem RJVs'.keep {w w':World}(h:Keep w w'):∀ {x:List JV} {a:OA} {i:Nat},RJVs' w x a i->RJVs' w' x a i
 | [],_,_,_=>trivial
 | t::l,a,i,hx=>by
  simp only [RJVs'] at hx ⊢;obtain ⟨⟨p,hp,cs,h1,h5⟩,h6⟩:=hx;exact ⟨⟨p,hp,cs,h1.keep h (by decide),RJV.keep h h5⟩,RJVs'.keep h h6⟩
end
theorem RJVs.keep {w w':World}(h:Keep w w'){a:OA}{l c:Nat}{x:List JV}(hx:RJVs w a l c x):RJVs w' a l c x:=
 SlL.keep h (by decide) hx fun _ _ _=>RJV.keep h
def RI (n:Int)(cs:List Value):Prop:=cs=[.int .i64 n]
def membI (ns:List BA)(s:BA):Int:=match memb ns s with
 | some i=>i
 | none=> -1
theorem x_a {ns:List BA}{s:BA}{i:Nat}:memb ns s=some i↔ns[i]? =some s/\∀ j,i<j->ns[j]? ≠some s:=by
 unfold memb;constructor
 ·intro h;obtain ⟨h1,l1,l2,h2,h3⟩:=List.find?_eq_some_iff_append.1 h;refine ⟨by simpa using h1,fun j hj hjs=>?_⟩;have hjl:j<ns.length:=(List.getElem?_eq_some_iff.1 hjs).1;have e:List.range ns.length=l2.reverse++[i]++l1.reverse:=by
   have:=congrArg List.reverse h2;simpa using this
  have hs:=List.pairwise_lt_range (n:=ns.length);rw [e] at hs;have hm:j∈List.range ns.length:=List.mem_range.2 hjl;rw [e] at hm;simp only [ma_,List.mem_reverse,List.mem_singleton] at hm;rcases hm with (hm|hm)|hm
  ·have:=(List.pairwise_append.1 (List.pairwise_append.1 hs).1).2.2 j (by simpa using hm) i (by simp);omega
  ·omega
  ·have:=h3 j hm;simp [hjs] at this
 ·rintro ⟨h1,h2⟩;have hil:i<ns.length:=(List.getElem?_eq_some_iff.1 h1).1;cases hf:(List.range ns.length).reverse.find? fun i=>decide (ns[i]? =some s) with
  | none=>
   have:=List.find?_eq_none.1 hf i (by simp [hil]);simp [h1] at this
  | some k=>
   have hk:=List.find?_some hf;have hk:ns[k]? =some s:=by simpa using hk
   rcases Nat.lt_trichotomy i k with hik|hik|hik
   ·exact absurd hk (h2 k hik)
   ·rw [hik]
   ·obtain ⟨_,l1,l2,h4,h3⟩:=List.find?_eq_some_iff_append.1 hf;have e:List.range ns.length=l2.reverse++[k]++l1.reverse:=by
     have:=congrArg List.reverse h4;simpa using this
    have hs:=List.pairwise_lt_range (n:=ns.length);rw [e] at hs;have hm:i∈List.range ns.length:=List.mem_range.2 hil;rw [e] at hm;simp only [ma_,List.mem_reverse,List.mem_singleton] at hm;rcases hm with (hm|hm)|hm
    ·have:=(List.pairwise_append.1 (List.pairwise_append.1 hs).1).2.2 i (by simpa using hm) k (by simp);omega
    ·omega
    ·have:=h3 i hm;simp [h1] at this
theorem C_B {ns:List BA}{s:BA}:memb ns s=none↔∀ j:Nat,ns[j]? ≠some s:=by
 unfold memb;rw [List.find?_eq_none];simp only [List.mem_reverse,List.mem_range,decide_eq_true_eq];exact ⟨fun h (j:Nat) (hj:ns[j]? =some s)=>h j (List.getElem?_eq_some_iff.1 hj).1 hj,fun h j _=>h j⟩
section
variable {k n:Int} {b:Bool} {t:BA} {a:OA} {l c:Nat} {a':OA} {l' c':Nat} {w:World}
theorem D_2:CP 102 #[.agg #[.int .i64 k,.bool b,.int .i64 n,.string t,.slice a l c,.slice a' l' c']] w fun e w'=>e=.returned (.string (kindN k))/\EF w w':=by
 have x7:EF w (w.alloc (.cells #[.int .i64 k,.bool b,.int .i64 n,.string t,.slice a l c,.slice a' l' c'] 27)):=(Ext.refl w).alloc _;refine E_g k b n t a l c a' l' c' w _ ⟨trivial,?_⟩;refine ⟨fun h=>?_,fun h=>⟨fun h1=>?_,fun h1=>⟨fun h2=>?_,fun h2=>⟨fun h3=>?_,fun h3=>⟨fun h4=>?_,fun h4=>?_⟩⟩⟩⟩⟩<;>simp_all [kindN]
theorem y_a {ns:List BA}(hn:RStrs w a l c ns)(s:BA):CP 74 #[.agg #[.int .i64 k,.bool b,.int .i64 n,.string t,.slice a l c,.slice a' l' c'],.string s] w fun e w'=>e=.returned (.int .i64 (membI ns s))/\EF w w':=by
 obtain ⟨e1,e3⟩:=hn.len;have x7:EF w (w.alloc (.cells #[.int .i64 k,.bool b,.int .i64 n,.string t,.slice a l c,.slice a' l' c'] 27)):=(Ext.refl w).alloc _;refine C_M k b n t a l c a' l' c' s w _ ⟨trivial,?_⟩;rw [n_k (by omega) (by omega)];refine ⟨fun i w1=> -1<=i/\i<l/\EF w w1/\∀ j:Nat,i<j->ns[j]? ≠some s,fun i _=>(i+1).toNat,⟨by omega,by omega,x7,fun j hj=>?_⟩,?_⟩
 ·rw [List.getElem?_eq_none (by omega)];nofun
 rintro i w1 ⟨h0,h1,hx,hno⟩;refine ⟨fun hge=>?_,fun hlt=>⟨?_,hx⟩⟩
 ·have hge:0<=i:=by have:=odt hge;omega
  obtain ⟨p,x,hp,hxs,cs,hc,rfl⟩:=hn.get hge h1;refine ⟨p,hp,⟨hge,h1⟩,x,hx.cell hc.1.choose_spec.2 id,fun he=>?_,fun hne=>?_⟩
  ·have he:=a_b.1 he;subst he;have:memb ns x=some i.toNat:=x_a.2 ⟨hxs,fun j hj=>hno j (by omega)⟩;simp only [membI,this];exact ⟨by rw [Int.toNat_of_nonneg hge],hx⟩
  ·have hne:=a_f.1 hne;rw [n_k (by omega) (by omega)];refine ⟨⟨by omega,by omega,hx,fun j hj hjs=>?_⟩,by dsimp only;omega⟩;by_cases hji:i<j
   ·exact hno j hji hjs
   ·obtain rfl:j=i.toNat:=by omega
    rw [hxs] at hjs;exact hne (Option.some.inj hjs)
 ·have hlt:=odf hlt;have:memb ns s=none:=C_B.2 fun j=>hno j (by omega);simp only [membI,this]
theorem B_v (s:BA){xs:List BA}(hl:RStrs w a l c xs):CP 80 #[.string s,.slice a l c] w (RetB w fun z=>z=among s xs):=by
 obtain ⟨e1,e3⟩:=hl.len;refine D_u s a l c w _ ⟨fun i w1=>0<=i/\i<=l/\w1=w/\∀ u∈xs.take i.toNat,u≠s,fun i _=>(l-i).toNat,⟨by omega,by omega,rfl,by simp⟩,?_⟩;rintro i w1 ⟨h0,h1,rfl,hno⟩;refine ⟨fun hlt=>?_,fun hge=>⟨_,rfl,Ext.refl _,?_⟩⟩
 ·have hlt:=odt hlt;obtain ⟨p,x,hp,hxs,cs,hc,rfl⟩:=hl.get h0 hlt;refine ⟨p,hp,⟨h0,hlt⟩,x,hc.1.choose_spec.2.cell,fun he=>⟨_,rfl,Ext.refl _,?_⟩,fun hne=>?_⟩
  ·refine Eq.symm (List.any_eq_true.2 ⟨x,mg_ hxs,?_⟩);simp [a_b.1 he]
  ·rw [a_a h0 (by omega)];exact next h0 hlt ⟨rfl,a_g h0 hno hxs (a_f.1 hne)⟩
 ·refine Eq.symm (List.any_eq_false.2 fun x hm=>?_);simpa using a_o e1 hge hno x hm
end
theorem E_v {s:BA}(h:s≠⟨#[]⟩):0<s.size:=Nat.pos_of_ne_zero fun e=>h (by
 cases s with
 | mk d=>simp [ByteArray.size] at e;simp [e])
theorem C_E {s:BA}(h:(s.toList==(⟨#[]⟩:BA).toList)=false):0<s.size:=E_v (a_f.1 h)
theorem x_4 {s:BA}(h:(!(s.toList==(⟨#[]⟩:BA).toList))=true):0<s.size:=C_E (by simpa using h)
abbrev RetI (w:World)(Q:Int->Prop):Ending->World->Prop:=fun e w'=>∃ n:Int,e=.returned (.int .i64 n)/\EF w w'/\Q n
theorem B_w (c:Int)(w:World):CP 161 #[.int .u8 c] w (RetB w fun _=>True):=
 D_B c w _ fun K hK=>⟨fun _=>hK _ _ ⟨_,rfl,Ext.refl w,trivial⟩,fun _=>hK _ _ ⟨_,rfl,Ext.refl w,trivial⟩⟩
theorem A_I (s:BA)(hs:s.size<=4194304)(w:World):CP 162 #[.string s] w (RetB w fun z=>z=true->0<s.size):=by
 refine C_O s w _ ⟨fun i w1=>0<=i/\i<=s.size/\EF w w1,fun i _=>((s.size:Int)-i).toNat,⟨by omega,by omega,Ext.refl w⟩,?_⟩;rintro i w1 ⟨h0,h1,hx⟩;refine ⟨fun hlt=>?_,fun hge=>⟨_,rfl,hx,fun h=>by have:=odt h;omega⟩⟩;have hlt:=odt hlt;refine ⟨⟨h0,hlt⟩,(B_w _ w1).mono ?_⟩;rintro _ w2 ⟨b,rfl,x2,-⟩;refine ⟨b,rfl,trivial,fun _=>⟨false,rfl,hx.then x2,nofun⟩,fun _=>?_⟩;rw [a_a h0 (by omega)];exact next h0 hlt (hx.then x2)
theorem A_J (s:BA)(hs:s.size<=4194304)(w:World):CP 163 #[.string s] w (RetI w fun _=>True):=by
 refine C_R s w _ ⟨fun _ i w1=>0<=i/\i<=s.size/\w1=w,fun _ i _=>((s.size:Int)-i).toNat,⟨by omega,by omega,rfl⟩,?_⟩;rintro n i w1 ⟨h0,h1,rfl⟩;refine ⟨fun hlt=>?_,fun hge=>⟨_,rfl,Ext.refl _,trivial⟩⟩;have hlt:=odt hlt;refine ⟨⟨h0,hlt⟩,?_⟩;rw [a_a h0 (by omega)];exact next h0 hlt rfl
theorem D_d (s:BA)(hs:s.size<=4194304)(w:World):CP 137 #[.string s] w (RetB w fun _=>True):=by
 refine D_F s w _ fun K hK=>(A_I s hs w).mono ?_;rintro _ w2 ⟨b,rfl,x2,hb⟩;have hK':∀ z,K z w2:=fun z=>hK z w2 ⟨z,rfl,x2,trivial⟩;exact ⟨b,rfl,trivial,fun h=>⟨fun _=>⟨⟨by omega,by have:=hb h;omega⟩,hK' _⟩,fun _=>hK' _⟩,fun _=>hK' _⟩
theorem D_S (s:BA)(hs:s.size<=4194304)(i:Int)(h0:0<=i)(w:World):CP 136 #[.string s,.int .i64 i] w (RetI w fun n=>i<=n/\(i<=s.size->n<=s.size)):=by
 by_cases hi:i<=s.size
 ·refine D_Y s i w _ ⟨fun j w1=>i<=j/\j<=s.size/\EF w w1,fun j _=>((s.size:Int)-j).toNat,⟨by omega,hi,Ext.refl w⟩,?_⟩;rintro j w1 ⟨h1,h2,hx⟩ K hK;have hK':∀ b w2,EF w w2->(b=true->j<s.size)->K b w2:=fun b w2 x2 hb=>hK b w2 ⟨fun h=>by
   rw [a_a (by omega) (by omega)];have:=hb h;exact ⟨⟨by omega,by omega,x2⟩,by dsimp only;omega⟩,fun _=>⟨j,rfl,x2,h1,fun _=>h2⟩⟩
  refine ⟨fun hlt=>⟨⟨by omega,odt hlt⟩,(B_w _ w1).mono ?_⟩,fun _=>hK' _ _ hx nofun⟩;rintro _ w2 ⟨b,rfl,x2,-⟩;exact ⟨b,rfl,trivial,hK' _ _ (hx.then x2) fun _=>odt hlt⟩
 ·refine D_Y s i w _ ⟨fun j w1=>j=i/\w1=w,fun j _=>0,⟨rfl,rfl⟩,?_⟩;rintro j w1 ⟨rfl,rfl⟩ K hK;refine ⟨fun hlt=>absurd (odt hlt) (by omega),fun _=>hK _ _ ⟨nofun,fun _=>⟨j,rfl,Ext.refl _,by omega,fun h=>absurd h hi⟩⟩⟩
theorem z_k (s:BA)(i j:Nat):(s.extract i j).size<=s.size:=by
 rw [ByteArray.size_extract];omega
theorem D_4 (s:BA)(w:World):CP 140 #[.string s] w fun e w'=>∃ u:BA,e=.returned (.string u)/\u.size<=s.size/\w'=w:=by
 refine E_i s w _ ⟨fun u w1=>u.size<=s.size/\w1=w,fun u _=>u.size,⟨by omega,rfl⟩,?_⟩;rintro u w1 ⟨h0,rfl⟩ K hK;have hK':∀ b,(b=true->0<u.size)->K b w1:=fun b hb=>hK b w1 ⟨fun h=>by
  have:=hb h;have e:(u.extract (1:Int).toNat (u.size:Int).toNat).size=u.size-1:=by
   rw [ByteArray.size_extract];omega
  exact ⟨⟨by omega,by omega,by omega⟩,⟨by omega,rfl⟩,by dsimp only;omega⟩,fun _=>⟨u,rfl,h0,rfl⟩⟩
 refine ⟨fun h=>⟨⟨by omega,by have:=x_4 h;omega⟩,hK' _ fun _=>x_4 h⟩,fun _=>hK' _ nofun⟩
theorem A_7 (s:BA)(hs:s.size<=4194304)(w:World):CP 138 #[.string s] w fun e w'=>∃ (n:Int) (b:Bool),e=.returned (.tuple #[.int .i64 n,.bool b])/\EF w w':=by
 refine B_f s w _ ⟨fun _=>⟨_,_,rfl,Ext.refl w⟩,fun hne K2 hK2=>?_⟩;have hp:=C_E hne;have k2:∀ b,K2 b w:=fun b=>hK2 b w ⟨fun _=>⟨_,_,rfl,Ext.refl w⟩,fun _=>⟨⟨by omega,by omega,by omega⟩,fun K5 hK5=>by
  have hle:=z_k s (1:Int).toNat (s.size:Int).toNat;revert hK5 hle;generalize s.extract (1:Int).toNat (s.size:Int).toNat=u;intro hK5 hle;have k5:∀ m,(m=true->0<u.size)->K5 m w:=fun m hm=>hK5 m w fun K8 hK8=>by
   have k8:∀ v:BA,v.size<=4194304->K8 v w:=fun v hv=>hK8 v w fun K11 hK11=>by
    have k11:∀ b w',EF w w'->K11 b w':=fun b w' hx=>hK11 b w' ⟨fun _=>⟨_,_,rfl,hx⟩,fun _=>⟨fun _=>(A_J v hv w').mono (by
     rintro _ w3 ⟨n,rfl,x3,-⟩;exact ⟨n,rfl,trivial,_,_,rfl,hx.then x3⟩),fun _=>(A_J v hv w').mono (by
     rintro _ w3 ⟨n,rfl,x3,-⟩;exact ⟨n,rfl,trivial,_,_,rfl,hx.then x3⟩)⟩⟩
    refine (A_I v hv w).mono ?_;rintro _ w2 ⟨b,rfl,x2,-⟩;exact ⟨b,rfl,trivial,fun _=>k11 _ _ x2,fun _=>k11 _ _ x2⟩
   intro K23 hK23;have k23:∀ b,(b=true->0<u.size)->K23 b w:=fun b hb=>hK23 b w ⟨fun h=>⟨⟨by omega,by have:=hb h;omega,by omega⟩,k8 _ (by have:=z_k u (1:Int).toNat (u.size:Int).toNat;omega)⟩,fun _=>k8 _ (by omega)⟩;exact ⟨fun _=>⟨fun h=>⟨⟨by omega,by have:=x_4 h;omega⟩,k23 _ fun _=>x_4 h⟩,fun _=>k23 _ nofun⟩,fun h=>k23 _ fun _=>hm h⟩
  exact ⟨fun h=>⟨⟨by omega,by have:=x_4 h;omega⟩,k5 _ fun _=>x_4 h⟩,fun _=>k5 _ nofun⟩⟩⟩
 exact ⟨⟨by omega,by omega⟩,fun _=>⟨⟨by omega,by omega⟩,k2 _⟩,fun _=>k2 _⟩
theorem D_5 (d1:Bool)(d2:BA)(d3:Int)(hs:d2.size<=4194304)(w:World):CP 139 #[.agg #[.bool d1,.string d2,.int .i64 d3]] w fun e w'=>∃ (b:Bool) (u:BA) (n:Int),e=.returned (.agg #[.bool b,.string u,.int .i64 n])/\EF w w':=by
 refine E_j d1 d2 d3 w _ ⟨trivial,trivial,(D_4 d2 _).mono ?_⟩;rintro _ w7 ⟨u,rfl,hu,rfl⟩;refine ⟨u,rfl,⟨(Ext.refl _).keepT _,trivial⟩,trivial,fun b s n w1=>s.size<=d2.size/\EF w w1,fun _ s _ _=>s.size,⟨hu,(((Ext.refl w).alloc _).alloc _).setB (.inr (Nat.le_refl _)) _ _⟩,?_⟩;rintro b s n w15 ⟨h0,hx⟩ K hK;have hK':∀ z,(z=true->0<s.size)->K z w15:=fun z hz=>hK z w15 ⟨fun h=>by
  have:=hz h;rw [n_k (by omega) (by omega)];have e:(s.extract (0:Int).toNat ((s.size:Int)-1).toNat).size=s.size-1:=by
   rw [ByteArray.size_extract];omega
  exact ⟨⟨by omega,by omega,by omega⟩,trivial,trivial,⟨by omega,(hx.setB (.inr (Nat.le_refl _)) _ _).setB (.inr (Nat.le_refl _)) _ _⟩,by dsimp only;omega⟩,fun _=>⟨fun _=>⟨trivial,trivial,_,_,_,rfl,hx.setB (.inr (by simp)) _ _⟩,fun _=>⟨trivial,_,_,_,rfl,hx.setB (.inr (by simp)) _ _⟩⟩⟩
 refine ⟨fun h=>?_,fun _=>hK' _ nofun⟩;have:=x_4 h;rw [n_k (by omega) (by omega)];exact ⟨⟨by omega,by omega⟩,hK' _ fun _=>this⟩
theorem A_H (s:BA)(w:World):CP 107 #[.string s] w fun e w'=>∃ (b:Bool) (u:BA) (n:Int) (z:Bool),e=.returned (.tuple #[.agg #[.bool b,.string u,.int .i64 n],.bool z])/\EF w w':=by
 have xs:∀ {w1:World},EF w w1->∀ cs T,EF w (setB w1 w.heap.size cs T):=fun h cs T=>h.setB (.inr (Nat.le_refl _)) _ _;have x2:EF w (w.alloc (.cells #[.bool false,.string ⟨#[]⟩,.int .i64 0] 130)):=(Ext.refl w).alloc _;refine A_T s w _ ⟨trivial,fun _=>⟨trivial,trivial,_,_,_,_,rfl,xs x2 _ _⟩,fun hsm K4 hK4=>?_⟩;have hsm:=odf hsm;have hs:s.size<=40:=by omega
 have k4:∀ (i:Int) (w6:World),0<=i->i<=s.size->EF w w6->K4 i w6:=fun i w6 hi0 hi x6=>hK4 i w6<|by
  refine (D_S s (by omega) i hi0 w6).mono ?_;rintro _ w8 ⟨n9,rfl,x8,hn,hn'⟩;have hn':=hn' hi;refine ⟨n9,rfl,⟨x8.keepT _,trivial⟩,⟨hi0,hn,hn'⟩,(D_d _ (by have:=z_k s i.toNat n9.toNat;omega) w8).mono ?_⟩;rintro _ w11 ⟨b12,rfl,x11,-⟩;have y11:=x6.then (x8.then x11);refine ⟨b12,rfl,⟨x11.keepT _,trivial⟩,fun _=>⟨trivial,trivial,_,_,_,_,rfl,xs y11 _ _⟩,fun _ K14 hK14=>?_⟩;have k14:∀ (p:Int) (w16:World),n9<=p->p<=s.size->EF w w16->K14 p w16:=fun p w16 hp0 hp x16=>hK14 p w16<|by
   refine ⟨⟨by omega,by omega,by omega⟩,(A_7 _ (by have:=z_k s p.toNat (s.size:Int).toNat;omega) w16).mono ?_⟩;rintro _ w18 ⟨n19,b20,rfl,x18⟩;have y18:=x16.then x18;refine ⟨n19,b20,rfl,⟨x18.keepT _,trivial⟩,fun _=>⟨trivial,trivial,_,_,_,_,rfl,xs y18 _ _⟩,fun _=>⟨⟨hi0,hn,hn'⟩,fun K22 hK22=>?_⟩⟩;have k22:∀ (x:Int) (u:BA) (w25:World),u.size<=4194304->EF w w25->K22 x u w25:=fun x u w25 hu x25=>hK22 x u w25<|by
    refine ⟨trivial,(D_5 _ u x hu w25).mono ?_⟩;rintro _ w27 ⟨b28,u29,n30,rfl,x27⟩;exact ⟨b28,u29,n30,rfl,⟨x27.keepT _,trivial⟩,trivial,_,_,_,_,rfl,xs (x25.then x27) _ _⟩
   refine ⟨fun hgt=>?_,fun _=>k22 _ _ _ (by have:=z_k s i.toNat n9.toNat;omega) y18⟩;have hgt:=odt hgt;rw [a_a (n:=n9) (by omega) (by omega)];refine ⟨⟨by omega,by omega,by omega⟩,?_⟩;have q1:=z_k s i.toNat n9.toNat;have q2:=z_k s (n9+1).toNat p.toNat;exact ⟨_,_,b_E,b_q (by omega) (by omega),⟨(Ext.refl _).keepT _,trivial⟩,k22 _ _ _ (by rw [ByteArray.size_append];omega) y18⟩
  intro K34 hK34;have k34:∀ b,(b=true->n9<s.size)->K34 b w11:=fun b hb=>hK34 b w11 ⟨fun h=>by
   have:=hb h;rw [a_a (n:=n9) (by omega) (by omega)];refine (D_S s (by omega) (n9+1) (by omega) w11).mono ?_;rintro _ w38 ⟨n39,rfl,x38,h39,h39'⟩;refine ⟨n39,rfl,⟨x38.keepT _,trivial⟩,fun _=>⟨trivial,trivial,_,_,_,_,rfl,xs (y11.then x38) _ _⟩,fun _=>k14 _ _ (by omega) (h39' (by omega)) (y11.then x38)⟩,fun _=>k14 _ _ (by omega) hn' y11⟩
  exact ⟨fun h=>⟨⟨by omega,odt h⟩,k34 _ fun _=>odt h⟩,fun _=>k34 _ nofun⟩
 intro K41 hK41;have k41:∀ b,(b=true->0<s.size)->K41 b _:=fun b hb=>hK41 b _ ⟨fun h=>k4 1 _ (by omega) (by have:=hb h;omega) x2,fun _=>k4 0 _ (by omega) (by omega) x2⟩;exact ⟨fun h=>⟨⟨by omega,by have:=x_4 h;omega⟩,k41 _ fun _=>x_4 h⟩,fun _=>k41 _ nofun⟩
theorem A_D (s:BA)(w:World):CP 89 #[.string s] w (RetB w fun _=>True):=by
 refine A_Q s w _ ((A_H s w).mono ?_);rintro _ w3 ⟨b,u,n,z,rfl,x3⟩;exact ⟨b,u,n,z,rfl,trivial,trivial,trivial,z,rfl,x3.alloc _,trivial⟩
section
variable {k n:Int} {b:Bool} {t:BA} {a:OA} {l c:Nat} {a':OA} {l' c':Nat} {w:World}
def y_T (ns:List BA)(m:Nat):List Nat:=(List.range m).filter fun i=>match ns[i]? with
 | some s=>decide (memb ns s=some i)
 | none=>false
theorem y_2 {ns:List BA}{m:Nat}{s:BA}(h:ns[m]? =some s):y_T ns (m+1)=y_T ns m++if memb ns s=some m then [m] else []:=by
 unfold y_T;rw [List.range_succ,List.filter_append];by_cases e:memb ns s=some m<;>simp [h,e]
theorem x_3 (ns:List BA)(m:Nat):(y_T ns m).length<=m:=by
 have:=List.length_filter_le (fun i=>match ns[i]? with |some s=>decide (memb ns s=some i)|none=>false) (List.range m);simpa [y_T] using this
theorem B_I {ns:List BA}{s:BA}{m:Nat}:membI ns s=(m:Int)↔memb ns s=some m:=by
 unfold membI;cases memb ns s with
 | none=>simp;try omega
 | some i=>simp;try omega
theorem RI.len {n:Int}{cs:List Value}(h:RI n cs):cs.length=1:=by rw [h];rfl
theorem z_Y {ns:List BA}(hn:RStrs w a l c ns):CP 84 #[.agg #[.int .i64 k,.bool b,.int .i64 n,.string t,.slice a l c,.slice a' l' c']] w fun e w'=>
  ∃ (A:OA) (L C:Nat),e=.returned (.slice A L C)/\EF w w'/\OwnR 3 1 RI w.heap.size w' A L C ((membs ns).map Int.ofNat):=by
 obtain ⟨e1,e3⟩:=hn.len;have x7:EF w (w.alloc (.cells #[.int .i64 k,.bool b,.int .i64 n,.string t,.slice a l c,.slice a' l' c'] 27)):=(Ext.refl w).alloc _;refine B_5 k b n t a l c a' l' c' w _ ⟨trivial,?_⟩;refine ⟨fun A L C i w1=>0<=i/\i<=l/\EF w w1/\OwnR 3 1 RI w.heap.size w1 A L C ((y_T ns i.toNat).map Int.ofNat),fun _ _ _ i _=>((l:Int)-i).toNat,⟨by omega,by omega,x7,OwnR.nil⟩,?_⟩;rintro A L C i w1 ⟨h0,h1,hx,hO⟩;refine ⟨fun hlt=>?_,fun hge=>⟨A,L,C,rfl,hx,?_⟩⟩
 ·have hlt:=odt hlt;intro K hK w2 hw2;have z2:EF w1 w2:=hw2▸(Ext.refl w1).drew;obtain ⟨p,x,hp,hxs,cs,hc,rfl⟩:=hn.get h0 hlt;have eL:=hO.len (by omega);have hle:=x_3 ns i.toNat;rw [List.length_map] at eL;refine ⟨p,hp,⟨h0,hlt⟩,x,(hx.then z2).cell hc.1.choose_spec.2 id,(y_a (hn.keep (hx.then z2).keep) x).mono ?_⟩;rintro _ w3 ⟨rfl,z3⟩;refine ⟨_,rfl,⟨z3.keepT _,trivial⟩,trivial,fun he=>⟨trivial,?_⟩,fun hne=>?_⟩
  ·have he:membI ns x=i:=by simpa using he
   have O3:=hO.keep0 (z2.then z3);have y3:=hx.then (z2.then z3);obtain ⟨A',C',w4,r4,O4,x4,k4,n4⟩:=O3.one 32 Tryz.t3 _ _ (by kernel_rfl) (by kernel_rfl) rfl (by kernel_rfl) rfl (by kernel_rfl) (by omega) (by decide) y3.size (x:=i) (cs:=[.int .i64 i]) rfl (fun v hv=>by
    obtain rfl:v=.int .i64 i:=by simpa using hv
    rfl) rfl (by omega) 32 #[false,false]
   refine ⟨A',L+1,C',w4,r4,⟨k4 _ (by decide),trivial⟩,hK _ _ _ _ ?_⟩;rw [a_a h0 (by omega)];refine next h0 hlt ⟨O3.ext0 (Nat.le_refl _) y3 x4,?_⟩
   rw [show (i+1).toNat=i.toNat+1 by omega,y_2 hxs,if_pos (B_I.1 (by rw [he];omega)),List.map_append];have:[i.toNat].map Int.ofNat=[i]:=by simp;omega
   rw [this];exact O4
  ·have hne:membI ns x≠i:=by simpa using hne
   refine hK _ _ _ _ ?_;rw [a_a h0 (by omega)];refine next h0 hlt ⟨hx.then (z2.then z3),?_⟩
   rw [show (i+1).toNat=i.toNat+1 by omega,y_2 hxs,if_neg (fun e=>hne (by rw [B_I.2 e];omega)),List.append_nil];exact hO.keep0 (z2.then z3)
 ·have:i=l:=by have:=odf hge;omega
  subst this;rw [Int.toNat_natCast,e1] at hO;exact hO
theorem y_m (m:Int)(x y:JLim):CP 48 #[.int .i64 m,.agg #[.bool x.is,.int .i64 x.n],.agg #[.bool y.is,.int .i64 y.n]] w (RetB w fun z=>z=bound m x y):=by
 obtain ⟨x1,x2⟩:=x;obtain ⟨y1,y2⟩:=y;have x7:EF w ((w.alloc (.cells #[.bool x1,.int .i64 x2] 34)).alloc (.cells #[.bool y1,.int .i64 y2] 34)):=((Ext.refl w).alloc _).alloc _;refine B_6 m x1 x2 y1 y2 w _ ⟨trivial,trivial,fun K hK=>?_⟩;have hK':∀ z,z=bound m ⟨x1,x2⟩ ⟨y1,y2⟩->K z ((w.alloc (.cells #[.bool x1,.int .i64 x2] 34)).alloc (.cells #[.bool y1,.int .i64 y2] 34)):=fun z hz=>hK z _ ⟨z,rfl,x7,hz⟩;clear hK;refine ⟨fun h1=>⟨fun h2=>⟨fun h3=>hK' _ ?_,fun h3=>hK' _ ?_⟩,fun h2=>hK' _ ?_⟩,fun h1=>⟨fun h3=>hK' _ ?_,fun h3=>hK' _ ?_⟩⟩<;>clear hK'
 all_goals simp only [bound]
 all_goals cases x1<;>cases y1<;>first|(exact absurd h1 (by decide))|(exact absurd h3 (by decide))|(rw [h2];simp)|simp
theorem B_x (s:BA)(tk:JTak)(hl:RStrs w a l c tk.ts):CP 50 #[.string s,.agg #[.bool tk.is,.slice a l c]] w (RetB w fun z=>z=tkn s tk):=by
 obtain ⟨x1,x2⟩:=tk;have x7:EF w (w.alloc (.cells #[.bool x1,.slice a l c] 36)):=(Ext.refl w).alloc _;refine D_G s x1 a l c w _ ⟨trivial,fun K hK=>⟨fun h=>?_,fun h=>hK _ _ ⟨_,rfl,x7,?_⟩⟩⟩
 ·refine (B_v s (hl.keep x7.keep)).mono ?_;rintro _ w2 ⟨z,rfl,x2,hz⟩;exact ⟨z,rfl,⟨x2.keepT _,trivial⟩,hK _ _ ⟨_,rfl,x7.then x2,by simp_all [tkn]⟩⟩
 ·simp_all [tkn]
end
mutual
def okJ:JV->Prop
 | .mk k b n t ns xs=>k≠2/\0<=k/\k<=5/\(k=5->ns.length=xs.length)/\okJs xs
def okJs:List JV->Prop
 | []=>True
 | x::l=>okJ x/\okJs l
end
theorem y_p:∀ {xs:List JV},okJs xs↔∀ x∈xs,okJ x
 | []=>by simp [okJs]
 | x::l=>by simp [okJs,y_p]
theorem x_L:∀ {xs:List JV} {x:JV},x∈xs->szJ x<=szL xs
 | y::l,x,h=>by
  simp only [szL];rcases mc_.1 h with rfl|h
  ·omega
  ·have:=x_L h;omega
theorem y_D {E:JV->JV->Bool}:∀ {xs ys:List JV},xs.length=ys.length->(all2 E xs ys=true↔∀ (i:Nat) (x y:JV),xs[i]? =some x->ys[i]? =some y->E x y=true)
 | [],[],_=>by simp [all2]
 | x::l,y::m,h=>by
  simp only [all2,Bool.and_eq_true];rw [y_D (by simpa using h)];constructor
  ·rintro ⟨h1,h2⟩ i u v hu hv;cases i with
   | zero=>
    obtain rfl:x=u:=by simpa using hu
    obtain rfl:y=v:=by simpa using hv
    exact h1
   | succ i=>exact h2 i u v (by simpa using hu) (by simpa using hv)
  ·exact fun h=>⟨h 0 x y rfl rfl,fun i u v hu hv=>h (i+1) u v (by simpa using hu) (by simpa using hv)⟩
theorem z_9 {E:JV->JV->Bool}:∀ {xs ys:List JV},all2 E xs ys=true->xs.length=ys.length
 | [],[],_=>rfl
 | x::l,y::m,h=>by
  simp only [all2,Bool.and_eq_true] at h;simpa using z_9 h.2
 | [],y::m,h=>by simp [all2] at h
 | x::l,[],h=>by simp [all2] at h
abbrev EqOf (f:Nat)(E:JV->JV->Bool):Prop:=∀ (x y:JV) (cs cs':List Value) (w:World),szJ x+szJ y<=f->okJ x->okJ y->RJV w x cs->RJV w y cs'->CP 70 #[.agg cs.toArray,.agg cs'.toArray] w (RetB w fun z=>z=E x y)
def wthAt (E:JV->JV->Bool)(ns:List BA)(xs:List JV)(ms:List BA)(ys:List JV)(i:Nat):Bool:=match ns[i]?,xs[i]? with
 | some s,some x=>match (memb ms s).bind fun k=>ys[k]? with
  | some y=>E x y
  | none=>false
 | _,_=>false
theorem z_u {ns:List BA}{i:Nat}(h:i∈membs ns):i<ns.length:=by
 simp only [membs,List.mem_filter,List.mem_range] at h;exact h.1
theorem A_K {f:Nat}{E:JV->JV->Bool}(IH:EqOf f E){k n k2 n2:Int}{b b2:Bool}{t t2:BA}{ns ms:List BA}{xs ys:List JV}(hsz:szL xs+szL ys<=f)(hn:ns.length=xs.length)(hm:ms.length=ys.length)(ok1:okJs xs)(ok2:okJs ys)
  {a:OA} {l c:Nat} {a':OA} {l' c':Nat} {a2:OA} {l2 c2:Nat} {a3:OA} {l3 c3:Nat} {w:World} (r1:RStrs w a l c ns) (r2:RJVs w a' l' c' xs) (r3:RStrs w a2 l2 c2 ms) (r4:RJVs w a3 l3 c3 ys):
  CP 105 #[.agg #[.int .i64 k,.bool b,.int .i64 n,.string t,.slice a l c,.slice a' l' c'],.agg #[.int .i64 k2,.bool b2,.int .i64 n2,.string t2,.slice a2 l2 c2,.slice a3 l3 c3]] w (RetB w fun z=>z=(membs ns).all (wthAt E ns xs ms ys)):=by
 have x14:EF w ((w.alloc (.cells #[.int .i64 k,.bool b,.int .i64 n,.string t,.slice a l c,.slice a' l' c'] 27)).alloc (.cells #[.int .i64 k2,.bool b2,.int .i64 n2,.string t2,.slice a2 l2 c2,.slice a3 l3 c3] 27)):=((Ext.refl w).alloc _).alloc _;obtain ⟨e1,e1'⟩:=r1.len;obtain ⟨e2,e2'⟩:=r2.len;obtain ⟨e3,e3'⟩:=r3.len;obtain ⟨e4,e4'⟩:=r4.len;refine C_U k b n t a l c a' l' c' k2 b2 n2 t2 a2 l2 c2 a3 l3 c3 w _ ⟨trivial,trivial,?_⟩;refine (z_Y (r1.keep x14.keep)).mono ?_;rintro _ w16 ⟨A,L,C,rfl,x16,hO⟩;have y16:=x14.then x16;have eL:=hO.len (by omega);have hle:=x_3 ns ns.length;rw [List.length_map] at eL;have hle:(membs ns).length<=ns.length:=hle;have hI:SlL w16 3 1 RI A L C ((membs ns).map Int.ofNat):=hO.sl (by omega) (by omega);refine ⟨A,L,C,rfl,⟨x16.keepT _,trivial⟩,fun i w1=>0<=i/\i<=L/\EF w16 w1/\∀ j∈(membs ns).take i.toNat,wthAt E ns xs ms ys j=true,fun i _=>((L:Int)-i).toNat,⟨by omega,by omega,Ext.refl _,by simp⟩,?_⟩;rintro i w21 ⟨h0,h1,hx,hall⟩;refine ⟨fun hlt=>?_,fun hge=>⟨true,rfl,y16.then hx,Eq.symm (List.all_eq_true.2 fun j hj=>a_o (xs:=membs ns) eL hge hall j hj)⟩⟩;have hlt:=odt hlt;intro w22 hw22;have x22:EF w16 w22:=hw22▸hx.drew;obtain ⟨p,m,hp,hms,cs,hc,rfl⟩:=hI.get h0 hlt;rw [List.getElem?_map] at hms;obtain ⟨j,hj,rfl⟩:=Option.map_eq_some_iff.1 hms;have hjm:=mg_ hj;have hjl:=z_u hjm;have hji:(Int.ofNat j)=(j:Int):=rfl;have y22:=y16.then x22;obtain ⟨p1,s,hp1,hs,_,hcs,rfl⟩:=r1.get (i:=(j:Int)) (by omega) (by omega);rw [Int.toNat_natCast] at hs;refine ⟨p,hp,⟨h0,hlt⟩,_,x22.cell hc.1.choose_spec.2 id,p1,hp1,⟨by omega,by omega⟩,s,y22.cell hcs.1.choose_spec.2 id,(y_a (r3.keep y22.keep) s).mono ?_⟩;rintro _ w28 ⟨rfl,x28⟩;refine ⟨_,rfl,⟨x28.keepT _,trivial⟩,trivial,trivial,?_⟩;intro K hK w33 hw33;have x33:EF w16 w33:=hw33▸(x22.then x28).drew;have y33:=y16.then x33;have out:∀ (z:Bool) (w':World),EF w16 w'->z=(!wthAt E ns xs ms ys j)->K z w':=fun z w' x' hz=>hK z w' ⟨fun h=>⟨false,rfl,y16.then x',Eq.symm (List.all_eq_false.2 ⟨j,hjm,by rw [h] at hz;simpa using hz⟩)⟩,fun h=>by
  rw [a_a h0 (by omega)];exact next h0 hlt ⟨x',a_g (xs:=membs ns) h0 hall hj (by rw [h] at hz;simpa using hz)⟩⟩
 obtain ⟨p36,x,hp36,hxs,cx,hcx,hvx⟩:=r2.get (i:=(j:Int)) (by omega) (by omega);rw [Int.toNat_natCast] at hxs;refine ⟨fun hneg=>out _ _ x33 ?_,fun hpos=>?_⟩
 ·cases hmb:memb ms s with
  | none=>simp [wthAt,hs,hxs,hmb]
  | some q=>
   have:=odt hneg;simp only [membI,hmb] at this;omega
 ·cases hmb:memb ms s with
  | none=>
   have:=odf hpos;simp [membI,hmb] at this
  | some q=>
   have hq:=(x_a.1 hmb).1;have hql:q<ms.length:=(List.getElem?_eq_some_iff.1 hq).1;have eq:membI ms s=(q:Int):=by simp [membI,hmb]
   obtain ⟨p43,y,hp43,hys,cy,hcy,hvy⟩:=r4.get (i:=(q:Int)) (by omega) (by omega);rw [Int.toNat_natCast] at hys;have hx':=mg_ hxs;have hy':=mg_ hys;have hwt:wthAt E ns xs ms ys j=E x y:=by simp [wthAt,hs,hxs,hmb,hys]
   have call:=IH x y cx cy w33 (by have:=x_L hx';have:=x_L hy';omega) (y_p.1 ok1 x hx') (y_p.1 ok2 y hy') (hvx.keep y33.keep) (hvy.keep y33.keep);obtain ⟨xk,xb,xn,xt,xns,xxs⟩:=x;obtain ⟨yk,yb,yn,yt,yns,yxs⟩:=y;obtain ⟨a5,l5,c5,a6,l6,c6,rfl,-, -, -⟩:=w_8.1 hvx;obtain ⟨a7,l7,c7,a8,l8,c8,rfl,-, -, -⟩:=w_8.1 hvy;obtain ⟨⟨_,_,g0⟩,-, ⟨_,_,g1⟩,-, ⟨_,_,g2⟩,-, ⟨_,_,g3⟩,-, ⟨_,_,g4⟩,-, ⟨_,_,g5⟩,-⟩:=hcx;obtain ⟨⟨_,_,f0⟩,-, ⟨_,_,f1⟩,-, ⟨_,_,f2⟩,-, ⟨_,_,f3⟩,-, ⟨_,_,f4⟩,-, ⟨_,_,f5⟩,-⟩:=hcy;rw [eq];refine ⟨p,hp,⟨h0,hlt⟩,_,x33.cell hc.1.choose_spec.2 id,p36,hp36,⟨by omega,by omega⟩,_,y33.cell g0 id,_,y33.cell g1 id,_,y33.cell g2 id,_,y33.cell g3 id,_,_,_,y33.cell g4 id,_,_,_,y33.cell g5 id,p43,hp43,⟨by omega,by omega⟩,_,y33.cell f0 id,_,y33.cell f1 id,_,y33.cell f2 id,_,y33.cell f3 id,_,_,_,y33.cell f4 id,_,_,_,y33.cell f5 id,call.mono ?_⟩;rintro _ w51 ⟨z,rfl,x51,hz⟩;exact ⟨z,rfl,⟨x51.keepT _,trivial⟩,trivial,out _ _ (x33.then x51) (by rw [hwt,hz])⟩
theorem z_L {E:JV->JV->Bool}{a b:JV}:wthn E a b=(membs a.ns).all (wthAt E a.ns a.xs b.ns b.xs):=rfl
theorem B_B {f:Nat}{k n k2 n2:Int}{b b2:Bool}{t t2:BA}{ns ms:List BA}{xs ys:List JV}:eqF (f+1) (.mk k b n t ns xs) (.mk k2 b2 n2 t2 ms ys)=(decide (k=k2)&&(if k=1 then b==b2 else if k=2 then decide (n=n2) else if k=3 then decide (t=t2) else if k=4 then all2 (eqF f) xs ys else if k=5 then wthn (eqF f) (.mk k b n t ns xs) (.mk k2 b2 n2 t2 ms ys)&&wthn (eqF f) (.mk k2 b2 n2 t2 ms ys) (.mk k b n t ns xs) else true)):=rfl
theorem z_g:∀ f:Nat,EqOf f (eqF f):=by
 intro f;induction f with
 | zero=>
  intro x y cs cs' w hsz;obtain ⟨k,b,n,t,ns,xs⟩:=x;simp only [szJ] at hsz;omega
 | succ f IH=>
  intro x y cs cs' w hsz ok1 ok2 hx hy;obtain ⟨k,b,n,t,ns,xs⟩:=x;obtain ⟨k2,b2,n2,t2,ms,ys⟩:=y;obtain ⟨a,l,c,a',l',c',rfl,-, r1,r2⟩:=w_8.1 hx;obtain ⟨a2,l2,c2,a3,l3,c3,rfl,-, r3,r4⟩:=w_8.1 hy;simp only [szJ] at hsz;simp only [okJ] at ok1 ok2;obtain ⟨o1,o2,o3,o4,o5⟩:=ok1;obtain ⟨u1,u2,u3,u4,u5⟩:=ok2;have x14:EF w ((w.alloc (.cells #[.int .i64 k,.bool b,.int .i64 n,.string t,.slice a l c,.slice a' l' c'] 27)).alloc (.cells #[.int .i64 k2,.bool b2,.int .i64 n2,.string t2,.slice a2 l2 c2,.slice a3 l3 c3] 27)):=((Ext.refl w).alloc _).alloc _;obtain ⟨e2,e2'⟩:=r2.len;obtain ⟨e4,e4'⟩:=r4.len;have sz:szL xs+szL ys<=f:=by omega
  refine C_K k b n t a l c a' l' c' k2 b2 n2 t2 a2 l2 c2 a3 l3 c3 w _ ⟨trivial,trivial,?_⟩;have e:∀ z,k=k2->((if k=1 then b==b2 else if k=2 then decide (n=n2) else if k=3 then decide (t=t2) else if k=4 then all2 (eqF f) xs ys else if k=5 then wthn (eqF f) (.mk k b n t ns xs) (.mk k2 b2 n2 t2 ms ys)&&wthn (eqF f) (.mk k2 b2 n2 t2 ms ys) (.mk k b n t ns xs) else true)=z)->z=eqF (f+1) (.mk k b n t ns xs) (.mk k2 b2 n2 t2 ms ys):=by
   rintro _ hk rfl;rw [B_B,decide_eq_true hk,Bool.true_and]
  refine ⟨fun hne=>⟨false,rfl,x14,?_⟩,fun heq=>?_⟩
  ·have:k≠k2:=by simpa using hne
   rw [B_B,decide_eq_false this,Bool.false_and]
  ·have hk:k=k2:=by simpa using heq
   intro K hK;refine ⟨fun h1=>⟨_,rfl,x14,e _ hk ?_⟩,fun h1=>⟨fun h2=>?_,fun h2=>⟨fun h3=>⟨_,rfl,x14,e _ hk ?_⟩,fun h3=>⟨fun h4=>?_,fun h4=>⟨fun h5=>?_,fun h5=>?_⟩⟩⟩⟩⟩
   ·have h1:k=1:=by simpa using h1
    rw [if_pos h1]
   ·exact absurd (by simpa using h2) o1
   ·have h3:k=3:=by simpa using h3
    rw [if_neg (by omega),if_neg (by omega),if_pos h3,c_A]
   ·have h4:k=4:=by simpa using h4
    refine ⟨fun hl=>⟨false,rfl,x14,e _ hk ?_⟩,fun hl=>?_⟩
    ·rw [if_neg (by omega),if_neg (by omega),if_neg (by omega),if_pos h4];have hl:(l':Int)≠l3:=by simpa using hl
     cases h:all2 (eqF f) xs ys with
     | false=>rfl
     | true=>exact absurd (z_9 h) (by omega)
    ·have hl:(l':Int)=l3:=by simpa using hl
     have hl:l'=l3:=by omega
     refine ⟨fun i w1=>0<=i/\i<=l'/\EF w w1/\∀ (j:Nat) (x y:JV),j<i.toNat->xs[j]? =some x->ys[j]? =some y->eqF f x y=true,fun i _=>((l':Int)-i).toNat,⟨by omega,by omega,x14,fun j _ _ h=>by simp at h⟩,?_⟩;rintro i w34 ⟨h0,hi,x34,hall⟩;refine ⟨fun hlt=>?_,fun hge=>hK _ ⟨true,rfl,x34,e _ hk ?_⟩⟩
     ·have hlt:=odt hlt;intro w35 hw35;have y35:EF w w35:=hw35▸x34.drew;obtain ⟨p36,x,hp36,hxs,cx,hcx,hvx⟩:=r2.get h0 hlt;obtain ⟨p43,y,hp43,hys,cy,hcy,hvy⟩:=r4.get h0 (by omega);have hx':=mg_ hxs;have hy':=mg_ hys;have call:=IH x y cx cy w35 (by have:=x_L hx';have:=x_L hy';omega) (y_p.1 o5 x hx') (y_p.1 u5 y hy') (hvx.keep y35.keep) (hvy.keep y35.keep);have hat:∀ (j:Nat) (u v:JV),j=i.toNat->xs[j]? =some u->ys[j]? =some v->u=x/\v=y:=by
       rintro j u v rfl hu hv;rw [hxs] at hu;rw [hys] at hv;exact ⟨(Option.some.inj hu).symm,(Option.some.inj hv).symm⟩
      have hxl:xs.length=ys.length:=by omega
      have hfal:eqF f x y=false->all2 (eqF f) xs ys=false:=fun h=>by
       cases h':all2 (eqF f) xs ys with
       | false=>rfl
       | true=>rw [(y_D hxl).1 h' _ x y hxs hys] at h;cases h
      obtain ⟨xk,xb,xn,xt,xns,xxs⟩:=x;obtain ⟨yk,yb,yn,yt,yns,yxs⟩:=y;obtain ⟨a5,l5,c5,a6,l6,c6,rfl,-, -, -⟩:=w_8.1 hvx;obtain ⟨a7,l7,c7,a8,l8,c8,rfl,-, -, -⟩:=w_8.1 hvy;obtain ⟨⟨_,_,g0⟩,-, ⟨_,_,g1⟩,-, ⟨_,_,g2⟩,-, ⟨_,_,g3⟩,-, ⟨_,_,g4⟩,-, ⟨_,_,g5⟩,-⟩:=hcx;obtain ⟨⟨_,_,f0⟩,-, ⟨_,_,f1⟩,-, ⟨_,_,f2⟩,-, ⟨_,_,f3⟩,-, ⟨_,_,f4⟩,-, ⟨_,_,f5⟩,-⟩:=hcy;refine ⟨p36,hp36,⟨h0,hlt⟩,_,y35.cell g0 id,_,y35.cell g1 id,_,y35.cell g2 id,_,y35.cell g3 id,_,_,_,y35.cell g4 id,_,_,_,y35.cell g5 id,p43,hp43,⟨h0,by omega⟩,_,y35.cell f0 id,_,y35.cell f1 id,_,y35.cell f2 id,_,y35.cell f3 id,_,_,_,y35.cell f4 id,_,_,_,y35.cell f5 id,call.mono ?_⟩;rintro _ w51 ⟨z,rfl,x51,hz⟩;refine ⟨z,rfl,⟨x51.keepT _,trivial⟩,trivial,fun hf=>⟨false,rfl,y35.then x51,e _ hk ?_⟩,fun ht=>?_⟩
      ·rw [if_neg (by omega),if_neg (by omega),if_neg (by omega),if_pos h4];exact hfal (by rw [<- hz];simpa using hf)
      ·rw [a_a h0 (by omega)];refine next h0 hlt ⟨y35.then x51,fun j u v hj hu hv=>?_⟩
       by_cases hji:j<i.toNat
       ·exact hall j u v hji hu hv
       ·obtain ⟨rfl,rfl⟩:=hat j u v (by omega) hu hv;rw [<- hz];simpa using ht
     ·rw [if_neg (by omega),if_neg (by omega),if_neg (by omega),if_pos h4];have hge:=odf hge;exact (y_D (by omega)).2 fun j u v hu hv=>hall j u v (by have:=(List.getElem?_eq_some_iff.1 hu).1;omega) hu hv
   ·have h5:k=5:=by simpa using h5
    intro K5 hK5;have fin:∀ (z:Bool) (w':World),EF w w'->z=(wthn (eqF f) (.mk k b n t ns xs) (.mk k2 b2 n2 t2 ms ys)&&wthn (eqF f) (.mk k2 b2 n2 t2 ms ys) (.mk k b n t ns xs))->K5 z w':=fun z w' x' hz=>hK5 z w' ⟨z,rfl,x',e _ hk (by
     rw [if_neg (by omega),if_neg (by omega),if_neg (by omega),if_neg (by omega),if_pos h5,hz])⟩
    refine (A_K IH sz (o4 h5) (u4 (by omega)) o5 u5 (r1.keep x14.keep) (r2.keep x14.keep) (r3.keep x14.keep) (r4.keep x14.keep)).mono ?_;rintro _ w57 ⟨z,rfl,x57,hz⟩;have y57:=x14.then x57;refine ⟨z,rfl,⟨x57.keepT _,trivial⟩,fun ht=>?_,fun hf=>fin _ _ y57 ?_⟩
    ·refine (A_K IH (by omega) (u4 (by omega)) (o4 h5) u5 o5 (r3.keep y57.keep) (r4.keep y57.keep) (r1.keep y57.keep) (r2.keep y57.keep)).mono ?_;rintro _ w60 ⟨z2,rfl,x60,hz2⟩;refine ⟨z2,rfl,⟨x60.keepT _,trivial⟩,fin _ _ (y57.then x60) ?_⟩;rw [z_L,z_L];simp only [JV.ns,JV.xs];rw [<- hz,ht,Bool.true_and,hz2]
    ·rw [z_L,z_L];simp only [JV.ns,JV.xs];rw [<- hz,hf,Bool.false_and]
   ·have n1:k≠1:=by simpa using h1
    have n3:k≠3:=by simpa using h3
    have n4:k≠4:=by simpa using h4
    have n5:k≠5:=by simpa using h5
    exact hK _ ⟨true,rfl,x14,e _ hk (by rw [if_neg n1,if_neg o1,if_neg n3,if_neg n4,if_neg n5])⟩
end Go.VC
namespace Go.VC
open Go
inductive U8at (s:BA):Nat->Prop
 | done:U8at s s.size
 | step {i n:Nat} (hi:i<s.size) (h1:1<=n) (hn:i+n<=s.size) (hd:(Utf8.decode s i).2=n) (hb:(s[i]'hi).toNat / 64≠2) (hc:∀ j,i<j->(hj:j<i+n)->(s[j]'(by omega)).toNat / 64=2) (h:U8at s (i+n)):U8at s i
def U8 (s:BA):Prop:=s.size<=1099511627776/\U8at s 0
def Wd (s:BA)(i n:Nat):Prop:=∃ (hi:i<s.size),i+n<=s.size/\(n=1/\(s[i]'hi).toNat<128∨
 ∃ h1:i+1<s.size,128<=(s[i+1]'h1).toNat/\(s[i+1]'h1).toNat<=191/\(∀ k,2<=k->k<n->∀ hk:i+k<s.size,128<=(s[i+k]'hk).toNat/\(s[i+k]'hk).toNat<=191)/\
 (n=2/\194<=(s[i]'hi).toNat/\(s[i]'hi).toNat<=223∨
  n=3/\224<=(s[i]'hi).toNat/\(s[i]'hi).toNat<=239/\((s[i]'hi).toNat=224->160<=(s[i+1]'h1).toNat)/\((s[i]'hi).toNat=237->(s[i+1]'h1).toNat<=159)∨
  n=4/\240<=(s[i]'hi).toNat/\(s[i]'hi).toNat<=244/\((s[i]'hi).toNat=240->144<=(s[i+1]'h1).toNat)/\((s[i]'hi).toNat=244->(s[i+1]'h1).toNat<=143)))
theorem getb {s:BA}{i:Nat}(h:i<s.size):s.get! i=s[i]'h:=by
 simp [ByteArray.get!,getElem!_pos,h];rfl
theorem Wd.dec {s:BA}{i n:Nat}(h:Wd s i n):(Utf8.decode s i).2=n:=by
 obtain ⟨hi,hn,h⟩:=h;unfold Utf8.decode;rcases h with ⟨rfl,h⟩|⟨h1,b1,b2,hk,h⟩
 ·simp only [Nat.add_zero,getb hi,h,if_true]
 ·generalize hA:(s[i]'hi).toNat=A at *;generalize hB:(s[i+1]'h1).toNat=B at *;rcases h with ⟨rfl,a1,a2⟩|⟨rfl,a1,a2,a3,a4⟩|⟨rfl,a1,a2,a3,a4⟩
  ·simp only [Nat.add_zero,getb hi,getb h1,hA,hB];rw [if_neg (by omega),if_pos (by simp;omega),if_pos (by omega)]
  ·have h2:i+2<s.size:=by omega
   obtain ⟨c1,c2⟩:=hk 2 (by omega) (by omega) h2;generalize hC:(s[i+2]'h2).toNat=C at *;simp only [Nat.add_zero,getb hi,getb h1,getb h2,hA,hB,hC];rw [if_neg (by omega),if_neg (by simp;omega),if_pos (by simp;omega),if_pos (by simp [Utf8.valid];omega)]
  ·have h2:i+2<s.size:=by omega
   have h3:i+3<s.size:=by omega
   obtain ⟨c1,c2⟩:=hk 2 (by omega) (by omega) h2;obtain ⟨d1,d2⟩:=hk 3 (by omega) (by omega) h3;generalize hC:(s[i+2]'h2).toNat=C at *;generalize hD:(s[i+3]'h3).toNat=D at *;simp only [Nat.add_zero,getb hi,getb h1,getb h2,getb h3,hA,hB,hC,hD];rw [if_neg (by omega),if_neg (by simp;omega),if_neg (by simp;omega),if_pos (by simp;omega),if_pos (by simp [Utf8.valid];omega)]
theorem Wd.lead {s:BA}{i n:Nat}(h:Wd s i n)(hi:i<s.size):1<=n/\i+n<=s.size/\(s[i]'hi).toNat / 64≠2/\∀ j,i<j->j<i+n->∀ hj:j<s.size,(s[j]'hj).toNat / 64=2:=by
 obtain ⟨hi,hn,h⟩:=h;rcases h with ⟨rfl,h⟩|⟨h1,b1,b2,hk,h⟩
 ·exact ⟨by omega,hn,by omega,fun j _ _=>by omega⟩
 ·have hc:∀ j,i<j->j<i+n->∀ hj:j<s.size,(s[j]'hj).toNat / 64=2:=fun j g1 g2 hj=>by
   by_cases e:j=i+1
   ·subst e;omega
   ·obtain ⟨k,rfl⟩:∃ k,j=i+k:=⟨j-i,by omega⟩;have:=hk k (by omega) (by omega) hj;omega
  rcases h with ⟨rfl,a1,a2⟩|⟨rfl,a1,a2,a3,a4⟩|⟨rfl,a1,a2,a3,a4⟩
  ·exact ⟨by omega,hn,by omega,hc⟩
  ·exact ⟨by omega,hn,by omega,hc⟩
  ·exact ⟨by omega,hn,by omega,hc⟩
theorem Wd.u8 {s:BA}{i n:Nat}(h:Wd s i n)(h8:U8at s (i+n)):U8at s i:=by
 have hi:i<s.size:=h.1;obtain ⟨h1,h2,h3,h4⟩:=h.lead hi;exact .step hi h1 h2 h.dec h3 (fun j g1 g2=>h4 j g1 g2 (by omega)) h8
theorem A_y {s:BA}{i:Int}(h0:0<=i)(hi:i<s.size):∃ h:i.toNat<s.size,sget s i=((s[i.toNat]'h).toNat:Int):=⟨by omega,by rw [sget,dif_pos (by omega:i.toNat<s.size)]⟩
def Lead (a n l m:Int):Prop:=n=2/\194<=a/\a<=223∨n=3/\224<=a/\a<=239/\(a=224->160<=l)/\(a=237->m<=159)∨n=4/\240<=a/\a<=244/\(a=240->144<=l)/\(a=244->m<=143)
theorem E_D {s:BA}{i n l m:Int}(h0:0<=i)(hi:i<s.size)(hn:i+n<=s.size)(hl:128<=l)(hm:m<=191)(hL:Lead (sget s i) n l m)(hb:l<=sget s (i+1)/\sget s (i+1)<=m)(hc:∀ j,2<=j->j<n->128<=sget s (i+j)/\sget s (i+j)<=191):Wd s i.toNat n.toNat:=by
 have hn2:2<=n/\n<=4:=by unfold Lead at hL;omega
 obtain ⟨g0,e0⟩:=A_y h0 hi;obtain ⟨g1,e1⟩:=A_y (s:=s) (i:=i+1) (by omega) (by omega);have t1:(i+1).toNat=i.toNat+1:=by omega
 have g1':i.toNat+1<s.size:=by omega
 have e1':sget s (i+1)=((s[i.toNat+1]'g1').toNat:Int):=by
  rw [e1];congr 3
 refine ⟨g0,by omega,.inr ⟨g1',by omega,by omega,fun k k2 kn hk=>?_,?_⟩⟩
 ·obtain ⟨g2,e2⟩:=A_y (s:=s) (i:=i+(k:Int)) (by omega) (by omega);have:=hc k (by omega) (by omega);have e2':sget s (i+(k:Int))=((s[i.toNat+k]'hk).toNat:Int):=by
   rw [e2];have:(i+(k:Int)).toNat=i.toNat+k:=by omega
   congr 3
  omega
 ·unfold Lead at hL;omega
end Go.VC
namespace Go.VC
open Go Go.Proofs
variable [DB]
theorem D_h (s:BA)(hs:s.size<=4194304)(i:Int)(h0:0<=i)(hi:i<s.size)(w:World):CP 110 #[.string s,.int .i64 i] w (RetI w fun n=>n=0∨1<=n/\n<=4/\Wd s i.toNat n.toNat):=by
 refine D_K s i w _ ⟨⟨h0,hi⟩,fun K3 hK3=>?_⟩;have k3:∀ n l m:Int,128<=l->m<=191->Lead (sget s i) n l m->K3 n l m w:=fun n l m hl hm hL=>hK3 n l m w fun K8 hK8=>by
  have hn2:2<=n/\n<=4:=by unfold Lead at hL;omega
  have k8:∀ b:Bool,(b=false->i+n<=s.size/\l<=sget s (i+1)/\sget s (i+1)<=m)->K8 b w:=fun b hb=>hK8 b w ⟨fun _=>⟨0,rfl,Ext.refl w,.inl rfl⟩,fun hf=>by
   obtain ⟨hb1,hb2⟩:=hb hf;refine ⟨fun k w1=>2<=k/\k<=n/\w1=w/\∀ j,2<=j->j<k->128<=sget s (i+j)/\sget s (i+j)<=191,fun k _=>(n-k).toNat,⟨by omega,by omega,rfl,fun j _ _=>by omega⟩,?_⟩;rintro k w1 ⟨hk2,hkn,rfl,hc⟩;refine ⟨fun hlt K15 hK15=>?_,fun hge=>⟨n,rfl,Ext.refl _,.inr ⟨by omega,by omega,?_⟩⟩⟩
   ·have hlt:=odt hlt;have k15:∀ b,(b=false->128<=sget s (i+k)/\sget s (i+k)<=191)->K15 b w1:=fun b hb=>hK15 b w1 ⟨fun _=>⟨0,rfl,Ext.refl _,.inl rfl⟩,fun hf=>by
     rw [f_c (by omega) (by omega)];refine ⟨⟨by omega,by omega,rfl,fun j j2 jk=>?_⟩,by dsimp only;omega⟩;by_cases e:j=k
     ·rw [e];exact hb hf
     ·exact hc j j2 (by omega)⟩
    rw [f_c (a:=i) (b:=k) (by omega) (by omega)];refine ⟨⟨by omega,by omega⟩,fun h1=>⟨⟨by omega,by omega⟩,k15 _ fun h2=>?_⟩,fun _=>k15 _ nofun⟩;have h1:=odf h1;have h2:=odf h2;omega
   ·have hge:=odf hge;obtain rfl:k=n:=by omega
    exact E_D h0 hi hb1 hl hm hL hb2 hc⟩
  refine ⟨fun hle=>?_,fun _=>k8 _ nofun⟩;have hle:=odf hle;rw [f_c (a:=i) (b:=n) (by omega) (by omega)] at hle;have hle:i+n<=s.size:=by omega
  rw [f_c (a:=i) (b:=1) (by omega) (by omega)];refine ⟨⟨by omega,by omega⟩,fun h1=>⟨⟨by omega,by omega⟩,k8 _ fun h2=>?_⟩,fun _=>k8 _ nofun⟩;have h1:=odf h1;have h2:=odf h2;exact ⟨hle,by omega,by omega⟩
 refine ⟨fun h1=>⟨1,rfl,Ext.refl w,.inr ⟨by omega,by omega,?_⟩⟩,fun h1 K18 hK18=>?_⟩
 ·have h1:=odt h1;obtain ⟨g0,e0⟩:=A_y h0 hi;exact ⟨g0,by omega,.inl ⟨rfl,by omega⟩⟩
 have h1:=odf h1;have k27:∀ (K27:Bool->World->Prop),(∀ b,(b=true->240<=sget s i/\sget s i<=244)->K27 b w)->((decide (sget s i>=(240:Int))=true->K27 (decide (sget s i<=(244:Int))) w)/\(decide (sget s i>=(240:Int))=false->K27 false w)):=fun K27 hK27=>⟨fun h=>hK27 _ fun h'=>⟨odt h,odt h'⟩,fun _=>hK27 _ nofun⟩;have k21:∀ (K21:Bool->World->Prop),(∀ b,(b=true->224<=sget s i/\sget s i<=239)->K21 b w)->((decide (sget s i>=(224:Int))=true->K21 (decide (sget s i<=(239:Int))) w)/\(decide (sget s i>=(224:Int))=false->K21 false w)):=fun K21 hK21=>⟨fun h=>hK21 _ fun h'=>⟨odt h,odt h'⟩,fun _=>hK21 _ nofun⟩;have k18:∀ b,(b=true->194<=sget s i/\sget s i<=223)->K18 b w:=fun b hb=>hK18 b w ⟨fun ht=>k3 _ _ _ (by omega) (by omega) (.inl ⟨rfl,hb ht⟩),fun _ K21 hK21=>k21 K21 fun b hb=>hK21 b w ⟨fun ht K24 hK24=>by
   obtain ⟨a1,a2⟩:=hb ht;have k24:∀ l,128<=l->(sget s i=224->160<=l)->K24 l w:=fun l hl hl'=>hK24 l w ⟨fun _=>k3 _ _ _ hl (by omega) (.inr (.inl ⟨rfl,a1,a2,hl',fun _=>by omega⟩)),fun hne=>k3 _ _ _ hl (by omega) (.inr (.inl ⟨rfl,a1,a2,hl',fun e=>by rw [e] at hne;cases hne⟩))⟩;exact ⟨fun _=>k24 _ (by omega) fun _=>by omega,fun hne=>k24 _ (by omega) fun e=>by rw [e] at hne;cases hne⟩,fun _ K27 hK27=>k27 K27 fun b hb=>hK27 b w ⟨fun ht K30 hK30=>by
    obtain ⟨a1,a2⟩:=hb ht;have k30:∀ l,128<=l->(sget s i=240->144<=l)->K30 l w:=fun l hl hl'=>hK30 l w ⟨fun _=>k3 _ _ _ hl (by omega) (.inr (.inr ⟨rfl,a1,a2,hl',fun _=>by omega⟩)),fun hne=>k3 _ _ _ hl (by omega) (.inr (.inr ⟨rfl,a1,a2,hl',fun e=>by rw [e] at hne;cases hne⟩))⟩;exact ⟨fun _=>k30 _ (by omega) fun _=>by omega,fun hne=>k30 _ (by omega) fun e=>by rw [e] at hne;cases hne⟩,fun _=>⟨0,rfl,Ext.refl w,.inl rfl⟩⟩⟩⟩
 exact ⟨fun h=>k18 _ fun h'=>⟨odt h,odt h'⟩,fun _=>k18 _ nofun⟩
theorem C_l (s:BA)(hs:s.size<=4194304)(w:World):CP 88 #[.string s] w (RetB w fun z=>z=true->U8 s):=by
 refine E_h s w _ ⟨fun i w1=>0<=i/\i<=s.size/\EF w w1/\(U8at s i.toNat->U8at s 0),fun i _=>((s.size:Int)-i).toNat,⟨by omega,by omega,Ext.refl w,id⟩,?_⟩;rintro i w1 ⟨h0,h1,hx,h8⟩;refine ⟨fun hlt=>?_,fun hge=>⟨_,rfl,hx,fun _=>⟨by omega,h8 ?_⟩⟩⟩
 ·have hlt:=odt hlt;refine (D_h s hs i h0 hlt w1).mono ?_;rintro _ w2 ⟨n,rfl,x2,hn⟩;refine ⟨n,rfl,trivial,fun _=>⟨false,rfl,hx.then x2,nofun⟩,fun hne=>?_⟩;have hne:n≠0:=by simpa using hne
  obtain ⟨n1,n4,hw⟩:=hn.resolve_left hne;have hle:=(hw.lead (by omega)).2.1;rw [f_c (by omega) (by omega)];exact ⟨⟨by omega,by omega,hx.then x2,fun h=>h8 (hw.u8 (by rwa [show (i+n).toNat=i.toNat+n.toNat by omega] at h))⟩,by dsimp only;omega⟩
 ·have hge:=odf hge;rw [show i.toNat=s.size by omega];exact .done
mutual
def okP:JV->Prop
 | .mk k b n t ns xs=>0<=k/\k<=5/\(k=5->ns.length=xs.length)/\U8 t/\(∀ s∈ns,U8 s)/\okPs xs
def okPs:List JV->Prop
 | []=>True
 | x::l=>okP x/\okPs l
end
theorem B_K:∀ {xs:List JV},okPs xs↔∀ x∈xs,okP x
 | []=>by simp [okPs]
 | x::l=>by simp [okPs,B_K]
mutual
def noN:JV->Prop
 | .mk k b n t ns xs=>k≠2/\noNs xs
def noNs:List JV->Prop
 | []=>True
 | x::l=>noN x/\noNs l
end
theorem B_J:∀ {xs:List JV},noNs xs↔∀ x∈xs,noN x
 | []=>by simp [noNs]
 | x::l=>by simp [noNs,B_J]
mutual
theorem E_w:∀ {v:JV},okP v->noN v->okJ v
 | .mk k b n t ns xs,h1,h2=>by
  simp only [okP,noN,okJ] at h1 h2 ⊢;exact ⟨h2.1,h1.1,h1.2.1,h1.2.2.1,C_G h1.2.2.2.2.2 h2.2⟩
theorem C_G:∀ {xs:List JV},okPs xs->noNs xs->okJs xs
 | [],_,_=>trivial
 | x::l,h1,h2=>by
  simp only [okPs,noNs,okJs] at h1 h2 ⊢;exact ⟨E_w h1.1 h2.1,C_G h1.2 h2.2⟩
end
theorem A_8:∀ (N:Nat) (v:JV) (cs:List Value) (deep:Int) (w:World),szJ v<=N->RJV w v cs->0<=deep->deep<=1000->CP 60 #[.agg cs.toArray,.int .i64 deep] w (RetB w fun z=>z=true->okP v):=by
 intro N;induction N with
 | zero=>
  intro v cs deep w hN;obtain ⟨k,b,n,t,ns,xs⟩:=v;simp only [szJ] at hN;omega
 | succ N IH=>
  intro v cs deep w hN hv hd0 hd1;obtain ⟨k,b,n,t,ns,xs⟩:=v;obtain ⟨a,l,c,a',l',c',rfl,ht,r1,r2⟩:=w_8.1 hv;simp only [szJ] at hN;obtain ⟨e1,e1'⟩:=r1.len;obtain ⟨e2,e2'⟩:=r2.len;have x8:EF w (w.alloc (.cells #[.int .i64 k,.bool b,.int .i64 n,.string t,.slice a l c,.slice a' l' c'] 27)):=(Ext.refl w).alloc _;refine B_g k b n t a l c a' l' c' deep w _ ⟨trivial,fun _=>⟨false,rfl,x8,nofun⟩,fun hdeep K9 hK9=>?_⟩;have hdeep:deep≠0:=by simpa using hdeep
  have k9:∀ (z:Bool) (w':World),EF w w'->(z=false->0<=k/\k<=5/\(k=5->ns.length=xs.length)/\U8 t)->K9 z w':=fun z w' x' hz=>hK9 z w' ⟨fun _=>⟨false,rfl,x',nofun⟩,fun hf=>by
   have hz:=hz hf;refine ⟨fun i w1=>0<=i/\i<=l/\EF w w1/\∀ s∈ns.take i.toNat,U8 s,fun i _=>((l:Int)-i).toNat,⟨by omega,by omega,x',by simp⟩,?_⟩;rintro i w1 ⟨h0,h1,hx,hns⟩;refine ⟨fun hlt=>?_,fun hge0=>?_⟩
   ·have hlt:=odt hlt;obtain ⟨p,s,hp,hs,_,hc,rfl⟩:=r1.get h0 hlt;refine ⟨p,hp,⟨h0,hlt⟩,s,hx.cell hc.1.choose_spec.2 id,(C_l s hc.2.1 w1).mono ?_⟩;rintro _ w2 ⟨b2,rfl,x2,h8⟩;refine ⟨b2,rfl,⟨x2.keepT _,trivial⟩,fun _=>⟨false,rfl,hx.then x2,nofun⟩,fun hb=>?_⟩;rw [a_a h0 (by omega)];exact next h0 hlt ⟨hx.then x2,a_g h0 hns hs (h8 (by simpa using hb))⟩
   ·have hU:∀ s∈ns,U8 s:=fun s hm=>a_o (xs:=ns) e1 hge0 hns s hm;refine ⟨fun i w1=>0<=i/\i<=l'/\EF w w1/\∀ x∈xs.take i.toNat,okP x,fun i _=>((l':Int)-i).toNat,⟨by omega,by omega,hx,by simp⟩,?_⟩;rintro i w1 ⟨h0,h1,hx,hall⟩;refine ⟨fun hlt=>?_,fun hge=>⟨true,rfl,hx,fun _=>?_⟩⟩
    ·have hlt:=odt hlt;obtain ⟨p,x,hp,hxs,cx,hc,hvx⟩:=r2.get h0 hlt;have hx':=mg_ hxs;rw [n_k (a:=deep) (by omega) (by omega)];have call:=IH x cx (deep-1) w1 (by have:=x_L hx';omega) (hvx.keep hx.keep) (by omega) (by omega);obtain ⟨xk,xb,xn,xt,xns,xxs⟩:=x;obtain ⟨a5,l5,c5,a6,l6,c6,rfl,-, -, -⟩:=w_8.1 hvx;obtain ⟨⟨_,_,g0⟩,-, ⟨_,_,g1⟩,-, ⟨_,_,g2⟩,-, ⟨_,_,g3⟩,-, ⟨_,_,g4⟩,-, ⟨_,_,g5⟩,-⟩:=hc;refine ⟨p,hp,⟨h0,hlt⟩,_,hx.cell g0 id,_,hx.cell g1 id,_,hx.cell g2 id,_,hx.cell g3 id,_,_,_,hx.cell g4 id,_,_,_,hx.cell g5 id,call.mono ?_⟩;rintro _ w2 ⟨b2,rfl,x2,hb2⟩;refine ⟨b2,rfl,⟨x2.keepT _,trivial⟩,fun _=>⟨false,rfl,hx.then x2,nofun⟩,fun hb=>?_⟩;rw [a_a h0 (by omega)];exact next h0 hlt ⟨hx.then x2,a_g h0 hall hxs (hb2 (by simpa using hb))⟩
    ·simp only [okP];exact ⟨hz.1,hz.2.1,hz.2.2.1,hz.2.2.2,hU,B_K.2 fun x hm=>a_o (xs:=xs) e2 hge hall x hm⟩⟩
  have last:∀ (w':World),EF w w'->0<=k->k<=5->U8 t->((k==(5:Int))=true->K9 ((l:Int) !=(l':Int)) w')/\((k==(5:Int))=false->K9 false w'):=fun w' x' h0 h5 hu=>⟨fun _=>k9 _ _ x' fun h=>⟨h0,h5,fun _=>by
   have:(l:Int)=l':=by simpa using h
   omega,hu⟩,fun h=>k9 _ _ x' fun _=>⟨h0,h5,fun e=>absurd e (by simpa using h),hu⟩⟩
  refine ⟨fun h0=>⟨fun h5=>?_,fun _=>k9 _ _ x8 nofun⟩,fun _=>k9 _ _ x8 nofun⟩;have h0:0<=k:=by have:=odf h0;omega
  have h5:k<=5:=by have:=odf h5;omega
  refine (C_l t ht _).mono ?_;rintro _ w36 ⟨b37,rfl,x36,hu⟩;have y36:=x8.then x36;refine ⟨b37,rfl,⟨x36.keepT _,trivial⟩,fun hb=>?_,fun _=>k9 _ _ y36 nofun⟩;have hu:=hu (by simpa using hb);refine ⟨fun _=>⟨fun _=>(A_D t w36).mono ?_,fun _=>last _ y36 h0 h5 hu⟩,fun _=>last _ y36 h0 h5 hu⟩;rintro _ w39 ⟨b40,rfl,x39,-⟩;exact ⟨b40,rfl,⟨x39.keepT _,trivial⟩,fun _=>last _ (y36.then x39) h0 h5 hu,fun _=>k9 _ _ (y36.then x39) nofun⟩
theorem z_h (v:JV)(cs:List Value)(w:World)(hv:RJV w v cs):CP 38 #[.agg cs.toArray] w (RetB w fun z=>z=true->okP v):=by
 have h:=hv;obtain ⟨k,b,n,t,ns,xs⟩:=v;obtain ⟨a,l,c,a',l',c',rfl,ht,r1,r2⟩:=w_8.1 hv;have x8:EF w (w.alloc (.cells #[.int .i64 k,.bool b,.int .i64 n,.string t,.slice a l c,.slice a' l' c'] 27)):=(Ext.refl w).alloc _;refine C_N k b n t a l c a' l' c' w _ ⟨trivial,(A_8 _ _ _ 1000 _ (Nat.le_refl _) (h.keep x8.keep) (by omega) (by omega)).mono ?_⟩;rintro _ w9 ⟨z,rfl,x9,hz⟩;exact ⟨z,rfl,⟨x9.keepT _,trivial⟩,z,rfl,x8.then x9,hz⟩
theorem C_j:∀ (N:Nat) (v:JV) (cs:List Value) (w:World),szJ v<=N->RJV w v cs->CP 39 #[.agg cs.toArray] w (RetB w fun z=>z=true->noN v):=by
 intro N;induction N with
 | zero=>
  intro v cs w hN;obtain ⟨k,b,n,t,ns,xs⟩:=v;simp only [szJ] at hN;omega
 | succ N IH=>
  intro v cs w hN hv;obtain ⟨k,b,n,t,ns,xs⟩:=v;obtain ⟨a,l,c,a',l',c',rfl,ht,r1,r2⟩:=w_8.1 hv;simp only [szJ] at hN;obtain ⟨e2,e2'⟩:=r2.len;have x8:EF w (w.alloc (.cells #[.int .i64 k,.bool b,.int .i64 n,.string t,.slice a l c,.slice a' l' c'] 27)):=(Ext.refl w).alloc _;refine C_J k b n t a l c a' l' c' w _ ⟨trivial,fun _=>⟨false,rfl,x8,nofun⟩,fun hk=>?_⟩;have hk:k≠2:=by simpa using hk
  refine ⟨fun i w1=>0<=i/\i<=l'/\EF w w1/\∀ x∈xs.take i.toNat,noN x,fun i _=>((l':Int)-i).toNat,⟨by omega,by omega,x8,by simp⟩,?_⟩;rintro i w1 ⟨h0,h1,hx,hall⟩;refine ⟨fun hlt=>?_,fun hge=>⟨true,rfl,hx,fun _=>?_⟩⟩
  ·have hlt:=odt hlt;obtain ⟨p,x,hp,hxs,cx,hc,hvx⟩:=r2.get h0 hlt;have hx':=mg_ hxs;have call:=IH x cx w1 (by have:=x_L hx';omega) (hvx.keep hx.keep);obtain ⟨xk,xb,xn,xt,xns,xxs⟩:=x;obtain ⟨a5,l5,c5,a6,l6,c6,rfl,-, -, -⟩:=w_8.1 hvx;obtain ⟨⟨_,_,g0⟩,-, ⟨_,_,g1⟩,-, ⟨_,_,g2⟩,-, ⟨_,_,g3⟩,-, ⟨_,_,g4⟩,-, ⟨_,_,g5⟩,-⟩:=hc;refine ⟨p,hp,⟨h0,hlt⟩,_,hx.cell g0 id,_,hx.cell g1 id,_,hx.cell g2 id,_,hx.cell g3 id,_,_,_,hx.cell g4 id,_,_,_,hx.cell g5 id,call.mono ?_⟩;rintro _ w2 ⟨b2,rfl,x2,hb2⟩;refine ⟨b2,rfl,⟨x2.keepT _,trivial⟩,fun _=>⟨false,rfl,hx.then x2,nofun⟩,fun hb=>?_⟩;rw [a_a h0 (by omega)];exact next h0 hlt ⟨hx.then x2,a_g h0 hall hxs (hb2 (by simpa using hb))⟩
  ·simp only [noN];exact ⟨hk,B_J.2 fun x hm=>a_o (xs:=xs) e2 hge hall x hm⟩
theorem y_b {a:OA}{l c:Nat}{xs:List JV}{w:World}(hl:RJVs w a l c xs):CP 30 #[.slice a l c] w (RetB w fun z=>z=true->∀ x∈xs,okP x/\noN x):=by
 obtain ⟨e2,e2'⟩:=hl.len;refine y_Z a l c w _ ⟨fun i w1=>0<=i/\i<=l/\EF w w1/\∀ x∈xs.take i.toNat,okP x/\noN x,fun i _=>((l:Int)-i).toNat,⟨by omega,by omega,Ext.refl w,by simp⟩,?_⟩;rintro i w1 ⟨h0,h1,hx,hall⟩;refine ⟨fun hlt K hK=>?_,fun hge=>⟨true,rfl,hx,fun _ x hm=>a_o (xs:=xs) e2 hge hall x hm⟩⟩;have hlt:=odt hlt;obtain ⟨p,x,hp,hxs,cx,hc,hvx⟩:=hl.get h0 hlt;have k6:∀ (z:Bool) (w':World),EF w w'->(z=false->okP x/\noN x)->K z w':=fun z w' x' hz=>hK z w' ⟨fun _=>⟨false,rfl,x',nofun⟩,fun hf=>by
  rw [a_a h0 (by omega)];exact next h0 hlt ⟨x',a_g h0 hall hxs (hz hf)⟩⟩
 have call:=z_h x cx w1 (hvx.keep hx.keep);have call2:=fun w2 (x2:EF w w2)=>C_j _ x cx w2 (Nat.le_refl _) (hvx.keep x2.keep);obtain ⟨xk,xb,xn,xt,xns,xxs⟩:=x;obtain ⟨a5,l5,c5,a6,l6,c6,rfl,-, -, -⟩:=w_8.1 hvx;obtain ⟨⟨_,_,g0⟩,-, ⟨_,_,g1⟩,-, ⟨_,_,g2⟩,-, ⟨_,_,g3⟩,-, ⟨_,_,g4⟩,-, ⟨_,_,g5⟩,-⟩:=hc;refine ⟨p,hp,⟨h0,hlt⟩,_,hx.cell g0 id,_,hx.cell g1 id,_,hx.cell g2 id,_,hx.cell g3 id,_,_,_,hx.cell g4 id,_,_,_,hx.cell g5 id,call.mono ?_⟩;rintro _ w2 ⟨b2,rfl,x2,hb2⟩;have y2:=hx.then x2;refine ⟨b2,rfl,trivial,fun hb=>?_,fun _=>k6 _ _ y2 nofun⟩;refine ⟨p,hp,⟨h0,hlt⟩,_,y2.cell g0 id,_,y2.cell g1 id,_,y2.cell g2 id,_,y2.cell g3 id,_,_,_,y2.cell g4 id,_,_,_,y2.cell g5 id,(call2 w2 y2).mono ?_⟩;rintro _ w3 ⟨b3,rfl,x3,hb3⟩;exact ⟨b3,rfl,trivial,k6 _ _ (y2.then x3) fun h=>⟨hb2 (by simpa using hb),hb3 (by simpa using h)⟩⟩
theorem x_Z:∀ {l:List JV},twins l=true↔∃ (i k:Nat) (x y:JV),i<k/\l[i]? =some x/\l[k]? =some y/\eqJ x y=true
 | []=>by simp [twins]
 | z::l=>by
  simp only [twins,Bool.or_eq_true,x_Z (l:=l),List.any_eq_true];constructor
  ·rintro (⟨y,hy,he⟩|⟨i,k,x,y,hik,hx,hy,he⟩)
   ·obtain ⟨j,hj⟩:=List.mem_iff_getElem?.1 hy;exact ⟨0,j+1,z,y,by omega,rfl,by simpa using hj,he⟩
   ·exact ⟨i+1,k+1,x,y,by omega,by simpa using hx,by simpa using hy,he⟩
  ·rintro ⟨i,k,x,y,hik,hx,hy,he⟩;obtain ⟨k,rfl⟩:∃ m,k=m+1:=⟨k-1,by omega⟩;have hy:l[k]? =some y:=by simpa using hy
   cases i with
   | zero=>
    obtain rfl:z=x:=by simpa using hx
    exact .inl ⟨y,mg_ hy,he⟩
   | succ i=>exact .inr ⟨i,k,x,y,by omega,by simpa using hx,hy,he⟩
theorem C_4 {a:OA}{l c:Nat}{xs:List JV}{w:World}(hl:RJVs w a l c xs)(hok:∀ x∈xs,okJ x):CP 81 #[.slice a l c] w fun e w'=>∃ p q:Int,e=.returned (.tuple #[.int .i64 p,.int .i64 q])/\EF w w'/\((twins xs=true/\0<=p/\0<=q)∨(twins xs=false/\p= -1/\q= -1)):=by
 obtain ⟨e1,e1'⟩:=hl.len;refine D_x a l c w _ ⟨fun k w1=>1<=k/\k<=l+1/\EF w w1/\∀ (i j:Nat) (x y:JV),i<j->(j:Int)<k->xs[i]? =some x->xs[j]? =some y->eqJ x y=false,fun k _=>((l:Int)+1-k).toNat,⟨by omega,by omega,Ext.refl w,fun i j _ _ h1 h2=>by omega⟩,?_⟩;rintro k w5 ⟨h1,h2,hx,hall⟩;refine ⟨fun hlt=>?_,fun hge=>⟨_,_,rfl,hx,.inr ⟨?_,rfl,rfl⟩⟩⟩
 ·have hlt:=odt hlt;refine ⟨fun i w1=>0<=i/\i<=k/\EF w w1/\∀ (j:Nat) (x y:JV),(j:Int)<i->xs[j]? =some x->xs[k.toNat]? =some y->eqJ x y=false,fun i _=>(k-i).toNat,⟨by omega,by omega,hx,fun j _ _ h=>by omega⟩,?_⟩;rintro i w9 ⟨h0,hik,hx9,hin⟩;refine ⟨fun hlt2=>?_,fun hge2=>?_⟩
  ·have hlt2:=odt hlt2;intro w10 hw10;have y10:EF w w10:=hw10▸hx9.drew;obtain ⟨p,x,hp,hxs,cx,hc,hvx⟩:=hl.get h0 (i:=i) (by omega);obtain ⟨p',y,hp',hys,cy,hd,hvy⟩:=hl.get (i:=k) (by omega) hlt;have hx':=mg_ hxs;have hy':=mg_ hys;have call:=z_g _ x y cx cy w10 (Nat.le_refl _) (hok x hx') (hok y hy') (hvx.keep y10.keep) (hvy.keep y10.keep);have hat:∀ (j:Nat) (u v:JV),j=i.toNat->xs[j]? =some u->xs[k.toNat]? =some v->u=x/\v=y:=by
    rintro j u v rfl hu hv;rw [hxs] at hu;rw [hys] at hv;exact ⟨(Option.some.inj hu).symm,(Option.some.inj hv).symm⟩
   have htw:eqJ x y=true->twins xs=true:=fun h=>x_Z.2 ⟨i.toNat,k.toNat,x,y,by omega,hxs,hys,h⟩;have call:CP 70 #[.agg cx.toArray,.agg cy.toArray] w10 (RetB w10 fun z=>z=eqJ x y):=call;obtain ⟨xk,xb,xn,xt,xns,xxs⟩:=x;obtain ⟨yk,yb,yn,yt,yns,yxs⟩:=y;obtain ⟨a5,l5,c5,a6,l6,c6,rfl,-, -, -⟩:=w_8.1 hvx;obtain ⟨a7,l7,c7,a8,l8,c8,rfl,-, -, -⟩:=w_8.1 hvy;obtain ⟨⟨_,_,g0⟩,-, ⟨_,_,g1⟩,-, ⟨_,_,g2⟩,-, ⟨_,_,g3⟩,-, ⟨_,_,g4⟩,-, ⟨_,_,g5⟩,-⟩:=hc;obtain ⟨⟨_,_,f0⟩,-, ⟨_,_,f1⟩,-, ⟨_,_,f2⟩,-, ⟨_,_,f3⟩,-, ⟨_,_,f4⟩,-, ⟨_,_,f5⟩,-⟩:=hd;refine ⟨p,hp,⟨h0,by omega⟩,_,y10.cell g0 id,_,y10.cell g1 id,_,y10.cell g2 id,_,y10.cell g3 id,_,_,_,y10.cell g4 id,_,_,_,y10.cell g5 id,p',hp',⟨by omega,hlt⟩,_,y10.cell f0 id,_,y10.cell f1 id,_,y10.cell f2 id,_,y10.cell f3 id,_,_,_,y10.cell f4 id,_,_,_,y10.cell f5 id,call.mono ?_⟩;rintro _ w26 ⟨z,rfl,x26,hz⟩;refine ⟨z,rfl,trivial,trivial,fun ht=>⟨_,_,rfl,y10.then x26,.inl ⟨htw (by rw [<- hz,ht]),h0,by omega⟩⟩,fun hf=>?_⟩;rw [f_c (by omega) (by omega)];refine ⟨⟨by omega,by omega,y10.then x26,fun j u v hj hu hv=>?_⟩,by dsimp only;omega⟩;by_cases hji:(j:Int)<i
   ·exact hin j u v hji hu hv
   ·obtain ⟨rfl,rfl⟩:=hat j u v (by omega) hu hv;rw [<- hz,hf]
  ·have hge2:=odf hge2;rw [f_c (by omega) (by omega)];refine ⟨⟨by omega,by omega,hx9,fun i' j x y hij hj hu hv=>?_⟩,by dsimp only;omega⟩;by_cases hjk:(j:Int)<k
   ·exact hall i' j x y hij hjk hu hv
   ·obtain rfl:j=k.toNat:=by omega
    exact hin i' x y (by omega) hu hv
 ·have hge:=odf hge;cases ht:twins xs with
  | false=>rfl
  | true=>
   obtain ⟨i,j,x,y,hij,hu,hv,he⟩:=x_Z.1 ht;have:=(List.getElem?_eq_some_iff.1 hv).1;rw [hall i j x y hij (by omega) hu hv] at he;cases he
theorem y_O:∀ (l m:List UInt8),x_c (l++m)=x_c l+x_c m
 | [],m=>by simp [x_c]
 | x::l,m=>by
  simp only [List.cons_append,x_c,y_O l m];omega
theorem y_q:∀ l:List UInt8,x_c l<=l.length
 | []=>by simp [x_c]
 | x::l=>by
  have:=y_q l;simp only [x_c,List.length_cons];split<;>omega
theorem C_2 (s:BA)(hs:s.size<=4194304)(w:World):CP 49 #[.string s] w fun e w'=>e=.returned (.int .i64 (x_c s.toList:Nat))/\w'=w:=by
 have hlen:s.toList.length=s.size:=by rw [ByteArray.toList_eq,Array.length_toList];rfl
 have hget:∀ i:Nat,(h:i<s.size)->s.toList[i]? =some (s[i]'h):=fun i h=>by
  rw [ByteArray.toList_eq,Array.getElem?_toList];exact Array.getElem?_eq_getElem h
 refine D_v s w _ ⟨fun n i w1=>0<=i/\i<=s.size/\w1=w/\n=(x_c (s.toList.take i.toNat):Nat),fun _ i _=>((s.size:Int)-i).toNat,⟨by omega,by omega,rfl,by simp [x_c]⟩,?_⟩;rintro n i w1 ⟨h0,h1,rfl,hn⟩;refine ⟨fun hlt K7 hK7=>?_,fun hge=>⟨?_,rfl⟩⟩
 ·have hlt:=odt hlt;have hi:i.toNat<s.size:=by omega
  have hg:=hget i.toNat hi;have hsg:sget s i=((s[i.toNat]'hi).toNat:Int):=by rw [sget,dif_pos hi]
  have hle:=y_q (s.toList.take i.toNat);rw [List.length_take] at hle;have hst:x_c (s.toList.take (i.toNat+1))=x_c (s.toList.take i.toNat)+(if (s[i.toNat]'hi).toNat / 64=2 then 0 else 1):=by
   rw [List.take_succ,hg,y_O];simp [x_c]
  have k7:∀ m:Int,m=(x_c (s.toList.take (i.toNat+1)):Nat)->K7 m w1:=fun m hm=>hK7 m w1 (by
   rw [a_a h0 (by omega)];refine next h0 hlt ⟨rfl,?_⟩
   rw [hm,show (i+1).toNat=i.toNat+1 by omega])
  intro K10 hK10;have k10:∀ b,(b=true↔¬ (s[i.toNat]'hi).toNat / 64=2)->K10 b w1:=fun b hb=>hK10 b w1 ⟨fun h=>by
   rw [f_c (by omega) (by omega)];refine k7 _ ?_;rw [hst,if_neg (hb.1 h),hn];omega,fun h=>by
   refine k7 _ ?_;rw [hst,if_pos (Decidable.not_not.1 fun hh=>by rw [hb.2 hh] at h;cases h),hn];omega⟩
  have hb8:=(s[i.toNat]'hi).toNat_lt;refine ⟨⟨h0,hlt⟩,fun hge=>⟨⟨h0,hlt⟩,k10 _ ?_⟩,fun hl=>k10 _ ?_⟩
  ·have hge:=odf hge;rw [decide_eq_true_eq];rw [hsg] at hge ⊢;omega
  ·have hl:=odt hl;rw [hsg] at hl;simp only [true_iff];omega
 ·have hge:=odf hge;rw [hn,tl_ (by omega)]
section
variable {k n:Int} {b:Bool} {t:BA} {a:OA} {l c:Nat} {a':OA} {l' c':Nat} {w:World} {a2:OA} {l2 c2:Nat}
theorem y_h {ns:List BA}{s:BA}:decide (membI ns s<0)= !(memb ns s).isSome:=by
 unfold membI;cases memb ns s with
 | none=>rfl
 | some i=>simp
theorem B_y {ns names:List BA}(r1:RStrs w a l c ns)(hl:RStrs w a2 l2 c2 names):CP 106 #[.agg #[.int .i64 k,.bool b,.int .i64 n,.string t,.slice a l c,.slice a' l' c'],.slice a2 l2 c2] w (RetB w fun z=>z=names.all fun s=>(memb ns s).isSome):=by
 obtain ⟨e1,e1'⟩:=hl.len;have x8:EF w (w.alloc (.cells #[.int .i64 k,.bool b,.int .i64 n,.string t,.slice a l c,.slice a' l' c'] 27)):=(Ext.refl w).alloc _;refine D_H k b n t a l c a' l' c' a2 l2 c2 w _ ⟨trivial,fun i w1=>0<=i/\i<=l2/\EF w w1/\∀ s∈names.take i.toNat,(memb ns s).isSome=true,fun i _=>((l2:Int)-i).toNat,⟨by omega,by omega,x8,by simp⟩,?_⟩;rintro i w12 ⟨h0,h1,hx,hall⟩;refine ⟨fun hlt=>?_,fun hge=>⟨true,rfl,hx,Eq.symm (List.all_eq_true.2 fun s hm=>a_o (xs:=names) e1 hge hall s hm)⟩⟩;have hlt:=odt hlt;intro w13 hw13;have y13:EF w w13:=hw13▸hx.drew;obtain ⟨p,s,hp,hs,_,hc,rfl⟩:=hl.get h0 hlt;refine ⟨p,hp,⟨h0,hlt⟩,s,y13.cell hc.1.choose_spec.2 id,(y_a (r1.keep y13.keep) s).mono ?_⟩;rintro _ w17 ⟨rfl,x17⟩;refine ⟨_,rfl,⟨x17.keepT _,trivial⟩,trivial,fun hn=>⟨false,rfl,y13.then x17,Eq.symm (List.all_eq_false.2 ⟨s,mg_ hs,?_⟩)⟩,fun hp=>?_⟩
 ·rw [y_h] at hn;simpa using hn
 ·rw [y_h] at hp;rw [a_a h0 (by omega)];exact next h0 hlt ⟨y13.then x17,a_g h0 hall hs (by simpa using hp)⟩
theorem C_o {v:JV}{cs:List Value}{xs:List JV}(hv:RJV w v cs)(hok:okJ v)(hl:RJVs w a2 l2 c2 xs)(hoks:∀ x∈xs,okJ x):CP 69 #[.agg cs.toArray,.slice a2 l2 c2] w (RetB w fun z=>z=xs.any (eqJ v)):=by
 obtain ⟨e1,e1'⟩:=hl.len;have hv0:=hv;have heq:=fun (x:JV) (cx:List Value) (w1:World) (h:okJ x) (y:EF w w1) (r:RJV w x cx)=>z_g _ v x cs cx w1 (Nat.le_refl _) hok h (hv0.keep y.keep) (r.keep y.keep);obtain ⟨k,b,n,t,ns,ys⟩:=v;obtain ⟨a,l,c,a',l',c',rfl,ht,r1,r2⟩:=w_8.1 hv;have x8:EF w (w.alloc (.cells #[.int .i64 k,.bool b,.int .i64 n,.string t,.slice a l c,.slice a' l' c'] 27)):=(Ext.refl w).alloc _;refine C_P k b n t a l c a' l' c' a2 l2 c2 w _ ⟨trivial,fun i w1=>0<=i/\i<=l2/\EF w w1/\∀ x∈xs.take i.toNat,eqJ (.mk k b n t ns ys) x=false,fun i _=>((l2:Int)-i).toNat,⟨by omega,by omega,x8,by simp⟩,?_⟩;rintro i w12 ⟨h0,h1,hx,hall⟩;refine ⟨fun hlt=>?_,fun hge=>⟨false,rfl,hx,Eq.symm (List.any_eq_false.2 fun s hm=>?_)⟩⟩
 ·have hlt:=odt hlt;intro w13 hw13;have y13:EF w w13:=hw13▸hx.drew;obtain ⟨p,x,hp,hxs,cx,hc,hvx⟩:=hl.get h0 hlt;have hx':=mg_ hxs;have call:CP 70 _ w13 (RetB w13 fun z=>z=eqJ (.mk k b n t ns ys) x):=heq x cx w13 (hoks x hx') y13 hvx;obtain ⟨xk,xb,xn,xt,xns,xxs⟩:=x;obtain ⟨a5,l5,c5,a6,l6,c6,rfl,-, -, -⟩:=w_8.1 hvx;obtain ⟨⟨_,_,g0⟩,-, ⟨_,_,g1⟩,-, ⟨_,_,g2⟩,-, ⟨_,_,g3⟩,-, ⟨_,_,g4⟩,-, ⟨_,_,g5⟩,-⟩:=hc;refine ⟨p,hp,⟨h0,hlt⟩,_,y13.cell g0 id,_,y13.cell g1 id,_,y13.cell g2 id,_,y13.cell g3 id,_,_,_,y13.cell g4 id,_,_,_,y13.cell g5 id,call.mono ?_⟩;rintro _ w22 ⟨z,rfl,x22,hz⟩;refine ⟨z,rfl,⟨x22.keepT _,trivial⟩,trivial,fun h=>⟨true,rfl,y13.then x22,Eq.symm (List.any_eq_true.2 ⟨_,hx',by rw [<- hz,h]⟩)⟩,fun h=>?_⟩;rw [a_a h0 (by omega)];exact next h0 hlt ⟨y13.then x22,a_g h0 hall hxs (by rw [<- hz,h])⟩
 ·rw [a_o (xs:=xs) e1 hge hall s hm];decide
theorem C_A (h:k≠2)(h0:0<=k)(h5:k<=5):kindN k≠⟨#[110,117,109,98,101,114]⟩:=by
 have:k=0∨k=1∨k=3∨k=4∨k=5:=by omega
 rcases this with rfl|rfl|rfl|rfl|rfl<;>decide
theorem D_f {types:List BA}(hk:k≠2)(hk0:0<=k)(hk5:k<=5)(hl:RStrs w a2 l2 c2 types):CP 68 #[.agg #[.int .i64 k,.bool b,.int .i64 n,.string t,.slice a l c,.slice a' l' c'],.slice a2 l2 c2] w (RetB w fun z=>z=among (kindN k) types):=by
 obtain ⟨e1,e1'⟩:=hl.len;have x8:EF w (w.alloc (.cells #[.int .i64 k,.bool b,.int .i64 n,.string t,.slice a l c,.slice a' l' c'] 27)):=(Ext.refl w).alloc _;refine D_I k b n t a l c a' l' c' a2 l2 c2 w _ ⟨trivial,D_2.mono ?_⟩;rintro _ w10 ⟨rfl,x10⟩;refine ⟨_,rfl,⟨x10.keepT _,trivial⟩,fun i w1=>0<=i/\i<=l2/\EF w w1/\∀ s∈types.take i.toNat,s≠kindN k,fun i _=>((l2:Int)-i).toNat,⟨by omega,by omega,x8.then x10,by simp⟩,?_⟩;rintro i w15 ⟨h0,h1,hx,hall⟩;refine ⟨fun hlt K hK=>?_,fun hge=>⟨false,rfl,hx,Eq.symm (List.any_eq_false.2 fun s hm=>by simpa using a_o (xs:=types) e1 hge hall s hm)⟩⟩;have hlt:=odt hlt;obtain ⟨p,s,hp,hs,_,hc,rfl⟩:=hl.get h0 hlt;have hcell:=hx.cell hc.1.choose_spec.2 id;have out:∀ z:Bool,(z=true↔s=kindN k)->K z w15:=fun z hz=>hK z w15 ⟨fun h=>⟨true,rfl,hx,Eq.symm (List.any_eq_true.2 ⟨s,mg_ hs,by simpa using hz.1 h⟩)⟩,fun h=>by
  rw [a_a h0 (by omega)];exact next h0 hlt ⟨hx,a_g h0 hall hs fun e=>by rw [hz.2 e] at h;cases h⟩⟩
 refine ⟨p,hp,⟨h0,hlt⟩,s,hcell,fun hne=>?_,fun he=>out _ ⟨fun _=>a_b.1 he,fun _=>rfl⟩⟩;have hne:=a_f.1 hne;refine ⟨p,hp,⟨h0,hlt⟩,s,hcell,fun _=>⟨fun hn=>absurd (a_b.1 hn) (C_A hk hk0 hk5),fun _=>out _ ⟨nofun,fun e=>absurd e hne⟩⟩,fun _=>out _ ⟨nofun,fun e=>absurd e hne⟩⟩
end
def RInts (w:World)(a:OA)(l c:Nat)(xs:List Int):Prop:=SlL w 44 1 RI a l c xs
theorem RInts.keep {w w':World}(h:Keep w w'){a:OA}{l c:Nat}{x:List Int}(hx:RInts w a l c x):RInts w' a l c x:=SlL.keep h (by decide) hx fun _ _ _ e=>e
def RJPr (x:JPr)(cs:List Value):Prop:=cs=[.string x.name,.int .i64 x.node]
def RJPa (w:World)(x:JPa)(cs:List Value):Prop:=∃ (a:OA) (l c:Nat),cs=[.slice a l c,.int .i64 x.node]/\RStrs w a l c x.ts
def RJNe (w:World)(x:JNe)(cs:List Value):Prop:=∃ (a:OA) (l c:Nat),cs=[.string x.name,.slice a l c]/\RStrs w a l c x.names
def RJDe (w:World)(x:JDe)(cs:List Value):Prop:=∃ (a:OA) (l c:Nat),cs=[.string x.name,.slice a l c,.int .i64 x.node]/\RStrs w a l c x.names
def RJPrs (w:World)(a:OA)(l c:Nat)(xs:List JPr):Prop:=SlL w 90 2 RJPr a l c xs
def RJPas (w:World)(a:OA)(l c:Nat)(xs:List JPa):Prop:=SlL w 92 2 (RJPa w) a l c xs
def RJNes (w:World)(a:OA)(l c:Nat)(xs:List JNe):Prop:=SlL w 155 2 (RJNe w) a l c xs
def RJDes (w:World)(a:OA)(l c:Nat)(xs:List JDe):Prop:=SlL w 99 3 (RJDe w) a l c xs
structure Sli where
 a:OA
 l:Nat
 c:Nat
abbrev Sli.v (s:Sli):Value:=.slice s.a s.l s.c
abbrev Sli.is (s:Sli){α:Type}(R:World->OA->Nat->Nat->List α->Prop)(w:World)(xs:List α):Prop:=R w s.a s.l s.c xs
def RJN (w:World)(x:JN)(cs:List Value):Prop:=∃ s3 s4 s5 s10 s12 s13 s19 s21 s31 s39 s40 s41 s42 s43 s50 s53:Sli,
 cs=[.int .i64 x.kind,.int .i64 x.ref,s3.v,s4.v,s5.v,.int .i64 x.nt,.int .i64 x.iff,.int .i64 x.thn,.int .i64 x.els,s10.v,.bool x.hasEnum,s12.v,s13.v,.bool x.minL.is,.int .i64 x.minL.n,.bool x.maxL.is,.int .i64 x.maxL.n,.bool x.pat.is,s19.v,.bool x.fmt.is,s21.v,
  .bool x.minI.is,.int .i64 x.minI.n,.bool x.maxI.is,.int .i64 x.maxI.n,.bool x.minC.is,.int .i64 x.minC.n,.bool x.maxC.is,.int .i64 x.maxC.n,.bool x.uniq,s31.v,.int .i64 x.items,.int .i64 x.cont,.int .i64 x.restI,.bool x.minP.is,.int .i64 x.minP.n,.bool x.maxP.is,.int .i64 x.maxP.n,
  s39.v,s40.v,s41.v,s42.v,s43.v,.int .i64 x.more.k,.int .i64 x.more.node,.int .i64 x.names,.int .i64 x.restP,.int .i64 x.single,.bool x.hasPl,s50.v,.int .i64 x.others.k,.int .i64 x.others.node,s53.v]/\
 s3.is RInts w x.allOf/\s4.is RInts w x.anyOf/\s5.is RInts w x.oneOf/\s10.is RStrs w x.types/\s12.is RJVs w x.enm/\s13.is RJVs w x.cst/\s19.is RStrs w x.pat.ts/\s21.is RStrs w x.fmt.ts/\s31.is RInts w x.first/\s39.is RStrs w x.req/\s40.is RJNes w x.needs/\s41.is RJPrs w x.deps/\s42.is RJPrs w x.props/\s43.is RJPas w x.pats/\s50.is RInts w x.places/\s53.is RJDes w x.dep
def RJNs (w:World)(a:OA)(l c:Nat)(xs:List JN):Prop:=SlL w 44 53 (RJN w) a l c xs
theorem RJPrs.keep {w w':World}(h:Keep w w'){a:OA}{l c:Nat}{x:List JPr}(hx:RJPrs w a l c x):RJPrs w' a l c x:=SlL.keep h (by decide) hx fun _ _ _ e=>e
theorem RJPas.keep {w w':World}(h:Keep w w'){a:OA}{l c:Nat}{x:List JPa}(hx:RJPas w a l c x):RJPas w' a l c x:=SlL.keep h (by decide) hx fun _ _ _ ⟨a,l,c,e,r⟩=>⟨a,l,c,e,r.keep h⟩
theorem RJNes.keep {w w':World}(h:Keep w w'){a:OA}{l c:Nat}{x:List JNe}(hx:RJNes w a l c x):RJNes w' a l c x:=SlL.keep h (by decide) hx fun _ _ _ ⟨a,l,c,e,r⟩=>⟨a,l,c,e,r.keep h⟩
theorem RJDes.keep {w w':World}(h:Keep w w'){a:OA}{l c:Nat}{x:List JDe}(hx:RJDes w a l c x):RJDes w' a l c x:=SlL.keep h (by decide) hx fun _ _ _ ⟨a,l,c,e,r⟩=>⟨a,l,c,e,r.keep h⟩
theorem RJN.keep {w w':World}(h:Keep w w'){x:JN}{cs:List Value}:RJN w x cs->RJN w' x cs:=by
 rintro ⟨s3,s4,s5,s10,s12,s13,s19,s21,s31,s39,s40,s41,s42,s43,s50,s53,e,h1,h2,h3,h4,h5,h6,h7,h8,h9,h10,h11,h12,h13,h14,h15,h16⟩;exact ⟨s3,s4,s5,s10,s12,s13,s19,s21,s31,s39,s40,s41,s42,s43,s50,s53,e,h1.keep h,h2.keep h,h3.keep h,h4.keep h,h5.keep h,h6.keep h,h7.keep h,h8.keep h,h9.keep h,h10.keep h,h11.keep h,h12.keep h,h13.keep h,h14.keep h,h15.keep h,h16.keep h⟩
theorem RJNs.keep {w w':World}(h:Keep w w'){a:OA}{l c:Nat}{x:List JN}(hx:RJNs w a l c x):RJNs w' a l c x:=SlL.keep h (by decide) hx fun _ _ _=>RJN.keep h
theorem a_x.cl {w w':World}{T:TypeId}{p:Addr}{cs:List Value}(h:a_x w T p 0 cs)(hx:EF w w')(i:Nat){u:Value}(hu:cs[i]? =some u):w'.cell? (p.add i)=some u:=by
 obtain ⟨⟨T',-, hat⟩,-⟩:=h.get i u hu;rw [c_2,Nat.zero_add] at hat;exact hx.cell hat id
theorem a_x.cl0 {w w':World}{T:TypeId}{p:Addr}{cs:List Value}(h:a_x w T p 0 cs)(hx:EF w w'){u:Value}(hu:cs[0]? =some u):w'.cell? p=some u:=by
 obtain ⟨⟨T',-, hat⟩,-⟩:=h.get 0 u hu;exact hx.cell hat id
mutual
def okV:JV->Prop
 | .mk k b n t ns xs=>k≠2/\0<=k/\k<=5/\(k=5->ns.length=xs.length)/\(k=4->xs.length<=20)/\U8 t/\(∀ s∈ns,U8 s)/\okVs xs
def okVs:List JV->Prop
 | []=>True
 | x::l=>okV x/\okVs l
end
theorem B_M:∀ {xs:List JV},okVs xs↔∀ x∈xs,okV x
 | []=>by simp [okVs]
 | x::l=>by simp [okVs,B_M]
mutual
theorem okV.ok:∀ {v:JV},okV v->okJ v
 | .mk k b n t ns xs,h=>by
  obtain ⟨h1,h2,h3,h4,-, -, -, h5⟩:=h;exact ⟨h1,h2,h3,h4,okVs.oks h5⟩
theorem okVs.oks:∀ {xs:List JV},okVs xs->okJs xs
 | [],_=>trivial
 | x::l,h=>⟨okV.ok h.1,okVs.oks h.2⟩
end
theorem okV.sub {v y:JV}(h:okV v)(hy:y∈v.xs):okV y:=by
 obtain ⟨k,b,n,t,ns,xs⟩:=v;exact B_M.1 h.2.2.2.2.2.2.2 y hy
theorem okV.len5 {v:JV}(h:okV v)(h5:v.k=5):v.ns.length=v.xs.length:=by
 obtain ⟨k,b,n,t,ns,xs⟩:=v;exact h.2.2.2.1 h5
theorem okV.len4 {v:JV}(h:okV v)(h4:v.k=4):v.xs.length<=20:=by
 obtain ⟨k,b,n,t,ns,xs⟩:=v;exact h.2.2.2.2.1 h4
theorem okV.u8 {v:JV}(h:okV v):U8 v.t:=by
 obtain ⟨k,b,n,t,ns,xs⟩:=v;exact h.2.2.2.2.2.1
theorem okV.names {v:JV}(h:okV v){s:BA}(hs:s∈v.ns):U8 s:=by
 obtain ⟨k,b,n,t,ns,xs⟩:=v;exact h.2.2.2.2.2.2.1 s hs
theorem A_A (v:JV):1<=szJ v:=by
 obtain ⟨k,b,n,t,ns,xs⟩:=v;simp only [szJ];omega
theorem x_y {v y:JV}(hy:y∈v.xs):szJ y<szJ v:=by
 obtain ⟨k,b,n,t,ns,xs⟩:=v;have:szJ y<=szL xs:=x_L hy;simp only [szJ];omega
theorem B_q:∀ xs:List JV,xs.length<=szL xs
 | []=>by simp [szL]
 | x::l=>by
  have:=B_q l;have:=A_A x;simp only [szL,List.length_cons];omega
theorem y_l (v:JV):v.xs.length<szJ v:=by
 obtain ⟨k,b,n,t,ns,xs⟩:=v;have:=B_q xs;simp only [szJ,JV.xs];omega
def later (N own:Nat)(n:Int):Prop:=n=0∨((own:Int)<n/\n<=N)
structure okN (N own:Nat) (x:JN):Prop where
 kind:0<=x.kind/\x.kind<=2
 more:0<=x.more.k/\x.more.k<=3
 cst:x.cst.length<=1
 ref:later N own x.ref
 nt:later N own x.nt
 iff:later N own x.iff
 thn:later N own x.thn
 els:later N own x.els
 allOf:∀ n∈x.allOf,later N own n/\n≠0
 anyOf:∀ n∈x.anyOf,later N own n/\n≠0
 oneOf:∀ n∈x.oneOf,later N own n/\n≠0
 items:later N 0 x.items
 cont:later N 0 x.cont
 restI:later N 0 x.restI
 names:later N 0 x.names
 restP:later N 0 x.restP
 moreN:later N 0 x.more.node/\(x.more.k=3->x.more.node≠0)
 first:∀ n∈x.first,later N 0 n/\n≠0
 deps:∀ q∈x.deps,later N own q.node/\q.node≠0
 props:∀ q∈x.props,later N 0 q.node/\q.node≠0
 pats:∀ q∈x.pats,later N 0 q.node/\q.node≠0
 enm:∀ v∈x.enm,okV v
 cstv:∀ v∈x.cst,okV v
 dep:x.dep=[]
 ts:(∀ q∈x.pats,q.ts.length<=1100000)/\x.pat.ts.length<=1100000/\x.fmt.ts.length<=1100000
 len:x.allOf.length<=1100000/\x.anyOf.length<=1100000/\x.oneOf.length<=1100000/\x.pats.length<=1100000/\x.deps.length<=1100000/\x.needs.length<=1100000/\x.req.length<=1100000/\∀ q∈x.needs,q.names.length<=1100000
def okS (s:List JN):Prop:=∀ (i:Nat) x,s[i]? =some x->okN s.length (i+1) x
def MJ (N:Nat)(v:JV)(n:Nat):Nat:=szJ v*(N+1)+(N-n)
theorem C_e {N:Nat}{v:JV}{n n':Nat}(h:n<n')(h':n'<=N):MJ N v n'<MJ N v n:=by
 unfold MJ;omega
theorem C_f {N:Nat}{v y:JV}{n n':Nat}(h:szJ y<szJ v):MJ N y n'<MJ N v n:=by
 unfold MJ;have:(szJ y+1)*(N+1)<=szJ v*(N+1):=Nat.mul_le_mul_right _ h;rw [Nat.add_mul] at this;omega
end Go.VC
namespace Go.VC
structure smN (x:JN):Prop where
 n2:x.allOf.length<=1100000
 n3:x.anyOf.length<=1100000
 n4:x.oneOf.length<=1100000
 n9:x.types.length<=1100000
 n15:x.pat.ts.length<=1100000
 n16:x.fmt.ts.length<=1100000
 n22:x.first.length<=1100000
 n28:x.req.length<=1100000
 n29:x.needs.length<=1100000
 n30:x.deps.length<=1100000
 n31:x.props.length<=1100000
 n32:x.pats.length<=1100000
 n38:x.places.length<=1100000
 n40:x.dep.length<=1100000
 enm:szL x.enm<=1100000
 cst:szL x.cst<=1100000
 ps:∀ q∈x.pats,q.ts.length<=1100000
 ns:∀ q∈x.needs,q.names.length<=1100000
end Go.VC
