/- Part of the proof of a law of a rule over documents (TextA), where what the arguments hold is of bulk at most 1048576. -/
import Derived.Test.YtmnhdjhlcgfpkaaGreatBaseB
set_option linter.unusedVariables false
namespace Go.VC
open Go Go.Proofs
set_option maxRecDepth 100000
theorem q_in (a:BA)(b:OA)(c d:Nat)(w:World)(R:EW)(h:
 ∃ (e:Int->World->Prop) (f:Int->World->Nat),e 0 w/\
 (∀ g:Int,∀ i:World,e g i->
 (Br (decide (g<(c:Int))) (Ix b g c fun j=>Ls i (j.add (g.toNat*1)) fun k=>(Br (k.toList==a.toList) (R (R9 (.bool true)) i) ((e (wr (g+1)) i/\f (wr (g+1)) i<f g i)))) (R (R9 (.bool false)) i)))):CP 60 #[T9 a,S9 b c d] w R:=
 vcq Tryz.func60 [] [(6,⟨[(9,.int .i64)],[]⟩)] [.l (.str a),.l (.slice b c d)] h
theorem m_I (a:BA)(w:World)(R:EW)(h:
 ∀ b:Bool->World->Prop,(∀ c:Bool,∀ d:World,
 (R (R9 (.bool c)) d)->
 b c d)->
 (Nr (a.toList==(⟨#[83,67,65,76,65,82]⟩:BA).toList) ((Nr (a.toList==(⟨#[69,78,85,77]⟩:BA).toList) (b (a.toList==(⟨#[73,78,80,85,84,95,79,66,74,69,67,84]⟩:BA).toList) w) (b true w))) (b true w))):CP 116 #[T9 a] w R:=
 vcq Tryz.func116 [] [(2,⟨[(2,.bool)],[]⟩)] [.l (.str a)] h
theorem o_0 (a:BA)(b:OA)(c d:Nat)(e:Bool)(w:World)(R:EW)(h:
 True/\(let f:=w.alloc (.cells #[T9 a,S9 b c d,.bool e] 63);
 ∃ (g:BA->OA->Nat->Nat->Bool->World->Prop) (i:BA->OA->Nat->Nat->Bool->World->Nat),g a b c d e f/\
 (∀ j:BA,∀ (k:OA) (l m:Nat),∀ n:Bool,∀ o:World,g j k l m n o->
 (Br (decide ((l:Int)>0)) (Ix k 0 l fun p=>L_slb o (p.add ((0:Int).toNat*3)) fun q r s t u=>True/\(let v:=setB o (w.heap.size) [T9 q,S9 r s t,.bool u] 63;
 (g q r s t u v/\i q r s t u v<i j k l m n o))) (R (R9 (T9 j)) o))))):CP 45 #[(.agg #[T9 a,S9 b c d,.bool e])] w R:=
 vcq Tryz.func45 [1] [(4,⟨[],[(0,[.str,.slice,.bool])]⟩)] [.agg [.str a,.slice b c d,.bool e]] h
theorem j_E (a:OA)(b:BA)(w:World)(R:EW)(h:
 Pt a fun c=>Ll w (c.add 1) fun d e f=>∃ (g:Int->World->Prop) (i:Int->World->Nat),g 0 w/\
 (∀ j:Int,∀ k:World,g j k->
 (Br (decide (j<(e:Int))) (Ix d j e fun l=>L_ss k (l.add (j.toNat*2)) fun m n=>True/\True/\(let p:=k.alloc (.cells #[T9 m,T9 n] 218);
 (Br (m.toList==b.toList) (R (R9 (T9 n)) p) ((g (wr (j+1)) p/\i (wr (j+1)) p<i j k))))) (R (R9 e0s) k)))):CP 51 #[P9 a,T9 b] w R:=
 vcq Tryz.func51 [6] [(6,⟨[(12,.int .i64)],[]⟩)] [.l (.optr a),.l (.str b)] h
theorem i_C (a:BA)(w:World)(R:EW)(h:
 ∀ b:Bool->World->Prop,(∀ c:Bool,∀ d:World,
 (R (R9 (.bool c)) d)->
 b c d)->
 (Nr (a.toList==(⟨#[79,66,74,69,67,84]⟩:BA).toList) ((Nr (a.toList==(⟨#[73,78,84,69,82,70,65,67,69]⟩:BA).toList) (b (a.toList==(⟨#[85,78,73,79,78]⟩:BA).toList) w) (b true w))) (b true w))):CP 57 #[T9 a] w R:=
 vcq Tryz.func57 [] [(2,⟨[(2,.bool)],[]⟩)] [.l (.str a)] h
theorem j_G (a:OA)(b:BA)(c:OA)(d e:Nat)(f:Bool)(w:World)(R:EW)(h:
 True/\(let g:=w.alloc (.cells #[T9 b,S9 c d e,.bool f] 63);
 Cs 45 #[(.agg #[T9 b,S9 c d e,.bool f])] g (fun i j=>(KeepT 63 g j/\True)/\CP 66 #[P9 a,T9 i] j (fun k l=>∃ m,∃ n,∃ o,∃ p q r,∃ s t u,∃ v x y,∃ z A B,∃ C D E,∃ F,k=R9 (.tuple #[(.agg #[T9 m,T9 n,T9 o,S9 p q r,S9 s t u,S9 v x y,S9 z A B,S9 C D E]),.bool F])/\(KeepT 63 j l/\True)/\True/\True/\(let H:=l.alloc (.cells #[T9 m,T9 n,T9 o,S9 p q r,S9 s t u,S9 v x y,S9 z A B,S9 C D E] 96);
 R (R9 (T9 m)) H))))):CP 64 #[P9 a,(.agg #[T9 b,S9 c d e,.bool f])] w R:=
 vcq Tryz.func64 [3,5] [] [.l (.optr a),.agg [.str b,.slice c d e,.bool f]] h
theorem j_D (a:OA)(b:BA)(w:World)(R:EW)(h:
 True/\(let c:=w.alloc (.cells #[e0s,e0s,e0s,z0s,z0s,z0s,z0s,z0s] 96);
 Pt a fun d=>Ll c d fun e f g=>∃ (i:Int->BA->BA->BA->OA->Nat->Nat->OA->Nat->Nat->OA->Nat->Nat->OA->Nat->Nat->OA->Nat->Nat->World->Prop) (j:Int->BA->BA->BA->OA->Nat->Nat->OA->Nat->Nat->OA->Nat->Nat->OA->Nat->Nat->OA->Nat->Nat->World->Nat),i 0 (⟨#[]⟩:BA) (⟨#[]⟩:BA) (⟨#[]⟩:BA) none 0 0 none 0 0 none 0 0 none 0 0 none 0 0 c/\
 (∀ k:Int,∀ l:BA,∀ m:BA,∀ n:BA,∀ (o:OA) (p q:Nat),∀ (r:OA) (s t:Nat),∀ (u:OA) (v x:Nat),∀ (y:OA) (z A:Nat),∀ (B:OA) (C D:Nat),∀ E:World,i k l m n o p q r s t u v x y z A B C D E->
 (Br (decide (k<(f:Int))) (Ix e k f fun F=>Ls E (F.add (k.toNat*8)) fun G=>Ls E ((F.add (k.toNat*8)).add 1) fun H=>Ls E ((F.add (k.toNat*8)).add 2) fun I=>Ll E ((F.add (k.toNat*8)).add 3) fun J K L=>Ll E ((F.add (k.toNat*8)).add 4) fun M N O=>Ll E ((F.add (k.toNat*8)).add 5) fun P Q S=>Ll E ((F.add (k.toNat*8)).add 6) fun U V W=>Ll E ((F.add (k.toNat*8)).add 7) fun X Y Z=>True/\True/\(let ab:=E.alloc (.cells #[T9 G,T9 H,T9 I,S9 J K L,S9 M N O,S9 P Q S,S9 U V W,S9 X Y Z] 96);
 (Br (I.toList==b.toList) (True/\(let ac:=setB ab (w.heap.size) [T9 G,T9 H,T9 I,S9 J K L,S9 M N O,S9 P Q S,S9 U V W,S9 X Y Z] 96;
 R (R9 (.tuple #[(.agg #[T9 G,T9 H,T9 I,S9 J K L,S9 M N O,S9 P Q S,S9 U V W,S9 X Y Z]),.bool true])) ac)) ((i (wr (k+1)) l m n o p q r s t u v x y z A B C D ab/\j (wr (k+1)) l m n o p q r s t u v x y z A B C D ab<j k l m n o p q r s t u v x y z A B C D E))))) (Cl 126 #[] E (fun ad ae af ag=>(KeepT 96 E ag/\True)/\Cb 60 #[T9 b,S9 ad ae af] ag (fun ah ai=>(KeepT 96 ag ai/\True)/\(Br ah (True/\True/\(let aj:=setB ai (w.heap.size) [(T9 (⟨#[83,67,65,76,65,82]⟩:BA)),e0s,T9 b,z0s,z0s,z0s,z0s,z0s] 96;
 R (R9 (.tuple #[(.agg #[(T9 (⟨#[83,67,65,76,65,82]⟩:BA)),e0s,T9 b,z0s,z0s,z0s,z0s,z0s]),.bool true])) aj)) (True/\True/\(let ak:=setB ai (w.heap.size) [e0s,e0s,e0s,z0s,z0s,z0s,z0s,z0s] 96;
 R (R9 (.tuple #[(.agg #[e0s,e0s,e0s,z0s,z0s,z0s,z0s,z0s]),.bool false])) ak)))))))))):CP 66 #[P9 a,T9 b] w R:=
 vcq Tryz.func66 [4,7] [(6,⟨[(13,.int .i64)],[(0,[.str,.str,.str,.slice,.slice,.slice,.slice,.slice])]⟩)] [.l (.optr a),.l (.str b)] h
theorem o_4 (a:OA)(b c:Nat)(w:World)(R:EW)(h:
 ∃ (d:Int->Int->World->Prop) (e:Int->Int->World->Nat),d (b:Int) 0 w/\
 (∀ f:Int,∀ g:Int,∀ i:World,d f g i->
 (Br (decide (g<(b:Int))) (Ix a g b fun j=>L_issslll i (j.add (g.toNat*7)) fun k l m n o p q r s t u v x=>True/\True/\(let z:=i.alloc (.cells #[N9 k,T9 l,T9 m,T9 n,S9 o p q,S9 r s t,S9 u v x] 78);
 Ci 42 #[S9 u v x] z (fun A B=>(KeepT 78 z B/\True)/\(d (wr (f+A)) (wr (g+1)) B/\e (wr (f+A)) (wr (g+1)) B<e f g i)))) (R (R9 (N9 f)) i)))):CP 42 #[S9 a b c] w R:=
 vcq Tryz.func42 [5] [(8,⟨[(3,.int .i64),(10,.int .i64)],[]⟩)] [.l (.slice a b c)] h
theorem g_w (a:Int)(w:World)(R:EW)(h:
 ∀ b:Bool->World->Prop,(∀ c:Bool,∀ d:World,
 (R (R9 (.bool c)) d)->
 b c d)->
 (Nr (a==95) ((Br (decide (a≥97)) ((Nr (decide (a<=122)) ((Br (decide (a≥65)) (b (decide (a<=90)) w) (b false w))) (b true w))) ((Br (decide (a≥65)) (b (decide (a<=90)) w) (b false w))))) (b true w))):CP 151 #[.int .i32 a] w R:=
 vcq Tryz.func151 [] [(2,⟨[(2,.bool)],[]⟩)] [.l (.int .i32 a)] h
theorem j_B (a:Int)(w:World)(R:EW)(h:
 ∀ b:Bool->World->Prop,(∀ c:Bool,∀ d:World,
 (R (R9 (.bool c)) d)->
 b c d)->
 (Br (decide (a≥48)) (b (decide (a<=57)) w) (b false w))):CP 152 #[.int .i32 a] w R:=
 vcq Tryz.func152 [] [(2,⟨[(2,.bool)],[]⟩)] [.l (.int .i32 a)] h
theorem n_w (a:BA)(w:World)(R:EW)(h:
 ∃ (b:Int->World->Prop) (c:Int->World->Nat),b 0 w/\
 (∀ d:Int,∀ e:World,b d e->
 (Br (decide (d<(a.size:Int))) ((0<=d/\d<(a.size:Int))/\∀ f:Bool->World->Prop,(∀ g:Bool,∀ i:World,
 ((Br g (R (R9 (.bool false)) i) ((b (wr (d+1)) i/\c (wr (d+1)) i<c d e))))->
 f g i)->
 Cb 151 #[(.int .i32 (IntKind.i32.wrap (sget a d)))] e (fun j k=>True/\(Br (!j) ((Nr (d==0) (Cb 152 #[(.int .i32 (IntKind.i32.wrap (sget a d)))] k (fun l m=>True/\f (!l) m)) (f true k))) (f false k)))) (R (R9 (.bool (!(a.toList==(⟨#[]⟩:BA).toList)))) e)))):CP 98 #[T9 a] w R:=
 vcq Tryz.func98 [] [(6,⟨[(3,.int .i64)],[]⟩),(17,⟨[(26,.bool)],[]⟩)] [.l (.str a)] h
theorem o_B (a:OA)(b c:Nat)(w:World)(R:EW)(h:
 ∃ (d:Int->World->Prop) (e:Int->World->Nat),d 0 w/\
 (∀ f:Int,∀ g:World,d f g->
 (Br (decide (f<(b:Int))) (Ix a f b fun i=>Ls g (i.add (f.toNat*1)) fun j=>Cb 98 #[T9 j] g (fun k l=>True/\(Br (!k) (R (R9 (.bool false)) l) ((d (wr (f+1)) l/\e (wr (f+1)) l<e f g))))) (R (R9 (.bool true)) g)))):CP 198 #[S9 a b c] w R:=
 vcq Tryz.func198 [] [(6,⟨[(7,.int .i64)],[]⟩)] [.l (.slice a b c)] h
theorem l_L (a:BA)(w:World)(R:EW)(h:
 ∃ (b:Int->World->Prop) (c:Int->World->Nat),b 0 w/\
 (∀ d:Int,∀ e:World,b d e->
 (Br (decide (d<(a.size:Int))) (∀ f:Bool->World->Prop,(∀ g:Bool,∀ i:World,
 ((Br g (R (R9 (.bool false)) i) ((b (wr (d+1)) i/\c (wr (d+1)) i<c d e))))->
 f g i)->
 (0<=d/\d<(a.size:Int))/\(Nr (decide ((sget a d)<32)) ((0<=d/\d<(a.size:Int))/\(Nr (decide ((sget a d)>126)) ((0<=d/\d<(a.size:Int))/\(Nr ((sget a d)==34) ((0<=d/\d<(a.size:Int))/\f ((sget a d)==92) e) (f true e))) (f true e))) (f true e))) (∀ j:Bool->World->Prop,(∀ k:Bool,∀ l:World,
 (R (R9 (.bool k)) l)->
 j k l)->
 (Br (!(a.toList==(⟨#[]⟩:BA).toList)) ((0<=(0:Int)/\0<(a.size:Int))/\(Br ((sget a 0) !=32) ((0<=(wr ((a.size:Int)-1))/\(wr ((a.size:Int)-1))<(a.size:Int))/\(Br ((sget a (wr ((a.size:Int)-1))) !=32) (j (decide ((a.size:Int)<=65536)) e) (j false e))) (j false e))) (j false e)))))):CP 197 #[T9 a] w R:=
 vcq Tryz.func197 [] [(6,⟨[(3,.int .i64)],[]⟩),(15,⟨[(31,.bool)],[]⟩),(23,⟨[(2,.bool)],[]⟩)] [.l (.str a)] h
theorem m_O (a:BA)(w:World)(R:EW)(h:
 ∀ b:Bool->World->Prop,(∀ c:Bool,∀ d:World,
 (R (R9 (.bool c)) d)->
 b c d)->
 (Nr (a.toList==(⟨#[]⟩:BA).toList) (Cb 197 #[T9 a] w (fun e f=>True/\b e f)) (b true w))):CP 162 #[T9 a] w R:=
 vcq Tryz.func162 [] [(2,⟨[(2,.bool)],[]⟩)] [.l (.str a)] h
theorem o_1 (a:BA)(w:World)(R:EW)(h:
 ∃ (b:Int->World->Prop) (c:Int->World->Nat),b 0 w/\
 (∀ d:Int,∀ e:World,b d e->
 (Br (decide (d<(a.size:Int))) (∀ f:Bool->World->Prop,(∀ g:Bool,∀ i:World,
 ((Br g (R (R9 (.bool false)) i) ((b (wr (d+1)) i/\c (wr (d+1)) i<c d e))))->
 f g i)->
 (0<=d/\d<(a.size:Int))/\(Br ((sget a d) !=9) ((0<=d/\d<(a.size:Int))/\(Br ((sget a d) !=10) ((0<=d/\d<(a.size:Int))/\(Nr (decide ((sget a d)<32)) ((0<=d/\d<(a.size:Int))/\f (decide ((sget a d)>126)) e) (f true e))) (f false e))) (f false e))) (R (R9 (.bool (decide ((a.size:Int)<=65536)))) e)))):CP 210 #[T9 a] w R:=
 vcq Tryz.func210 [] [(6,⟨[(3,.int .i64)],[]⟩),(15,⟨[(31,.bool)],[]⟩)] [.l (.str a)] h
theorem l_Q (a:BA)(w:World)(R:EW)(h:
 ∀ b:Bool->World->Prop,(∀ c:Bool,∀ d:World,
 ((Br c (R (R9 (N9 5)) d) ((Br (a.toList==(⟨#[110,117,108,108]⟩:BA).toList) (R (R9 (N9 6)) d) (R (R9 (N9 7)) d)))))->
 b c d)->
 (Br (a.toList==(⟨#[116,114,117,101]⟩:BA).toList) (b true w) (b (a.toList==(⟨#[102,97,108,115,101]⟩:BA).toList) w))):CP 199 #[T9 a] w R:=
 vcq Tryz.func199 [] [(6,⟨[(4,.bool)],[]⟩)] [.l (.str a)] h
theorem m_G (a:BA)(b:OA)(c d:Nat)(e:Bool)(f:Int)(w:World)(R:EW)(h:
 True/\(let g:=w.alloc (.cells #[T9 a,S9 b c d,.bool e] 63);
 (Br ((c:Int)==0) (Cb 98 #[T9 a] g (fun i j=>(KeepT 63 g j/\True)/\R (R9 (.bool i)) j)) (∀ k:Bool->World->Prop,(∀ l:Bool,∀ m:World,
 (R (R9 (.bool l)) m)->
 k l m)->
 (Br (decide (f>0)) ((Br ((c:Int)==1) ((Br (a.toList==(⟨#[]⟩:BA).toList) (Ix b 0 c fun n=>L_slb g (n.add ((0:Int).toNat*3)) fun o p q r s=>Cb 153 #[(.agg #[T9 o,S9 p q r,.bool s]),(N9 (wr (f-1)))] g (fun t u=>(KeepT 63 g u/\True)/\k t u)) (k false g))) (k false g))) (k false g)))))):CP 153 #[(.agg #[T9 a,S9 b c d,.bool e]),N9 f] w R:=
 vcq Tryz.func153 [2] [(10,⟨[(4,.bool)],[]⟩)] [.agg [.str a,.slice b c d,.bool e],.l (.int .i64 f)] h
theorem m_N (a:OA)(b c:Nat)(d:Int)(w:World)(R:EW)(h:
 ∀ e:Bool->World->Prop,(∀ f:Bool,∀ g:World,
 (R (R9 (.bool f)) g)->
 e f g)->
 (Nr ((b:Int)==0) ((Br ((b:Int)==1) (Ix a 0 b fun i=>L_isl w (i.add ((0:Int).toNat*3)) fun j k l m n=>Cb 194 #[(.agg #[N9 j,T9 k,S9 l m n]),.bool true,N9 d] w (fun o p=>True/\e o p)) (e false w))) (e true w))):CP 154 #[S9 a b c,N9 d] w R:=
 vcq Tryz.func154 [] [(2,⟨[(4,.bool)],[]⟩)] [.l (.slice a b c),.l (.int .i64 d)] h
theorem l_M (a:OA)(b c:Nat)(d:Bool)(e:Int)(w:World)(R:EW)(h:
 ∃ (f:Int->World->Prop) (g:Int->World->Nat),f 0 w/\
 (∀ i:Int,∀ j:World,f i j->
 (Br (decide (i<(b:Int))) (Ix a i b fun k=>L_sisl j (k.add (i.toNat*4)) fun l m n o p q=>True/\True/\(let s:=j.alloc (.cells #[T9 l,N9 m,T9 n,S9 o p q] 253);
 ∀ t:Bool->World->Prop,(∀ u:Bool,∀ v:World,
 ((Br u (R (R9 (.bool false)) v) ((f (wr (i+1)) v/\g (wr (i+1)) v<g i j))))->
 t u v)->
 Cb 98 #[T9 l] s (fun x y=>(KeepT 253 s y/\True)/\(Nr (!x) (Cb 194 #[(.agg #[N9 m,T9 n,S9 o p q]),.bool d,N9 e] y (fun z A=>(KeepT 253 y A/\True)/\t (!z) A)) (t true y))))) (R (R9 (.bool true)) j)))):CP 155 #[S9 a b c,.bool d,N9 e] w R:=
 vcq Tryz.func155 [8] [(6,⟨[(11,.int .i64)],[]⟩),(17,⟨[(26,.bool)],[]⟩)] [.l (.slice a b c),.l (.bool d),.l (.int .i64 e)] h
theorem l_N (a:OA)(b c:Nat)(d:Bool)(e:Int)(w:World)(R:EW)(h:
 ∃ (f:Int->World->Prop) (g:Int->World->Nat),f 0 w/\
 (∀ i:Int,∀ j:World,f i j->
 (Br (decide (i<(b:Int))) (Ix a i b fun k=>L_sl j (k.add (i.toNat*2)) fun l m n o=>True/\True/\(let q:=j.alloc (.cells #[T9 l,S9 m n o] 87);
 ∀ r:Bool->World->Prop,(∀ s:Bool,∀ t:World,
 ((Br s (R (R9 (.bool false)) t) ((f (wr (i+1)) t/\g (wr (i+1)) t<g i j))))->
 r s t)->
 Cb 98 #[T9 l] q (fun u v=>(KeepT 87 q v/\True)/\(Nr (!u) (Cb 155 #[S9 m n o,.bool d,N9 e] v (fun x y=>(KeepT 87 v y/\True)/\r (!x) y)) (r true v))))) (R (R9 (.bool true)) j)))):CP 100 #[S9 a b c,.bool d,N9 e] w R:=
 vcq Tryz.func100 [8] [(6,⟨[(11,.int .i64)],[]⟩),(17,⟨[(26,.bool)],[]⟩)] [.l (.slice a b c),.l (.bool d),.l (.int .i64 e)] h
theorem l_O (a:OA)(b c:Nat)(d:Int)(w:World)(R:EW)(h:
 ∃ (e:Int->World->Prop) (f:Int->World->Nat),e 0 w/\
 (∀ g:Int,∀ i:World,e g i->
 (Br (decide (g<(b:Int))) (Ix a g b fun j=>Ls i (j.add (g.toNat*6)) fun k=>Ls i ((j.add (g.toNat*6)).add 1) fun l=>Ll i ((j.add (g.toNat*6)).add 2) fun m n o=>Lb i ((j.add (g.toNat*6)).add 3) fun p=>Ll i ((j.add (g.toNat*6)).add 4) fun q r s=>Ll i ((j.add (g.toNat*6)).add 5) fun t u v=>True/\True/\(let y:=i.alloc (.cells #[T9 k,T9 l,S9 m n o,.bool p,S9 q r s,S9 t u v] 66);
 ∀ z:Bool->World->Prop,(∀ A:Bool,∀ B:World,
 ((Br A (R (R9 (.bool false)) B) ((e (wr (g+1)) B/\f (wr (g+1)) B<f g i))))->
 z A B)->
 Cb 98 #[T9 k] y (fun C D=>(KeepT 66 y D/\True)/\(Nr (!C) (Cb 153 #[(.agg #[T9 l,S9 m n o,.bool p]),N9 d] D (fun E F=>(KeepT 66 D F/\True)/\(Nr (!E) (Cb 154 #[S9 q r s,N9 d] F (fun G H=>(KeepT 66 F H/\True)/\(Nr (!G) (Cb 100 #[S9 t u v,.bool true,N9 d] H (fun I J=>(KeepT 66 H J/\True)/\z (!I) J)) (z true H)))) (z true F)))) (z true D))))) (R (R9 (.bool true)) i)))):CP 99 #[S9 a b c,N9 d] w R:=
 vcq Tryz.func99 [6] [(6,⟨[(9,.int .i64)],[]⟩),(17,⟨[(37,.bool)],[]⟩)] [.l (.slice a b c),.l (.int .i64 d)] h
theorem m_P (a:Int)(b:BA)(c:BA)(d:BA)(e:OA)(f g:Nat)(i:OA)(j k:Nat)(l:OA)(m n:Nat)(o:Int)(w:World)(R:EW)(h:
 True/\(let p:=w.alloc (.cells #[N9 a,T9 b,T9 c,T9 d,S9 e f g,S9 i j k,S9 l m n] 78);
 Cb 100 #[S9 i j k,.bool false,N9 o] p (fun q r=>(KeepT 78 p r/\True)/\(Br (!q) (R (R9 (.bool false)) r) ((Br (a==0) (∀ s:Bool->World->Prop,(∀ t:Bool,∀ u:World,
 (R (R9 (.bool t)) u)->
 s t u)->
 (Br (d.toList==(⟨#[]⟩:BA).toList) (Cb 98 #[T9 c] r (fun v x=>(KeepT 78 r x/\True)/\(Br v ((Nr (b.toList==(⟨#[]⟩:BA).toList) (Cb 98 #[T9 b] x (fun y z=>(KeepT 78 x z/\True)/\(Br y (Cb 155 #[S9 e f g,.bool false,N9 o] z (fun A B=>(KeepT 78 z B/\True)/\(Br A ((Nr ((m:Int)==0) (Cb 101 #[S9 l m n,(N9 (wr (o-1)))] B (fun C D=>(KeepT 78 B D/\True)/\s C D)) (s true B))) (s false B)))) (s false z)))) (Cb 155 #[S9 e f g,.bool false,N9 o] x (fun E F=>(KeepT 78 x F/\True)/\(Br E ((Nr ((m:Int)==0) (Cb 101 #[S9 l m n,(N9 (wr (o-1)))] F (fun G H=>(KeepT 78 F H/\True)/\s G H)) (s true F))) (s false F)))))) (s false x)))) (s false r))) ((Br (a==1) (∀ I:Bool->World->Prop,(∀ J:Bool,∀ K:World,
 (R (R9 (.bool J)) K)->
 I J K)->
 Cb 98 #[T9 c] r (fun L M=>(KeepT 78 r M/\True)/\(Br L ((Br (!(c.toList==(⟨#[111,110]⟩:BA).toList)) (∃ N,∃ O,(eqGuard .add 9 (Operand.tmp 63) (Operand.tmp 65) (T9 b) (T9 d)).run Tryz.prog M=.ok () M/\(binOp .add 9 (T9 b) (T9 d)).run Tryz.prog M=.ok (T9 N) O/\(KeepT 78 M O/\True)/\(Br (N.toList==(⟨#[]⟩:BA).toList) (I ((wr ((f:Int)+(m:Int)))==0) O) (I false O))) (I false M))) (I false M)))) ((Br (a==2) (∀ P:Bool->World->Prop,(∀ Q:Bool,∀ S:World,
 (R (R9 (.bool Q)) S)->
 P Q S)->
 ∃ U,∃ V,(eqGuard .add 9 (Operand.tmp 82) (Operand.tmp 84) (T9 b) (T9 c)).run Tryz.prog r=.ok () r/\(binOp .add 9 (T9 b) (T9 c)).run Tryz.prog r=.ok (T9 U) V/\(KeepT 78 r V/\True)/\(Br (U.toList==(⟨#[]⟩:BA).toList) ((Nr (d.toList==(⟨#[]⟩:BA).toList) (Cb 98 #[T9 d] V (fun W X=>(KeepT 78 V X/\True)/\(Br W ((Br ((f:Int)==0) (Cb 101 #[S9 l m n,(N9 (wr (o-1)))] X (fun Y Z=>(KeepT 78 X Z/\True)/\P Y Z)) (P false X))) (P false X)))) ((Br ((f:Int)==0) (Cb 101 #[S9 l m n,(N9 (wr (o-1)))] V (fun aa ab=>(KeepT 78 V ab/\True)/\P aa ab)) (P false V))))) (P false V))) (R (R9 (.bool false)) r))))))))))):CP 156 #[(.agg #[N9 a,T9 b,T9 c,T9 d,S9 e f g,S9 i j k,S9 l m n]),N9 o] w R:=
 vcq Tryz.func156 [2] [(17,⟨[(4,.bool)],[]⟩),(23,⟨[(4,.bool)],[]⟩),(29,⟨[(4,.bool)],[]⟩)] [.agg [.int .i64 a,.str b,.str c,.str d,.slice e f g,.slice i j k,.slice l m n],.l (.int .i64 o)] h
theorem l_I (a:OA)(b c:Nat)(d:Int)(w:World)(R:EW)(h:
 ∀ e:Bool->World->Prop,(∀ f:Bool,∀ g:World,
 ((Br f (R (R9 (.bool false)) g) (∃ (i:Int->World->Prop) (j:Int->World->Nat),i 0 g/\
 (∀ k:Int,∀ l:World,i k l->
 (Br (decide (k<(b:Int))) (Ix a k b fun m=>L_issslll l (m.add (k.toNat*7)) fun n o p q r s t u v x y z A=>True/\True/\(let C:=l.alloc (.cells #[N9 n,T9 o,T9 p,T9 q,S9 r s t,S9 u v x,S9 y z A] 78);
 Cb 156 #[(.agg #[N9 n,T9 o,T9 p,T9 q,S9 r s t,S9 u v x,S9 y z A]),N9 d] C (fun D E=>(KeepT 78 C E/\True)/\(Br (!D) (R (R9 (.bool false)) E) ((i (wr (k+1)) E/\j (wr (k+1)) E<j k l)))))) (R (R9 (.bool true)) l))))))->
 e f g)->
 (Nr ((b:Int)==0) (e (decide (d<0)) w) (e true w))):CP 101 #[S9 a b c,N9 d] w R:=
 vcq Tryz.func101 [6] [(3,⟨[(13,.bool)],[]⟩),(14,⟨[(16,.int .i64)],[]⟩)] [.l (.slice a b c),.l (.int .i64 d)] h
theorem k_p (a:OA)(b c:Nat)(d:OA)(e f:Nat)(g:Int)(w:World)(R:EW)(h:
 True/\(let i:=w.alloc (.cells #[S9 a b c,S9 d e f] 30);
 ∃ (j:Int->World->Prop) (k:Int->World->Nat),j 0 i/\
 (∀ l:Int,∀ m:World,j l m->
 (Br (decide (l<(b:Int))) (Ix a l b fun n=>L_sslll m (n.add (l.toNat*5)) fun o p q r s t u v x y z=>True/\True/\(let B:=m.alloc (.cells #[T9 o,T9 p,S9 q r s,S9 t u v,S9 x y z] 58);
 ∀ C:Bool->World->Prop,(∀ D:Bool,∀ E:World,
 ((Br D (R (R9 (.bool false)) E) (∀ F:Bool->World->Prop,(∀ G:Bool,∀ H:World,
 ((Br G (R (R9 (.bool false)) H) ((j (wr (l+1)) H/\k (wr (l+1)) H<k l m))))->
 F G H)->
 (Br (!(p.toList==(⟨#[]⟩:BA).toList)) (Cb 98 #[T9 p] E (fun I J=>(KeepT 30 E J/\KeepT 58 E J/\True)/\(Nr (!I) (Cb 99 #[S9 q r s,N9 g] J (fun K L=>(KeepT 30 J L/\KeepT 58 J L/\True)/\(Nr (!K) (Cb 100 #[S9 t u v,.bool false,N9 g] L (fun M N=>(KeepT 30 L N/\KeepT 58 L N/\True)/\(Nr (!M) (Cb 101 #[S9 x y z,N9 g] N (fun O P=>(KeepT 30 N P/\KeepT 58 N P/\True)/\F (!O) P)) (F true N)))) (F true L)))) (F true J)))) (Cb 99 #[S9 q r s,N9 g] E (fun Q S=>(KeepT 30 E S/\KeepT 58 E S/\True)/\(Nr (!Q) (Cb 100 #[S9 t u v,.bool false,N9 g] S (fun U V=>(KeepT 30 S V/\KeepT 58 S V/\True)/\(Nr (!U) (Cb 101 #[S9 x y z,N9 g] V (fun W X=>(KeepT 30 V X/\KeepT 58 V X/\True)/\F (!W) X)) (F true V)))) (F true S))))))))->
 C D E)->
 (Br (!(o.toList==(⟨#[113,117,101,114,121]⟩:BA).toList)) ((Br (!(o.toList==(⟨#[109,117,116,97,116,105,111,110]⟩:BA).toList)) (C (!(o.toList==(⟨#[115,117,98,115,99,114,105,112,116,105,111,110]⟩:BA).toList)) B) (C false B))) (C false B)))) (∃ (Y:Int->World->Prop) (Z:Int->World->Nat),Y 0 m/\
 (∀ aa:Int,∀ ab:World,Y aa ab->
 (Br (decide (aa<(e:Int))) (Ix d aa e fun ac=>L_ssll ab (ac.add (aa.toNat*4)) fun ad ae af ag ah ai aj ak=>True/\True/\(let am:=ab.alloc (.cells #[T9 ad,T9 ae,S9 af ag ah,S9 ai aj ak] 70);
 ∀ an:Bool->World->Prop,(∀ ao:Bool,∀ ap:World,
 ((Br ao (R (R9 (.bool false)) ap) ((Y (wr (aa+1)) ap/\Z (wr (aa+1)) ap<Z aa ab))))->
 an ao ap)->
 Cb 98 #[T9 ad] am (fun aq ar=>(KeepT 30 am ar/\KeepT 70 am ar/\True)/\(Nr (!aq) ((Nr (ad.toList==(⟨#[111,110]⟩:BA).toList) (Cb 98 #[T9 ae] ar (fun au av=>(KeepT 30 ar av/\KeepT 70 ar av/\True)/\(Nr (!au) (Cb 100 #[S9 af ag ah,.bool false,N9 g] av (fun ax ay=>(KeepT 30 av ay/\KeepT 70 av ay/\True)/\(Nr (!ax) (Cb 101 #[S9 ai aj ak,N9 g] ay (fun az aA=>(KeepT 30 ay aA/\KeepT 70 ay aA/\True)/\an (!az) aA)) (an true ay)))) (an true av)))) (an true ar))) (an true ar))))) (R (R9 (.bool (decide ((wr ((b:Int)+(e:Int)))>0)))) ab)))))))):CP 34 #[(.agg #[S9 a b c,S9 d e f]),N9 g] w R:=
 vcq Tryz.func34 [2,6,8] [(6,⟨[(12,.int .i64)],[]⟩),(18,⟨[(28,.bool)],[]⟩),(25,⟨[(58,.bool)],[]⟩),(37,⟨[(63,.int .i64)],[]⟩),(48,⟨[(95,.bool)],[]⟩)] [.agg [.slice a b c,.slice d e f],.l (.int .i64 g)] h
theorem k_u (a:BA)(b:OA)(c d:Nat)(e:OA)(f g:Nat)(i:Int)(w:World)(R:EW)(h:
 True/\(let j:=w.alloc (.cells #[T9 a,S9 b c d,S9 e f g] 326);
 ∃ (k:Int->World->Prop) (l:Int->World->Nat),k 0 j/\
 (∀ m:Int,∀ n:World,k m n->
 (Br (decide (m<(f:Int))) (Ix e m f fun o=>L_ss n (o.add (m.toNat*2)) fun p q=>True/\True/\(let s:=n.alloc (.cells #[T9 p,T9 q] 218);
 ∀ t:Bool->World->Prop,(∀ u:Bool,∀ v:World,
 ((Br u (R (R9 (.bool false)) v) ((k (wr (m+1)) v/\l (wr (m+1)) v<l m n))))->
 t u v)->
 (Br (!(p.toList==(⟨#[113,117,101,114,121]⟩:BA).toList)) ((Br (!(p.toList==(⟨#[109,117,116,97,116,105,111,110]⟩:BA).toList)) ((Nr (!(p.toList==(⟨#[115,117,98,115,99,114,105,112,116,105,111,110]⟩:BA).toList)) (Cb 98 #[T9 q] s (fun x y=>(KeepT 326 s y/\KeepT 218 s y/\True)/\t (!x) y)) (t true s))) (Cb 98 #[T9 q] s (fun z A=>(KeepT 326 s A/\KeepT 218 s A/\True)/\t (!z) A)))) (Cb 98 #[T9 q] s (fun B C=>(KeepT 326 s C/\KeepT 218 s C/\True)/\t (!B) C))))) (∀ D:Bool->World->Prop,(∀ E:Bool,∀ F:World,
 (R (R9 (.bool E)) F)->
 D E F)->
 Cb 162 #[T9 a] n (fun G H=>(KeepT 326 n H/\True)/\(Br G ((Br (decide ((f:Int)>0)) (Cb 100 #[S9 b c d,.bool true,N9 i] H (fun I J=>(KeepT 326 H J/\True)/\D I J)) (D false H))) (D false H)))))))):CP 161 #[(.agg #[T9 a,S9 b c d,S9 e f g]),N9 i] w R:=
 vcq Tryz.func161 [2,6] [(6,⟨[(10,.int .i64)],[]⟩),(17,⟨[(32,.bool)],[]⟩),(25,⟨[(4,.bool)],[]⟩)] [.agg [.str a,.slice b c d,.slice e f g],.l (.int .i64 i)] h
theorem i_G (a:OA)(b c:Nat)(d:Int)(w:World)(R:EW)(h:
 ∃ (e:Int->World->Prop) (f:Int->World->Nat),e 0 w/\
 (∀ g:Int,∀ i:World,e g i->
 (Br (decide (g<(b:Int))) (Ix a g b fun j=>L_ssslbll i (j.add (g.toNat*7)) fun k l m n o p q r s t u v x=>True/\True/\(let z:=i.alloc (.cells #[T9 k,T9 l,T9 m,S9 n o p,.bool q,S9 r s t,S9 u v x] 250);
 ∀ A:Bool->World->Prop,(∀ B:Bool,∀ C:World,
 ((Br B (R (R9 (.bool false)) C) ((e (wr (g+1)) C/\f (wr (g+1)) C<f g i))))->
 A B C)->
 Cb 162 #[T9 k] z (fun D E=>(KeepT 250 z E/\True)/\(Nr (!D) (Cb 98 #[T9 l] E (fun F G=>(KeepT 250 E G/\True)/\(Nr (!F) (Cb 153 #[(.agg #[T9 m,S9 n o p,.bool q]),N9 d] G (fun H I=>(KeepT 250 G I/\True)/\(Nr (!H) (Cb 154 #[S9 r s t,N9 d] I (fun J K=>(KeepT 250 I K/\True)/\(Nr (!J) (Cb 100 #[S9 u v x,.bool true,N9 d] K (fun L M=>(KeepT 250 K M/\True)/\A (!L) M)) (A true K)))) (A true I)))) (A true G)))) (A true E))))) (R (R9 (.bool true)) i)))):CP 163 #[S9 a b c,N9 d] w R:=
 vcq Tryz.func163 [6] [(6,⟨[(9,.int .i64)],[]⟩),(17,⟨[(43,.bool)],[]⟩)] [.l (.slice a b c),.l (.int .i64 d)] h
theorem j_C (a:BA)(w:World)(R:EW)(h:
 ∀ b:Bool->World->Prop,(∀ c:Bool,∀ d:World,
 ((Br c (R (R9 (.bool true)) d) (∀ e:Bool->World->Prop,(∀ f:Bool,∀ g:World,
 ((Br f (R (R9 (.bool true)) g) (R (R9 (.bool false)) g)))->
 e f g)->
 (Br (a.toList==(⟨#[83,67,72,69,77,65]⟩:BA).toList) (e true d) ((Br (a.toList==(⟨#[83,67,65,76,65,82]⟩:BA).toList) (e true d) ((Br (a.toList==(⟨#[79,66,74,69,67,84]⟩:BA).toList) (e true d) ((Br (a.toList==(⟨#[70,73,69,76,68,95,68,69,70,73,78,73,84,73,79,78]⟩:BA).toList) (e true d) ((Br (a.toList==(⟨#[65,82,71,85,77,69,78,84,95,68,69,70,73,78,73,84,73,79,78]⟩:BA).toList) (e true d) ((Br (a.toList==(⟨#[73,78,84,69,82,70,65,67,69]⟩:BA).toList) (e true d) ((Br (a.toList==(⟨#[85,78,73,79,78]⟩:BA).toList) (e true d) ((Br (a.toList==(⟨#[69,78,85,77]⟩:BA).toList) (e true d) ((Br (a.toList==(⟨#[69,78,85,77,95,86,65,76,85,69]⟩:BA).toList) (e true d) ((Br (a.toList==(⟨#[73,78,80,85,84,95,79,66,74,69,67,84]⟩:BA).toList) (e true d) (e (a.toList==(⟨#[73,78,80,85,84,95,70,73,69,76,68,95,68,69,70,73,78,73,84,73,79,78]⟩:BA).toList) d)))))))))))))))))))))))->
 b c d)->
 (Br (a.toList==(⟨#[81,85,69,82,89]⟩:BA).toList) (b true w) ((Br (a.toList==(⟨#[77,85,84,65,84,73,79,78]⟩:BA).toList) (b true w) ((Br (a.toList==(⟨#[83,85,66,83,67,82,73,80,84,73,79,78]⟩:BA).toList) (b true w) ((Br (a.toList==(⟨#[70,73,69,76,68]⟩:BA).toList) (b true w) ((Br (a.toList==(⟨#[70,82,65,71,77,69,78,84,95,68,69,70,73,78,73,84,73,79,78]⟩:BA).toList) (b true w) ((Br (a.toList==(⟨#[70,82,65,71,77,69,78,84,95,83,80,82,69,65,68]⟩:BA).toList) (b true w) ((Br (a.toList==(⟨#[73,78,76,73,78,69,95,70,82,65,71,77,69,78,84]⟩:BA).toList) (b true w) (b (a.toList==(⟨#[86,65,82,73,65,66,76,69,95,68,69,70,73,78,73,84,73,79,78]⟩:BA).toList) w))))))))))))))):CP 164 #[T9 a] w R:=
 vcq Tryz.func164 [] [(6,⟨[(4,.bool)],[]⟩),(40,⟨[(13,.bool)],[]⟩)] [.l (.str a)] h
theorem m_F (a:BA)(b:BA)(c:BA)(d:OA)(e f:Nat)(g:OA)(i j:Nat)(k:OA)(l m:Nat)(n:OA)(o p:Nat)(q:OA)(r s:Nat)(t:Int)(w:World)(R:EW)(h:
 True/\(let u:=w.alloc (.cells #[T9 a,T9 b,T9 c,S9 d e f,S9 g i j,S9 k l m,S9 n o p,S9 q r s] 96);
 ∀ v:Bool->World->Prop,(∀ x:Bool,∀ y:World,
 ((Br x (R (R9 (.bool false)) y) (∀ z,z=y.drew->((0=0)/\(0=0)/\(0=0)/\True)/\((0=0)/\(0=0)/\True)/\((0=0)/\True)/\True/\∃ (A:Int->World->Prop) (B:Int->World->Nat),A 0 z/\
 (∀ C:Int,∀ D:World,A C D->
 (Br (decide (C<(r:Int))) (Ix q C r fun E=>L_ssl D (E.add (C.toNat*3)) fun F G H I J=>True/\True/\(let L:=D.alloc (.cells #[T9 F,T9 G,S9 H I J] 259);
 ∀ M:Bool->World->Prop,(∀ N:Bool,∀ O:World,
 ((Br N (R (R9 (.bool false)) O) ((A (wr (C+1)) O/\B (wr (C+1)) O<B C D))))->
 M N O)->
 Cb 162 #[T9 F] L (fun P Q=>(KeepT 96 L Q/\KeepT 259 L Q/\True)/\(Nr (!P) (Cb 98 #[T9 G] Q (fun S U=>(KeepT 96 Q U/\KeepT 259 Q U/\True)/\(Nr (!S) (Ci 199 #[T9 G] U (fun V W=>(KeepT 96 U W/\KeepT 259 U W/\True)/\(Nr (V !=7) (Cb 100 #[S9 H I J,.bool true,N9 t] W (fun X Y=>(KeepT 96 W Y/\KeepT 259 W Y/\True)/\M (!X) Y)) (M true W)))) (M true U)))) (M true Q))))) ((Br (a.toList==(⟨#[83,67,65,76,65,82]⟩:BA).toList) (R (R9 (.bool ((wr ((wr ((wr ((l:Int)+(o:Int)))+(r:Int)))+(i:Int)))==0))) D) (∀ Z:Bool->World->Prop,(∀ aa:Bool,∀ ab:World,
 ((Br aa (∀ ac:Bool->World->Prop,(∀ ad:Bool,∀ ae:World,
 (R (R9 (.bool ad)) ae)->
 ac ad ae)->
 (Br (decide ((l:Int)>0)) ((Br ((wr ((o:Int)+(r:Int)))==0) (Cb 200 #[S9 k l m,.bool false,N9 t] ab (fun af ag=>(KeepT 96 ab ag/\True)/\ac af ag)) (ac false ab))) (ac false ab))) ((Br (a.toList==(⟨#[73,78,80,85,84,95,79,66,74,69,67,84]⟩:BA).toList) (∀ ah:Bool->World->Prop,(∀ ai:Bool,∀ aj:World,
 (R (R9 (.bool ai)) aj)->
 ah ai aj)->
 (Br (decide ((l:Int)>0)) ((Br ((wr ((wr ((o:Int)+(r:Int)))+(i:Int)))==0) (Cb 200 #[S9 k l m,.bool true,N9 t] ab (fun ak al=>(KeepT 96 ab al/\True)/\ah ak al)) (ah false ab))) (ah false ab))) ((Br (a.toList==(⟨#[85,78,73,79,78]⟩:BA).toList) (∀ am:Bool->World->Prop,(∀ an:Bool,∀ ao:World,
 (R (R9 (.bool an)) ao)->
 am an ao)->
 (Br (decide ((o:Int)>0)) (am ((wr ((wr ((l:Int)+(r:Int)))+(i:Int)))==0) ab) (am false ab))) ((Br (a.toList==(⟨#[69,78,85,77]⟩:BA).toList) (∀ ap:Bool->World->Prop,(∀ aq:Bool,∀ ar:World,
 (R (R9 (.bool aq)) ar)->
 ap aq ar)->
 (Br (decide ((r:Int)>0)) (ap ((wr ((wr ((l:Int)+(o:Int)))+(i:Int)))==0) ab) (ap false ab))) (R (R9 (.bool false)) ab)))))))))->
 Z aa ab)->
 (Br (a.toList==(⟨#[79,66,74,69,67,84]⟩:BA).toList) (Z true D) (Z (a.toList==(⟨#[73,78,84,69,82,70,65,67,69]⟩:BA).toList) D))))))))))->
 v x y)->
 Cb 162 #[T9 b] u (fun au av=>(KeepT 96 u av/\True)/\(Nr (!au) (Cb 98 #[T9 c] av (fun ax ay=>(KeepT 96 av ay/\True)/\(Nr (!ax) (Cb 100 #[S9 d e f,.bool true,N9 t] ay (fun az aA=>(KeepT 96 ay aA/\True)/\(Nr (!az) (Cb 198 #[S9 g i j] aA (fun aB aC=>(KeepT 96 aA aC/\True)/\(Nr (!aB) (Cb 198 #[S9 n o p] aC (fun aD aE=>(KeepT 96 aC aE/\True)/\v (!aD) aE)) (v true aC)))) (v true aA)))) (v true ay)))) (v true av))))):CP 165 #[(.agg #[T9 a,T9 b,T9 c,S9 d e f,S9 g i j,S9 k l m,S9 n o p,S9 q r s]),N9 t] w R:=
 vcq Tryz.func165 [2,10] [(3,⟨[(39,.bool)],[]⟩),(16,⟨[(55,.int .i64)],[]⟩),(27,⟨[(81,.bool)],[]⟩),(45,⟨[(95,.bool)],[]⟩),(52,⟨[(4,.bool)],[]⟩),(58,⟨[(4,.bool)],[]⟩),(64,⟨[(4,.bool)],[]⟩),(70,⟨[(4,.bool)],[]⟩)] [.agg [.str a,.str b,.str c,.slice d e f,.slice g i j,.slice k l m,.slice n o p,.slice q r s],.l (.int .i64 t)] h
theorem o_z (a:BA)(b:BA)(c:BA)(d:OA)(e f:Nat)(g:OA)(i j:Nat)(k:OA)(l m:Nat)(n:OA)(o p:Nat)(q:OA)(r s:Nat)(w:World)(R:EW)(h:
 True/\(let t:=w.alloc (.cells #[T9 a,T9 b,T9 c,S9 d e f,S9 g i j,S9 k l m,S9 n o p,S9 q r s] 96);
 R (R9 (.bool ((wr ((wr ((wr ((wr ((e:Int)+(i:Int)))+(l:Int)))+(o:Int)))+(r:Int)))==0))) t)):CP 166 #[(.agg #[T9 a,T9 b,T9 c,S9 d e f,S9 g i j,S9 k l m,S9 n o p,S9 q r s])] w R:=
 vcq Tryz.func166 [1] [] [.agg [.str a,.str b,.str c,.slice d e f,.slice g i j,.slice k l m,.slice n o p,.slice q r s]] h
theorem l_K (a:BA)(w:World)(R:EW)(h:
 ∀ b:Bool->World->Prop,(∀ c:Bool,∀ d:World,
 (R (R9 (.bool c)) d)->
 b c d)->
 (Br (!(a.toList==(⟨#[]⟩:BA).toList)) (b (!(a.toList==(⟨#[73,78,80,85,84,95,79,66,74,69,67,84]⟩:BA).toList)) w) (b false w))):CP 167 #[T9 a] w R:=
 vcq Tryz.func167 [] [(2,⟨[(2,.bool)],[]⟩)] [.l (.str a)] h
theorem j_K (a:OA)(b c:Nat)(d:Bool)(e:Int)(w:World)(R:EW)(h:
 ∃ (f:Int->World->Prop) (g:Int->World->Nat),f 0 w/\
 (∀ i:Int,∀ j:World,f i j->
 (Br (decide (i<(b:Int))) (Ix a i b fun k=>L_ssllslbl j (k.add (i.toNat*8)) fun l m n o p q r s t u v x y z A B=>True/\True/\(let D:=j.alloc (.cells #[T9 l,T9 m,S9 n o p,S9 q r s,T9 t,S9 u v x,.bool y,S9 z A B] 104);
 ∀ E:Bool->World->Prop,(∀ F:Bool,∀ G:World,
 ((Br F (R (R9 (.bool false)) G) (∀ H:Bool->World->Prop,(∀ I:Bool,∀ J:World,
 ((Br I (R (R9 (.bool false)) J) ((f (wr (i+1)) J/\g (wr (i+1)) J<g i j))))->
 H I J)->
 (Br d ((Nr (decide ((o:Int)>0)) ((Br (!d) ((Nr (decide ((r:Int)>0)) (Cb 163 #[S9 n o p,N9 e] G (fun K L=>(KeepT 104 G L/\True)/\(Nr (!K) (Cb 154 #[S9 q r s,N9 e] L (fun M N=>(KeepT 104 L N/\True)/\H (!M) N)) (H true L)))) (H true G))) (Cb 163 #[S9 n o p,N9 e] G (fun O P=>(KeepT 104 G P/\True)/\(Nr (!O) (Cb 154 #[S9 q r s,N9 e] P (fun Q S=>(KeepT 104 P S/\True)/\H (!Q) S)) (H true P)))))) (H true G))) ((Br (!d) ((Nr (decide ((r:Int)>0)) (Cb 163 #[S9 n o p,N9 e] G (fun U V=>(KeepT 104 G V/\True)/\(Nr (!U) (Cb 154 #[S9 q r s,N9 e] V (fun W X=>(KeepT 104 V X/\True)/\H (!W) X)) (H true V)))) (H true G))) (Cb 163 #[S9 n o p,N9 e] G (fun Y Z=>(KeepT 104 G Z/\True)/\(Nr (!Y) (Cb 154 #[S9 q r s,N9 e] Z (fun aa ab=>(KeepT 104 Z ab/\True)/\H (!aa) ab)) (H true Z))))))))))->
 E F G)->
 Cb 162 #[T9 l] D (fun ac ad=>(KeepT 104 D ad/\True)/\(Nr (!ac) (Cb 98 #[T9 m] ad (fun ae af=>(KeepT 104 ad af/\True)/\(Nr (!ae) (Cb 153 #[(.agg #[T9 t,S9 u v x,.bool y]),N9 e] af (fun ag ah=>(KeepT 104 af ah/\True)/\(Nr (!ag) (Cb 100 #[S9 z A B,.bool true,N9 e] ah (fun ai aj=>(KeepT 104 ah aj/\True)/\E (!ai) aj)) (E true ah)))) (E true af)))) (E true ad))))) (R (R9 (.bool true)) j)))):CP 200 #[S9 a b c,.bool d,N9 e] w R:=
 vcq Tryz.func200 [8] [(6,⟨[(11,.int .i64)],[]⟩),(18,⟨[(38,.bool)],[]⟩),(25,⟨[(69,.bool)],[]⟩)] [.l (.slice a b c),.l (.bool d),.l (.int .i64 e)] h
theorem p_n (a:BA)(w:World)(R:EW)(h:
 ∀ b:Bool->World->Prop,(∀ c:Bool,∀ d:World,
 (R (R9 (.bool c)) d)->
 b c d)->
 Cb 98 #[T9 a] w (fun e f=>True/\(Br e ((Br (decide ((a.size:Int)≥2)) ((0<=(0:Int)/\(0:Int)<=(2:Int)/\2<=(a.size:Int))/\(Br (!((a.extract (0:Int).toNat (2:Int).toNat).toList==(⟨#[95,95]⟩:BA).toList)) (Cl 126 #[] f (fun g i j k=>True/\Cb 60 #[T9 a,S9 g i j] k (fun l m=>True/\b (!l) m))) (b false f))) (Cl 126 #[] f (fun n o p q=>True/\Cb 60 #[T9 a,S9 n o p] q (fun r s=>True/\b (!r) s))))) (b false f)))):CP 170 #[T9 a] w R:=
 vcq Tryz.func170 [] [(2,⟨[(2,.bool)],[]⟩)] [.l (.str a)] h
theorem n_z (a:OA)(b c:Nat)(w:World)(R:EW)(h:
 ∃ (d:Int->World->Prop) (e:Int->World->Nat),d 0 w/\
 (∀ f:Int,∀ g:World,d f g->
 (Br (decide (f<(b:Int))) (Ix a f b fun i=>Ls g (i.add (f.toNat*1)) fun j=>∀ k:Bool->World->Prop,(∀ l:Bool,∀ m:World,
 ((Br l (R (R9 (.bool false)) m) ((d (wr (f+1)) m/\e (wr (f+1)) m<e f g))))->
 k l m)->
 Cb 170 #[T9 j] g (fun n o=>True/\(Nr (!n) ((0<=(0:Int)/\(0:Int)<=f/\f<=(c:Int))/\Cb 60 #[T9 j,(S9 (if c=(0:Int).toNat then a else Option.map (·.add ((0:Int).toNat*1)) a) (f.toNat-(0:Int).toNat) (c-(0:Int).toNat))] o (fun p q=>True/\k p q)) (k true o)))) (R (R9 (.bool true)) g)))):CP 112 #[S9 a b c] w R:=
 vcq Tryz.func112 [] [(6,⟨[(7,.int .i64)],[]⟩),(17,⟨[(21,.bool)],[]⟩)] [.l (.slice a b c)] h
theorem o_x (a:OA)(b c:Nat)(w:World)(R:EW)(h:
 ∃ (d:Int->World->Prop) (e:Int->World->Nat),d 0 w/\
 (∀ f:Int,∀ g:World,d f g->
 (Br (decide (f<(b:Int))) (Ix a f b fun i=>Ls g (i.add (f.toNat*1)) fun j=>(0<=(0:Int)/\(0:Int)<=f/\f<=(c:Int))/\Cb 60 #[T9 j,(S9 (if c=(0:Int).toNat then a else Option.map (·.add ((0:Int).toNat*1)) a) (f.toNat-(0:Int).toNat) (c-(0:Int).toNat))] g (fun k l=>True/\(Br k (R (R9 (.bool false)) l) ((d (wr (f+1)) l/\e (wr (f+1)) l<e f g))))) (R (R9 (.bool true)) g)))):CP 111 #[S9 a b c] w R:=
 vcq Tryz.func111 [] [(6,⟨[(7,.int .i64)],[]⟩)] [.l (.slice a b c)] h
theorem k_v (w:World)(R:EW)(h:
 True/\(let a:=w.alloc (.cells #[(T9 (⟨#[115,107,105,112]⟩:BA)),(T9 (⟨#[105,110,99,108,117,100,101]⟩:BA)),(T9 (⟨#[100,101,112,114,101,99,97,116,101,100]⟩:BA)),(T9 (⟨#[115,112,101,99,105,102,105,101,100,66,121]⟩:BA)),(T9 (⟨#[111,110,101,79,102]⟩:BA)),(T9 (⟨#[100,101,102,101,114]⟩:BA)),(T9 (⟨#[115,116,114,101,97,109]⟩:BA))] 9);
 R (R9 (S9 (some (adr w.heap.size)) 7 7)) a)):CP 109 #[] w R:=
 vcq Tryz.func109 [] [] [] h
theorem m_V (w:World)(R:EW)(h:
 True/\(let a:=w.alloc (.cells #[(T9 (⟨#[73,110,116]⟩:BA)),(T9 (⟨#[70,108,111,97,116]⟩:BA)),(T9 (⟨#[83,116,114,105,110,103]⟩:BA)),(T9 (⟨#[66,111,111,108,101,97,110]⟩:BA)),(T9 (⟨#[73,68]⟩:BA))] 9);
 R (R9 (S9 (some (adr w.heap.size)) 5 5)) a)):CP 126 #[] w R:=
 vcq Tryz.func126 [] [] [] h
theorem h_d (a:OA)(b:OA)(c d:Nat)(w:World)(R:EW)(h:
 ∃ (e:OA->Nat->Nat->Int->World->Prop) (f:OA->Nat->Nat->Int->World->Nat),e none 0 0 0 w/\
 (∀ (g:OA) (i j:Nat),∀ k:Int,∀ l:World,e g i j k l->
 (Br (decide (k<(c:Int))) (Ix b k c fun m=>L_ssslbll l (m.add (k.toNat*7)) fun n o p q r s t u v x y z A=>True/\True/\(let C:=l.alloc (.cells #[T9 n,T9 o,T9 p,S9 q r s,.bool t,S9 u v x,S9 y z A] 250);
 True/\(let D:=C.alloc (.cells #[T9 o] 9);
 ∃ E F G,∃ H,(Go.builtin .append #[71,71] 71 #[false,false] #[S9 g i j,(S9 (some (adr C.heap.size)) 1 1)]).run Tryz.prog D=.ok (.value (S9 E F G)) H/\(KeepT 250 D H/\True)/\∀ I:Bool->World->Prop,(∀ J:Bool,∀ K:World,
 ((Br J (R (R9 (.bool false)) K) ((e E F G (wr (k+1)) K/\f E F G (wr (k+1)) K<f g i j k l))))->
 I J K)->
 Cs 64 #[P9 a,(.agg #[T9 p,S9 q r s,.bool t])] H (fun L M=>(KeepT 250 H M/\True)/\Cb 116 #[T9 L] M (fun N O=>(KeepT 250 M O/\True)/\(Nr (!N) ((Nr (decide ((wr ((v:Int)+(z:Int)))>0)) (I (!(n.toList==(⟨#[]⟩:BA).toList)) O) (I true O))) (I true O))))))) (Cb 112 #[S9 g i j] l (fun P Q=>True/\R (R9 (.bool P)) Q))))):CP 110 #[P9 a,S9 b c d] w R:=
 vcq Tryz.func110 [7] [(8,⟨[(5,.slice),(10,.int .i64)],[]⟩),(21,⟨[(39,.bool)],[]⟩)] [.l (.optr a),.l (.slice b c d)] h
end Go.VC
