/- Part of the proof of a law of a rule over documents (TextC), where what the arguments hold is of bulk at most 1048576. -/
import Derived.Test.YtgckkmmljfioaaaGreatBaseB
set_option linter.unusedVariables false
set_option linter.unusedSimpArgs false
set_option linter.unusedSectionVars false
set_option linter.deprecated false
namespace Go.VC
open Go Go.Proofs
set_option maxRecDepth 100000
theorem q_sameFld (a : BA) (b : BA) (c : OA) (d e : Nat) (f : OA) (g i : Nat) (j : BA) (k : OA) (l m : Nat) (n : Bool) (o : OA) (p q : Nat) (r : BA) (s : BA) (t : OA) (u v : Nat) (x : OA) (y z : Nat) (A : BA) (B : OA) (C D : Nat) (E : Bool) (F : OA) (G H : Nat) (w : World) (R : EW) (h :
 True /\ (let I := w.alloc (.cells #[.string a, .string b, .slice c d e, .slice f g i, .string j, .slice k l m, .bool n, .slice o p q] 187);
 True /\ (let J := I.alloc (.cells #[.string r, .string s, .slice t u v, .slice x y z, .string A, .slice B C D, .bool E, .slice F G H] 187);
 ∀ K : Bool -> World -> Prop, (∀ L : Bool, ∀ M : World,
 (R (.returned (.bool L)) M) ->
 K L M) ->
 (((a.toList == r.toList) = true -> (((b.toList == s.toList) = true -> CP 129 #[.slice c d e, .slice t u v, (.func (.func 130) #[] #[])] J (fun N O => ∃ P, N = .returned (.bool P) /\ (KeepT 187 J O /\ True) /\ ((P = true -> CP 131 #[.slice f g i, .slice x y z, (.func (.func 132) #[] #[])] O (fun Q S => ∃ U, Q = .returned (.bool U) /\ (KeepT 187 O S /\ True) /\ ((U = true -> CP 133 #[(.agg #[.string j, .slice k l m, .bool n]), (.agg #[.string A, .slice B C D, .bool E])] S (fun V W => ∃ X, V = .returned (.bool X) /\ (KeepT 187 S W /\ True) /\ ((X = true -> CP 134 #[.slice o p q, .slice F G H, (.func (.func 135) #[] #[])] W (fun Y Z => ∃ aa, Y = .returned (.bool aa) /\ (KeepT 187 W Z /\ True) /\ K aa Z)) /\ (X = false -> K false W)))) /\ (U = false -> K false S)))) /\ (P = false -> K false O)))) /\ ((b.toList == s.toList) = false -> K false J))) /\ ((a.toList == r.toList) = false -> K false J))))) : CP 121 #[(.agg #[.string a, .string b, .slice c d e, .slice f g i, .string j, .slice k l m, .bool n, .slice o p q]), (.agg #[.string r, .string s, .slice t u v, .slice x y z, .string A, .slice B C D, .bool E, .slice F G H])] w R :=
 vcq Tryz.func121 [2, 3] [(2, ⟨[(4, .bool)],[]⟩)] [.agg [.str a, .str b, .slice c d e, .slice f g i, .str j, .slice k l m, .bool n, .slice o p q], .agg [.str r, .str s, .slice t u v, .slice x y z, .str A, .slice B C D, .bool E, .slice F G H]] h
theorem q_each_impl_ArgDef (a : OA) (b c : Nat) (d : OA) (e f : Nat) (g : Value) (w : World) (R : EW) (h :
 ((((b : Int) != (e : Int)) = true ->
 R (.returned (.bool false)) w) /\
 (((b : Int) != (e : Int)) = false ->
 ∃ (i : Int -> World -> Prop) (j : Int -> World -> Nat), i 0 w /\
 (∀ k : Int, ∀ l : World, i k l ->
 (((decide (k < (b : Int))) = true ->
 ∀ m, m = l.drew -> ∃ n, a = some n /\ (0 <= k /\ k < (b : Int)) /\ ∃ o, m.cell? (n.add (k.toNat * 7)) = some (.string o) /\ ∃ p, m.cell? ((n.add (k.toNat * 7)).add 1) = some (.string p) /\ ∃ q, m.cell? ((n.add (k.toNat * 7)).add 2) = some (.string q) /\ ∃ r s t, m.cell? ((n.add (k.toNat * 7)).add 3) = some (.slice r s t) /\ ∃ u, m.cell? ((n.add (k.toNat * 7)).add 4) = some (.bool u) /\ ∃ v x y, m.cell? ((n.add (k.toNat * 7)).add 5) = some (.slice v x y) /\ ∃ z A B, m.cell? ((n.add (k.toNat * 7)).add 6) = some (.slice z A B) /\ ∃ C, d = some C /\ (0 <= k /\ k < (e : Int)) /\ ∃ D, m.cell? (C.add (k.toNat * 7)) = some (.string D) /\ ∃ E, m.cell? ((C.add (k.toNat * 7)).add 1) = some (.string E) /\ ∃ F, m.cell? ((C.add (k.toNat * 7)).add 2) = some (.string F) /\ ∃ G H I, m.cell? ((C.add (k.toNat * 7)).add 3) = some (.slice G H I) /\ ∃ J, m.cell? ((C.add (k.toNat * 7)).add 4) = some (.bool J) /\ ∃ K L M, m.cell? ((C.add (k.toNat * 7)).add 5) = some (.slice K L M) /\ ∃ N O P, m.cell? ((C.add (k.toNat * 7)).add 6) = some (.slice N O P) /\ ∃ Q S, g = .func (.func Q) #[] S.toArray /\ ∃ U, Tryz.prog.funcs[Q]? = some U /\ (U.name == "runtime.NumGoroutine" || U.body.isNone) = false /\ CP Q ([(.agg #[.string o, .string p, .string q, .slice r s t, .bool u, .slice v x y, .slice z A B]), (.agg #[.string D, .string E, .string F, .slice G H I, .bool J, .slice K L M, .slice N O P])] ++ S).toArray m (fun V W => ∃ X, V = .returned (.bool X) /\ True /\ True /\ (((!X) = true ->
 R (.returned (.bool false)) W) /\
 ((!X) = false ->
 (i (IntKind.i64.wrap (k + 1)) W /\ j (IntKind.i64.wrap (k + 1)) W < j k l))))) /\
 ((decide (k < (b : Int))) = false ->
 R (.returned (.bool true)) l)))))) : CP 129 #[.slice a b c, .slice d e f, g] w R :=
 vcq Tryz.func129 [] [(14, ⟨[(15, .int .i64)],[]⟩)] [.l (.slice a b c), .l (.slice d e f), .l (.val g)] h
theorem q_sameArgDef (a : BA) (b : BA) (c : BA) (d : OA) (e f : Nat) (g : Bool) (i : OA) (j k : Nat) (l : OA) (m n : Nat) (o : BA) (p : BA) (q : BA) (r : OA) (s t : Nat) (u : Bool) (v : OA) (x y : Nat) (z : OA) (A B : Nat) (w : World) (R : EW) (h :
 True /\ (let C := w.alloc (.cells #[.string a, .string b, .string c, .slice d e f, .bool g, .slice i j k, .slice l m n] 141);
 True /\ (let D := C.alloc (.cells #[.string o, .string p, .string q, .slice r s t, .bool u, .slice v x y, .slice z A B] 141);
 ∀ E : Bool -> World -> Prop, (∀ F : Bool, ∀ G : World,
 (R (.returned (.bool F)) G) ->
 E F G) ->
 (((a.toList == o.toList) = true -> (((b.toList == p.toList) = true -> CP 133 #[(.agg #[.string c, .slice d e f, .bool g]), (.agg #[.string q, .slice r s t, .bool u])] D (fun H I => ∃ J, H = .returned (.bool J) /\ (KeepT 141 D I /\ True) /\ ((J = true -> CP 131 #[.slice i j k, .slice v x y, (.func (.func 132) #[] #[])] I (fun K L => ∃ M, K = .returned (.bool M) /\ (KeepT 141 I L /\ True) /\ ((M = true -> CP 134 #[.slice l m n, .slice z A B, (.func (.func 135) #[] #[])] L (fun N O => ∃ P, N = .returned (.bool P) /\ (KeepT 141 L O /\ True) /\ E P O)) /\ (M = false -> E false L)))) /\ (J = false -> E false I)))) /\ ((b.toList == p.toList) = false -> E false D))) /\ ((a.toList == o.toList) = false -> E false D))))) : CP 130 #[(.agg #[.string a, .string b, .string c, .slice d e f, .bool g, .slice i j k, .slice l m n]), (.agg #[.string o, .string p, .string q, .slice r s t, .bool u, .slice v x y, .slice z A B])] w R :=
 vcq Tryz.func130 [2, 3] [(2, ⟨[(4, .bool)],[]⟩)] [.agg [.str a, .str b, .str c, .slice d e f, .bool g, .slice i j k, .slice l m n], .agg [.str o, .str p, .str q, .slice r s t, .bool u, .slice v x y, .slice z A B]] h
theorem q_each_impl_Val (a : OA) (b c : Nat) (d : OA) (e f : Nat) (g : Value) (w : World) (R : EW) (h :
 ((((b : Int) != (e : Int)) = true ->
 R (.returned (.bool false)) w) /\
 (((b : Int) != (e : Int)) = false ->
 ∃ (i : Int -> World -> Prop) (j : Int -> World -> Nat), i 0 w /\
 (∀ k : Int, ∀ l : World, i k l ->
 (((decide (k < (b : Int))) = true ->
 ∀ m, m = l.drew -> ∃ n, a = some n /\ (0 <= k /\ k < (b : Int)) /\ ∃ o, m.cell? (n.add (k.toNat * 3)) = some (.int .i64 o) /\ ∃ p, m.cell? ((n.add (k.toNat * 3)).add 1) = some (.string p) /\ ∃ q r s, m.cell? ((n.add (k.toNat * 3)).add 2) = some (.slice q r s) /\ ∃ t, d = some t /\ (0 <= k /\ k < (e : Int)) /\ ∃ u, m.cell? (t.add (k.toNat * 3)) = some (.int .i64 u) /\ ∃ v, m.cell? ((t.add (k.toNat * 3)).add 1) = some (.string v) /\ ∃ x y z, m.cell? ((t.add (k.toNat * 3)).add 2) = some (.slice x y z) /\ ∃ A B, g = .func (.func A) #[] B.toArray /\ ∃ C, Tryz.prog.funcs[A]? = some C /\ (C.name == "runtime.NumGoroutine" || C.body.isNone) = false /\ CP A ([(.agg #[.int .i64 o, .string p, .slice q r s]), (.agg #[.int .i64 u, .string v, .slice x y z])] ++ B).toArray m (fun D E => ∃ F, D = .returned (.bool F) /\ True /\ True /\ (((!F) = true ->
 R (.returned (.bool false)) E) /\
 ((!F) = false ->
 (i (IntKind.i64.wrap (k + 1)) E /\ j (IntKind.i64.wrap (k + 1)) E < j k l))))) /\
 ((decide (k < (b : Int))) = false ->
 R (.returned (.bool true)) l)))))) : CP 131 #[.slice a b c, .slice d e f, g] w R :=
 vcq Tryz.func131 [] [(14, ⟨[(15, .int .i64)],[]⟩)] [.l (.slice a b c), .l (.slice d e f), .l (.val g)] h
theorem q_SameVal (a : Int) (b : BA) (c : OA) (d e : Nat) (f : Int) (g : BA) (i : OA) (j k : Nat) (w : World) (R : EW) (h :
 True /\ (let l := w.alloc (.cells #[.int .i64 a, .string b, .slice c d e] 144);
 True /\ (let m := l.alloc (.cells #[.int .i64 f, .string g, .slice i j k] 144);
 ∀ n : Bool -> World -> Prop, (∀ o : Bool, ∀ p : World,
 (((o = true ->
 R (.returned (.bool false)) p) /\
 (o = false ->
 ∀ q : Bool -> World -> Prop, (∀ r : Bool, ∀ s : World,
 (((r = true ->
 R (.returned (.bool false)) s) /\
 (r = false ->
 ∃ (t : Int -> World -> Prop) (u : Int -> World -> Nat), t 0 s /\
 (∀ v : Int, ∀ x : World, t v x ->
 (((decide (v < (d : Int))) = true ->
 ∀ y : Bool -> World -> Prop, (∀ z : Bool, ∀ A : World,
 (((z = true ->
 R (.returned (.bool false)) A) /\
 (z = false ->
 (t (IntKind.i64.wrap (v + 1)) A /\ u (IntKind.i64.wrap (v + 1)) A < u v x)))) ->
 y z A) ->
 ∀ B, B = x.drew -> (((a == 9) = true -> ∃ C, c = some C /\ (0 <= v /\ v < (d : Int)) /\ ∃ D, B.cell? (C.add (v.toNat * 4)) = some (.string D) /\ ∃ E, i = some E /\ (0 <= v /\ v < (j : Int)) /\ ∃ F, B.cell? (E.add (v.toNat * 4)) = some (.string F) /\ (((!(D.toList == F.toList)) = true -> y true B) /\ ((!(D.toList == F.toList)) = false -> ∃ G, c = some G /\ (0 <= v /\ v < (d : Int)) /\ ∃ H, B.cell? ((G.add (v.toNat * 4)).add 1) = some (.int .i64 H) /\ ∃ I, B.cell? (((G.add (v.toNat * 4)).add 1).add 1) = some (.string I) /\ ∃ J K L, B.cell? (((G.add (v.toNat * 4)).add 1).add 2) = some (.slice J K L) /\ ∃ M, i = some M /\ (0 <= v /\ v < (j : Int)) /\ ∃ N, B.cell? ((M.add (v.toNat * 4)).add 1) = some (.int .i64 N) /\ ∃ O, B.cell? (((M.add (v.toNat * 4)).add 1).add 1) = some (.string O) /\ ∃ P Q S, B.cell? (((M.add (v.toNat * 4)).add 1).add 2) = some (.slice P Q S) /\ CP 132 #[(.agg #[.int .i64 H, .string I, .slice J K L]), (.agg #[.int .i64 N, .string O, .slice P Q S])] B (fun U V => ∃ W, U = .returned (.bool W) /\ (KeepT 144 B V /\ True) /\ True /\ y (!W) V)))) /\ ((a == 9) = false -> ∃ X, c = some X /\ (0 <= v /\ v < (d : Int)) /\ ∃ Y, B.cell? ((X.add (v.toNat * 4)).add 1) = some (.int .i64 Y) /\ ∃ Z, B.cell? (((X.add (v.toNat * 4)).add 1).add 1) = some (.string Z) /\ ∃ aa ab ac, B.cell? (((X.add (v.toNat * 4)).add 1).add 2) = some (.slice aa ab ac) /\ ∃ ad, i = some ad /\ (0 <= v /\ v < (j : Int)) /\ ∃ ae, B.cell? ((ad.add (v.toNat * 4)).add 1) = some (.int .i64 ae) /\ ∃ af, B.cell? (((ad.add (v.toNat * 4)).add 1).add 1) = some (.string af) /\ ∃ ag ah ai, B.cell? (((ad.add (v.toNat * 4)).add 1).add 2) = some (.slice ag ah ai) /\ CP 132 #[(.agg #[.int .i64 Y, .string Z, .slice aa ab ac]), (.agg #[.int .i64 ae, .string af, .slice ag ah ai])] B (fun aj ak => ∃ al, aj = .returned (.bool al) /\ (KeepT 144 B ak /\ True) /\ True /\ y (!al) ak)))) /\
 ((decide (v < (d : Int))) = false ->
 R (.returned (.bool true)) x)))))) ->
 q r s) ->
 (((a != 8) = true -> (((a != 9) = true -> q (!(b.toList == g.toList)) p) /\ ((a != 9) = false -> q false p))) /\ ((a != 8) = false -> q false p))))) ->
 n o p) ->
 (((a != f) = false -> n ((d : Int) != (j : Int)) m) /\ ((a != f) = true -> n true m))))) : CP 132 #[(.agg #[.int .i64 a, .string b, .slice c d e]), (.agg #[.int .i64 f, .string g, .slice i j k])] w R :=
 vcq Tryz.func132 [2, 3] [(3, ⟨[(19, .bool)],[]⟩), (11, ⟨[(34, .bool)],[]⟩), (22, ⟨[(38, .int .i64)],[]⟩), (33, ⟨[(74, .bool)],[]⟩)] [.agg [.int .i64 a, .str b, .slice c d e], .agg [.int .i64 f, .str g, .slice i j k]] h
theorem q_SameTyp (a : BA) (b : OA) (c d : Nat) (e : Bool) (f : BA) (g : OA) (i j : Nat) (k : Bool) (w : World) (R : EW) (h :
 True /\ (let l := w.alloc (.cells #[.string a, .slice b c d, .bool e] 56);
 True /\ (let m := l.alloc (.cells #[.string f, .slice g i j, .bool k] 56);
 ∀ n : Bool -> World -> Prop, (∀ o : Bool, ∀ p : World,
 (((o = true ->
 R (.returned (.bool false)) p) /\
 (o = false ->
 CP 142 #[.slice b c d, .slice g i j, (.func (.func 133) #[] #[])] p (fun q r => ∃ s, q = .returned (.bool s) /\ (KeepT 56 p r /\ True) /\ R (.returned (.bool s)) r)))) ->
 n o p) ->
 (((!(e == k)) = false -> ((((c : Int) == 0) = true -> n (!(a.toList == f.toList)) m) /\ (((c : Int) == 0) = false -> n false m))) /\ ((!(e == k)) = true -> n true m))))) : CP 133 #[(.agg #[.string a, .slice b c d, .bool e]), (.agg #[.string f, .slice g i j, .bool k])] w R :=
 vcq Tryz.func133 [2, 3] [(3, ⟨[(22, .bool)],[]⟩)] [.agg [.str a, .slice b c d, .bool e], .agg [.str f, .slice g i j, .bool k]] h
theorem q_each_impl_Dir (a : OA) (b c : Nat) (d : OA) (e f : Nat) (g : Value) (w : World) (R : EW) (h :
 ((((b : Int) != (e : Int)) = true ->
 R (.returned (.bool false)) w) /\
 (((b : Int) != (e : Int)) = false ->
 ∃ (i : Int -> World -> Prop) (j : Int -> World -> Nat), i 0 w /\
 (∀ k : Int, ∀ l : World, i k l ->
 (((decide (k < (b : Int))) = true ->
 ∀ m, m = l.drew -> ∃ n, a = some n /\ (0 <= k /\ k < (b : Int)) /\ ∃ o, m.cell? (n.add (k.toNat * 2)) = some (.string o) /\ ∃ p q r, m.cell? ((n.add (k.toNat * 2)).add 1) = some (.slice p q r) /\ ∃ s, d = some s /\ (0 <= k /\ k < (e : Int)) /\ ∃ t, m.cell? (s.add (k.toNat * 2)) = some (.string t) /\ ∃ u v x, m.cell? ((s.add (k.toNat * 2)).add 1) = some (.slice u v x) /\ ∃ y z, g = .func (.func y) #[] z.toArray /\ ∃ A, Tryz.prog.funcs[y]? = some A /\ (A.name == "runtime.NumGoroutine" || A.body.isNone) = false /\ CP y ([(.agg #[.string o, .slice p q r]), (.agg #[.string t, .slice u v x])] ++ z).toArray m (fun B C => ∃ D, B = .returned (.bool D) /\ True /\ True /\ (((!D) = true ->
 R (.returned (.bool false)) C) /\
 ((!D) = false ->
 (i (IntKind.i64.wrap (k + 1)) C /\ j (IntKind.i64.wrap (k + 1)) C < j k l))))) /\
 ((decide (k < (b : Int))) = false ->
 R (.returned (.bool true)) l)))))) : CP 134 #[.slice a b c, .slice d e f, g] w R :=
 vcq Tryz.func134 [] [(14, ⟨[(15, .int .i64)],[]⟩)] [.l (.slice a b c), .l (.slice d e f), .l (.val g)] h
theorem q_sameDir (a : BA) (b : OA) (c d : Nat) (e : BA) (f : OA) (g i : Nat) (w : World) (R : EW) (h :
 True /\ (let j := w.alloc (.cells #[.string a, .slice b c d] 195);
 True /\ (let k := j.alloc (.cells #[.string e, .slice f g i] 195);
 ∀ l : Bool -> World -> Prop, (∀ m : Bool, ∀ n : World,
 (R (.returned (.bool m)) n) ->
 l m n) ->
 (((a.toList == e.toList) = true -> CP 143 #[.slice b c d, .slice f g i, (.func (.func 144) #[] #[])] k (fun o p => ∃ q, o = .returned (.bool q) /\ (KeepT 195 k p /\ True) /\ l q p)) /\ ((a.toList == e.toList) = false -> l false k))))) : CP 135 #[(.agg #[.string a, .slice b c d]), (.agg #[.string e, .slice f g i])] w R :=
 vcq Tryz.func135 [2, 3] [(2, ⟨[(4, .bool)],[]⟩)] [.agg [.str a, .slice b c d], .agg [.str e, .slice f g i]] h
theorem q_each_impl_Typ (a : OA) (b c : Nat) (d : OA) (e f : Nat) (g : Value) (w : World) (R : EW) (h :
 ((((b : Int) != (e : Int)) = true ->
 R (.returned (.bool false)) w) /\
 (((b : Int) != (e : Int)) = false ->
 ∃ (i : Int -> World -> Prop) (j : Int -> World -> Nat), i 0 w /\
 (∀ k : Int, ∀ l : World, i k l ->
 (((decide (k < (b : Int))) = true ->
 ∀ m, m = l.drew -> ∃ n, a = some n /\ (0 <= k /\ k < (b : Int)) /\ ∃ o, m.cell? (n.add (k.toNat * 3)) = some (.string o) /\ ∃ p q r, m.cell? ((n.add (k.toNat * 3)).add 1) = some (.slice p q r) /\ ∃ s, m.cell? ((n.add (k.toNat * 3)).add 2) = some (.bool s) /\ ∃ t, d = some t /\ (0 <= k /\ k < (e : Int)) /\ ∃ u, m.cell? (t.add (k.toNat * 3)) = some (.string u) /\ ∃ v x y, m.cell? ((t.add (k.toNat * 3)).add 1) = some (.slice v x y) /\ ∃ z, m.cell? ((t.add (k.toNat * 3)).add 2) = some (.bool z) /\ ∃ A B, g = .func (.func A) #[] B.toArray /\ ∃ C, Tryz.prog.funcs[A]? = some C /\ (C.name == "runtime.NumGoroutine" || C.body.isNone) = false /\ CP A ([(.agg #[.string o, .slice p q r, .bool s]), (.agg #[.string u, .slice v x y, .bool z])] ++ B).toArray m (fun D E => ∃ F, D = .returned (.bool F) /\ True /\ True /\ (((!F) = true ->
 R (.returned (.bool false)) E) /\
 ((!F) = false ->
 (i (IntKind.i64.wrap (k + 1)) E /\ j (IntKind.i64.wrap (k + 1)) E < j k l))))) /\
 ((decide (k < (b : Int))) = false ->
 R (.returned (.bool true)) l)))))) : CP 142 #[.slice a b c, .slice d e f, g] w R :=
 vcq Tryz.func142 [] [(14, ⟨[(15, .int .i64)],[]⟩)] [.l (.slice a b c), .l (.slice d e f), .l (.val g)] h
theorem q_each_impl_Argm (a : OA) (b c : Nat) (d : OA) (e f : Nat) (g : Value) (w : World) (R : EW) (h :
 ((((b : Int) != (e : Int)) = true ->
 R (.returned (.bool false)) w) /\
 (((b : Int) != (e : Int)) = false ->
 ∃ (i : Int -> World -> Prop) (j : Int -> World -> Nat), i 0 w /\
 (∀ k : Int, ∀ l : World, i k l ->
 (((decide (k < (b : Int))) = true ->
 ∀ m, m = l.drew -> ∃ n, a = some n /\ (0 <= k /\ k < (b : Int)) /\ ∃ o, m.cell? (n.add (k.toNat * 4)) = some (.string o) /\ ∃ p, m.cell? ((n.add (k.toNat * 4)).add 1) = some (.int .i64 p) /\ ∃ q, m.cell? ((n.add (k.toNat * 4)).add 2) = some (.string q) /\ ∃ r s t, m.cell? ((n.add (k.toNat * 4)).add 3) = some (.slice r s t) /\ ∃ u, d = some u /\ (0 <= k /\ k < (e : Int)) /\ ∃ v, m.cell? (u.add (k.toNat * 4)) = some (.string v) /\ ∃ x, m.cell? ((u.add (k.toNat * 4)).add 1) = some (.int .i64 x) /\ ∃ y, m.cell? ((u.add (k.toNat * 4)).add 2) = some (.string y) /\ ∃ z A B, m.cell? ((u.add (k.toNat * 4)).add 3) = some (.slice z A B) /\ ∃ C D, g = .func (.func C) #[] D.toArray /\ ∃ E, Tryz.prog.funcs[C]? = some E /\ (E.name == "runtime.NumGoroutine" || E.body.isNone) = false /\ CP C ([(.agg #[.string o, .int .i64 p, .string q, .slice r s t]), (.agg #[.string v, .int .i64 x, .string y, .slice z A B])] ++ D).toArray m (fun F G => ∃ H, F = .returned (.bool H) /\ True /\ True /\ (((!H) = true ->
 R (.returned (.bool false)) G) /\
 ((!H) = false ->
 (i (IntKind.i64.wrap (k + 1)) G /\ j (IntKind.i64.wrap (k + 1)) G < j k l))))) /\
 ((decide (k < (b : Int))) = false ->
 R (.returned (.bool true)) l)))))) : CP 143 #[.slice a b c, .slice d e f, g] w R :=
 vcq Tryz.func143 [] [(14, ⟨[(15, .int .i64)],[]⟩)] [.l (.slice a b c), .l (.slice d e f), .l (.val g)] h
theorem q_sameArg (a : BA) (b : Int) (c : BA) (d : OA) (e f : Nat) (g : BA) (i : Int) (j : BA) (k : OA) (l m : Nat) (w : World) (R : EW) (h :
 True /\ (let n := w.alloc (.cells #[.string a, .int .i64 b, .string c, .slice d e f] 254);
 True /\ (let o := n.alloc (.cells #[.string g, .int .i64 i, .string j, .slice k l m] 254);
 ∀ p : Bool -> World -> Prop, (∀ q : Bool, ∀ r : World,
 (R (.returned (.bool q)) r) ->
 p q r) ->
 (((a.toList == g.toList) = true -> CP 132 #[(.agg #[.int .i64 b, .string c, .slice d e f]), (.agg #[.int .i64 i, .string j, .slice k l m])] o (fun s t => ∃ u, s = .returned (.bool u) /\ (KeepT 254 o t /\ True) /\ p u t)) /\ ((a.toList == g.toList) = false -> p false o))))) : CP 144 #[(.agg #[.string a, .int .i64 b, .string c, .slice d e f]), (.agg #[.string g, .int .i64 i, .string j, .slice k l m])] w R :=
 vcq Tryz.func144 [2, 3] [(2, ⟨[(4, .bool)],[]⟩)] [.agg [.str a, .int .i64 b, .str c, .slice d e f], .agg [.str g, .int .i64 i, .str j, .slice k l m]] h
theorem q_hasField (a : BA) (b : BA) (c : BA) (d : OA) (e f : Nat) (g : OA) (i j : Nat) (k : OA) (l m : Nat) (n : OA) (o p : Nat) (q : OA) (r s : Nat) (t : BA) (u : BA) (v : OA) (x y : Nat) (z : OA) (A B : Nat) (C : BA) (D : OA) (E F : Nat) (G : Bool) (H : OA) (I J : Nat) (w : World) (R : EW) (h :
 True /\ (let K := w.alloc (.cells #[.string a, .string b, .string c, .slice d e f, .slice g i j, .slice k l m, .slice n o p, .slice q r s] 75);
 True /\ (let L := K.alloc (.cells #[.string t, .string u, .slice v x y, .slice z A B, .string C, .slice D E F, .bool G, .slice H I J] 187);
 ∃ (M : Int -> World -> Prop) (N : Int -> World -> Nat), M 0 L /\
 (∀ O : Int, ∀ P : World, M O P ->
 (((decide (O < (l : Int))) = true ->
 ∃ Q, k = some Q /\ (0 <= O /\ O < (l : Int)) /\ ∃ S, P.cell? (Q.add (O.toNat * 8)) = some (.string S) /\ ∃ U, P.cell? ((Q.add (O.toNat * 8)).add 1) = some (.string U) /\ ∃ V W X, P.cell? ((Q.add (O.toNat * 8)).add 2) = some (.slice V W X) /\ ∃ Y Z aa, P.cell? ((Q.add (O.toNat * 8)).add 3) = some (.slice Y Z aa) /\ ∃ ab, P.cell? ((Q.add (O.toNat * 8)).add 4) = some (.string ab) /\ ∃ ac ad ae, P.cell? ((Q.add (O.toNat * 8)).add 5) = some (.slice ac ad ae) /\ ∃ af, P.cell? ((Q.add (O.toNat * 8)).add 6) = some (.bool af) /\ ∃ ag ah ai, P.cell? ((Q.add (O.toNat * 8)).add 7) = some (.slice ag ah ai) /\ True /\ (let aj := P.alloc (.cells #[(.string (⟨#[]⟩ : BA)), (.string (⟨#[]⟩ : BA)), .slice none 0 0, .slice none 0 0, (.string (⟨#[]⟩ : BA)), .slice none 0 0, .bool false, .slice none 0 0] 187);
 True /\ (let ak := P.alloc (.cells #[.string S, .string U, .slice V W X, .slice Y Z aa, .string ab, .slice ac ad ae, .bool af, .slice ag ah ai] 187);
 (((U.toList == u.toList) = true ->
 CP 121 #[(.agg #[.string t, .string u, .slice v x y, .slice z A B, .string C, .slice D E F, .bool G, .slice H I J]), (.agg #[.string S, .string U, .slice V W X, .slice Y Z aa, .string ab, .slice ac ad ae, .bool af, .slice ag ah ai])] ak (fun al am => ∃ an, al = .returned (.bool an) /\ (KeepT 75 ak am /\ KeepT 187 ak am /\ True) /\ R (.returned (.bool an)) am)) /\
 ((U.toList == u.toList) = false ->
 (M (IntKind.i64.wrap (O + 1)) ak /\ N (IntKind.i64.wrap (O + 1)) ak < N O P)))))) /\
 ((decide (O < (l : Int))) = false ->
 R (.returned (.bool false)) P)))))) : CP 111 #[(.agg #[.string a, .string b, .string c, .slice d e f, .slice g i j, .slice k l m, .slice n o p, .slice q r s]), (.agg #[.string t, .string u, .slice v x y, .slice z A B, .string C, .slice D E F, .bool G, .slice H I J])] w R :=
 vcq Tryz.func111 [2, 3, 6] [(6, ⟨[(10, .int .i64)],[]⟩)] [.agg [.str a, .str b, .str c, .slice d e f, .slice g i j, .slice k l m, .slice n o p, .slice q r s], .agg [.str t, .str u, .slice v x y, .slice z A B, .str C, .slice D E F, .bool G, .slice H I J]] h
theorem q_World_keeps (a : OA) (b : BA) (c : BA) (d : BA) (e : OA) (f g : Nat) (i : OA) (j k : Nat) (l : OA) (m n : Nat) (o : OA) (p q : Nat) (r : OA) (s t : Nat) (w : World) (R : EW) (h :
 True /\ (let u := w.alloc (.cells #[.string b, .string c, .string d, .slice e f g, .slice i j k, .slice l m n, .slice o p q, .slice r s t] 75);
 ∃ (v : Int -> World -> Prop) (x : Int -> World -> Nat), v 0 u /\
 (∀ y : Int, ∀ z : World, v y z ->
 (((decide (y < (j : Int))) = true ->
 ∃ A, i = some A /\ (0 <= y /\ y < (j : Int)) /\ ∃ B, z.cell? (A.add (y.toNat * 1)) = some (.string B) /\ CP 70 #[.pointer a, .string B] z (fun C D => ∃ E, ∃ F, ∃ G, ∃ H I J, ∃ K L M, ∃ N O P, ∃ Q S U, ∃ V W X, ∃ Y, C = .returned (.tuple #[(.agg #[.string E, .string F, .string G, .slice H I J, .slice K L M, .slice N O P, .slice Q S U, .slice V W X]), .bool Y]) /\ (KeepT 75 z D /\ True) /\ True /\ (let Z := D.alloc (.cells #[(.string (⟨#[]⟩ : BA)), (.string (⟨#[]⟩ : BA)), (.string (⟨#[]⟩ : BA)), .slice none 0 0, .slice none 0 0, .slice none 0 0, .slice none 0 0, .slice none 0 0] 75);
 True /\ (let aa := D.alloc (.cells #[.string E, .string F, .string G, .slice H I J, .slice K L M, .slice N O P, .slice Q S U, .slice V W X] 75);
 ∃ (ab : Int -> World -> Prop) (ac : Int -> World -> Nat), ab 0 aa /\
 (∀ ad : Int, ∀ ae : World, ab ad ae ->
 (((decide (ad < (L : Int))) = true ->
 ∃ af, K = some af /\ (0 <= ad /\ ad < (L : Int)) /\ ∃ ag, ae.cell? (af.add (ad.toNat * 1)) = some (.string ag) /\ CP 48 #[.string ag, .slice i j k] ae (fun ah ai => ∃ aj, ah = .returned (.bool aj) /\ (KeepT 75 ae ai /\ True) /\ (((!aj) = true ->
 R (.returned (.bool false)) ai) /\
 ((!aj) = false ->
 (ab (IntKind.i64.wrap (ad + 1)) ai /\ ac (IntKind.i64.wrap (ad + 1)) ai < ac ad ae))))) /\
 ((decide (ad < (L : Int))) = false ->
 ∃ (ak : Int -> World -> Prop) (al : Int -> World -> Nat), ak 0 ae /\
 (∀ am : Int, ∀ an : World, ak am an ->
 (((decide (am < (O : Int))) = true ->
 ∃ ao, N = some ao /\ (0 <= am /\ am < (O : Int)) /\ ∃ ap, an.cell? (ao.add (am.toNat * 8)) = some (.string ap) /\ ∃ aq, an.cell? ((ao.add (am.toNat * 8)).add 1) = some (.string aq) /\ ∃ ar au av, an.cell? ((ao.add (am.toNat * 8)).add 2) = some (.slice ar au av) /\ ∃ ax ay az, an.cell? ((ao.add (am.toNat * 8)).add 3) = some (.slice ax ay az) /\ ∃ aA, an.cell? ((ao.add (am.toNat * 8)).add 4) = some (.string aA) /\ ∃ aB aC aD, an.cell? ((ao.add (am.toNat * 8)).add 5) = some (.slice aB aC aD) /\ ∃ aE, an.cell? ((ao.add (am.toNat * 8)).add 6) = some (.bool aE) /\ ∃ aF aG aH, an.cell? ((ao.add (am.toNat * 8)).add 7) = some (.slice aF aG aH) /\ True /\ (let aI := an.alloc (.cells #[(.string (⟨#[]⟩ : BA)), (.string (⟨#[]⟩ : BA)), .slice none 0 0, .slice none 0 0, (.string (⟨#[]⟩ : BA)), .slice none 0 0, .bool false, .slice none 0 0] 187);
 True /\ (let aJ := an.alloc (.cells #[.string ap, .string aq, .slice ar au av, .slice ax ay az, .string aA, .slice aB aC aD, .bool aE, .slice aF aG aH] 187);
 CP 111 #[(.agg #[.string b, .string c, .string d, .slice e f g, .slice i j k, .slice l m n, .slice o p q, .slice r s t]), (.agg #[.string ap, .string aq, .slice ar au av, .slice ax ay az, .string aA, .slice aB aC aD, .bool aE, .slice aF aG aH])] aJ (fun aK aL => ∃ aM, aK = .returned (.bool aM) /\ (KeepT 75 aJ aL /\ KeepT 187 aJ aL /\ True) /\ (((!aM) = true ->
 R (.returned (.bool false)) aL) /\
 ((!aM) = false ->
 (ak (IntKind.i64.wrap (am + 1)) aL /\ al (IntKind.i64.wrap (am + 1)) aL < al am an))))))) /\
 ((decide (am < (O : Int))) = false ->
 (v (IntKind.i64.wrap (y + 1)) an /\ x (IntKind.i64.wrap (y + 1)) an < x y z))))))))))) /\
 ((decide (y < (j : Int))) = false ->
 R (.returned (.bool true)) z))))) : CP 87 #[.pointer a, (.agg #[.string b, .string c, .string d, .slice e f g, .slice i j k, .slice l m n, .slice o p q, .slice r s t])] w R :=
 vcq Tryz.func87 [3, 7, 12] [(6, ⟨[(16, .int .i64)],[]⟩), (23, ⟨[(29, .int .i64)],[]⟩), (45, ⟨[(42, .int .i64)],[]⟩)] [.l (.optr a), .agg [.str b, .str c, .str d, .slice e f g, .slice i j k, .slice l m n, .slice o p q, .slice r s t]] h
theorem q_World_loopless (a : OA) (b : BA) (c : OA) (d e : Nat) (f : Option Nat) (w : World) (R : EW) (h :
 CP 48 #[.string b, .slice c d e] w (fun g i => ∃ j, g = .returned (.bool j) /\ True /\ ((j = true ->
 R (.returned (.bool false)) i) /\
 (j = false ->
 CP 70 #[.pointer a, .string b] i (fun k l => ∃ m, ∃ n, ∃ o, ∃ p q r, ∃ s t u, ∃ v x y, ∃ z A B, ∃ C D E, ∃ F, k = .returned (.tuple #[(.agg #[.string m, .string n, .string o, .slice p q r, .slice s t u, .slice v x y, .slice z A B, .slice C D E]), .bool F]) /\ True /\ True /\ (let G := l.alloc (.cells #[(.string (⟨#[]⟩ : BA)), (.string (⟨#[]⟩ : BA)), (.string (⟨#[]⟩ : BA)), .slice none 0 0, .slice none 0 0, .slice none 0 0, .slice none 0 0, .slice none 0 0] 75);
 True /\ (let H := l.alloc (.cells #[.string m, .string n, .string o, .slice p q r, .slice s t u, .slice v x y, .slice z A B, .slice C D E] 75);
 ∀ I : Bool -> World -> Prop, (∀ J : Bool, ∀ K : World,
 (((J = true ->
 R (.returned (.bool true)) K) /\
 (J = false ->
 ∃ (L : Int -> World -> Prop) (M : Int -> World -> Nat), L 0 K /\
 (∀ N : Int, ∀ O : World, L N O ->
 (((decide (N < (x : Int))) = true ->
 ∃ P, v = some P /\ (0 <= N /\ N < (x : Int)) /\ ∃ Q, O.cell? (P.add (N.toNat * 8)) = some (.string Q) /\ ∃ S, O.cell? ((P.add (N.toNat * 8)).add 1) = some (.string S) /\ ∃ U V W, O.cell? ((P.add (N.toNat * 8)).add 2) = some (.slice U V W) /\ ∃ X Y Z, O.cell? ((P.add (N.toNat * 8)).add 3) = some (.slice X Y Z) /\ ∃ aa, O.cell? ((P.add (N.toNat * 8)).add 4) = some (.string aa) /\ ∃ ab ac ad, O.cell? ((P.add (N.toNat * 8)).add 5) = some (.slice ab ac ad) /\ ∃ ae, O.cell? ((P.add (N.toNat * 8)).add 6) = some (.bool ae) /\ ∃ af ag ah, O.cell? ((P.add (N.toNat * 8)).add 7) = some (.slice af ag ah) /\ True /\ (let ai := O.alloc (.cells #[(.string (⟨#[]⟩ : BA)), (.string (⟨#[]⟩ : BA)), .slice none 0 0, .slice none 0 0, (.string (⟨#[]⟩ : BA)), .slice none 0 0, .bool false, .slice none 0 0] 187);
 True /\ (let aj := O.alloc (.cells #[.string Q, .string S, .slice U V W, .slice X Y Z, .string aa, .slice ab ac ad, .bool ae, .slice af ag ah] 187);
 ∀ ak : Bool -> World -> Prop, (∀ al : Bool, ∀ am : World,
 (((al = true ->
 R (.returned (.bool false)) am) /\
 (al = false ->
 (L (IntKind.i64.wrap (N + 1)) am /\ M (IntKind.i64.wrap (N + 1)) am < M N O)))) ->
 ak al am) ->
 ∀ an, an = aj.drew -> ((ae = true -> ((((ac : Int) == 0) = true -> (((let ao := an.alloc (.cells #[] 9);
 ((1 = 1) /\ True) /\ ((∃ ap aq ar, ∃ au, (Go.builtin .append #[71, 71] 71 #[false, false] #[(.slice (some (adr an.heap.size)) 0 0), .slice c d e]).run Tryz.prog ao = .ok (.value (.slice ap aq ar)) au /\ (KeepT 75 ao au /\ KeepT 187 ao au /\ True) /\ ((1 = 1) /\ True) /\ True /\ (let av := au.alloc (.cells #[.string b] 9);
 ((1 = 1) /\ True) /\ ∃ ax ay az, ∃ aA, (Go.builtin .append #[71, 71] 71 #[false, false] #[.slice ap aq ar, (.slice (some (adr au.heap.size)) 1 1)]).run Tryz.prog av = .ok (.value (.slice ax ay az)) aA /\ (KeepT 75 av aA /\ KeepT 187 av aA /\ True) /\ ((1 = 1) /\ True) /\ CP 88 #[.pointer a, .string aa, .slice ax ay az, .map f] aA (fun aB aC => ∃ aD, aB = .returned (.bool aD) /\ (KeepT 75 aA aC /\ KeepT 187 aA aC /\ True) /\ True /\ ak (!aD) aC))) /\
 (True /\ (let aE := ao.alloc (.cells #[.string b] 9);
 ((1 = 1) /\ True) /\ ∃ aF aG aH, ∃ aI, (Go.builtin .append #[71, 71] 71 #[false, false] #[(.slice (some (adr an.heap.size)) 0 0), .slice c d e]).run Tryz.prog aE = .ok (.value (.slice aF aG aH)) aI /\ (KeepT 75 aE aI /\ KeepT 187 aE aI /\ True) /\ ((1 = 1) /\ True) /\ ∃ aJ aK aL, ∃ aM, (Go.builtin .append #[71, 71] 71 #[false, false] #[.slice aF aG aH, (.slice (some (adr ao.heap.size)) 1 1)]).run Tryz.prog aI = .ok (.value (.slice aJ aK aL)) aM /\ (KeepT 75 aI aM /\ KeepT 187 aI aM /\ True) /\ ((1 = 1) /\ True) /\ CP 88 #[.pointer a, .string aa, .slice aJ aK aL, .map f] aM (fun aN aO => ∃ aP, aN = .returned (.bool aP) /\ (KeepT 75 aM aO /\ KeepT 187 aM aO /\ True) /\ True /\ ak (!aP) aO)))))) /\
 (True /\ (let aQ := an.alloc (.cells #[.string b] 9);
 ((1 = 1) /\ True) /\ (let aS := aQ.alloc (.cells #[] 9);
 ((1 = 1) /\ True) /\ ∃ aU aV aW, ∃ aX, (Go.builtin .append #[71, 71] 71 #[false, false] #[(.slice (some (adr aQ.heap.size)) 0 0), .slice c d e]).run Tryz.prog aS = .ok (.value (.slice aU aV aW)) aX /\ (KeepT 75 aS aX /\ KeepT 187 aS aX /\ True) /\ ((1 = 1) /\ True) /\ ∃ aY aZ ba, ∃ bb, (Go.builtin .append #[71, 71] 71 #[false, false] #[.slice aU aV aW, (.slice (some (adr an.heap.size)) 1 1)]).run Tryz.prog aX = .ok (.value (.slice aY aZ ba)) bb /\ (KeepT 75 aX bb /\ KeepT 187 aX bb /\ True) /\ ((1 = 1) /\ True) /\ CP 88 #[.pointer a, .string aa, .slice aY aZ ba, .map f] bb (fun bc bd => ∃ be, bc = .returned (.bool be) /\ (KeepT 75 bb bd /\ KeepT 187 bb bd /\ True) /\ True /\ ak (!be) bd)))))) /\ (((ac : Int) == 0) = false -> ak false an))) /\ (ae = false -> ak false an))))) /\
 ((decide (N < (x : Int))) = false ->
 ∃ bf, (Instr.mapUpdate 165 (.map f) (.string b) (.bool true)).run Tryz.prog O = .ok () bf /\ (KeepT 75 O bf /\ True) /\ R (.returned (.bool true)) bf)))))) ->
 I J K) ->
 (((!(m.toList == (⟨#[73,78,80,85,84,95,79,66,74,69,67,84]⟩ : BA).toList)) = false -> ∃ bg, (Instr.lookup 165 (.map f) (.string b) false).run Tryz.prog H = .ok (.bool bg) H /\ I bg H) /\ ((!(m.toList == (⟨#[73,78,80,85,84,95,79,66,74,69,67,84]⟩ : BA).toList)) = true -> I true H))))))))) : CP 88 #[.pointer a, .string b, .slice c d e, .map f] w R :=
 vcq Tryz.func88 [9, 12] [(13, ⟨[(29, .bool)],[]⟩), (24, ⟨[(33, .int .i64)],[]⟩), (35, ⟨[(61, .bool)],[]⟩)] [.l (.optr a), .l (.str b), .l (.slice c d e), .l (.map f)] h
theorem q_World_noLoop (a : OA) (b : BA) (c : OA) (d e : Nat) (w : World) (R : EW) (h :
 let f := w.alloc (.map #[] 0);
 CP 88 #[.pointer a, .string b, .slice c d e, (.map (some w.heap.size))] f (fun g i => ∃ j, g = .returned (.bool j) /\ True /\ R (.returned (.bool j)) i)) : CP 47 #[.pointer a, .string b, .slice c d e] w R :=
 vcq Tryz.func47 [] [] [.l (.optr a), .l (.str b), .l (.slice c d e)] h
theorem q_World_simple (a : OA) (b : BA) (c : BA) (d : BA) (e : OA) (f g : Nat) (i : OA) (j k : Nat) (l : OA) (m n : Nat) (o : OA) (p q : Nat) (r : OA) (s t : Nat) (u : Bool) (w : World) (R : EW) (h :
 True /\ (let v := w.alloc (.cells #[.string b, .string c, .string d, .slice e f g, .slice i j k, .slice l m n, .slice o p q, .slice r s t] 75);
 ∃ (x : OA -> Nat -> Nat -> Int -> World -> Prop) (y : OA -> Nat -> Nat -> Int -> World -> Nat), x none 0 0 0 v /\
 (∀ (z : OA) (A B : Nat), ∀ C : Int, ∀ D : World, x z A B C D ->
 (((decide (C < (m : Int))) = true ->
 ∃ E, l = some E /\ (0 <= C /\ C < (m : Int)) /\ ∃ F, D.cell? (E.add (C.toNat * 8)) = some (.string F) /\ ∃ G, D.cell? ((E.add (C.toNat * 8)).add 1) = some (.string G) /\ ∃ H I J, D.cell? ((E.add (C.toNat * 8)).add 2) = some (.slice H I J) /\ ∃ K L M, D.cell? ((E.add (C.toNat * 8)).add 3) = some (.slice K L M) /\ ∃ N, D.cell? ((E.add (C.toNat * 8)).add 4) = some (.string N) /\ ∃ O P Q, D.cell? ((E.add (C.toNat * 8)).add 5) = some (.slice O P Q) /\ ∃ S, D.cell? ((E.add (C.toNat * 8)).add 6) = some (.bool S) /\ ∃ U V W, D.cell? ((E.add (C.toNat * 8)).add 7) = some (.slice U V W) /\ True /\ (let X := D.alloc (.cells #[(.string (⟨#[]⟩ : BA)), (.string (⟨#[]⟩ : BA)), .slice none 0 0, .slice none 0 0, (.string (⟨#[]⟩ : BA)), .slice none 0 0, .bool false, .slice none 0 0] 187);
 True /\ (let Y := D.alloc (.cells #[.string F, .string G, .slice H I J, .slice K L M, .string N, .slice O P Q, .bool S, .slice U V W] 187);
 True /\ (let Z := Y.alloc (.cells #[.string G] 9);
 ∃ aa ab ac, ∃ ad, (Go.builtin .append #[71, 71] 71 #[false, false] #[.slice z A B, (.slice (some (adr Y.heap.size)) 1 1)]).run Tryz.prog Z = .ok (.value (.slice aa ab ac)) ad /\ (KeepT 75 Z ad /\ KeepT 187 Z ad /\ True) /\ ∀ ae : Bool -> World -> Prop, (∀ af : Bool, ∀ ag : World,
 (((af = true ->
 R (.returned (.bool false)) ag) /\
 (af = false ->
 CP 84 #[.pointer a, (.agg #[.string N, .slice O P Q, .bool S])] ag (fun ah ai => ∃ aj, ah = .returned (.string aj) /\ (KeepT 75 ag ai /\ KeepT 187 ag ai /\ True) /\ ∀ ak : Bool -> World -> Prop, (∀ al : Bool, ∀ am : World,
 (((al = true ->
 R (.returned (.bool false)) am) /\
 (al = false ->
 (x aa ab ac (IntKind.i64.wrap (C + 1)) am /\ y aa ab ac (IntKind.i64.wrap (C + 1)) am < y z A B C D)))) ->
 ak al am) ->
 (((b.toList == (⟨#[73,78,80,85,84,95,79,66,74,69,67,84]⟩ : BA).toList) = true -> CP 85 #[.string aj] ai (fun an ao => ∃ ap, an = .returned (.bool ap) /\ (KeepT 75 ai ao /\ KeepT 187 ai ao /\ True) /\ (((!ap) = false -> (((!(b.toList == (⟨#[73,78,80,85,84,95,79,66,74,69,67,84]⟩ : BA).toList)) = true -> CP 86 #[.string aj] ao (fun aq ar => ∃ au, aq = .returned (.bool au) /\ (KeepT 75 ao ar /\ KeepT 187 ao ar /\ True) /\ ak (!au) ar)) /\ ((!(b.toList == (⟨#[73,78,80,85,84,95,79,66,74,69,67,84]⟩ : BA).toList)) = false -> ak false ao))) /\ ((!ap) = true -> ak true ao)))) /\ ((b.toList == (⟨#[73,78,80,85,84,95,79,66,74,69,67,84]⟩ : BA).toList) = false -> (((!(b.toList == (⟨#[73,78,80,85,84,95,79,66,74,69,67,84]⟩ : BA).toList)) = true -> CP 86 #[.string aj] ai (fun av ax => ∃ ay, av = .returned (.bool ay) /\ (KeepT 75 ai ax /\ KeepT 187 ai ax /\ True) /\ ak (!ay) ax)) /\ ((!(b.toList == (⟨#[73,78,80,85,84,95,79,66,74,69,67,84]⟩ : BA).toList)) = false -> ak false ai)))))))) ->
 ae af ag) ->
 (((decide ((IntKind.i64.wrap ((V : Int) + (L : Int))) > 0)) = false -> (((!(F.toList == (⟨#[]⟩ : BA).toList)) = false -> CP 50 #[.pointer a, .slice H I J] ad (fun az aA => ∃ aB, az = .returned (.bool aB) /\ (KeepT 75 ad aA /\ KeepT 187 ad aA /\ True) /\ ae (!aB) aA)) /\ ((!(F.toList == (⟨#[]⟩ : BA).toList)) = true -> ae true ad))) /\ ((decide ((IntKind.i64.wrap ((V : Int) + (L : Int))) > 0)) = true -> ae true ad)))))) /\
 ((decide (C < (m : Int))) = false ->
 ∃ (aC : OA -> Nat -> Nat -> Int -> World -> Prop) (aD : OA -> Nat -> Nat -> Int -> World -> Nat), aC z A B 0 D /\
 (∀ (aE : OA) (aF aG : Nat), ∀ aH : Int, ∀ aI : World, aC aE aF aG aH aI ->
 (((decide (aH < (s : Int))) = true ->
 ∃ aJ, r = some aJ /\ (0 <= aH /\ aH < (s : Int)) /\ ∃ aK, aI.cell? (aJ.add (aH.toNat * 3)) = some (.string aK) /\ ∃ aL, aI.cell? ((aJ.add (aH.toNat * 3)).add 1) = some (.string aL) /\ ∃ aM aN aO, aI.cell? ((aJ.add (aH.toNat * 3)).add 2) = some (.slice aM aN aO) /\ True /\ (let aP := aI.alloc (.cells #[(.string (⟨#[]⟩ : BA)), (.string (⟨#[]⟩ : BA)), .slice none 0 0] 189);
 True /\ (let aQ := aI.alloc (.cells #[.string aK, .string aL, .slice aM aN aO] 189);
 True /\ (let aS := aQ.alloc (.cells #[.string aL] 9);
 ∃ aU aV aW, ∃ aX, (Go.builtin .append #[71, 71] 71 #[false, false] #[.slice aE aF aG, (.slice (some (adr aQ.heap.size)) 1 1)]).run Tryz.prog aS = .ok (.value (.slice aU aV aW)) aX /\ (KeepT 75 aS aX /\ KeepT 189 aS aX /\ True) /\ ∀ aY : Bool -> World -> Prop, (∀ aZ : Bool, ∀ ba : World,
 (((aZ = true ->
 R (.returned (.bool false)) ba) /\
 (aZ = false ->
 (aC aU aV aW (IntKind.i64.wrap (aH + 1)) ba /\ aD aU aV aW (IntKind.i64.wrap (aH + 1)) ba < aD aE aF aG aH aI)))) ->
 aY aZ ba) ->
 (((decide ((aN : Int) > 0)) = false -> aY (!(aK.toList == (⟨#[]⟩ : BA).toList)) aX) /\ ((decide ((aN : Int) > 0)) = true -> aY true aX)))))) /\
 ((decide (aH < (s : Int))) = false ->
 ∃ (bb : Int -> World -> Prop) (bc : Int -> World -> Nat), bb 0 aI /\
 (∀ bd : Int, ∀ be : World, bb bd be ->
 (((decide (bd < (p : Int))) = true ->
 ∃ bf, o = some bf /\ (0 <= bd /\ bd < (p : Int)) /\ ∃ bg, be.cell? (bf.add (bd.toNat * 1)) = some (.string bg) /\ CP 70 #[.pointer a, .string bg] be (fun bh bi => ∃ bj, ∃ bk, ∃ bl, ∃ bm bn bo, ∃ bp bq br, ∃ bs bt bu, ∃ bv bx bz, ∃ bA bB bC, ∃ bD, bh = .returned (.tuple #[(.agg #[.string bj, .string bk, .string bl, .slice bm bn bo, .slice bp bq br, .slice bs bt bu, .slice bv bx bz, .slice bA bB bC]), .bool bD]) /\ (KeepT 75 be bi /\ True) /\ True /\ (let bE := bi.alloc (.cells #[(.string (⟨#[]⟩ : BA)), (.string (⟨#[]⟩ : BA)), (.string (⟨#[]⟩ : BA)), .slice none 0 0, .slice none 0 0, .slice none 0 0, .slice none 0 0, .slice none 0 0] 75);
 True /\ (let bF := bi.alloc (.cells #[.string bj, .string bk, .string bl, .slice bm bn bo, .slice bp bq br, .slice bs bt bu, .slice bv bx bz, .slice bA bB bC] 75);
 (((!(bj.toList == (⟨#[79,66,74,69,67,84]⟩ : BA).toList)) = true ->
 R (.returned (.bool false)) bF) /\
 ((!(bj.toList == (⟨#[79,66,74,69,67,84]⟩ : BA).toList)) = false ->
 (bb (IntKind.i64.wrap (bd + 1)) bF /\ bc (IntKind.i64.wrap (bd + 1)) bF < bc bd be))))))) /\
 ((decide (bd < (p : Int))) = false ->
 ∃ (bG : Int -> World -> Prop) (bH : Int -> World -> Nat), bG 0 be /\
 (∀ bI : Int, ∀ bJ : World, bG bI bJ ->
 (((decide (bI < (j : Int))) = true ->
 ∃ bK, i = some bK /\ (0 <= bI /\ bI < (j : Int)) /\ ∃ bL, bJ.cell? (bK.add (bI.toNat * 1)) = some (.string bL) /\ CP 70 #[.pointer a, .string bL] bJ (fun bM bN => ∃ bO, ∃ bP, ∃ bQ, ∃ bS bU bV, ∃ bW bX bY, ∃ bZ ca cb, ∃ cc cd ce, ∃ cf cg ch, ∃ ci, bM = .returned (.tuple #[(.agg #[.string bO, .string bP, .string bQ, .slice bS bU bV, .slice bW bX bY, .slice bZ ca cb, .slice cc cd ce, .slice cf cg ch]), .bool ci]) /\ (KeepT 75 bJ bN /\ True) /\ True /\ (let cj := bN.alloc (.cells #[(.string (⟨#[]⟩ : BA)), (.string (⟨#[]⟩ : BA)), (.string (⟨#[]⟩ : BA)), .slice none 0 0, .slice none 0 0, .slice none 0 0, .slice none 0 0, .slice none 0 0] 75);
 True /\ (let ck := bN.alloc (.cells #[.string bO, .string bP, .string bQ, .slice bS bU bV, .slice bW bX bY, .slice bZ ca cb, .slice cc cd ce, .slice cf cg ch] 75);
 ∀ cl : Bool -> World -> Prop, (∀ cm : Bool, ∀ cn : World,
 (((cm = true ->
 R (.returned (.bool false)) cn) /\
 (cm = false ->
 (bG (IntKind.i64.wrap (bI + 1)) cn /\ bH (IntKind.i64.wrap (bI + 1)) cn < bH bI bJ)))) ->
 cl cm cn) ->
 (((!(bO.toList == (⟨#[73,78,84,69,82,70,65,67,69]⟩ : BA).toList)) = false -> cl (bL.toList == d.toList) ck) /\ ((!(bO.toList == (⟨#[73,78,84,69,82,70,65,67,69]⟩ : BA).toList)) = true -> cl true ck)))))) /\
 ((decide (bI < (j : Int))) = false ->
 ∀ co : Bool -> World -> Prop, (∀ cp : Bool, ∀ cq : World,
 (R (.returned (.bool cp)) cq) ->
 co cp cq) ->
 CP 52 #[.slice aE aF aG] bJ (fun cr ct => ∃ cu, cr = .returned (.bool cu) /\ (KeepT 75 bJ ct /\ True) /\ ((cu = true -> CP 52 #[.slice o p q] ct (fun cv cx => ∃ cy, cv = .returned (.bool cy) /\ (KeepT 75 ct cx /\ True) /\ ((cy = true -> CP 52 #[.slice i j k] cx (fun cz cA => ∃ cB, cz = .returned (.bool cB) /\ (KeepT 75 cx cA /\ True) /\ ((cB = true -> ((((f : Int) == 0) = true -> (((c.toList == (⟨#[]⟩ : BA).toList) = true -> ((u = false -> CP 87 #[.pointer a, (.agg #[.string b, .string c, .string d, .slice e f g, .slice i j k, .slice l m n, .slice o p q, .slice r s t])] cA (fun cC cD => ∃ cE, cC = .returned (.bool cE) /\ (KeepT 75 cA cD /\ True) /\ co cE cD)) /\ (u = true -> co true cA))) /\ ((c.toList == (⟨#[]⟩ : BA).toList) = false -> co false cA))) /\ (((f : Int) == 0) = false -> co false cA))) /\ (cB = false -> co false cA)))) /\ (cy = false -> co false cx)))) /\ (cu = false -> co false ct))))))))))))))))) : CP 46 #[.pointer a, (.agg #[.string b, .string c, .string d, .slice e f g, .slice i j k, .slice l m n, .slice o p q, .slice r s t]), .bool u] w R :=
 vcq Tryz.func46 [4, 9, 12, 15, 19] [(8, ⟨[(7, .slice), (24, .int .i64)],[]⟩), (22, ⟨[(52, .bool)],[]⟩), (31, ⟨[(74, .bool)],[]⟩), (43, ⟨[(7, .slice), (79, .int .i64)],[]⟩), (56, ⟨[(96, .bool)],[]⟩), (68, ⟨[(101, .int .i64)],[]⟩), (93, ⟨[(118, .int .i64)],[]⟩), (106, ⟨[(136, .bool)],[]⟩), (114, ⟨[(6, .bool)],[]⟩)] [.l (.optr a), .agg [.str b, .str c, .str d, .slice e f g, .slice i j k, .slice l m n, .slice o p q, .slice r s t], .l (.bool u)] h
theorem q_World_rooted (a : OA) (b : OA) (c d : Nat) (e : OA) (f g : Nat) (i : OA) (j k : Nat) (l : OA) (m n : Nat) (o : OA) (p q : Nat) (w : World) (R : EW) (h :
 True /\ (let r := w.alloc (.cells #[.slice b c d, .slice e f g, .slice i j k, .slice l m n, .slice o p q] 26);
 ∀ s : World -> Prop, (∀ t : World,
 (∃ u, a = some u /\ ∃ v x y, t.cell? (u.add 1) = some (.slice v x y) /\ ∃ (z : OA -> Nat -> Nat -> OA -> Nat -> Nat -> Int -> World -> Prop) (A : OA -> Nat -> Nat -> OA -> Nat -> Nat -> Int -> World -> Nat), z none 0 0 none 0 0 0 t /\
 (∀ (B : OA) (C D : Nat), ∀ (E : OA) (F G : Nat), ∀ H : Int, ∀ I : World, z B C D E F G H I ->
 (((decide (H < (x : Int))) = true ->
 ∀ J : OA -> Nat -> Nat -> OA -> Nat -> Nat -> World -> Prop, (∀ (K : OA) (L M : Nat), ∀ (N : OA) (O P : Nat), ∀ Q : World,
 ((z K L M N O P (IntKind.i64.wrap (H + 1)) Q /\ A K L M N O P (IntKind.i64.wrap (H + 1)) Q < A B C D E F G H I)) ->
 J K L M N O P Q) ->
 ∃ S, v = some S /\ (0 <= H /\ H < (x : Int)) /\ ∃ U, I.cell? (S.add (H.toNat * 2)) = some (.string U) /\ ∃ V, I.cell? ((S.add (H.toNat * 2)).add 1) = some (.string V) /\ True /\ (let W := I.alloc (.cells #[(.string (⟨#[]⟩ : BA)), (.string (⟨#[]⟩ : BA))] 146);
 True /\ (let X := I.alloc (.cells #[.string U, .string V] 146);
 CP 70 #[.pointer a, .string V] X (fun Y Z => ∃ aa, ∃ ab, ∃ ac, ∃ ad ae af, ∃ ag ah ai, ∃ aj ak al, ∃ am an ao, ∃ ap aq ar, ∃ au, Y = .returned (.tuple #[(.agg #[.string aa, .string ab, .string ac, .slice ad ae af, .slice ag ah ai, .slice aj ak al, .slice am an ao, .slice ap aq ar]), .bool au]) /\ (KeepT 26 X Z /\ KeepT 146 X Z /\ True) /\ True /\ (let av := Z.alloc (.cells #[(.string (⟨#[]⟩ : BA)), (.string (⟨#[]⟩ : BA)), (.string (⟨#[]⟩ : BA)), .slice none 0 0, .slice none 0 0, .slice none 0 0, .slice none 0 0, .slice none 0 0] 75);
 True /\ (let ax := Z.alloc (.cells #[.string aa, .string ab, .string ac, .slice ad ae af, .slice ag ah ai, .slice aj ak al, .slice am an ao, .slice ap aq ar] 75);
 (((!(aa.toList == (⟨#[79,66,74,69,67,84]⟩ : BA).toList)) = true ->
 R (.returned (.bool false)) ax) /\
 ((!(aa.toList == (⟨#[79,66,74,69,67,84]⟩ : BA).toList)) = false ->
 ∀ ay, ay = ax.drew -> ((True /\ (let az := ay.alloc (.cells #[.string U] 9);
 ((1 = 1) /\ True) /\ ((∃ aA aB aC, ∃ aD, (Go.builtin .append #[71, 71] 71 #[false, false] #[.slice B C D, (.slice (some (adr ay.heap.size)) 1 1)]).run Tryz.prog az = .ok (.value (.slice aA aB aC)) aD /\ (KeepT 26 az aD /\ KeepT 146 az aD /\ KeepT 75 az aD /\ True) /\ ((1 = 1) /\ True) /\ True /\ (let aE := aD.alloc (.cells #[.string V] 9);
 True /\ ∃ aF aG aH, ∃ aI, (Go.builtin .append #[71, 71] 71 #[false, false] #[.slice E F G, (.slice (some (adr aD.heap.size)) 1 1)]).run Tryz.prog aE = .ok (.value (.slice aF aG aH)) aI /\ (KeepT 26 aE aI /\ KeepT 146 aE aI /\ KeepT 75 aE aI /\ True) /\ True /\ True /\ True /\ J aA aB aC aF aG aH aI)) /\
 (True /\ (let aJ := az.alloc (.cells #[.string V] 9);
 True /\ ∃ aK aL aM, ∃ aN, (Go.builtin .append #[71, 71] 71 #[false, false] #[.slice B C D, (.slice (some (adr ay.heap.size)) 1 1)]).run Tryz.prog aJ = .ok (.value (.slice aK aL aM)) aN /\ (KeepT 26 aJ aN /\ KeepT 146 aJ aN /\ KeepT 75 aJ aN /\ True) /\ True /\ ∃ aO aP aQ, ∃ aS, (Go.builtin .append #[71, 71] 71 #[false, false] #[.slice E F G, (.slice (some (adr az.heap.size)) 1 1)]).run Tryz.prog aN = .ok (.value (.slice aO aP aQ)) aS /\ (KeepT 26 aN aS /\ KeepT 146 aN aS /\ KeepT 75 aN aS /\ True) /\ True /\ True /\ True /\ J aK aL aM aO aP aQ aS))))) /\
 (True /\ (let aU := ay.alloc (.cells #[.string V] 9);
 ((1 = 1) /\ True) /\ True /\ (let aV := aU.alloc (.cells #[.string U] 9);
 True /\ ∃ aW aX aY, ∃ aZ, (Go.builtin .append #[71, 71] 71 #[false, false] #[.slice B C D, (.slice (some (adr aU.heap.size)) 1 1)]).run Tryz.prog aV = .ok (.value (.slice aW aX aY)) aZ /\ (KeepT 26 aV aZ /\ KeepT 146 aV aZ /\ KeepT 75 aV aZ /\ True) /\ True /\ ∃ ba bb bc, ∃ bd, (Go.builtin .append #[71, 71] 71 #[false, false] #[.slice E F G, (.slice (some (adr ay.heap.size)) 1 1)]).run Tryz.prog aZ = .ok (.value (.slice ba bb bc)) bd /\ (KeepT 26 aZ bd /\ KeepT 146 aZ bd /\ KeepT 75 aZ bd /\ True) /\ True /\ True /\ True /\ J aW aX aY ba bb bc bd)))))))))))) /\
 ((decide (H < (x : Int))) = false ->
 ∀ be : Bool -> World -> Prop, (∀ bf : Bool, ∀ bg : World,
 (R (.returned (.bool bf)) bg) ->
 be bf bg) ->
 CP 51 #[.slice B C D] I (fun bh bi => ∃ bj, bh = .returned (.bool bj) /\ (KeepT 26 I bi /\ True) /\ ((bj = true -> CP 51 #[.slice E F G] bi (fun bk bl => ∃ bm, bk = .returned (.bool bm) /\ (KeepT 26 bi bl /\ True) /\ ((bm = true -> CP 48 #[(.string (⟨#[113,117,101,114,121]⟩ : BA)), .slice B C D] bl (fun bn bo => ∃ bp, bn = .returned (.bool bp) /\ (KeepT 26 bl bo /\ True) /\ be bp bo)) /\ (bm = false -> be false bl)))) /\ (bj = false -> be false bi))))))) ->
 s t) ->
 ((((c : Int) == 1) = true ->
 ∀ bq : Bool -> World -> Prop, (∀ br : Bool, ∀ bs : World,
 (((br = true ->
 R (.returned (.bool false)) bs) /\
 (br = false ->
 ∃ bt, b = some bt /\ (0 <= (0 : Int) /\ 0 < (c : Int)) /\ ∃ bu bv bx, bs.cell? ((bt.add ((0 : Int).toNat * 3)).add 2) = some (.slice bu bv bx) /\ ∃ bz, a = some bz /\ Off bs (bz.add 1) 1 [26] /\ True /\ (let bA := (bs.setCell (bz.add 1) (.slice bu bv bx));
 s bA)))) ->
 bq br bs) ->
 ∃ bB, b = some bB /\ (0 <= (0 : Int) /\ 0 < (c : Int)) /\ ∃ bC, r.cell? (bB.add ((0 : Int).toNat * 3)) = some (.string bC) /\ (((!(bC.toList == (⟨#[]⟩ : BA).toList)) = false -> ∃ bD, b = some bD /\ (0 <= (0 : Int) /\ 0 < (c : Int)) /\ ∃ bE bF bG, r.cell? ((bD.add ((0 : Int).toNat * 3)).add 1) = some (.slice bE bF bG) /\ bq (decide ((bF : Int) > 0)) r) /\ ((!(bC.toList == (⟨#[]⟩ : BA).toList)) = true -> bq true r))) /\
 (((c : Int) == 1) = false ->
 True /\ True /\ True /\ True /\ (let bH := r.alloc (.cells #[(.string (⟨#[113,117,101,114,121]⟩ : BA)), (.string (⟨#[81,117,101,114,121]⟩ : BA)), (.string (⟨#[109,117,116,97,116,105,111,110]⟩ : BA)), (.string (⟨#[77,117,116,97,116,105,111,110]⟩ : BA)), (.string (⟨#[115,117,98,115,99,114,105,112,116,105,111,110]⟩ : BA)), (.string (⟨#[83,117,98,115,99,114,105,112,116,105,111,110]⟩ : BA))] 146);
 ∃ (bI : Int -> World -> Prop) (bJ : Int -> World -> Nat), bI 0 bH /\
 (∀ bK : Int, ∀ bL : World, bI bK bL ->
 (((decide (bK < 3)) = true ->
 ∀ bM : World -> Prop, (∀ bN : World,
 ((bI (IntKind.i64.wrap (bK + 1)) bN /\ bJ (IntKind.i64.wrap (bK + 1)) bN < bJ bK bL)) ->
 bM bN) ->
 ∃ bO, (some (adr r.heap.size)) = some bO /\ (0 <= bK /\ bK < 3) /\ ∃ bP, bL.cell? (bO.add (bK.toNat * 2)) = some (.string bP) /\ ∃ bQ, bL.cell? ((bO.add (bK.toNat * 2)).add 1) = some (.string bQ) /\ True /\ (let bS := bL.alloc (.cells #[(.string (⟨#[]⟩ : BA)), (.string (⟨#[]⟩ : BA))] 146);
 Off bS (adr bL.heap.size) 2 [26] /\ True /\ (let bU := ((bS.setCell (adr bL.heap.size) (.string bP)).setCell ((adr bL.heap.size).add 1) (.string bQ));
 ∃ bV, bU.cell? ((adr bL.heap.size).add 1) = some (.string bV) /\ CP 70 #[.pointer a, .string bV] bU (fun bW bX => ∃ bY, ∃ bZ, ∃ ca, ∃ cb cc cd, ∃ ce cf cg, ∃ ch ci cj, ∃ ck cl cm, ∃ cn co cp, ∃ cq, bW = .returned (.tuple #[(.agg #[.string bY, .string bZ, .string ca, .slice cb cc cd, .slice ce cf cg, .slice ch ci cj, .slice ck cl cm, .slice cn co cp]), .bool cq]) /\ (KeepT 26 bU bX /\ True) /\ True /\ (let cr := bX.alloc (.cells #[(.string (⟨#[]⟩ : BA)), (.string (⟨#[]⟩ : BA)), (.string (⟨#[]⟩ : BA)), .slice none 0 0, .slice none 0 0, .slice none 0 0, .slice none 0 0, .slice none 0 0] 75);
 True /\ (let ct := bX.alloc (.cells #[.string bY, .string bZ, .string ca, .slice cb cc cd, .slice ce cf cg, .slice ch ci cj, .slice ck cl cm, .slice cn co cp] 75);
 ((cq = true ->
 ∀ cu, cu = ct.drew -> ∃ cv, a = some cv /\ ∃ cx cy cz, cu.cell? (cv.add 1) = some (.slice cx cy cz) /\ ∃ cA, cu.cell? (adr bL.heap.size) = some (.string cA) /\ ∃ cB, cu.cell? ((adr bL.heap.size).add 1) = some (.string cB) /\ True /\ (let cC := cu.alloc (.cells #[.string cA, .string cB] 146);
 ((cC.cell? (cv.add 1) = cu.cell? (cv.add 1)) /\ True) /\ ∃ cD cE cF, ∃ cG, (Go.builtin .append #[67, 67] 67 #[false, false] #[.slice cx cy cz, (.slice (some (adr cu.heap.size)) 1 1)]).run Tryz.prog cC = .ok (.value (.slice cD cE cF)) cG /\ (KeepT 26 cC cG /\ KeepT 75 cC cG /\ True) /\ True /\ ∃ cH, a = some cH /\ Off cG (cH.add 1) 1 [26,75] /\ True /\ (let cI := (cG.setCell (cH.add 1) (.slice cD cE cF));
 True /\ bM cI))) /\
 (cq = false ->
 bM ct)))))))) /\
 ((decide (bK < 3)) = false ->
 s bL)))))))) : CP 53 #[.pointer a, (.agg #[.slice b c d, .slice e f g, .slice i j k, .slice l m n, .slice o p q])] w R :=
 vcq Tryz.func53 [3, 7, 12, 13] [(2, ⟨[],[]⟩), (7, ⟨[(33, .bool)],[]⟩), (18, ⟨[(47, .int .i64)],[]⟩), (25, ⟨[],[]⟩), (43, ⟨[(9, .slice), (10, .slice), (75, .int .i64)],[]⟩), (50, ⟨[(9, .slice), (10, .slice)],[]⟩), (66, ⟨[(4, .bool)],[]⟩)] [.l (.optr a), .agg [.slice b c d, .slice e f g, .slice i j k, .slice l m n, .slice o p q]] h
theorem q_FitsSchema (a : OA) (b c : Nat) (d : OA) (e f : Nat) (g : OA) (i j : Nat) (k : OA) (l m : Nat) (n : OA) (o p : Nat) (q : Int) (w : World) (R : EW) (h :
 True /\ (let r := w.alloc (.cells #[.slice a b c, .slice d e f, .slice g i j, .slice k l m, .slice n o p] 26);
 ∀ s, s = r.drew -> (let t := s.alloc (.cells #[] 181);
 ((0 = 0) /\ (0 = 0) /\ True) /\ ∃ u v x, ∃ y, (Go.builtin .append #[22, 22] 22 #[false, false] #[(.slice (some (adr s.heap.size)) 0 0), .slice a b c]).run Tryz.prog t = .ok (.value (.slice u v x)) y /\ (KeepT 26 t y /\ True) /\ ((0 = 0) /\ True) /\ ∃ z A B, ∃ C, (Go.builtin .append #[22, 22] 22 #[false, false] #[.slice u v x, .slice d e f]).run Tryz.prog y = .ok (.value (.slice z A B)) C /\ (KeepT 26 y C /\ True) /\ True /\ ∃ (D : Int -> World -> Prop) (E : Int -> World -> Nat), D 0 C /\
 (∀ F : Int, ∀ G : World, D F G ->
 (((decide (F < (A : Int))) = true ->
 ∃ H, z = some H /\ (0 <= F /\ F < (A : Int)) /\ ∃ I, G.cell? (H.add (F.toNat * 3)) = some (.string I) /\ ∃ J K L, G.cell? ((H.add (F.toNat * 3)).add 1) = some (.slice J K L) /\ ∃ M N O, G.cell? ((H.add (F.toNat * 3)).add 2) = some (.slice M N O) /\ True /\ (let P := G.alloc (.cells #[(.string (⟨#[]⟩ : BA)), .slice none 0 0, .slice none 0 0] 181);
 True /\ (let Q := G.alloc (.cells #[.string I, .slice J K L, .slice M N O] 181);
 CP 78 #[(.agg #[.string I, .slice J K L, .slice M N O]), .int .i64 q] Q (fun S U => ∃ V, S = .returned (.bool V) /\ (KeepT 26 Q U /\ KeepT 181 Q U /\ True) /\ (((!V) = true ->
 R (.returned (.bool false)) U) /\
 ((!V) = false ->
 (D (IntKind.i64.wrap (F + 1)) U /\ E (IntKind.i64.wrap (F + 1)) U < E F G))))))) /\
 ((decide (F < (A : Int))) = false ->
 ∃ (W : Int -> World -> Prop) (X : Int -> World -> Nat), W 0 G /\
 (∀ Y : Int, ∀ Z : World, W Y Z ->
 (((decide (Y < (e : Int))) = true ->
 ∃ aa, d = some aa /\ (0 <= Y /\ Y < (e : Int)) /\ ∃ ab, Z.cell? (aa.add (Y.toNat * 3)) = some (.string ab) /\ ∃ ac ad ae, Z.cell? ((aa.add (Y.toNat * 3)).add 1) = some (.slice ac ad ae) /\ ∃ af ag ah, Z.cell? ((aa.add (Y.toNat * 3)).add 2) = some (.slice af ag ah) /\ True /\ (let ai := Z.alloc (.cells #[(.string (⟨#[]⟩ : BA)), .slice none 0 0, .slice none 0 0] 181);
 True /\ (let aj := Z.alloc (.cells #[.string ab, .slice ac ad ae, .slice af ag ah] 181);
 (((!(ab.toList == (⟨#[]⟩ : BA).toList)) = true ->
 R (.returned (.bool false)) aj) /\
 ((!(ab.toList == (⟨#[]⟩ : BA).toList)) = false ->
 (W (IntKind.i64.wrap (Y + 1)) aj /\ X (IntKind.i64.wrap (Y + 1)) aj < X Y Z)))))) /\
 ((decide (Y < (e : Int))) = false ->
 ∃ (ak : Int -> World -> Prop) (al : Int -> World -> Nat), ak 0 Z /\
 (∀ am : Int, ∀ an : World, ak am an ->
 (((decide (am < (i : Int))) = true ->
 ∃ ao, g = some ao /\ (0 <= am /\ am < (i : Int)) /\ ∃ ap, an.cell? (ao.add (am.toNat * 5)) = some (.string ap) /\ ∃ aq, an.cell? ((ao.add (am.toNat * 5)).add 1) = some (.string aq) /\ ∃ ar au av, an.cell? ((ao.add (am.toNat * 5)).add 2) = some (.slice ar au av) /\ ∃ ax ay az, an.cell? ((ao.add (am.toNat * 5)).add 3) = some (.slice ax ay az) /\ ∃ aA, an.cell? ((ao.add (am.toNat * 5)).add 4) = some (.bool aA) /\ True /\ (let aB := an.alloc (.cells #[(.string (⟨#[]⟩ : BA)), (.string (⟨#[]⟩ : BA)), .slice none 0 0, .slice none 0 0, .bool false] 88);
 True /\ (let aC := an.alloc (.cells #[.string ap, .string aq, .slice ar au av, .slice ax ay az, .bool aA] 88);
 ∀ aD : Bool -> World -> Prop, (∀ aE : Bool, ∀ aF : World,
 (((aE = true ->
 R (.returned (.bool false)) aF) /\
 (aE = false ->
 ∃ (aG : Int -> World -> Prop) (aH : Int -> World -> Nat), aG 0 aF /\
 (∀ aI : Int, ∀ aJ : World, aG aI aJ ->
 (((decide (aI < (ay : Int))) = true ->
 ∃ aK, ax = some aK /\ (0 <= aI /\ aI < (ay : Int)) /\ ∃ aL, aJ.cell? (aK.add (aI.toNat * 1)) = some (.string aL) /\ CP 81 #[.string aL] aJ (fun aM aN => ∃ aO, aM = .returned (.bool aO) /\ (KeepT 26 aJ aN /\ KeepT 88 aJ aN /\ True) /\ (((!aO) = true ->
 R (.returned (.bool false)) aN) /\
 ((!aO) = false ->
 (aG (IntKind.i64.wrap (aI + 1)) aN /\ aH (IntKind.i64.wrap (aI + 1)) aN < aH aI aJ))))) /\
 ((decide (aI < (ay : Int))) = false ->
 (ak (IntKind.i64.wrap (am + 1)) aJ /\ al (IntKind.i64.wrap (am + 1)) aJ < al am an))))))) ->
 aD aE aF) ->
 CP 79 #[.string ap] aC (fun aP aQ => ∃ aS, aP = .returned (.bool aS) /\ (KeepT 26 aC aQ /\ KeepT 88 aC aQ /\ True) /\ (((!aS) = false -> CP 54 #[.string aq] aQ (fun aU aV => ∃ aW, aU = .returned (.bool aW) /\ (KeepT 26 aQ aV /\ KeepT 88 aQ aV /\ True) /\ (((!aW) = false -> CP 80 #[.slice ar au av, .int .i64 q] aV (fun aX aY => ∃ aZ, aX = .returned (.bool aZ) /\ (KeepT 26 aV aY /\ KeepT 88 aV aY /\ True) /\ (((!aZ) = false -> aD ((ay : Int) == 0) aY) /\ ((!aZ) = true -> aD true aY)))) /\ ((!aW) = true -> aD true aV)))) /\ ((!aS) = true -> aD true aQ)))))) /\
 ((decide (am < (i : Int))) = false ->
 ∃ (ba : Int -> World -> Prop) (bb : Int -> World -> Nat), ba 0 an /\
 (∀ bc : Int, ∀ bd : World, ba bc bd ->
 (((decide (bc < (l : Int))) = true ->
 ∃ be, k = some be /\ (0 <= bc /\ bc < (l : Int)) /\ ∃ bf, bd.cell? (be.add (bc.toNat * 8)) = some (.string bf) /\ ∃ bg, bd.cell? ((be.add (bc.toNat * 8)).add 1) = some (.string bg) /\ ∃ bh, bd.cell? ((be.add (bc.toNat * 8)).add 2) = some (.string bh) /\ ∃ bi bj bk, bd.cell? ((be.add (bc.toNat * 8)).add 3) = some (.slice bi bj bk) /\ ∃ bl bm bn, bd.cell? ((be.add (bc.toNat * 8)).add 4) = some (.slice bl bm bn) /\ ∃ bo bp bq, bd.cell? ((be.add (bc.toNat * 8)).add 5) = some (.slice bo bp bq) /\ ∃ br bs bt, bd.cell? ((be.add (bc.toNat * 8)).add 6) = some (.slice br bs bt) /\ ∃ bu bv bx, bd.cell? ((be.add (bc.toNat * 8)).add 7) = some (.slice bu bv bx) /\ True /\ (let bz := bd.alloc (.cells #[(.string (⟨#[]⟩ : BA)), (.string (⟨#[]⟩ : BA)), (.string (⟨#[]⟩ : BA)), .slice none 0 0, .slice none 0 0, .slice none 0 0, .slice none 0 0, .slice none 0 0] 75);
 True /\ (let bA := bd.alloc (.cells #[.string bf, .string bg, .string bh, .slice bi bj bk, .slice bl bm bn, .slice bo bp bq, .slice br bs bt, .slice bu bv bx] 75);
 CP 82 #[(.agg #[.string bf, .string bg, .string bh, .slice bi bj bk, .slice bl bm bn, .slice bo bp bq, .slice br bs bt, .slice bu bv bx]), .int .i64 q] bA (fun bB bC => ∃ bD, bB = .returned (.bool bD) /\ (KeepT 26 bA bC /\ KeepT 75 bA bC /\ True) /\ (((!bD) = true ->
 R (.returned (.bool false)) bC) /\
 ((!bD) = false ->
 (ba (IntKind.i64.wrap (bc + 1)) bC /\ bb (IntKind.i64.wrap (bc + 1)) bC < bb bc bd))))))) /\
 ((decide (bc < (l : Int))) = false ->
 ∃ (bE : Int -> World -> Prop) (bF : Int -> World -> Nat), bE 0 bd /\
 (∀ bG : Int, ∀ bH : World, bE bG bH ->
 (((decide (bG < (o : Int))) = true ->
 ∃ bI, n = some bI /\ (0 <= bG /\ bG < (o : Int)) /\ ∃ bJ, bH.cell? (bI.add (bG.toNat * 8)) = some (.string bJ) /\ ∃ bK, bH.cell? ((bI.add (bG.toNat * 8)).add 1) = some (.string bK) /\ ∃ bL, bH.cell? ((bI.add (bG.toNat * 8)).add 2) = some (.string bL) /\ ∃ bM bN bO, bH.cell? ((bI.add (bG.toNat * 8)).add 3) = some (.slice bM bN bO) /\ ∃ bP bQ bS, bH.cell? ((bI.add (bG.toNat * 8)).add 4) = some (.slice bP bQ bS) /\ ∃ bU bV bW, bH.cell? ((bI.add (bG.toNat * 8)).add 5) = some (.slice bU bV bW) /\ ∃ bX bY bZ, bH.cell? ((bI.add (bG.toNat * 8)).add 6) = some (.slice bX bY bZ) /\ ∃ ca cb cc, bH.cell? ((bI.add (bG.toNat * 8)).add 7) = some (.slice ca cb cc) /\ True /\ (let cd := bH.alloc (.cells #[(.string (⟨#[]⟩ : BA)), (.string (⟨#[]⟩ : BA)), (.string (⟨#[]⟩ : BA)), .slice none 0 0, .slice none 0 0, .slice none 0 0, .slice none 0 0, .slice none 0 0] 75);
 True /\ (let ce := bH.alloc (.cells #[.string bJ, .string bK, .string bL, .slice bM bN bO, .slice bP bQ bS, .slice bU bV bW, .slice bX bY bZ, .slice ca cb cc] 75);
 ∀ cf : Bool -> World -> Prop, (∀ cg : Bool, ∀ ch : World,
 (((cg = true ->
 R (.returned (.bool false)) ch) /\
 (cg = false ->
 (bE (IntKind.i64.wrap (bG + 1)) ch /\ bF (IntKind.i64.wrap (bG + 1)) ch < bF bG bH)))) ->
 cf cg ch) ->
 CP 82 #[(.agg #[.string bJ, .string bK, .string bL, .slice bM bN bO, .slice bP bQ bS, .slice bU bV bW, .slice bX bY bZ, .slice ca cb cc]), .int .i64 q] ce (fun ci cj => ∃ ck, ci = .returned (.bool ck) /\ (KeepT 26 ce cj /\ KeepT 75 ce cj /\ True) /\ (((!ck) = false -> (((!(bK.toList == (⟨#[]⟩ : BA).toList)) = false -> CP 83 #[(.agg #[.string bJ, .string bK, .string bL, .slice bM bN bO, .slice bP bQ bS, .slice bU bV bW, .slice bX bY bZ, .slice ca cb cc])] cj (fun cl cm => ∃ cn, cl = .returned (.bool cn) /\ (KeepT 26 cj cm /\ KeepT 75 cj cm /\ True) /\ cf cn cm)) /\ ((!(bK.toList == (⟨#[]⟩ : BA).toList)) = true -> cf true cj))) /\ ((!ck) = true -> cf true cj)))))) /\
 ((decide (bG < (o : Int))) = false ->
 R (.returned (.bool (decide ((IntKind.i64.wrap ((IntKind.i64.wrap ((IntKind.i64.wrap ((IntKind.i64.wrap ((b : Int) + (e : Int))) + (i : Int))) + (l : Int))) + (o : Int))) > 0)))) bH)))))))))))))))))) : CP 45 #[(.agg #[.slice a b c, .slice d e f, .slice g i j, .slice k l m, .slice n o p]), .int .i64 q] w R :=
 vcq Tryz.func45 [2, 6, 8, 10, 14, 16] [(6, ⟨[(25, .int .i64)],[]⟩), (29, ⟨[(37, .int .i64)],[]⟩), (52, ⟨[(48, .int .i64)],[]⟩), (64, ⟨[(74, .bool)],[]⟩), (74, ⟨[(78, .int .i64)],[]⟩), (98, ⟨[(90, .int .i64)],[]⟩), (121, ⟨[(102, .int .i64)],[]⟩), (132, ⟨[(118, .bool)],[]⟩)] [.agg [.slice a b c, .slice d e f, .slice g i j, .slice k l m, .slice n o p], .l (.int .i64 q)] h
theorem q_build (a : OA) (b c : Nat) (d : OA) (e f : Nat) (g : OA) (i j : Nat) (k : OA) (l m : Nat) (n : OA) (o p : Nat) (q : Bool) (w : World) (R : EW) (h :
 True /\ (let r := w.alloc (.cells #[.slice a b c, .slice d e f, .slice g i j, .slice k l m, .slice n o p] 26);
 ∀ s : Bool -> World -> Prop, (∀ t : Bool, ∀ u : World,
 (((t = true ->
 R (.returned (.tuple #[.pointer none, .bool false])) u) /\
 (t = false ->
 True /\ True /\ (let v := u.alloc (.cells #[.slice k l m, .slice none 0 0, .slice g i j] 69);
 ∃ (x : OA -> Nat -> Nat -> Int -> World -> Prop) (y : OA -> Nat -> Nat -> Int -> World -> Nat), x none 0 0 0 v /\
 (∀ (z : OA) (A B : Nat), ∀ C : Int, ∀ D : World, x z A B C D ->
 (((decide (C < (l : Int))) = true ->
 ∃ E, k = some E /\ (0 <= C /\ C < (l : Int)) /\ ∃ F, D.cell? (E.add (C.toNat * 8)) = some (.string F) /\ ∃ G, D.cell? ((E.add (C.toNat * 8)).add 1) = some (.string G) /\ ∃ H, D.cell? ((E.add (C.toNat * 8)).add 2) = some (.string H) /\ ∃ I J K, D.cell? ((E.add (C.toNat * 8)).add 3) = some (.slice I J K) /\ ∃ L M N, D.cell? ((E.add (C.toNat * 8)).add 4) = some (.slice L M N) /\ ∃ O P Q, D.cell? ((E.add (C.toNat * 8)).add 5) = some (.slice O P Q) /\ ∃ S U V, D.cell? ((E.add (C.toNat * 8)).add 6) = some (.slice S U V) /\ ∃ W X Y, D.cell? ((E.add (C.toNat * 8)).add 7) = some (.slice W X Y) /\ True /\ (let Z := D.alloc (.cells #[(.string (⟨#[]⟩ : BA)), (.string (⟨#[]⟩ : BA)), (.string (⟨#[]⟩ : BA)), .slice none 0 0, .slice none 0 0, .slice none 0 0, .slice none 0 0, .slice none 0 0] 75);
 True /\ (let aa := D.alloc (.cells #[.string F, .string G, .string H, .slice I J K, .slice L M N, .slice O P Q, .slice S U V, .slice W X Y] 75);
 True /\ (let ab := aa.alloc (.cells #[.string H] 9);
 ∃ ac ad ae, ∃ af, (Go.builtin .append #[71, 71] 71 #[false, false] #[.slice z A B, (.slice (some (adr aa.heap.size)) 1 1)]).run Tryz.prog ab = .ok (.value (.slice ac ad ae)) af /\ (KeepT 26 ab af /\ KeepT 75 ab af /\ True) /\ ∀ ag : Bool -> World -> Prop, (∀ ah : Bool, ∀ ai : World,
 (((ah = true ->
 R (.returned (.tuple #[.pointer none, .bool false])) ai) /\
 (ah = false ->
 (x ac ad ae (IntKind.i64.wrap (C + 1)) ai /\ y ac ad ae (IntKind.i64.wrap (C + 1)) ai < y z A B C D)))) ->
 ag ah ai) ->
 (((decide ((IntKind.i64.wrap ((IntKind.i64.wrap ((IntKind.i64.wrap ((P : Int) + (U : Int))) + (X : Int))) + (M : Int))) > 12)) = false -> CP 46 #[(.pointer (some (adr u.heap.size))), (.agg #[.string F, .string G, .string H, .slice I J K, .slice L M N, .slice O P Q, .slice S U V, .slice W X Y]), .bool q] af (fun aj ak => ∃ al, aj = .returned (.bool al) /\ (KeepT 26 af ak /\ KeepT 75 af ak /\ True) /\ (((!al) = false -> (((!q) = true -> CP 47 #[(.pointer (some (adr u.heap.size))), .string H, .slice none 0 0] ak (fun am an => ∃ ao, am = .returned (.bool ao) /\ (KeepT 26 ak an /\ KeepT 75 ak an /\ True) /\ ag (!ao) an)) /\ ((!q) = false -> ag false ak))) /\ ((!al) = true -> ag true ak)))) /\ ((decide ((IntKind.i64.wrap ((IntKind.i64.wrap ((IntKind.i64.wrap ((P : Int) + (U : Int))) + (X : Int))) + (M : Int))) > 12)) = true -> ag true af)))))) /\
 ((decide (C < (l : Int))) = false ->
 ∃ (ap : OA -> Nat -> Nat -> Int -> World -> Prop) (aq : OA -> Nat -> Nat -> Int -> World -> Nat), ap none 0 0 0 D /\
 (∀ (ar : OA) (au av : Nat), ∀ ax : Int, ∀ ay : World, ap ar au av ax ay ->
 (((decide (ax < (i : Int))) = true ->
 ∃ az, g = some az /\ (0 <= ax /\ ax < (i : Int)) /\ ∃ aA, ay.cell? (az.add (ax.toNat * 5)) = some (.string aA) /\ ∃ aB, ay.cell? ((az.add (ax.toNat * 5)).add 1) = some (.string aB) /\ ∃ aC aD aE, ay.cell? ((az.add (ax.toNat * 5)).add 2) = some (.slice aC aD aE) /\ ∃ aF aG aH, ay.cell? ((az.add (ax.toNat * 5)).add 3) = some (.slice aF aG aH) /\ ∃ aI, ay.cell? ((az.add (ax.toNat * 5)).add 4) = some (.bool aI) /\ True /\ (let aJ := ay.alloc (.cells #[(.string (⟨#[]⟩ : BA)), (.string (⟨#[]⟩ : BA)), .slice none 0 0, .slice none 0 0, .bool false] 88);
 True /\ (let aK := ay.alloc (.cells #[.string aA, .string aB, .slice aC aD aE, .slice aF aG aH, .bool aI] 88);
 True /\ (let aL := aK.alloc (.cells #[.string aB] 9);
 ∃ aM aN aO, ∃ aP, (Go.builtin .append #[71, 71] 71 #[false, false] #[.slice ar au av, (.slice (some (adr aK.heap.size)) 1 1)]).run Tryz.prog aL = .ok (.value (.slice aM aN aO)) aP /\ (KeepT 26 aL aP /\ KeepT 88 aL aP /\ True) /\ ∀ aQ : Bool -> World -> Prop, (∀ aS : Bool, ∀ aU : World,
 (((aS = true ->
 R (.returned (.tuple #[.pointer none, .bool false])) aU) /\
 (aS = false ->
 (ap aM aN aO (IntKind.i64.wrap (ax + 1)) aU /\ aq aM aN aO (IntKind.i64.wrap (ax + 1)) aU < aq ar au av ax ay)))) ->
 aQ aS aU) ->
 ∀ aV, aV = aP.drew -> CP 49 #[] aV (fun aW aX => ∃ aY aZ ba, aW = .returned (.slice aY aZ ba) /\ (KeepT 26 aV aX /\ KeepT 88 aV aX /\ True) /\ ((1 = 1) /\ True) /\ CP 48 #[.string aB, .slice aY aZ ba] aX (fun bb bc => ∃ bd, bb = .returned (.bool bd) /\ (KeepT 26 aX bc /\ KeepT 88 aX bc /\ True) /\ True /\ ((bd = true -> aQ true bc) /\ (bd = false -> (((!(aA.toList == (⟨#[]⟩ : BA).toList)) = true -> aQ true bc) /\ ((!(aA.toList == (⟨#[]⟩ : BA).toList)) = false -> CP 50 #[(.pointer (some (adr u.heap.size))), .slice aC aD aE] bc (fun be bf => ∃ bg, be = .returned (.bool bg) /\ (KeepT 26 bc bf /\ KeepT 88 bc bf /\ True) /\ True /\ (((!bg) = true -> aQ true bf) /\ ((!bg) = false -> CP 51 #[.slice aF aG aH] bf (fun bh bi => ∃ bj, bh = .returned (.bool bj) /\ (KeepT 26 bf bi /\ KeepT 88 bf bi /\ True) /\ True /\ aQ (!bj) bi)))))))))))))) /\
 ((decide (ax < (i : Int))) = false ->
 ∀ bk : OA -> Bool -> World -> Prop, (∀ bl : OA, ∀ bm : Bool, ∀ bn : World,
 (R (.returned (.tuple #[.pointer bl, .bool bm])) bn) ->
 bk bl bm bn) ->
 CP 52 #[.slice z A B] ay (fun bo bp => ∃ bq, bo = .returned (.bool bq) /\ (KeepT 26 ay bp /\ True) /\ ((bq = true -> CP 52 #[.slice ar au av] bp (fun br bs => ∃ bt, br = .returned (.bool bt) /\ (KeepT 26 bp bs /\ True) /\ ((bt = true -> CP 53 #[(.pointer (some (adr u.heap.size))), (.agg #[.slice a b c, .slice d e f, .slice g i j, .slice k l m, .slice n o p])] bs (fun bu bv => ∃ bx, bu = .returned (.bool bx) /\ (KeepT 26 bs bv /\ True) /\ bk (some (adr u.heap.size)) bx bv)) /\ (bt = false -> bk (some (adr u.heap.size)) false bs)))) /\ (bq = false -> bk (some (adr u.heap.size)) false bp))))))))))))) ->
 s t u) ->
 CP 45 #[(.agg #[.slice a b c, .slice d e f, .slice g i j, .slice k l m, .slice n o p]), .int .i64 4] r (fun bz bA => ∃ bB, bz = .returned (.bool bB) /\ (KeepT 26 r bA /\ True) /\ (((!bB) = false -> (((decide ((IntKind.i64.wrap ((e : Int) + (o : Int))) > 0)) = false -> (((decide ((b : Int) > 1)) = false -> (((decide ((l : Int) > 30)) = false -> s (decide ((i : Int) > 12)) bA) /\ ((decide ((l : Int) > 30)) = true -> s true bA))) /\ ((decide ((b : Int) > 1)) = true -> s true bA))) /\ ((decide ((IntKind.i64.wrap ((e : Int) + (o : Int))) > 0)) = true -> s true bA))) /\ ((!bB) = true -> s true bA))))) : CP 25 #[(.agg #[.slice a b c, .slice d e f, .slice g i j, .slice k l m, .slice n o p]), .bool q] w R :=
 vcq Tryz.func25 [2, 10, 12] [(3, ⟨[(43, .bool)],[]⟩), (18, ⟨[(7, .slice), (53, .int .i64)],[]⟩), (31, ⟨[(95, .bool)],[]⟩), (43, ⟨[(8, .slice), (100, .int .i64)],[]⟩), (56, ⟨[(130, .bool)],[]⟩), (64, ⟨[(4, .ptr), (5, .bool)],[]⟩)] [.agg [.slice a b c, .slice d e f, .slice g i j, .slice k l m, .slice n o p], .l (.bool q)] h
theorem q_Build (a : OA) (b c : Nat) (d : OA) (e f : Nat) (g : OA) (i j : Nat) (k : OA) (l m : Nat) (n : OA) (o p : Nat) (w : World) (R : EW) (h :
 True /\ (let q := w.alloc (.cells #[.slice a b c, .slice d e f, .slice g i j, .slice k l m, .slice n o p] 26);
 CP 25 #[(.agg #[.slice a b c, .slice d e f, .slice g i j, .slice k l m, .slice n o p]), .bool false] q (fun r s => ∃ t, ∃ u, r = .returned (.tuple #[.pointer t, .bool u]) /\ (KeepT 26 q s /\ True) /\ R (.returned (.tuple #[.pointer t, .bool u])) s))) : CP 10 #[(.agg #[.slice a b c, .slice d e f, .slice g i j, .slice k l m, .slice n o p])] w R :=
 vcq Tryz.func10 [1] [] [.agg [.slice a b c, .slice d e f, .slice g i j, .slice k l m, .slice n o p]] h
theorem q_Small (a : OA) (b c : Nat) (d : OA) (e f : Nat) (w : World) (R : EW) (h :
 True /\ (let g := w.alloc (.cells #[.slice a b c, .slice d e f] 30);
 ∀ i : Bool -> World -> Prop, (∀ j : Bool, ∀ k : World,
 (((j = true ->
 R (.returned (.bool false)) k) /\
 (j = false ->
 ∃ (l : Int -> Int -> World -> Prop) (m : Int -> Int -> World -> Nat), l 0 0 k /\
 (∀ n : Int, ∀ o : Int, ∀ p : World, l n o p ->
 (((decide (o < (b : Int))) = true ->
 ∃ q, a = some q /\ (0 <= o /\ o < (b : Int)) /\ ∃ r, p.cell? (q.add (o.toNat * 5)) = some (.string r) /\ ∃ s, p.cell? ((q.add (o.toNat * 5)).add 1) = some (.string s) /\ ∃ t u v, p.cell? ((q.add (o.toNat * 5)).add 2) = some (.slice t u v) /\ ∃ x y z, p.cell? ((q.add (o.toNat * 5)).add 3) = some (.slice x y z) /\ ∃ A B C, p.cell? ((q.add (o.toNat * 5)).add 4) = some (.slice A B C) /\ True /\ (let D := p.alloc (.cells #[(.string (⟨#[]⟩ : BA)), (.string (⟨#[]⟩ : BA)), .slice none 0 0, .slice none 0 0, .slice none 0 0] 51);
 True /\ (let E := p.alloc (.cells #[.string r, .string s, .slice t u v, .slice x y z, .slice A B C] 51);
 CP 27 #[.slice A B C] E (fun F G => ∃ H, F = .returned (.int .i64 H) /\ (KeepT 30 E G /\ KeepT 51 E G /\ True) /\ CP 28 #[.slice A B C] G (fun I J => ∃ K, I = .returned (.bool K) /\ (KeepT 30 G J /\ KeepT 51 G J /\ True) /\ ((K = true ->
 R (.returned (.bool false)) J) /\
 (K = false ->
 ∃ (L : Int -> World -> Prop) (M : Int -> World -> Nat), L 0 J /\
 (∀ N : Int, ∀ O : World, L N O ->
 (((decide (N < (u : Int))) = true ->
 ∃ P, t = some P /\ (0 <= N /\ N < (u : Int)) /\ ∃ Q, O.cell? (P.add (N.toNat * 6)) = some (.string Q) /\ ∃ S, O.cell? ((P.add (N.toNat * 6)).add 1) = some (.string S) /\ ∃ U V W, O.cell? ((P.add (N.toNat * 6)).add 2) = some (.slice U V W) /\ ∃ X, O.cell? ((P.add (N.toNat * 6)).add 3) = some (.bool X) /\ ∃ Y Z aa, O.cell? ((P.add (N.toNat * 6)).add 4) = some (.slice Y Z aa) /\ ∃ ab ac ad, O.cell? ((P.add (N.toNat * 6)).add 5) = some (.slice ab ac ad) /\ True /\ (let ae := O.alloc (.cells #[(.string (⟨#[]⟩ : BA)), (.string (⟨#[]⟩ : BA)), .slice none 0 0, .bool false, .slice none 0 0, .slice none 0 0] 59);
 True /\ (let af := O.alloc (.cells #[.string Q, .string S, .slice U V W, .bool X, .slice Y Z aa, .slice ab ac ad] 59);
 CP 30 #[(.agg #[.string S, .slice U V W, .bool X])] af (fun ag ah => ∃ ai, ag = .returned (.string ai) /\ (KeepT 30 af ah /\ KeepT 51 af ah /\ KeepT 59 af ah /\ True) /\ CP 29 #[.string ai] ah (fun aj ak => ∃ al, aj = .returned (.bool al) /\ (KeepT 30 ah ak /\ KeepT 51 ah ak /\ KeepT 59 ah ak /\ True) /\ ((al = true ->
 R (.returned (.bool false)) ak) /\
 (al = false ->
 (L (IntKind.i64.wrap (N + 1)) ak /\ M (IntKind.i64.wrap (N + 1)) ak < M N O)))))))) /\
 ((decide (N < (u : Int))) = false ->
 (l (IntKind.i64.wrap (n + H)) (IntKind.i64.wrap (o + 1)) O /\ m (IntKind.i64.wrap (n + H)) (IntKind.i64.wrap (o + 1)) O < m n o p))))))))))) /\
 ((decide (o < (b : Int))) = false ->
 ∃ (am : Int -> Int -> World -> Prop) (an : Int -> Int -> World -> Nat), am n 0 p /\
 (∀ ao : Int, ∀ ap : Int, ∀ aq : World, am ao ap aq ->
 (((decide (ap < (e : Int))) = true ->
 ∃ ar, d = some ar /\ (0 <= ap /\ ap < (e : Int)) /\ ∃ au, aq.cell? (ar.add (ap.toNat * 4)) = some (.string au) /\ ∃ av, aq.cell? ((ar.add (ap.toNat * 4)).add 1) = some (.string av) /\ ∃ ax ay az, aq.cell? ((ar.add (ap.toNat * 4)).add 2) = some (.slice ax ay az) /\ ∃ aA aB aC, aq.cell? ((ar.add (ap.toNat * 4)).add 3) = some (.slice aA aB aC) /\ True /\ (let aD := aq.alloc (.cells #[(.string (⟨#[]⟩ : BA)), (.string (⟨#[]⟩ : BA)), .slice none 0 0, .slice none 0 0] 63);
 True /\ (let aE := aq.alloc (.cells #[.string au, .string av, .slice ax ay az, .slice aA aB aC] 63);
 CP 27 #[.slice aA aB aC] aE (fun aF aG => ∃ aH, aF = .returned (.int .i64 aH) /\ (KeepT 30 aE aG /\ KeepT 63 aE aG /\ True) /\ ∀ aI : Bool -> World -> Prop, (∀ aJ : Bool, ∀ aK : World,
 (((aJ = true ->
 R (.returned (.bool false)) aK) /\
 (aJ = false ->
 (am (IntKind.i64.wrap (ao + aH)) (IntKind.i64.wrap (ap + 1)) aK /\ an (IntKind.i64.wrap (ao + aH)) (IntKind.i64.wrap (ap + 1)) aK < an ao ap aq)))) ->
 aI aJ aK) ->
 CP 28 #[.slice aA aB aC] aG (fun aL aM => ∃ aN, aL = .returned (.bool aN) /\ (KeepT 30 aG aM /\ KeepT 63 aG aM /\ True) /\ ((aN = false -> CP 29 #[.string av] aM (fun aO aP => ∃ aQ, aO = .returned (.bool aQ) /\ (KeepT 30 aM aP /\ KeepT 63 aM aP /\ True) /\ ((aQ = false -> CP 29 #[.string au] aP (fun aS aU => ∃ aV, aS = .returned (.bool aV) /\ (KeepT 30 aP aU /\ KeepT 63 aP aU /\ True) /\ aI aV aU)) /\ (aQ = true -> aI true aP)))) /\ (aN = true -> aI true aM))))))) /\
 ((decide (ap < (e : Int))) = false ->
 R (.returned (.bool (decide (ao <= 200)))) aq))))))))) ->
 i j k) ->
 CP 26 #[(.agg #[.slice a b c, .slice d e f]), .int .i64 6] g (fun aW aX => ∃ aY, aW = .returned (.bool aY) /\ (KeepT 30 g aX /\ True) /\ (((!aY) = false -> (((decide ((b : Int) > 12)) = false -> i (decide ((e : Int) > 12)) aX) /\ ((decide ((b : Int) > 12)) = true -> i true aX))) /\ ((!aY) = true -> i true aX))))) : CP 11 #[(.agg #[.slice a b c, .slice d e f])] w R :=
 vcq Tryz.func11 [1, 5, 7, 9] [(3, ⟨[(24, .bool)],[]⟩), (16, ⟨[(3, .int .i64), (28, .int .i64)],[]⟩), (40, ⟨[(43, .int .i64)],[]⟩), (64, ⟨[(3, .int .i64), (56, .int .i64)],[]⟩), (77, ⟨[(77, .bool)],[]⟩)] [.agg [.slice a b c, .slice d e f]] h
theorem q_named (a : BA) (b : Bool) (w : World) (R : EW) (h :
 True /\ (let c := w.alloc (.cells #[(.string (⟨#[]⟩ : BA)), .slice none 0 0, .bool false] 56);
 True /\ True /\ (let d := setB c (w.heap.size) [.string a, .slice none 0 0, .bool b] 56;
 R (.returned (.agg #[.string a, .slice none 0 0, .bool b])) d))) : CP 68 #[.string a, .bool b] w R :=
 vcq Tryz.func68 [4] [] [.l (.str a), .l (.bool b)] h
theorem q_Prelude (w : World) (R : EW) (h :
 True /\ (let a := w.alloc (.cells #[.slice none 0 0, .slice none 0 0, .slice none 0 0, .slice none 0 0, .slice none 0 0] 26);
 True /\ (let b := a.alloc (.cells #[.slice none 0 0, .slice none 0 0, .slice none 0 0, .slice none 0 0, .slice none 0 0] 26);
 CP 67 #[] b (fun c d => ∃ e f g, c = .returned (.slice e f g) /\ (KeepT 26 b d /\ True) /\ ∃ (i : Int -> OA -> Nat -> Nat -> OA -> Nat -> Nat -> OA -> Nat -> Nat -> OA -> Nat -> Nat -> OA -> Nat -> Nat -> World -> Prop) (j : Int -> OA -> Nat -> Nat -> OA -> Nat -> Nat -> OA -> Nat -> Nat -> OA -> Nat -> Nat -> OA -> Nat -> Nat -> World -> Nat), i 0 none 0 0 none 0 0 none 0 0 none 0 0 none 0 0 d /\
 (∀ k : Int, ∀ (l : OA) (m n : Nat), ∀ (o : OA) (p q : Nat), ∀ (r : OA) (s t : Nat), ∀ (u : OA) (v x : Nat), ∀ (y : OA) (z A : Nat), ∀ B : World, i k l m n o p q r s t u v x y z A B ->
 (((decide (k < (f : Int))) = true ->
 ∃ C, e = some C /\ (0 <= k /\ k < (f : Int)) /\ ∃ D, B.cell? (C.add (k.toNat * 1)) = some (.string D) /\ True /\ True /\ (let E := B.alloc (.cells #[(.string (⟨#[83,67,65,76,65,82]⟩ : BA)), (.string (⟨#[]⟩ : BA)), .string D, .slice none 0 0, .slice none 0 0, .slice none 0 0, .slice none 0 0, .slice none 0 0] 75);
 ∃ F G H, ∃ I, (Go.builtin .append #[24, 24] 24 #[false, false] #[.slice u v x, (.slice (some (adr B.heap.size)) 1 1)]).run Tryz.prog E = .ok (.value (.slice F G H)) I /\ (KeepT 26 E I /\ True) /\ True /\ (let J := setB I (a.heap.size) [.slice l m n, .slice o p q, .slice r s t, .slice F G H, .slice y z A] 26;
 (i (IntKind.i64.wrap (k + 1)) l m n o p q r s t F G H y z A J /\ j (IntKind.i64.wrap (k + 1)) l m n o p q r s t F G H y z A J < j k l m n o p q r s t u v x y z A B)))) /\
 ((decide (k < (f : Int))) = false ->
 True /\ (let K := B.alloc (.cells #[(.string (⟨#[70,73,69,76,68]⟩ : BA)), (.string (⟨#[70,82,65,71,77,69,78,84,95,83,80,82,69,65,68]⟩ : BA)), (.string (⟨#[73,78,76,73,78,69,95,70,82,65,71,77,69,78,84]⟩ : BA))] 9);
 CP 68 #[(.string (⟨#[66,111,111,108,101,97,110]⟩ : BA)), .bool true] K (fun L M => ∃ N, ∃ O P Q, ∃ S, L = .returned (.agg #[.string N, .slice O P Q, .bool S]) /\ (KeepT 26 K M /\ True) /\ True /\ True /\ (let U := M.alloc (.cells #[(.string (⟨#[]⟩ : BA)), (.string (⟨#[105,102]⟩ : BA)), .string N, .slice O P Q, .bool S, .slice none 0 0, .slice none 0 0] 141);
 True /\ CP 68 #[(.string (⟨#[66,111,111,108,101,97,110]⟩ : BA)), .bool true] U (fun V W => ∃ X, ∃ Y Z aa, ∃ ab, V = .returned (.agg #[.string X, .slice Y Z aa, .bool ab]) /\ (KeepT 26 U W /\ True) /\ True /\ True /\ (let ac := W.alloc (.cells #[(.string (⟨#[]⟩ : BA)), (.string (⟨#[105,102]⟩ : BA)), .string X, .slice Y Z aa, .bool ab, .slice none 0 0, .slice none 0 0] 141);
 True /\ CP 68 #[(.string (⟨#[83,116,114,105,110,103]⟩ : BA)), .bool false] ac (fun ad ae => ∃ af, ∃ ag ah ai, ∃ aj, ad = .returned (.agg #[.string af, .slice ag ah ai, .bool aj]) /\ (KeepT 26 ac ae /\ True) /\ True /\ True /\ (let ak := ae.alloc (.cells #[.int .i64 3, (.string (⟨#[78,111,32,108,111,110,103,101,114,32,115,117,112,112,111,114,116,101,100]⟩ : BA)), .slice none 0 0] 144);
 True /\ True /\ (let al := ak.alloc (.cells #[(.string (⟨#[]⟩ : BA)), (.string (⟨#[114,101,97,115,111,110]⟩ : BA)), .string af, .slice ag ah ai, .bool aj, (.slice (some (adr ae.heap.size)) 1 1), .slice none 0 0] 141);
 True /\ (let am := al.alloc (.cells #[(.string (⟨#[70,73,69,76,68,95,68,69,70,73,78,73,84,73,79,78]⟩ : BA)), (.string (⟨#[65,82,71,85,77,69,78,84,95,68,69,70,73,78,73,84,73,79,78]⟩ : BA)), (.string (⟨#[73,78,80,85,84,95,70,73,69,76,68,95,68,69,70,73,78,73,84,73,79,78]⟩ : BA)), (.string (⟨#[69,78,85,77,95,86,65,76,85,69]⟩ : BA))] 9);
 True /\ CP 68 #[(.string (⟨#[83,116,114,105,110,103]⟩ : BA)), .bool true] am (fun an ao => ∃ ap, ∃ aq ar au, ∃ av, an = .returned (.agg #[.string ap, .slice aq ar au, .bool av]) /\ (KeepT 26 am ao /\ True) /\ True /\ True /\ (let ax := ao.alloc (.cells #[(.string (⟨#[]⟩ : BA)), (.string (⟨#[117,114,108]⟩ : BA)), .string ap, .slice aq ar au, .bool av, .slice none 0 0, .slice none 0 0] 141);
 True /\ (let ay := ax.alloc (.cells #[(.string (⟨#[83,67,65,76,65,82]⟩ : BA))] 9);
 True /\ True /\ (let az := ay.alloc (.cells #[(.string (⟨#[]⟩ : BA)), (.string (⟨#[105,110,99,108,117,100,101]⟩ : BA)), (.slice (some (adr M.heap.size)) 1 1), (.slice (some (adr B.heap.size)) 3 3), .bool false, (.string (⟨#[]⟩ : BA)), (.string (⟨#[115,107,105,112]⟩ : BA)), (.slice (some (adr W.heap.size)) 1 1), (.slice (some (adr B.heap.size)) 3 3), .bool false, (.string (⟨#[]⟩ : BA)), (.string (⟨#[100,101,112,114,101,99,97,116,101,100]⟩ : BA)), (.slice (some (adr ak.heap.size)) 1 1), (.slice (some (adr al.heap.size)) 4 4), .bool false, (.string (⟨#[]⟩ : BA)), (.string (⟨#[115,112,101,99,105,102,105,101,100,66,121]⟩ : BA)), (.slice (some (adr ao.heap.size)) 1 1), (.slice (some (adr ax.heap.size)) 1 1), .bool false] 88);
 True /\ (let aA := setB az (a.heap.size) [.slice l m n, .slice o p q, (.slice (some (adr ay.heap.size)) 4 4), .slice u v x, .slice y z A] 26;
 True /\ (let aB := setB aA (w.heap.size) [.slice l m n, .slice o p q, (.slice (some (adr ay.heap.size)) 4 4), .slice u v x, .slice y z A] 26;
 R (.returned (.agg #[.slice l m n, .slice o p q, (.slice (some (adr ay.heap.size)) 4 4), .slice u v x, .slice y z A])) aB)))))))))))))))))))))) : CP 33 #[] w R :=
 vcq Tryz.func33 [0, 1] [(8, ⟨[(7, .int .i64)],[(1, [.slice, .slice, .slice, .slice, .slice])]⟩)] [] h
theorem q_World_Enumerated (a : OA) (b : BA) (w : World) (R : EW) (h :
 CP 69 #[.pointer a, .string b] w (fun c d => ∃ e f g, c = .returned (.slice e f g) /\ True /\ CP 70 #[.pointer a, .string b] d (fun i j => ∃ k, ∃ l, ∃ m, ∃ n o p, ∃ q r s, ∃ t u v, ∃ x y z, ∃ A B C, ∃ D, i = .returned (.tuple #[(.agg #[.string k, .string l, .string m, .slice n o p, .slice q r s, .slice t u v, .slice x y z, .slice A B C]), .bool D]) /\ True /\ True /\ (let E := j.alloc (.cells #[(.string (⟨#[]⟩ : BA)), (.string (⟨#[]⟩ : BA)), (.string (⟨#[]⟩ : BA)), .slice none 0 0, .slice none 0 0, .slice none 0 0, .slice none 0 0, .slice none 0 0] 75);
 True /\ (let F := j.alloc (.cells #[.string k, .string l, .string m, .slice n o p, .slice q r s, .slice t u v, .slice x y z, .slice A B C] 75);
 ∃ G, a = some G /\ ∃ H I J, F.cell? G = some (.slice H I J) /\ ∃ (K : OA -> Nat -> Nat -> Int -> World -> Prop) (L : OA -> Nat -> Nat -> Int -> World -> Nat), K e f g 0 F /\
 (∀ (M : OA) (N O : Nat), ∀ P : Int, ∀ Q : World, K M N O P Q ->
 (((decide (P < (I : Int))) = true ->
 ∀ S : OA -> Nat -> Nat -> World -> Prop, (∀ (U : OA) (V W : Nat), ∀ X : World,
 ((K U V W (IntKind.i64.wrap (P + 1)) X /\ L U V W (IntKind.i64.wrap (P + 1)) X < L M N O P Q)) ->
 S U V W X) ->
 ∃ Y, H = some Y /\ (0 <= P /\ P < (I : Int)) /\ ∃ Z, Q.cell? (Y.add (P.toNat * 8)) = some (.string Z) /\ ∃ aa, Q.cell? ((Y.add (P.toNat * 8)).add 1) = some (.string aa) /\ ∃ ab, Q.cell? ((Y.add (P.toNat * 8)).add 2) = some (.string ab) /\ ∃ ac ad ae, Q.cell? ((Y.add (P.toNat * 8)).add 3) = some (.slice ac ad ae) /\ ∃ af ag ah, Q.cell? ((Y.add (P.toNat * 8)).add 4) = some (.slice af ag ah) /\ ∃ ai aj ak, Q.cell? ((Y.add (P.toNat * 8)).add 5) = some (.slice ai aj ak) /\ ∃ al am an, Q.cell? ((Y.add (P.toNat * 8)).add 6) = some (.slice al am an) /\ ∃ ao ap aq, Q.cell? ((Y.add (P.toNat * 8)).add 7) = some (.slice ao ap aq) /\ True /\ (let ar := Q.alloc (.cells #[(.string (⟨#[]⟩ : BA)), (.string (⟨#[]⟩ : BA)), (.string (⟨#[]⟩ : BA)), .slice none 0 0, .slice none 0 0, .slice none 0 0, .slice none 0 0, .slice none 0 0] 75);
 True /\ (let au := Q.alloc (.cells #[.string Z, .string aa, .string ab, .slice ac ad ae, .slice af ag ah, .slice ai aj ak, .slice al am an, .slice ao ap aq] 75);
 ∀ av : Bool -> World -> Prop, (∀ ax : Bool, ∀ ay : World,
 (((ax = true ->
 True /\ (let az := ay.alloc (.cells #[.string ab] 9);
 ∃ aA aB aC, ∃ aD, (Go.builtin .append #[71, 71] 71 #[false, false] #[.slice M N O, (.slice (some (adr ay.heap.size)) 1 1)]).run Tryz.prog az = .ok (.value (.slice aA aB aC)) aD /\ (KeepT 75 az aD /\ True) /\ S aA aB aC aD)) /\
 (ax = false ->
 S M N O ay))) ->
 av ax ay) ->
 (((Z.toList == (⟨#[73,78,84,69,82,70,65,67,69]⟩ : BA).toList) = true -> (((k.toList == (⟨#[73,78,84,69,82,70,65,67,69]⟩ : BA).toList) = true -> CP 48 #[.string b, .slice af ag ah] au (fun aE aF => ∃ aG, aE = .returned (.bool aG) /\ (KeepT 75 au aF /\ True) /\ av aG aF)) /\ ((k.toList == (⟨#[73,78,84,69,82,70,65,67,69]⟩ : BA).toList) = false -> av false au))) /\ ((Z.toList == (⟨#[73,78,84,69,82,70,65,67,69]⟩ : BA).toList) = false -> av false au))))) /\
 ((decide (P < (I : Int))) = false ->
 R (.returned (.slice M N O)) Q)))))))) : CP 36 #[.pointer a, .string b] w R :=
 vcq Tryz.func36 [6, 9] [(10, ⟨[(5, .slice), (24, .int .i64)],[]⟩), (17, ⟨[(5, .slice)],[]⟩), (21, ⟨[(41, .bool)],[]⟩)] [.l (.optr a), .l (.str b)] h
theorem q_World_Implemented (a : OA) (b : BA) (w : World) (R : EW) (h :
 CP 70 #[.pointer a, .string b] w (fun c d => ∃ e, ∃ f, ∃ g, ∃ i j k, ∃ l m n, ∃ o p q, ∃ r s t, ∃ u v x, ∃ y, c = .returned (.tuple #[(.agg #[.string e, .string f, .string g, .slice i j k, .slice l m n, .slice o p q, .slice r s t, .slice u v x]), .bool y]) /\ True /\ True /\ (let z := d.alloc (.cells #[(.string (⟨#[]⟩ : BA)), (.string (⟨#[]⟩ : BA)), (.string (⟨#[]⟩ : BA)), .slice none 0 0, .slice none 0 0, .slice none 0 0, .slice none 0 0, .slice none 0 0] 75);
 True /\ (let A := d.alloc (.cells #[.string e, .string f, .string g, .slice i j k, .slice l m n, .slice o p q, .slice r s t, .slice u v x] 75);
 (let B := A.alloc (.cells #[] 9);
 ∃ C D E, ∃ F, (Go.builtin .append #[71, 71] 71 #[false, false] #[(.slice (some (adr A.heap.size)) 0 0), .slice l m n]).run Tryz.prog B = .ok (.value (.slice C D E)) F /\ (KeepT 75 B F /\ True) /\ ∃ G, a = some G /\ ∃ H I J, F.cell? G = some (.slice H I J) /\ ∃ (K : OA -> Nat -> Nat -> Int -> World -> Prop) (L : OA -> Nat -> Nat -> Int -> World -> Nat), K C D E 0 F /\
 (∀ (M : OA) (N O : Nat), ∀ P : Int, ∀ Q : World, K M N O P Q ->
 (((decide (P < (I : Int))) = true ->
 ∀ S : OA -> Nat -> Nat -> World -> Prop, (∀ (U : OA) (V W : Nat), ∀ X : World,
 ((K U V W (IntKind.i64.wrap (P + 1)) X /\ L U V W (IntKind.i64.wrap (P + 1)) X < L M N O P Q)) ->
 S U V W X) ->
 ∃ Y, H = some Y /\ (0 <= P /\ P < (I : Int)) /\ ∃ Z, Q.cell? (Y.add (P.toNat * 8)) = some (.string Z) /\ ∃ aa, Q.cell? ((Y.add (P.toNat * 8)).add 1) = some (.string aa) /\ ∃ ab, Q.cell? ((Y.add (P.toNat * 8)).add 2) = some (.string ab) /\ ∃ ac ad ae, Q.cell? ((Y.add (P.toNat * 8)).add 3) = some (.slice ac ad ae) /\ ∃ af ag ah, Q.cell? ((Y.add (P.toNat * 8)).add 4) = some (.slice af ag ah) /\ ∃ ai aj ak, Q.cell? ((Y.add (P.toNat * 8)).add 5) = some (.slice ai aj ak) /\ ∃ al am an, Q.cell? ((Y.add (P.toNat * 8)).add 6) = some (.slice al am an) /\ ∃ ao ap aq, Q.cell? ((Y.add (P.toNat * 8)).add 7) = some (.slice ao ap aq) /\ True /\ (let ar := Q.alloc (.cells #[(.string (⟨#[]⟩ : BA)), (.string (⟨#[]⟩ : BA)), (.string (⟨#[]⟩ : BA)), .slice none 0 0, .slice none 0 0, .slice none 0 0, .slice none 0 0, .slice none 0 0] 75);
 True /\ (let au := Q.alloc (.cells #[.string Z, .string aa, .string ab, .slice ac ad ae, .slice af ag ah, .slice ai aj ak, .slice al am an, .slice ao ap aq] 75);
 ∀ av : Bool -> World -> Prop, (∀ ax : Bool, ∀ ay : World,
 (((ax = true ->
 True /\ (let az := ay.alloc (.cells #[.string ab] 9);
 ∃ aA aB aC, ∃ aD, (Go.builtin .append #[71, 71] 71 #[false, false] #[.slice M N O, (.slice (some (adr ay.heap.size)) 1 1)]).run Tryz.prog az = .ok (.value (.slice aA aB aC)) aD /\ (KeepT 75 az aD /\ True) /\ S aA aB aC aD)) /\
 (ax = false ->
 S M N O ay))) ->
 av ax ay) ->
 (((Z.toList == (⟨#[85,78,73,79,78]⟩ : BA).toList) = true -> CP 48 #[.string b, .slice al am an] au (fun aE aF => ∃ aG, aE = .returned (.bool aG) /\ (KeepT 75 au aF /\ True) /\ av aG aF)) /\ ((Z.toList == (⟨#[85,78,73,79,78]⟩ : BA).toList) = false -> av false au))))) /\
 ((decide (P < (I : Int))) = false ->
 R (.returned (.slice M N O)) Q)))))))) : CP 37 #[.pointer a, .string b] w R :=
 vcq Tryz.func37 [5, 9] [(10, ⟨[(7, .slice), (25, .int .i64)],[]⟩), (17, ⟨[(7, .slice)],[]⟩), (21, ⟨[(37, .bool)],[]⟩)] [.l (.optr a), .l (.str b)] h
theorem q_World_Possible (a : OA) (b : BA) (w : World) (R : EW) (h :
 CP 70 #[.pointer a, .string b] w (fun c d => ∃ e, ∃ f, ∃ g, ∃ i j k, ∃ l m n, ∃ o p q, ∃ r s t, ∃ u v x, ∃ y, c = .returned (.tuple #[(.agg #[.string e, .string f, .string g, .slice i j k, .slice l m n, .slice o p q, .slice r s t, .slice u v x]), .bool y]) /\ True /\ True /\ (let z := d.alloc (.cells #[(.string (⟨#[]⟩ : BA)), (.string (⟨#[]⟩ : BA)), (.string (⟨#[]⟩ : BA)), .slice none 0 0, .slice none 0 0, .slice none 0 0, .slice none 0 0, .slice none 0 0] 75);
 True /\ (let A := d.alloc (.cells #[.string e, .string f, .string g, .slice i j k, .slice l m n, .slice o p q, .slice r s t, .slice u v x] 75);
 ∃ B, a = some B /\ ∃ C D E, A.cell? B = some (.slice C D E) /\ ∃ (F : OA -> Nat -> Nat -> Int -> World -> Prop) (G : OA -> Nat -> Nat -> Int -> World -> Nat), F none 0 0 0 A /\
 (∀ (H : OA) (I J : Nat), ∀ K : Int, ∀ L : World, F H I J K L ->
 (((decide (K < (D : Int))) = true ->
 ∀ M : OA -> Nat -> Nat -> World -> Prop, (∀ (N : OA) (O P : Nat), ∀ Q : World,
 ((F N O P (IntKind.i64.wrap (K + 1)) Q /\ G N O P (IntKind.i64.wrap (K + 1)) Q < G H I J K L)) ->
 M N O P Q) ->
 ∃ S, C = some S /\ (0 <= K /\ K < (D : Int)) /\ ∃ U, L.cell? (S.add (K.toNat * 8)) = some (.string U) /\ ∃ V, L.cell? ((S.add (K.toNat * 8)).add 1) = some (.string V) /\ ∃ W, L.cell? ((S.add (K.toNat * 8)).add 2) = some (.string W) /\ ∃ X Y Z, L.cell? ((S.add (K.toNat * 8)).add 3) = some (.slice X Y Z) /\ ∃ aa ab ac, L.cell? ((S.add (K.toNat * 8)).add 4) = some (.slice aa ab ac) /\ ∃ ad ae af, L.cell? ((S.add (K.toNat * 8)).add 5) = some (.slice ad ae af) /\ ∃ ag ah ai, L.cell? ((S.add (K.toNat * 8)).add 6) = some (.slice ag ah ai) /\ ∃ aj ak al, L.cell? ((S.add (K.toNat * 8)).add 7) = some (.slice aj ak al) /\ True /\ (let am := L.alloc (.cells #[(.string (⟨#[]⟩ : BA)), (.string (⟨#[]⟩ : BA)), (.string (⟨#[]⟩ : BA)), .slice none 0 0, .slice none 0 0, .slice none 0 0, .slice none 0 0, .slice none 0 0] 75);
 True /\ (let an := L.alloc (.cells #[.string U, .string V, .string W, .slice X Y Z, .slice aa ab ac, .slice ad ae af, .slice ag ah ai, .slice aj ak al] 75);
 ∀ ao : Bool -> World -> Prop, (∀ ap : Bool, ∀ aq : World,
 (((ap = true ->
 True /\ (let ar := aq.alloc (.cells #[.string W] 9);
 ∃ au av ax, ∃ ay, (Go.builtin .append #[71, 71] 71 #[false, false] #[.slice H I J, (.slice (some (adr aq.heap.size)) 1 1)]).run Tryz.prog ar = .ok (.value (.slice au av ax)) ay /\ (KeepT 75 ar ay /\ True) /\ M au av ax ay)) /\
 (ap = false ->
 M H I J aq))) ->
 ao ap aq) ->
 (((U.toList == (⟨#[79,66,74,69,67,84]⟩ : BA).toList) = true -> (((W.toList == b.toList) = false -> (((e.toList == (⟨#[73,78,84,69,82,70,65,67,69]⟩ : BA).toList) = true -> CP 48 #[.string b, .slice aa ab ac] an (fun az aA => ∃ aB, az = .returned (.bool aB) /\ (KeepT 75 an aA /\ True) /\ ((aB = false -> (((e.toList == (⟨#[85,78,73,79,78]⟩ : BA).toList) = true -> CP 48 #[.string W, .slice r s t] aA (fun aC aD => ∃ aE, aC = .returned (.bool aE) /\ (KeepT 75 aA aD /\ True) /\ ao aE aD)) /\ ((e.toList == (⟨#[85,78,73,79,78]⟩ : BA).toList) = false -> ao false aA))) /\ (aB = true -> ao true aA)))) /\ ((e.toList == (⟨#[73,78,84,69,82,70,65,67,69]⟩ : BA).toList) = false -> (((e.toList == (⟨#[85,78,73,79,78]⟩ : BA).toList) = true -> CP 48 #[.string W, .slice r s t] an (fun aF aG => ∃ aH, aF = .returned (.bool aH) /\ (KeepT 75 an aG /\ True) /\ ao aH aG)) /\ ((e.toList == (⟨#[85,78,73,79,78]⟩ : BA).toList) = false -> ao false an))))) /\ ((W.toList == b.toList) = true -> ao true an))) /\ ((U.toList == (⟨#[79,66,74,69,67,84]⟩ : BA).toList) = false -> ao false an))))) /\
 ((decide (K < (D : Int))) = false ->
 R (.returned (.slice H I J)) L))))))) : CP 69 #[.pointer a, .string b] w R :=
 vcq Tryz.func69 [6, 9] [(10, ⟨[(5, .slice), (21, .int .i64)],[]⟩), (17, ⟨[(5, .slice)],[]⟩), (21, ⟨[(56, .bool)],[]⟩)] [.l (.optr a), .l (.str b)] h
end Go.VC
namespace Go.VC
open Go Go.Proofs
set_option maxRecDepth 100000
theorem q_World_Wide (a : OA) (w : World) (R : EW) (h :
 True /\ (let b := w.alloc (.cells #[.slice none 0 0, .slice none 0 0, (.string (⟨#[]⟩ : BA)), (.string (⟨#[]⟩ : BA)), (.string (⟨#[]⟩ : BA)), .slice none 0 0, .slice none 0 0] 40);
 CP 33 #[] b (fun c d => ∃ e f g, ∃ i j k, ∃ l m n, ∃ o p q, ∃ r s t, c = .returned (.agg #[.slice e f g, .slice i j k, .slice l m n, .slice o p q, .slice r s t]) /\ (KeepT 40 b d /\ True) /\ True /\ (let u := d.alloc (.cells #[.slice none 0 0, .slice none 0 0, .slice none 0 0, .slice none 0 0, .slice none 0 0] 26);
 True /\ (let v := d.alloc (.cells #[.slice e f g, .slice i j k, .slice l m n, .slice o p q, .slice r s t] 26);
 ∀ x, x = v.drew -> ∃ y, a = some y /\ ∃ z A B, x.cell? y = some (.slice z A B) /\ ∃ C, a = some C /\ ∃ D E F, x.cell? (C.add 2) = some (.slice D E F) /\ ((∃ G H I, ∃ J, (Go.builtin .append #[24, 24] 24 #[false, false] #[.slice o p q, .slice z A B]).run Tryz.prog x = .ok (.value (.slice G H I)) J /\ (KeepT 40 x J /\ KeepT 26 x J /\ True) /\ ((J.cell? (C.add 2) = x.cell? (C.add 2)) /\ (1 = 1) /\ True) /\ ((∃ K L M, ∃ N, (Go.builtin .append #[23, 23] 23 #[false, false] #[.slice l m n, .slice D E F]).run Tryz.prog J = .ok (.value (.slice K L M)) N /\ (KeepT 40 J N /\ KeepT 26 J N /\ True) /\ True /\ ((CP 34 #[.pointer a, (.string (⟨#[113,117,101,114,121]⟩ : BA))] N (fun O P => ∃ Q, O = .returned (.string Q) /\ (KeepT 40 N P /\ KeepT 26 N P /\ True) /\ True /\ ((CP 34 #[.pointer a, (.string (⟨#[109,117,116,97,116,105,111,110]⟩ : BA))] P (fun S U => ∃ V, S = .returned (.string V) /\ (KeepT 40 P U /\ KeepT 26 P U /\ True) /\ True /\ ((CP 34 #[.pointer a, (.string (⟨#[115,117,98,115,99,114,105,112,116,105,111,110]⟩ : BA))] U (fun W X => ∃ Y, W = .returned (.string Y) /\ (KeepT 40 U X /\ KeepT 26 U X /\ True) /\ True /\ True /\ True /\ (let Z := X.alloc (.cells #[.slice none 0 0, .slice none 0 0, (.string (⟨#[]⟩ : BA)), (.string (⟨#[]⟩ : BA)), (.string (⟨#[]⟩ : BA)), .slice none 0 0, .slice none 0 0] 40);
 True /\ True /\ (let aa := setB Z (X.heap.size) [.slice G H I, .slice K L M, .string Q, .string V, .string Y, .slice none 0 0, .slice none 0 0] 40;
 True /\ ∃ ab, a = some ab /\ ∃ ac ad ae, aa.cell? ab = some (.slice ac ad ae) /\ ∃ (af : Int -> OA -> Nat -> Nat -> OA -> Nat -> Nat -> BA -> BA -> BA -> OA -> Nat -> Nat -> OA -> Nat -> Nat -> World -> Prop) (ag : Int -> OA -> Nat -> Nat -> OA -> Nat -> Nat -> BA -> BA -> BA -> OA -> Nat -> Nat -> OA -> Nat -> Nat -> World -> Nat), af 0 G H I K L M Q V Y none 0 0 none 0 0 aa /\
 (∀ ah : Int, ∀ (ai : OA) (aj ak : Nat), ∀ (al : OA) (am an : Nat), ∀ ao : BA, ∀ ap : BA, ∀ aq : BA, ∀ (ar : OA) (au av : Nat), ∀ (ax : OA) (ay az : Nat), ∀ aA : World, af ah ai aj ak al am an ao ap aq ar au av ax ay az aA ->
 (((decide (ah < (ad : Int))) = true ->
 ∀ aB : OA -> Nat -> Nat -> OA -> Nat -> Nat -> BA -> BA -> BA -> OA -> Nat -> Nat -> OA -> Nat -> Nat -> World -> Prop, (∀ (aC : OA) (aD aE : Nat), ∀ (aF : OA) (aG aH : Nat), ∀ aI : BA, ∀ aJ : BA, ∀ aK : BA, ∀ (aL : OA) (aM aN : Nat), ∀ (aO : OA) (aP aQ : Nat), ∀ aS : World,
 ((af (IntKind.i64.wrap (ah + 1)) aC aD aE aF aG aH aI aJ aK aL aM aN aO aP aQ aS /\ ag (IntKind.i64.wrap (ah + 1)) aC aD aE aF aG aH aI aJ aK aL aM aN aO aP aQ aS < ag ah ai aj ak al am an ao ap aq ar au av ax ay az aA)) ->
 aB aC aD aE aF aG aH aI aJ aK aL aM aN aO aP aQ aS) ->
 ∃ aU, ac = some aU /\ (0 <= ah /\ ah < (ad : Int)) /\ ∃ aV, aA.cell? (aU.add (ah.toNat * 8)) = some (.string aV) /\ ∃ aW, aA.cell? ((aU.add (ah.toNat * 8)).add 1) = some (.string aW) /\ ∃ aX, aA.cell? ((aU.add (ah.toNat * 8)).add 2) = some (.string aX) /\ ∃ aY aZ ba, aA.cell? ((aU.add (ah.toNat * 8)).add 3) = some (.slice aY aZ ba) /\ ∃ bb bc bd, aA.cell? ((aU.add (ah.toNat * 8)).add 4) = some (.slice bb bc bd) /\ ∃ be bf bg, aA.cell? ((aU.add (ah.toNat * 8)).add 5) = some (.slice be bf bg) /\ ∃ bh bi bj, aA.cell? ((aU.add (ah.toNat * 8)).add 6) = some (.slice bh bi bj) /\ ∃ bk bl bm, aA.cell? ((aU.add (ah.toNat * 8)).add 7) = some (.slice bk bl bm) /\ True /\ (let bn := aA.alloc (.cells #[(.string (⟨#[]⟩ : BA)), (.string (⟨#[]⟩ : BA)), (.string (⟨#[]⟩ : BA)), .slice none 0 0, .slice none 0 0, .slice none 0 0, .slice none 0 0, .slice none 0 0] 75);
 True /\ (let bo := aA.alloc (.cells #[.string aV, .string aW, .string aX, .slice aY aZ ba, .slice bb bc bd, .slice be bf bg, .slice bh bi bj, .slice bk bl bm] 75);
 ∀ bp : OA -> Nat -> Nat -> OA -> Nat -> Nat -> BA -> BA -> BA -> OA -> Nat -> Nat -> OA -> Nat -> Nat -> World -> Prop, (∀ (bq : OA) (br bs : Nat), ∀ (bt : OA) (bu bv : Nat), ∀ bx : BA, ∀ bz : BA, ∀ bA : BA, ∀ (bB : OA) (bC bD : Nat), ∀ (bE : OA) (bF bG : Nat), ∀ bH : World,
 (CP 37 #[.pointer a, .string aX] bH (fun bI bJ => ∃ bK bL bM, bI = .returned (.slice bK bL bM) /\ (KeepT 26 bH bJ /\ KeepT 40 bH bJ /\ KeepT 75 bH bJ /\ True) /\ (((decide ((bL : Int) > 0)) = true ->
 True /\ True /\ (let bN := bJ.alloc (.cells #[.string aX, .slice bK bL bM] 78);
 ∃ bO bP bQ, ∃ bS, (Go.builtin .append #[38, 38] 38 #[false, false] #[.slice bE bF bG, (.slice (some (adr bJ.heap.size)) 1 1)]).run Tryz.prog bN = .ok (.value (.slice bO bP bQ)) bS /\ (KeepT 26 bN bS /\ KeepT 40 bN bS /\ KeepT 75 bN bS /\ True) /\ True /\ (let bU := setB bS (X.heap.size) [.slice bq br bs, .slice bt bu bv, .string bx, .string bz, .string bA, .slice bB bC bD, .slice bO bP bQ] 40;
 aB bq br bs bt bu bv bx bz bA bB bC bD bO bP bQ bU))) /\
 ((decide ((bL : Int) > 0)) = false ->
 aB bq br bs bt bu bv bx bz bA bB bC bD bE bF bG bJ)))) ->
 bp bq br bs bt bu bv bx bz bA bB bC bD bE bF bG bH) ->
 CP 35 #[.string aV] bo (fun bV bW => ∃ bX, bV = .returned (.bool bX) /\ (KeepT 26 bo bW /\ KeepT 40 bo bW /\ KeepT 75 bo bW /\ True) /\ ((bX = true ->
 ∀ bY, bY = bW.drew -> CP 36 #[.pointer a, .string aX] bY (fun bZ ca => ∃ cb cc cd, bZ = .returned (.slice cb cc cd) /\ (KeepT 26 bY ca /\ KeepT 40 bY ca /\ KeepT 75 bY ca /\ True) /\ ((1 = 1) /\ (2 = 2) /\ True) /\ True /\ True /\ (let ce := ca.alloc (.cells #[.string aX, .slice cb cc cd] 78);
 ((2 = 2) /\ True) /\ ∃ cf cg ch, ∃ ci, (Go.builtin .append #[38, 38] 38 #[false, false] #[.slice ar au av, (.slice (some (adr ca.heap.size)) 1 1)]).run Tryz.prog ce = .ok (.value (.slice cf cg ch)) ci /\ (KeepT 26 ce ci /\ KeepT 40 ce ci /\ KeepT 75 ce ci /\ True) /\ True /\ True /\ (let cj := setB ci (X.heap.size) [.slice ai aj ak, .slice al am an, .string ao, .string ap, .string aq, .slice cf cg ch, .slice ax ay az] 40;
 True /\ bp ai aj ak al am an ao ap aq cf cg ch ax ay az cj)))) /\
 (bX = false ->
 bp ai aj ak al am an ao ap aq ar au av ax ay az bW)))))) /\
 ((decide (ah < (ad : Int))) = false ->
 True /\ (let ck := setB aA (w.heap.size) [.slice ai aj ak, .slice al am an, .string ao, .string ap, .string aq, .slice ar au av, .slice ax ay az] 40;
 R (.returned (.agg #[.slice ai aj ak, .slice al am an, .string ao, .string ap, .string aq, .slice ar au av, .slice ax ay az])) ck)))))))) /\
 (True /\ (let cl := U.alloc (.cells #[.slice none 0 0, .slice none 0 0, (.string (⟨#[]⟩ : BA)), (.string (⟨#[]⟩ : BA)), (.string (⟨#[]⟩ : BA)), .slice none 0 0, .slice none 0 0] 40);
 True /\ CP 34 #[.pointer a, (.string (⟨#[115,117,98,115,99,114,105,112,116,105,111,110]⟩ : BA))] cl (fun cm cn => ∃ co, cm = .returned (.string co) /\ (KeepT 26 cl cn /\ KeepT 40 cl cn /\ True) /\ True /\ True /\ True /\ (let cp := setB cn (U.heap.size) [.slice G H I, .slice K L M, .string Q, .string V, .string co, .slice none 0 0, .slice none 0 0] 40;
 True /\ ∃ cq, a = some cq /\ ∃ cr ct cu, cp.cell? cq = some (.slice cr ct cu) /\ ∃ (cv : Int -> OA -> Nat -> Nat -> OA -> Nat -> Nat -> BA -> BA -> BA -> OA -> Nat -> Nat -> OA -> Nat -> Nat -> World -> Prop) (cx : Int -> OA -> Nat -> Nat -> OA -> Nat -> Nat -> BA -> BA -> BA -> OA -> Nat -> Nat -> OA -> Nat -> Nat -> World -> Nat), cv 0 G H I K L M Q V co none 0 0 none 0 0 cp /\
 (∀ cy : Int, ∀ (cz : OA) (cA cB : Nat), ∀ (cC : OA) (cD cE : Nat), ∀ cF : BA, ∀ cG : BA, ∀ cH : BA, ∀ (cI : OA) (cJ cK : Nat), ∀ (cL : OA) (cM cN : Nat), ∀ cO : World, cv cy cz cA cB cC cD cE cF cG cH cI cJ cK cL cM cN cO ->
 (((decide (cy < (ct : Int))) = true ->
 ∀ cP : OA -> Nat -> Nat -> OA -> Nat -> Nat -> BA -> BA -> BA -> OA -> Nat -> Nat -> OA -> Nat -> Nat -> World -> Prop, (∀ (cQ : OA) (cS cU : Nat), ∀ (cV : OA) (cW cX : Nat), ∀ cY : BA, ∀ cZ : BA, ∀ da : BA, ∀ (db : OA) (dc dd : Nat), ∀ (de : OA) (df dg : Nat), ∀ dh : World,
 ((cv (IntKind.i64.wrap (cy + 1)) cQ cS cU cV cW cX cY cZ da db dc dd de df dg dh /\ cx (IntKind.i64.wrap (cy + 1)) cQ cS cU cV cW cX cY cZ da db dc dd de df dg dh < cx cy cz cA cB cC cD cE cF cG cH cI cJ cK cL cM cN cO)) ->
 cP cQ cS cU cV cW cX cY cZ da db dc dd de df dg dh) ->
 ∃ di, cr = some di /\ (0 <= cy /\ cy < (ct : Int)) /\ ∃ dj, cO.cell? (di.add (cy.toNat * 8)) = some (.string dj) /\ ∃ dk, cO.cell? ((di.add (cy.toNat * 8)).add 1) = some (.string dk) /\ ∃ dl, cO.cell? ((di.add (cy.toNat * 8)).add 2) = some (.string dl) /\ ∃ dm dn dp, cO.cell? ((di.add (cy.toNat * 8)).add 3) = some (.slice dm dn dp) /\ ∃ dq dr ds, cO.cell? ((di.add (cy.toNat * 8)).add 4) = some (.slice dq dr ds) /\ ∃ dt du dv, cO.cell? ((di.add (cy.toNat * 8)).add 5) = some (.slice dt du dv) /\ ∃ dx dy dz, cO.cell? ((di.add (cy.toNat * 8)).add 6) = some (.slice dx dy dz) /\ ∃ dA dB dC, cO.cell? ((di.add (cy.toNat * 8)).add 7) = some (.slice dA dB dC) /\ True /\ (let dD := cO.alloc (.cells #[(.string (⟨#[]⟩ : BA)), (.string (⟨#[]⟩ : BA)), (.string (⟨#[]⟩ : BA)), .slice none 0 0, .slice none 0 0, .slice none 0 0, .slice none 0 0, .slice none 0 0] 75);
 True /\ (let dE := cO.alloc (.cells #[.string dj, .string dk, .string dl, .slice dm dn dp, .slice dq dr ds, .slice dt du dv, .slice dx dy dz, .slice dA dB dC] 75);
 ∀ dF : OA -> Nat -> Nat -> OA -> Nat -> Nat -> BA -> BA -> BA -> OA -> Nat -> Nat -> OA -> Nat -> Nat -> World -> Prop, (∀ (dG : OA) (dH dI : Nat), ∀ (dJ : OA) (dK dL : Nat), ∀ dM : BA, ∀ dN : BA, ∀ dO : BA, ∀ (dP : OA) (dQ dS : Nat), ∀ (dU : OA) (dV dW : Nat), ∀ dX : World,
 (CP 37 #[.pointer a, .string dl] dX (fun dY dZ => ∃ ea eb ec, dY = .returned (.slice ea eb ec) /\ (KeepT 26 dX dZ /\ KeepT 40 dX dZ /\ KeepT 75 dX dZ /\ True) /\ (((decide ((eb : Int) > 0)) = true ->
 True /\ True /\ (let ed := dZ.alloc (.cells #[.string dl, .slice ea eb ec] 78);
 ∃ ee ef eg, ∃ eh, (Go.builtin .append #[38, 38] 38 #[false, false] #[.slice dU dV dW, (.slice (some (adr dZ.heap.size)) 1 1)]).run Tryz.prog ed = .ok (.value (.slice ee ef eg)) eh /\ (KeepT 26 ed eh /\ KeepT 40 ed eh /\ KeepT 75 ed eh /\ True) /\ True /\ (let ei := setB eh (U.heap.size) [.slice dG dH dI, .slice dJ dK dL, .string dM, .string dN, .string dO, .slice dP dQ dS, .slice ee ef eg] 40;
 cP dG dH dI dJ dK dL dM dN dO dP dQ dS ee ef eg ei))) /\
 ((decide ((eb : Int) > 0)) = false ->
 cP dG dH dI dJ dK dL dM dN dO dP dQ dS dU dV dW dZ)))) ->
 dF dG dH dI dJ dK dL dM dN dO dP dQ dS dU dV dW dX) ->
 CP 35 #[.string dj] dE (fun ej ek => ∃ el, ej = .returned (.bool el) /\ (KeepT 26 dE ek /\ KeepT 40 dE ek /\ KeepT 75 dE ek /\ True) /\ ((el = true ->
 ∀ em, em = ek.drew -> CP 36 #[.pointer a, .string dl] em (fun en eo => ∃ ep eq er, en = .returned (.slice ep eq er) /\ (KeepT 26 em eo /\ KeepT 40 em eo /\ KeepT 75 em eo /\ True) /\ ((1 = 1) /\ (2 = 2) /\ True) /\ True /\ True /\ (let es := eo.alloc (.cells #[.string dl, .slice ep eq er] 78);
 ((2 = 2) /\ True) /\ ∃ et eu ev, ∃ ex, (Go.builtin .append #[38, 38] 38 #[false, false] #[.slice cI cJ cK, (.slice (some (adr eo.heap.size)) 1 1)]).run Tryz.prog es = .ok (.value (.slice et eu ev)) ex /\ (KeepT 26 es ex /\ KeepT 40 es ex /\ KeepT 75 es ex /\ True) /\ True /\ True /\ (let ey := setB ex (U.heap.size) [.slice cz cA cB, .slice cC cD cE, .string cF, .string cG, .string cH, .slice et eu ev, .slice cL cM cN] 40;
 True /\ dF cz cA cB cC cD cE cF cG cH et eu ev cL cM cN ey)))) /\
 (el = false ->
 dF cz cA cB cC cD cE cF cG cH cI cJ cK cL cM cN ek)))))) /\
 ((decide (cy < (ct : Int))) = false ->
 True /\ (let ez := setB cO (w.heap.size) [.slice cz cA cB, .slice cC cD cE, .string cF, .string cG, .string cH, .slice cI cJ cK, .slice cL cM cN] 40;
 R (.returned (.agg #[.slice cz cA cB, .slice cC cD cE, .string cF, .string cG, .string cH, .slice cI cJ cK, .slice cL cM cN])) ez))))))))))) /\
 (True /\ (let eA := P.alloc (.cells #[.slice none 0 0, .slice none 0 0, (.string (⟨#[]⟩ : BA)), (.string (⟨#[]⟩ : BA)), (.string (⟨#[]⟩ : BA)), .slice none 0 0, .slice none 0 0] 40);
 True /\ CP 34 #[.pointer a, (.string (⟨#[109,117,116,97,116,105,111,110]⟩ : BA))] eA (fun eB eC => ∃ eD, eB = .returned (.string eD) /\ (KeepT 26 eA eC /\ KeepT 40 eA eC /\ True) /\ True /\ CP 34 #[.pointer a, (.string (⟨#[115,117,98,115,99,114,105,112,116,105,111,110]⟩ : BA))] eC (fun eE eF => ∃ eG, eE = .returned (.string eG) /\ (KeepT 26 eC eF /\ KeepT 40 eC eF /\ True) /\ True /\ True /\ True /\ (let eH := setB eF (P.heap.size) [.slice G H I, .slice K L M, .string Q, .string eD, .string eG, .slice none 0 0, .slice none 0 0] 40;
 True /\ ∃ eI, a = some eI /\ ∃ eJ eK eL, eH.cell? eI = some (.slice eJ eK eL) /\ ∃ (eM : Int -> OA -> Nat -> Nat -> OA -> Nat -> Nat -> BA -> BA -> BA -> OA -> Nat -> Nat -> OA -> Nat -> Nat -> World -> Prop) (eN : Int -> OA -> Nat -> Nat -> OA -> Nat -> Nat -> BA -> BA -> BA -> OA -> Nat -> Nat -> OA -> Nat -> Nat -> World -> Nat), eM 0 G H I K L M Q eD eG none 0 0 none 0 0 eH /\
 (∀ eO : Int, ∀ (eP : OA) (eQ eS : Nat), ∀ (eU : OA) (eV eW : Nat), ∀ eX : BA, ∀ eY : BA, ∀ eZ : BA, ∀ (fa : OA) (fb fc : Nat), ∀ (fd : OA) (fe ff : Nat), ∀ fg : World, eM eO eP eQ eS eU eV eW eX eY eZ fa fb fc fd fe ff fg ->
 (((decide (eO < (eK : Int))) = true ->
 ∀ fh : OA -> Nat -> Nat -> OA -> Nat -> Nat -> BA -> BA -> BA -> OA -> Nat -> Nat -> OA -> Nat -> Nat -> World -> Prop, (∀ (fi : OA) (fj fk : Nat), ∀ (fl : OA) (fm fn : Nat), ∀ fo : BA, ∀ fp : BA, ∀ fq : BA, ∀ (fr : OA) (fs ft : Nat), ∀ (fu : OA) (fv fx : Nat), ∀ fy : World,
 ((eM (IntKind.i64.wrap (eO + 1)) fi fj fk fl fm fn fo fp fq fr fs ft fu fv fx fy /\ eN (IntKind.i64.wrap (eO + 1)) fi fj fk fl fm fn fo fp fq fr fs ft fu fv fx fy < eN eO eP eQ eS eU eV eW eX eY eZ fa fb fc fd fe ff fg)) ->
 fh fi fj fk fl fm fn fo fp fq fr fs ft fu fv fx fy) ->
 ∃ fz, eJ = some fz /\ (0 <= eO /\ eO < (eK : Int)) /\ ∃ fA, fg.cell? (fz.add (eO.toNat * 8)) = some (.string fA) /\ ∃ fB, fg.cell? ((fz.add (eO.toNat * 8)).add 1) = some (.string fB) /\ ∃ fC, fg.cell? ((fz.add (eO.toNat * 8)).add 2) = some (.string fC) /\ ∃ fD fE fF, fg.cell? ((fz.add (eO.toNat * 8)).add 3) = some (.slice fD fE fF) /\ ∃ fG fH fI, fg.cell? ((fz.add (eO.toNat * 8)).add 4) = some (.slice fG fH fI) /\ ∃ fJ fK fL, fg.cell? ((fz.add (eO.toNat * 8)).add 5) = some (.slice fJ fK fL) /\ ∃ fM fN fO, fg.cell? ((fz.add (eO.toNat * 8)).add 6) = some (.slice fM fN fO) /\ ∃ fP fQ fS, fg.cell? ((fz.add (eO.toNat * 8)).add 7) = some (.slice fP fQ fS) /\ True /\ (let fU := fg.alloc (.cells #[(.string (⟨#[]⟩ : BA)), (.string (⟨#[]⟩ : BA)), (.string (⟨#[]⟩ : BA)), .slice none 0 0, .slice none 0 0, .slice none 0 0, .slice none 0 0, .slice none 0 0] 75);
 True /\ (let fV := fg.alloc (.cells #[.string fA, .string fB, .string fC, .slice fD fE fF, .slice fG fH fI, .slice fJ fK fL, .slice fM fN fO, .slice fP fQ fS] 75);
 ∀ fW : OA -> Nat -> Nat -> OA -> Nat -> Nat -> BA -> BA -> BA -> OA -> Nat -> Nat -> OA -> Nat -> Nat -> World -> Prop, (∀ (fX : OA) (fY fZ : Nat), ∀ (ga : OA) (gb gc : Nat), ∀ gd : BA, ∀ ge : BA, ∀ gf : BA, ∀ (gg : OA) (gh gi : Nat), ∀ (gj : OA) (gk gl : Nat), ∀ gm : World,
 (CP 37 #[.pointer a, .string fC] gm (fun gn go => ∃ gp gq gr, gn = .returned (.slice gp gq gr) /\ (KeepT 26 gm go /\ KeepT 40 gm go /\ KeepT 75 gm go /\ True) /\ (((decide ((gq : Int) > 0)) = true ->
 True /\ True /\ (let gs := go.alloc (.cells #[.string fC, .slice gp gq gr] 78);
 ∃ gt gu gv, ∃ gx, (Go.builtin .append #[38, 38] 38 #[false, false] #[.slice gj gk gl, (.slice (some (adr go.heap.size)) 1 1)]).run Tryz.prog gs = .ok (.value (.slice gt gu gv)) gx /\ (KeepT 26 gs gx /\ KeepT 40 gs gx /\ KeepT 75 gs gx /\ True) /\ True /\ (let gy := setB gx (P.heap.size) [.slice fX fY fZ, .slice ga gb gc, .string gd, .string ge, .string gf, .slice gg gh gi, .slice gt gu gv] 40;
 fh fX fY fZ ga gb gc gd ge gf gg gh gi gt gu gv gy))) /\
 ((decide ((gq : Int) > 0)) = false ->
 fh fX fY fZ ga gb gc gd ge gf gg gh gi gj gk gl go)))) ->
 fW fX fY fZ ga gb gc gd ge gf gg gh gi gj gk gl gm) ->
 CP 35 #[.string fA] fV (fun gz gA => ∃ gB, gz = .returned (.bool gB) /\ (KeepT 26 fV gA /\ KeepT 40 fV gA /\ KeepT 75 fV gA /\ True) /\ ((gB = true ->
 ∀ gC, gC = gA.drew -> CP 36 #[.pointer a, .string fC] gC (fun gD gE => ∃ gF gG gH, gD = .returned (.slice gF gG gH) /\ (KeepT 26 gC gE /\ KeepT 40 gC gE /\ KeepT 75 gC gE /\ True) /\ ((1 = 1) /\ (2 = 2) /\ True) /\ True /\ True /\ (let gI := gE.alloc (.cells #[.string fC, .slice gF gG gH] 78);
 ((2 = 2) /\ True) /\ ∃ gJ gK gL, ∃ gM, (Go.builtin .append #[38, 38] 38 #[false, false] #[.slice fa fb fc, (.slice (some (adr gE.heap.size)) 1 1)]).run Tryz.prog gI = .ok (.value (.slice gJ gK gL)) gM /\ (KeepT 26 gI gM /\ KeepT 40 gI gM /\ KeepT 75 gI gM /\ True) /\ True /\ True /\ (let gN := setB gM (P.heap.size) [.slice eP eQ eS, .slice eU eV eW, .string eX, .string eY, .string eZ, .slice gJ gK gL, .slice fd fe ff] 40;
 True /\ fW eP eQ eS eU eV eW eX eY eZ gJ gK gL fd fe ff gN)))) /\
 (gB = false ->
 fW eP eQ eS eU eV eW eX eY eZ fa fb fc fd fe ff gA)))))) /\
 ((decide (eO < (eK : Int))) = false ->
 True /\ (let gO := setB fg (w.heap.size) [.slice eP eQ eS, .slice eU eV eW, .string eX, .string eY, .string eZ, .slice fa fb fc, .slice fd fe ff] 40;
 R (.returned (.agg #[.slice eP eQ eS, .slice eU eV eW, .string eX, .string eY, .string eZ, .slice fa fb fc, .slice fd fe ff])) gO)))))))))))) /\
 (True /\ (let gP := N.alloc (.cells #[.slice none 0 0, .slice none 0 0, (.string (⟨#[]⟩ : BA)), (.string (⟨#[]⟩ : BA)), (.string (⟨#[]⟩ : BA)), .slice none 0 0, .slice none 0 0] 40);
 True /\ CP 34 #[.pointer a, (.string (⟨#[113,117,101,114,121]⟩ : BA))] gP (fun gQ gS => ∃ gU, gQ = .returned (.string gU) /\ (KeepT 26 gP gS /\ KeepT 40 gP gS /\ True) /\ True /\ CP 34 #[.pointer a, (.string (⟨#[109,117,116,97,116,105,111,110]⟩ : BA))] gS (fun gV gW => ∃ gX, gV = .returned (.string gX) /\ (KeepT 26 gS gW /\ KeepT 40 gS gW /\ True) /\ True /\ CP 34 #[.pointer a, (.string (⟨#[115,117,98,115,99,114,105,112,116,105,111,110]⟩ : BA))] gW (fun gY gZ => ∃ ha, gY = .returned (.string ha) /\ (KeepT 26 gW gZ /\ KeepT 40 gW gZ /\ True) /\ True /\ True /\ True /\ (let hb := setB gZ (N.heap.size) [.slice G H I, .slice K L M, .string gU, .string gX, .string ha, .slice none 0 0, .slice none 0 0] 40;
 True /\ ∃ hc, a = some hc /\ ∃ hd he hf, hb.cell? hc = some (.slice hd he hf) /\ ∃ (hg : Int -> OA -> Nat -> Nat -> OA -> Nat -> Nat -> BA -> BA -> BA -> OA -> Nat -> Nat -> OA -> Nat -> Nat -> World -> Prop) (hh : Int -> OA -> Nat -> Nat -> OA -> Nat -> Nat -> BA -> BA -> BA -> OA -> Nat -> Nat -> OA -> Nat -> Nat -> World -> Nat), hg 0 G H I K L M gU gX ha none 0 0 none 0 0 hb /\
 (∀ hi : Int, ∀ (hj : OA) (hk hl : Nat), ∀ (hm : OA) (hn ho : Nat), ∀ hp : BA, ∀ hq : BA, ∀ hr : BA, ∀ (hs : OA) (ht hu : Nat), ∀ (hv : OA) (hx hy : Nat), ∀ hz : World, hg hi hj hk hl hm hn ho hp hq hr hs ht hu hv hx hy hz ->
 (((decide (hi < (he : Int))) = true ->
 ∀ hA : OA -> Nat -> Nat -> OA -> Nat -> Nat -> BA -> BA -> BA -> OA -> Nat -> Nat -> OA -> Nat -> Nat -> World -> Prop, (∀ (hB : OA) (hC hD : Nat), ∀ (hE : OA) (hF hG : Nat), ∀ hH : BA, ∀ hI : BA, ∀ hJ : BA, ∀ (hK : OA) (hL hM : Nat), ∀ (hN : OA) (hO hP : Nat), ∀ hQ : World,
 ((hg (IntKind.i64.wrap (hi + 1)) hB hC hD hE hF hG hH hI hJ hK hL hM hN hO hP hQ /\ hh (IntKind.i64.wrap (hi + 1)) hB hC hD hE hF hG hH hI hJ hK hL hM hN hO hP hQ < hh hi hj hk hl hm hn ho hp hq hr hs ht hu hv hx hy hz)) ->
 hA hB hC hD hE hF hG hH hI hJ hK hL hM hN hO hP hQ) ->
 ∃ hS, hd = some hS /\ (0 <= hi /\ hi < (he : Int)) /\ ∃ hU, hz.cell? (hS.add (hi.toNat * 8)) = some (.string hU) /\ ∃ hV, hz.cell? ((hS.add (hi.toNat * 8)).add 1) = some (.string hV) /\ ∃ hW, hz.cell? ((hS.add (hi.toNat * 8)).add 2) = some (.string hW) /\ ∃ hX hY hZ, hz.cell? ((hS.add (hi.toNat * 8)).add 3) = some (.slice hX hY hZ) /\ ∃ ia ib ic, hz.cell? ((hS.add (hi.toNat * 8)).add 4) = some (.slice ia ib ic) /\ ∃ id ie ig, hz.cell? ((hS.add (hi.toNat * 8)).add 5) = some (.slice id ie ig) /\ ∃ ih ii ij, hz.cell? ((hS.add (hi.toNat * 8)).add 6) = some (.slice ih ii ij) /\ ∃ ik il im, hz.cell? ((hS.add (hi.toNat * 8)).add 7) = some (.slice ik il im) /\ True /\ (let io := hz.alloc (.cells #[(.string (⟨#[]⟩ : BA)), (.string (⟨#[]⟩ : BA)), (.string (⟨#[]⟩ : BA)), .slice none 0 0, .slice none 0 0, .slice none 0 0, .slice none 0 0, .slice none 0 0] 75);
 True /\ (let ip := hz.alloc (.cells #[.string hU, .string hV, .string hW, .slice hX hY hZ, .slice ia ib ic, .slice id ie ig, .slice ih ii ij, .slice ik il im] 75);
 ∀ iq : OA -> Nat -> Nat -> OA -> Nat -> Nat -> BA -> BA -> BA -> OA -> Nat -> Nat -> OA -> Nat -> Nat -> World -> Prop, (∀ (ir : OA) (is it : Nat), ∀ (iu : OA) (iv ix : Nat), ∀ iy : BA, ∀ iz : BA, ∀ iA : BA, ∀ (iB : OA) (iC iD : Nat), ∀ (iE : OA) (iF iG : Nat), ∀ iH : World,
 (CP 37 #[.pointer a, .string hW] iH (fun iI iJ => ∃ iK iL iM, iI = .returned (.slice iK iL iM) /\ (KeepT 26 iH iJ /\ KeepT 40 iH iJ /\ KeepT 75 iH iJ /\ True) /\ (((decide ((iL : Int) > 0)) = true ->
 True /\ True /\ (let iN := iJ.alloc (.cells #[.string hW, .slice iK iL iM] 78);
 ∃ iO iP iQ, ∃ iS, (Go.builtin .append #[38, 38] 38 #[false, false] #[.slice iE iF iG, (.slice (some (adr iJ.heap.size)) 1 1)]).run Tryz.prog iN = .ok (.value (.slice iO iP iQ)) iS /\ (KeepT 26 iN iS /\ KeepT 40 iN iS /\ KeepT 75 iN iS /\ True) /\ True /\ (let iU := setB iS (N.heap.size) [.slice ir is it, .slice iu iv ix, .string iy, .string iz, .string iA, .slice iB iC iD, .slice iO iP iQ] 40;
 hA ir is it iu iv ix iy iz iA iB iC iD iO iP iQ iU))) /\
 ((decide ((iL : Int) > 0)) = false ->
 hA ir is it iu iv ix iy iz iA iB iC iD iE iF iG iJ)))) ->
 iq ir is it iu iv ix iy iz iA iB iC iD iE iF iG iH) ->
 CP 35 #[.string hU] ip (fun iV iW => ∃ iX, iV = .returned (.bool iX) /\ (KeepT 26 ip iW /\ KeepT 40 ip iW /\ KeepT 75 ip iW /\ True) /\ ((iX = true ->
 ∀ iY, iY = iW.drew -> CP 36 #[.pointer a, .string hW] iY (fun iZ ja => ∃ jb jc jd, iZ = .returned (.slice jb jc jd) /\ (KeepT 26 iY ja /\ KeepT 40 iY ja /\ KeepT 75 iY ja /\ True) /\ ((1 = 1) /\ (2 = 2) /\ True) /\ True /\ True /\ (let je := ja.alloc (.cells #[.string hW, .slice jb jc jd] 78);
 ((2 = 2) /\ True) /\ ∃ jf jg jh, ∃ ji, (Go.builtin .append #[38, 38] 38 #[false, false] #[.slice hs ht hu, (.slice (some (adr ja.heap.size)) 1 1)]).run Tryz.prog je = .ok (.value (.slice jf jg jh)) ji /\ (KeepT 26 je ji /\ KeepT 40 je ji /\ KeepT 75 je ji /\ True) /\ True /\ True /\ (let jj := setB ji (N.heap.size) [.slice hj hk hl, .slice hm hn ho, .string hp, .string hq, .string hr, .slice jf jg jh, .slice hv hx hy] 40;
 True /\ iq hj hk hl hm hn ho hp hq hr jf jg jh hv hx hy jj)))) /\
 (iX = false ->
 iq hj hk hl hm hn ho hp hq hr hs ht hu hv hx hy iW)))))) /\
 ((decide (hi < (he : Int))) = false ->
 True /\ (let jk := setB hz (w.heap.size) [.slice hj hk hl, .slice hm hn ho, .string hp, .string hq, .string hr, .slice hs ht hu, .slice hv hx hy] 40;
 R (.returned (.agg #[.slice hj hk hl, .slice hm hn ho, .string hp, .string hq, .string hr, .slice hs ht hu, .slice hv hx hy])) jk)))))))))))) /\
 (True /\ (let jl := J.alloc (.cells #[.slice none 0 0, .slice none 0 0, (.string (⟨#[]⟩ : BA)), (.string (⟨#[]⟩ : BA)), (.string (⟨#[]⟩ : BA)), .slice none 0 0, .slice none 0 0] 40);
 ((jl.cell? (C.add 2) = J.cell? (C.add 2)) /\ (1 = 1) /\ True) /\ ∃ jm jn jo, ∃ jp, (Go.builtin .append #[23, 23] 23 #[false, false] #[.slice l m n, .slice D E F]).run Tryz.prog jl = .ok (.value (.slice jm jn jo)) jp /\ (KeepT 26 jl jp /\ KeepT 40 jl jp /\ True) /\ True /\ CP 34 #[.pointer a, (.string (⟨#[113,117,101,114,121]⟩ : BA))] jp (fun jq jr => ∃ js, jq = .returned (.string js) /\ (KeepT 26 jp jr /\ KeepT 40 jp jr /\ True) /\ True /\ CP 34 #[.pointer a, (.string (⟨#[109,117,116,97,116,105,111,110]⟩ : BA))] jr (fun jt ju => ∃ jv, jt = .returned (.string jv) /\ (KeepT 26 jr ju /\ KeepT 40 jr ju /\ True) /\ True /\ CP 34 #[.pointer a, (.string (⟨#[115,117,98,115,99,114,105,112,116,105,111,110]⟩ : BA))] ju (fun jx jy => ∃ jz, jx = .returned (.string jz) /\ (KeepT 26 ju jy /\ KeepT 40 ju jy /\ True) /\ True /\ True /\ True /\ (let jA := setB jy (J.heap.size) [.slice G H I, .slice jm jn jo, .string js, .string jv, .string jz, .slice none 0 0, .slice none 0 0] 40;
 True /\ ∃ jB, a = some jB /\ ∃ jC jD jE, jA.cell? jB = some (.slice jC jD jE) /\ ∃ (jF : Int -> OA -> Nat -> Nat -> OA -> Nat -> Nat -> BA -> BA -> BA -> OA -> Nat -> Nat -> OA -> Nat -> Nat -> World -> Prop) (jG : Int -> OA -> Nat -> Nat -> OA -> Nat -> Nat -> BA -> BA -> BA -> OA -> Nat -> Nat -> OA -> Nat -> Nat -> World -> Nat), jF 0 G H I jm jn jo js jv jz none 0 0 none 0 0 jA /\
 (∀ jH : Int, ∀ (jI : OA) (jJ jK : Nat), ∀ (jL : OA) (jM jN : Nat), ∀ jO : BA, ∀ jP : BA, ∀ jQ : BA, ∀ (jS : OA) (jU jV : Nat), ∀ (jW : OA) (jX jY : Nat), ∀ jZ : World, jF jH jI jJ jK jL jM jN jO jP jQ jS jU jV jW jX jY jZ ->
 (((decide (jH < (jD : Int))) = true ->
 ∀ ka : OA -> Nat -> Nat -> OA -> Nat -> Nat -> BA -> BA -> BA -> OA -> Nat -> Nat -> OA -> Nat -> Nat -> World -> Prop, (∀ (kb : OA) (kc kd : Nat), ∀ (ke : OA) (kf kg : Nat), ∀ kh : BA, ∀ ki : BA, ∀ kj : BA, ∀ (kk : OA) (kl km : Nat), ∀ (kn : OA) (ko kp : Nat), ∀ kq : World,
 ((jF (IntKind.i64.wrap (jH + 1)) kb kc kd ke kf kg kh ki kj kk kl km kn ko kp kq /\ jG (IntKind.i64.wrap (jH + 1)) kb kc kd ke kf kg kh ki kj kk kl km kn ko kp kq < jG jH jI jJ jK jL jM jN jO jP jQ jS jU jV jW jX jY jZ)) ->
 ka kb kc kd ke kf kg kh ki kj kk kl km kn ko kp kq) ->
 ∃ kr, jC = some kr /\ (0 <= jH /\ jH < (jD : Int)) /\ ∃ ks, jZ.cell? (kr.add (jH.toNat * 8)) = some (.string ks) /\ ∃ kt, jZ.cell? ((kr.add (jH.toNat * 8)).add 1) = some (.string kt) /\ ∃ ku, jZ.cell? ((kr.add (jH.toNat * 8)).add 2) = some (.string ku) /\ ∃ kv kx ky, jZ.cell? ((kr.add (jH.toNat * 8)).add 3) = some (.slice kv kx ky) /\ ∃ kz kA kB, jZ.cell? ((kr.add (jH.toNat * 8)).add 4) = some (.slice kz kA kB) /\ ∃ kC kD kE, jZ.cell? ((kr.add (jH.toNat * 8)).add 5) = some (.slice kC kD kE) /\ ∃ kF kG kH, jZ.cell? ((kr.add (jH.toNat * 8)).add 6) = some (.slice kF kG kH) /\ ∃ kI kJ kK, jZ.cell? ((kr.add (jH.toNat * 8)).add 7) = some (.slice kI kJ kK) /\ True /\ (let kL := jZ.alloc (.cells #[(.string (⟨#[]⟩ : BA)), (.string (⟨#[]⟩ : BA)), (.string (⟨#[]⟩ : BA)), .slice none 0 0, .slice none 0 0, .slice none 0 0, .slice none 0 0, .slice none 0 0] 75);
 True /\ (let kM := jZ.alloc (.cells #[.string ks, .string kt, .string ku, .slice kv kx ky, .slice kz kA kB, .slice kC kD kE, .slice kF kG kH, .slice kI kJ kK] 75);
 ∀ kN : OA -> Nat -> Nat -> OA -> Nat -> Nat -> BA -> BA -> BA -> OA -> Nat -> Nat -> OA -> Nat -> Nat -> World -> Prop, (∀ (kO : OA) (kP kQ : Nat), ∀ (kS : OA) (kU kV : Nat), ∀ kW : BA, ∀ kX : BA, ∀ kY : BA, ∀ (kZ : OA) (la lb : Nat), ∀ (lc : OA) (ld le : Nat), ∀ lf : World,
 (CP 37 #[.pointer a, .string ku] lf (fun lg lh => ∃ li lj lk, lg = .returned (.slice li lj lk) /\ (KeepT 26 lf lh /\ KeepT 40 lf lh /\ KeepT 75 lf lh /\ True) /\ (((decide ((lj : Int) > 0)) = true ->
 True /\ True /\ (let ll := lh.alloc (.cells #[.string ku, .slice li lj lk] 78);
 ∃ lm ln lo, ∃ lp, (Go.builtin .append #[38, 38] 38 #[false, false] #[.slice lc ld le, (.slice (some (adr lh.heap.size)) 1 1)]).run Tryz.prog ll = .ok (.value (.slice lm ln lo)) lp /\ (KeepT 26 ll lp /\ KeepT 40 ll lp /\ KeepT 75 ll lp /\ True) /\ True /\ (let lq := setB lp (J.heap.size) [.slice kO kP kQ, .slice kS kU kV, .string kW, .string kX, .string kY, .slice kZ la lb, .slice lm ln lo] 40;
 ka kO kP kQ kS kU kV kW kX kY kZ la lb lm ln lo lq))) /\
 ((decide ((lj : Int) > 0)) = false ->
 ka kO kP kQ kS kU kV kW kX kY kZ la lb lc ld le lh)))) ->
 kN kO kP kQ kS kU kV kW kX kY kZ la lb lc ld le lf) ->
 CP 35 #[.string ks] kM (fun lr ls => ∃ lt, lr = .returned (.bool lt) /\ (KeepT 26 kM ls /\ KeepT 40 kM ls /\ KeepT 75 kM ls /\ True) /\ ((lt = true ->
 ∀ lu, lu = ls.drew -> CP 36 #[.pointer a, .string ku] lu (fun lv lx => ∃ ly lz lA, lv = .returned (.slice ly lz lA) /\ (KeepT 26 lu lx /\ KeepT 40 lu lx /\ KeepT 75 lu lx /\ True) /\ ((1 = 1) /\ (2 = 2) /\ True) /\ True /\ True /\ (let lB := lx.alloc (.cells #[.string ku, .slice ly lz lA] 78);
 ((2 = 2) /\ True) /\ ∃ lC lD lE, ∃ lF, (Go.builtin .append #[38, 38] 38 #[false, false] #[.slice jS jU jV, (.slice (some (adr lx.heap.size)) 1 1)]).run Tryz.prog lB = .ok (.value (.slice lC lD lE)) lF /\ (KeepT 26 lB lF /\ KeepT 40 lB lF /\ KeepT 75 lB lF /\ True) /\ True /\ True /\ (let lG := setB lF (J.heap.size) [.slice jI jJ jK, .slice jL jM jN, .string jO, .string jP, .string jQ, .slice lC lD lE, .slice jW jX jY] 40;
 True /\ kN jI jJ jK jL jM jN jO jP jQ lC lD lE jW jX jY lG)))) /\
 (lt = false ->
 kN jI jJ jK jL jM jN jO jP jQ jS jU jV jW jX jY ls)))))) /\
 ((decide (jH < (jD : Int))) = false ->
 True /\ (let lH := setB jZ (w.heap.size) [.slice jI jJ jK, .slice jL jM jN, .string jO, .string jP, .string jQ, .slice jS jU jV, .slice jW jX jY] 40;
 R (.returned (.agg #[.slice jI jJ jK, .slice jL jM jN, .string jO, .string jP, .string jQ, .slice jS jU jV, .slice jW jX jY])) lH)))))))))))) /\
 (True /\ (let lI := x.alloc (.cells #[.slice none 0 0, .slice none 0 0, (.string (⟨#[]⟩ : BA)), (.string (⟨#[]⟩ : BA)), (.string (⟨#[]⟩ : BA)), .slice none 0 0, .slice none 0 0] 40);
 ((lI.cell? (C.add 2) = x.cell? (C.add 2)) /\ (1 = 1) /\ (lI.cell? y = x.cell? y) /\ (1 = 1) /\ True) /\ ∃ lJ lK lL, ∃ lM, (Go.builtin .append #[24, 24] 24 #[false, false] #[.slice o p q, .slice z A B]).run Tryz.prog lI = .ok (.value (.slice lJ lK lL)) lM /\ (KeepT 26 lI lM /\ KeepT 40 lI lM /\ True) /\ ((lM.cell? (C.add 2) = lI.cell? (C.add 2)) /\ (1 = 1) /\ True) /\ ∃ lN lO lP, ∃ lQ, (Go.builtin .append #[23, 23] 23 #[false, false] #[.slice l m n, .slice D E F]).run Tryz.prog lM = .ok (.value (.slice lN lO lP)) lQ /\ (KeepT 26 lM lQ /\ KeepT 40 lM lQ /\ True) /\ True /\ CP 34 #[.pointer a, (.string (⟨#[113,117,101,114,121]⟩ : BA))] lQ (fun lS lU => ∃ lV, lS = .returned (.string lV) /\ (KeepT 26 lQ lU /\ KeepT 40 lQ lU /\ True) /\ True /\ CP 34 #[.pointer a, (.string (⟨#[109,117,116,97,116,105,111,110]⟩ : BA))] lU (fun lW lX => ∃ lY, lW = .returned (.string lY) /\ (KeepT 26 lU lX /\ KeepT 40 lU lX /\ True) /\ True /\ CP 34 #[.pointer a, (.string (⟨#[115,117,98,115,99,114,105,112,116,105,111,110]⟩ : BA))] lX (fun lZ ma => ∃ mb, lZ = .returned (.string mb) /\ (KeepT 26 lX ma /\ KeepT 40 lX ma /\ True) /\ True /\ True /\ True /\ (let mc := setB ma (x.heap.size) [.slice lJ lK lL, .slice lN lO lP, .string lV, .string lY, .string mb, .slice none 0 0, .slice none 0 0] 40;
 True /\ ∃ md, a = some md /\ ∃ me mf mg, mc.cell? md = some (.slice me mf mg) /\ ∃ (mh : Int -> OA -> Nat -> Nat -> OA -> Nat -> Nat -> BA -> BA -> BA -> OA -> Nat -> Nat -> OA -> Nat -> Nat -> World -> Prop) (mi : Int -> OA -> Nat -> Nat -> OA -> Nat -> Nat -> BA -> BA -> BA -> OA -> Nat -> Nat -> OA -> Nat -> Nat -> World -> Nat), mh 0 lJ lK lL lN lO lP lV lY mb none 0 0 none 0 0 mc /\
 (∀ mj : Int, ∀ (mk : OA) (ml mm : Nat), ∀ (mn : OA) (mo mp : Nat), ∀ mq : BA, ∀ mr : BA, ∀ ms : BA, ∀ (mt : OA) (mu mv : Nat), ∀ (mx : OA) (my mz : Nat), ∀ mA : World, mh mj mk ml mm mn mo mp mq mr ms mt mu mv mx my mz mA ->
 (((decide (mj < (mf : Int))) = true ->
 ∀ mB : OA -> Nat -> Nat -> OA -> Nat -> Nat -> BA -> BA -> BA -> OA -> Nat -> Nat -> OA -> Nat -> Nat -> World -> Prop, (∀ (mC : OA) (mD mE : Nat), ∀ (mF : OA) (mG mH : Nat), ∀ mI : BA, ∀ mJ : BA, ∀ mK : BA, ∀ (mL : OA) (mM mN : Nat), ∀ (mO : OA) (mP mQ : Nat), ∀ mS : World,
 ((mh (IntKind.i64.wrap (mj + 1)) mC mD mE mF mG mH mI mJ mK mL mM mN mO mP mQ mS /\ mi (IntKind.i64.wrap (mj + 1)) mC mD mE mF mG mH mI mJ mK mL mM mN mO mP mQ mS < mi mj mk ml mm mn mo mp mq mr ms mt mu mv mx my mz mA)) ->
 mB mC mD mE mF mG mH mI mJ mK mL mM mN mO mP mQ mS) ->
 ∃ mU, me = some mU /\ (0 <= mj /\ mj < (mf : Int)) /\ ∃ mV, mA.cell? (mU.add (mj.toNat * 8)) = some (.string mV) /\ ∃ mW, mA.cell? ((mU.add (mj.toNat * 8)).add 1) = some (.string mW) /\ ∃ mX, mA.cell? ((mU.add (mj.toNat * 8)).add 2) = some (.string mX) /\ ∃ mY mZ na, mA.cell? ((mU.add (mj.toNat * 8)).add 3) = some (.slice mY mZ na) /\ ∃ nb nc nd, mA.cell? ((mU.add (mj.toNat * 8)).add 4) = some (.slice nb nc nd) /\ ∃ ne nf ng, mA.cell? ((mU.add (mj.toNat * 8)).add 5) = some (.slice ne nf ng) /\ ∃ nh ni nj, mA.cell? ((mU.add (mj.toNat * 8)).add 6) = some (.slice nh ni nj) /\ ∃ nk nl nm, mA.cell? ((mU.add (mj.toNat * 8)).add 7) = some (.slice nk nl nm) /\ True /\ (let nn := mA.alloc (.cells #[(.string (⟨#[]⟩ : BA)), (.string (⟨#[]⟩ : BA)), (.string (⟨#[]⟩ : BA)), .slice none 0 0, .slice none 0 0, .slice none 0 0, .slice none 0 0, .slice none 0 0] 75);
 True /\ (let no := mA.alloc (.cells #[.string mV, .string mW, .string mX, .slice mY mZ na, .slice nb nc nd, .slice ne nf ng, .slice nh ni nj, .slice nk nl nm] 75);
 ∀ np : OA -> Nat -> Nat -> OA -> Nat -> Nat -> BA -> BA -> BA -> OA -> Nat -> Nat -> OA -> Nat -> Nat -> World -> Prop, (∀ (nq : OA) (nr ns : Nat), ∀ (nt : OA) (nu nv : Nat), ∀ nx : BA, ∀ ny : BA, ∀ nz : BA, ∀ (nA : OA) (nB nC : Nat), ∀ (nD : OA) (nE nF : Nat), ∀ nG : World,
 (CP 37 #[.pointer a, .string mX] nG (fun nH nI => ∃ nJ nK nL, nH = .returned (.slice nJ nK nL) /\ (KeepT 26 nG nI /\ KeepT 40 nG nI /\ KeepT 75 nG nI /\ True) /\ (((decide ((nK : Int) > 0)) = true ->
 True /\ True /\ (let nM := nI.alloc (.cells #[.string mX, .slice nJ nK nL] 78);
 ∃ nN nO nP, ∃ nQ, (Go.builtin .append #[38, 38] 38 #[false, false] #[.slice nD nE nF, (.slice (some (adr nI.heap.size)) 1 1)]).run Tryz.prog nM = .ok (.value (.slice nN nO nP)) nQ /\ (KeepT 26 nM nQ /\ KeepT 40 nM nQ /\ KeepT 75 nM nQ /\ True) /\ True /\ (let nS := setB nQ (x.heap.size) [.slice nq nr ns, .slice nt nu nv, .string nx, .string ny, .string nz, .slice nA nB nC, .slice nN nO nP] 40;
 mB nq nr ns nt nu nv nx ny nz nA nB nC nN nO nP nS))) /\
 ((decide ((nK : Int) > 0)) = false ->
 mB nq nr ns nt nu nv nx ny nz nA nB nC nD nE nF nI)))) ->
 np nq nr ns nt nu nv nx ny nz nA nB nC nD nE nF nG) ->
 CP 35 #[.string mV] no (fun nU nV => ∃ nW, nU = .returned (.bool nW) /\ (KeepT 26 no nV /\ KeepT 40 no nV /\ KeepT 75 no nV /\ True) /\ ((nW = true ->
 ∀ nX, nX = nV.drew -> CP 36 #[.pointer a, .string mX] nX (fun nY nZ => ∃ oa ob oc, nY = .returned (.slice oa ob oc) /\ (KeepT 26 nX nZ /\ KeepT 40 nX nZ /\ KeepT 75 nX nZ /\ True) /\ ((1 = 1) /\ (2 = 2) /\ True) /\ True /\ True /\ (let od := nZ.alloc (.cells #[.string mX, .slice oa ob oc] 78);
 ((2 = 2) /\ True) /\ ∃ oe of og, ∃ oh, (Go.builtin .append #[38, 38] 38 #[false, false] #[.slice mt mu mv, (.slice (some (adr nZ.heap.size)) 1 1)]).run Tryz.prog od = .ok (.value (.slice oe of og)) oh /\ (KeepT 26 od oh /\ KeepT 40 od oh /\ KeepT 75 od oh /\ True) /\ True /\ True /\ (let oi := setB oh (x.heap.size) [.slice mk ml mm, .slice mn mo mp, .string mq, .string mr, .string ms, .slice oe of og, .slice mx my mz] 40;
 True /\ np mk ml mm mn mo mp mq mr ms oe of og mx my mz oi)))) /\
 (nW = false ->
 np mk ml mm mn mo mp mq mr ms mt mu mv mx my mz nV)))))) /\
 ((decide (mj < (mf : Int))) = false ->
 True /\ (let oj := setB mA (w.heap.size) [.slice mk ml mm, .slice mn mo mp, .string mq, .string mr, .string ms, .slice mt mu mv, .slice mx my mz] 40;
 R (.returned (.agg #[.slice mk ml mm, .slice mn mo mp, .string mq, .string mr, .string ms, .slice mt mu mv, .slice mx my mz])) oj)))))))))))))))) : CP 13 #[.pointer a] w R :=
 vcq Tryz.func13 [2, 3, 4, 6] [(10, ⟨[(35, .int .i64)],[(2, [.slice, .slice, .str, .str, .str, .slice, .slice])]⟩), (17, ⟨[],[(2, [.slice, .slice, .str, .str, .str, .slice, .slice])]⟩), (21, ⟨[],[(2, [.slice, .slice, .str, .str, .str, .slice, .slice])]⟩)] [.l (.optr a)] h
end Go.VC
