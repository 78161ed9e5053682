/- Part of the proof of a law of a rule over documents (TextA), where what the arguments hold is of bulk at most 1048576. -/
import Derived.Test.YtgckkmmljfioaaaGreatBaseB
set_option linter.unusedVariables false
set_option linter.unusedSimpArgs false
set_option linter.unusedSectionVars false
set_option linter.deprecated false
namespace Go.VC
open Go Go.Proofs
set_option maxRecDepth 100000
theorem q_in (a : BA) (b : OA) (c d : Nat) (w : World) (R : EW) (h :
 ∃ (e : Int -> World -> Prop) (f : Int -> World -> Nat), e 0 w /\
 (∀ g : Int, ∀ i : World, e g i ->
 (((decide (g < (c : Int))) = true ->
 ∃ j, b = some j /\ (0 <= g /\ g < (c : Int)) /\ ∃ k, i.cell? (j.add (g.toNat * 1)) = some (.string k) /\ (((k.toList == a.toList) = true ->
 R (.returned (.bool true)) i) /\
 ((k.toList == a.toList) = false ->
 (e (IntKind.i64.wrap (g + 1)) i /\ f (IntKind.i64.wrap (g + 1)) i < f g i)))) /\
 ((decide (g < (c : Int))) = false ->
 R (.returned (.bool false)) i)))) : CP 48 #[.string a, .slice b c d] w R :=
 vcq Tryz.func48 [] [(6, ⟨[(9, .int .i64)],[]⟩)] [.l (.str a), .l (.slice b c d)] h
theorem q_IsInput (a : BA) (w : World) (R : EW) (h :
 ∀ b : Bool -> World -> Prop, (∀ c : Bool, ∀ d : World,
 (R (.returned (.bool c)) d) ->
 b c d) ->
 (((a.toList == (⟨#[83,67,65,76,65,82]⟩ : BA).toList) = false -> (((a.toList == (⟨#[69,78,85,77]⟩ : BA).toList) = false -> b (a.toList == (⟨#[73,78,80,85,84,95,79,66,74,69,67,84]⟩ : BA).toList) w) /\ ((a.toList == (⟨#[69,78,85,77]⟩ : BA).toList) = true -> b true w))) /\ ((a.toList == (⟨#[83,67,65,76,65,82]⟩ : BA).toList) = true -> b true w))) : CP 85 #[.string a] w R :=
 vcq Tryz.func85 [] [(2, ⟨[(2, .bool)],[]⟩)] [.l (.str a)] h
theorem q_Base (a : BA) (b : OA) (c d : Nat) (e : Bool) (w : World) (R : EW) (h :
 True /\ (let f := w.alloc (.cells #[.string a, .slice b c d, .bool e] 56);
 ∃ (g : BA -> OA -> Nat -> Nat -> Bool -> World -> Prop) (i : BA -> OA -> Nat -> Nat -> Bool -> World -> Nat), g a b c d e f /\
 (∀ j : BA, ∀ (k : OA) (l m : Nat), ∀ n : Bool, ∀ o : World, g j k l m n o ->
 (((decide ((l : Int) > 0)) = true ->
 ∃ p, k = some p /\ (0 <= (0 : Int) /\ 0 < (l : Int)) /\ ∃ q, o.cell? (p.add ((0 : Int).toNat * 3)) = some (.string q) /\ ∃ r s t, o.cell? ((p.add ((0 : Int).toNat * 3)).add 1) = some (.slice r s t) /\ ∃ u, o.cell? ((p.add ((0 : Int).toNat * 3)).add 2) = some (.bool u) /\ True /\ (let v := setB o (w.heap.size) [.string q, .slice r s t, .bool u] 56;
 (g q r s t u v /\ i q r s t u v < i j k l m n o))) /\
 ((decide ((l : Int) > 0)) = false ->
 R (.returned (.string j)) o))))) : CP 30 #[(.agg #[.string a, .slice b c d, .bool e])] w R :=
 vcq Tryz.func30 [1] [(4, ⟨[],[(0, [.str, .slice, .bool])]⟩)] [.agg [.str a, .slice b c d, .bool e]] h
theorem q_World_Root (a : OA) (b : BA) (w : World) (R : EW) (h :
 ∃ c, a = some c /\ ∃ d e f, w.cell? (c.add 1) = some (.slice d e f) /\ ∃ (g : Int -> World -> Prop) (i : Int -> World -> Nat), g 0 w /\
 (∀ j : Int, ∀ k : World, g j k ->
 (((decide (j < (e : Int))) = true ->
 ∃ l, d = some l /\ (0 <= j /\ j < (e : Int)) /\ ∃ m, k.cell? (l.add (j.toNat * 2)) = some (.string m) /\ ∃ n, k.cell? ((l.add (j.toNat * 2)).add 1) = some (.string n) /\ True /\ (let o := k.alloc (.cells #[(.string (⟨#[]⟩ : BA)), (.string (⟨#[]⟩ : BA))] 146);
 True /\ (let p := k.alloc (.cells #[.string m, .string n] 146);
 (((m.toList == b.toList) = true ->
 R (.returned (.string n)) p) /\
 ((m.toList == b.toList) = false ->
 (g (IntKind.i64.wrap (j + 1)) p /\ i (IntKind.i64.wrap (j + 1)) p < i j k)))))) /\
 ((decide (j < (e : Int))) = false ->
 R (.returned (.string (⟨#[]⟩ : BA))) k)))) : CP 34 #[.pointer a, .string b] w R :=
 vcq Tryz.func34 [6] [(6, ⟨[(12, .int .i64)],[]⟩)] [.l (.optr a), .l (.str b)] h
theorem q_IsComposite (a : BA) (w : World) (R : EW) (h :
 ∀ b : Bool -> World -> Prop, (∀ c : Bool, ∀ d : World,
 (R (.returned (.bool c)) d) ->
 b c d) ->
 (((a.toList == (⟨#[79,66,74,69,67,84]⟩ : BA).toList) = false -> (((a.toList == (⟨#[73,78,84,69,82,70,65,67,69]⟩ : BA).toList) = false -> b (a.toList == (⟨#[85,78,73,79,78]⟩ : BA).toList) w) /\ ((a.toList == (⟨#[73,78,84,69,82,70,65,67,69]⟩ : BA).toList) = true -> b true w))) /\ ((a.toList == (⟨#[79,66,74,69,67,84]⟩ : BA).toList) = true -> b true w))) : CP 35 #[.string a] w R :=
 vcq Tryz.func35 [] [(2, ⟨[(2, .bool)],[]⟩)] [.l (.str a)] h
theorem q_World_kind (a : OA) (b : BA) (c : OA) (d e : Nat) (f : Bool) (w : World) (R : EW) (h :
 True /\ (let g := w.alloc (.cells #[.string b, .slice c d e, .bool f] 56);
 CP 30 #[(.agg #[.string b, .slice c d e, .bool f])] g (fun i j => ∃ k, i = .returned (.string k) /\ (KeepT 56 g j /\ True) /\ CP 70 #[.pointer a, .string k] j (fun l m => ∃ n, ∃ o, ∃ p, ∃ q r s, ∃ t u v, ∃ x y z, ∃ A B C, ∃ D E F, ∃ G, l = .returned (.tuple #[(.agg #[.string n, .string o, .string p, .slice q r s, .slice t u v, .slice x y z, .slice A B C, .slice D E F]), .bool G]) /\ (KeepT 56 j m /\ True) /\ True /\ (let H := m.alloc (.cells #[(.string (⟨#[]⟩ : BA)), (.string (⟨#[]⟩ : BA)), (.string (⟨#[]⟩ : BA)), .slice none 0 0, .slice none 0 0, .slice none 0 0, .slice none 0 0, .slice none 0 0] 75);
 True /\ (let I := m.alloc (.cells #[.string n, .string o, .string p, .slice q r s, .slice t u v, .slice x y z, .slice A B C, .slice D E F] 75);
 R (.returned (.string n)) I)))))) : CP 84 #[.pointer a, (.agg #[.string b, .slice c d e, .bool f])] w R :=
 vcq Tryz.func84 [3, 5] [] [.l (.optr a), .agg [.str b, .slice c d e, .bool f]] h
theorem q_World_Find (a : OA) (b : BA) (w : World) (R : EW) (h :
 True /\ (let c := w.alloc (.cells #[(.string (⟨#[]⟩ : BA)), (.string (⟨#[]⟩ : BA)), (.string (⟨#[]⟩ : BA)), .slice none 0 0, .slice none 0 0, .slice none 0 0, .slice none 0 0, .slice none 0 0] 75);
 ∃ d, a = some d /\ ∃ e f g, c.cell? d = some (.slice e f g) /\ ∃ (i : Int -> BA -> BA -> BA -> OA -> Nat -> Nat -> OA -> Nat -> Nat -> OA -> Nat -> Nat -> OA -> Nat -> Nat -> OA -> Nat -> Nat -> World -> Prop) (j : Int -> BA -> BA -> BA -> OA -> Nat -> Nat -> OA -> Nat -> Nat -> OA -> Nat -> Nat -> OA -> Nat -> Nat -> OA -> Nat -> Nat -> World -> Nat), i 0 (⟨#[]⟩ : BA) (⟨#[]⟩ : BA) (⟨#[]⟩ : BA) none 0 0 none 0 0 none 0 0 none 0 0 none 0 0 c /\
 (∀ k : Int, ∀ l : BA, ∀ m : BA, ∀ n : BA, ∀ (o : OA) (p q : Nat), ∀ (r : OA) (s t : Nat), ∀ (u : OA) (v x : Nat), ∀ (y : OA) (z A : Nat), ∀ (B : OA) (C D : Nat), ∀ E : World, i k l m n o p q r s t u v x y z A B C D E ->
 (((decide (k < (f : Int))) = true ->
 ∃ F, e = some F /\ (0 <= k /\ k < (f : Int)) /\ ∃ G, E.cell? (F.add (k.toNat * 8)) = some (.string G) /\ ∃ H, E.cell? ((F.add (k.toNat * 8)).add 1) = some (.string H) /\ ∃ I, E.cell? ((F.add (k.toNat * 8)).add 2) = some (.string I) /\ ∃ J K L, E.cell? ((F.add (k.toNat * 8)).add 3) = some (.slice J K L) /\ ∃ M N O, E.cell? ((F.add (k.toNat * 8)).add 4) = some (.slice M N O) /\ ∃ P Q S, E.cell? ((F.add (k.toNat * 8)).add 5) = some (.slice P Q S) /\ ∃ U V W, E.cell? ((F.add (k.toNat * 8)).add 6) = some (.slice U V W) /\ ∃ X Y Z, E.cell? ((F.add (k.toNat * 8)).add 7) = some (.slice X Y Z) /\ True /\ (let aa := E.alloc (.cells #[(.string (⟨#[]⟩ : BA)), (.string (⟨#[]⟩ : BA)), (.string (⟨#[]⟩ : BA)), .slice none 0 0, .slice none 0 0, .slice none 0 0, .slice none 0 0, .slice none 0 0] 75);
 True /\ (let ab := E.alloc (.cells #[.string G, .string H, .string I, .slice J K L, .slice M N O, .slice P Q S, .slice U V W, .slice X Y Z] 75);
 (((I.toList == b.toList) = true ->
 True /\ (let ac := setB ab (w.heap.size) [.string G, .string H, .string I, .slice J K L, .slice M N O, .slice P Q S, .slice U V W, .slice X Y Z] 75;
 R (.returned (.tuple #[(.agg #[.string G, .string H, .string I, .slice J K L, .slice M N O, .slice P Q S, .slice U V W, .slice X Y Z]), .bool true])) ac)) /\
 ((I.toList == b.toList) = false ->
 (i (IntKind.i64.wrap (k + 1)) l m n o p q r s t u v x y z A B C D ab /\ j (IntKind.i64.wrap (k + 1)) l m n o p q r s t u v x y z A B C D ab < j k l m n o p q r s t u v x y z A B C D E)))))) /\
 ((decide (k < (f : Int))) = false ->
 CP 67 #[] E (fun ad ae => ∃ af ag ah, ad = .returned (.slice af ag ah) /\ (KeepT 75 E ae /\ True) /\ CP 48 #[.string b, .slice af ag ah] ae (fun ai aj => ∃ ak, ai = .returned (.bool ak) /\ (KeepT 75 ae aj /\ True) /\ ((ak = true ->
 True /\ True /\ (let al := setB aj (w.heap.size) [(.string (⟨#[83,67,65,76,65,82]⟩ : BA)), (.string (⟨#[]⟩ : BA)), .string b, .slice none 0 0, .slice none 0 0, .slice none 0 0, .slice none 0 0, .slice none 0 0] 75;
 R (.returned (.tuple #[(.agg #[(.string (⟨#[83,67,65,76,65,82]⟩ : BA)), (.string (⟨#[]⟩ : BA)), .string b, .slice none 0 0, .slice none 0 0, .slice none 0 0, .slice none 0 0, .slice none 0 0]), .bool true])) al)) /\
 (ak = false ->
 True /\ True /\ (let am := setB aj (w.heap.size) [(.string (⟨#[]⟩ : BA)), (.string (⟨#[]⟩ : BA)), (.string (⟨#[]⟩ : BA)), .slice none 0 0, .slice none 0 0, .slice none 0 0, .slice none 0 0, .slice none 0 0] 75;
 R (.returned (.tuple #[(.agg #[(.string (⟨#[]⟩ : BA)), (.string (⟨#[]⟩ : BA)), (.string (⟨#[]⟩ : BA)), .slice none 0 0, .slice none 0 0, .slice none 0 0, .slice none 0 0, .slice none 0 0]), .bool false])) am)))))))))) : CP 70 #[.pointer a, .string b] w R :=
 vcq Tryz.func70 [4, 7] [(6, ⟨[(13, .int .i64)],[(0, [.str, .str, .str, .slice, .slice, .slice, .slice, .slice])]⟩)] [.l (.optr a), .l (.str b)] h
theorem q_size (a : OA) (b c : Nat) (w : World) (R : EW) (h :
 ∃ (d : Int -> Int -> World -> Prop) (e : Int -> Int -> World -> Nat), d (b : Int) 0 w /\
 (∀ f : Int, ∀ g : Int, ∀ i : World, d f g i ->
 (((decide (g < (b : Int))) = true ->
 ∃ j, a = some j /\ (0 <= g /\ g < (b : Int)) /\ ∃ k, i.cell? (j.add (g.toNat * 7)) = some (.int .i64 k) /\ ∃ l, i.cell? ((j.add (g.toNat * 7)).add 1) = some (.string l) /\ ∃ m, i.cell? ((j.add (g.toNat * 7)).add 2) = some (.string m) /\ ∃ n, i.cell? ((j.add (g.toNat * 7)).add 3) = some (.string n) /\ ∃ o p q, i.cell? ((j.add (g.toNat * 7)).add 4) = some (.slice o p q) /\ ∃ r s t, i.cell? ((j.add (g.toNat * 7)).add 5) = some (.slice r s t) /\ ∃ u v x, i.cell? ((j.add (g.toNat * 7)).add 6) = some (.slice u v x) /\ True /\ (let y := i.alloc (.cells #[.int .i64 0, (.string (⟨#[]⟩ : BA)), (.string (⟨#[]⟩ : BA)), (.string (⟨#[]⟩ : BA)), .slice none 0 0, .slice none 0 0, .slice none 0 0] 96);
 True /\ (let z := i.alloc (.cells #[.int .i64 k, .string l, .string m, .string n, .slice o p q, .slice r s t, .slice u v x] 96);
 CP 27 #[.slice u v x] z (fun A B => ∃ C, A = .returned (.int .i64 C) /\ (KeepT 96 z B /\ True) /\ (d (IntKind.i64.wrap (f + C)) (IntKind.i64.wrap (g + 1)) B /\ e (IntKind.i64.wrap (f + C)) (IntKind.i64.wrap (g + 1)) B < e f g i))))) /\
 ((decide (g < (b : Int))) = false ->
 R (.returned (.int .i64 f)) i)))) : CP 27 #[.slice a b c] w R :=
 vcq Tryz.func27 [5] [(8, ⟨[(3, .int .i64), (10, .int .i64)],[]⟩)] [.l (.slice a b c)] h
theorem q_anyHidden (a : OA) (b c : Nat) (w : World) (R : EW) (h :
 ∃ (d : Int -> World -> Prop) (e : Int -> World -> Nat), d 0 w /\
 (∀ f : Int, ∀ g : World, d f g ->
 (((decide (f < (b : Int))) = true ->
 ∃ i, a = some i /\ (0 <= f /\ f < (b : Int)) /\ ∃ j, g.cell? (i.add (f.toNat * 7)) = some (.int .i64 j) /\ ∃ k, g.cell? ((i.add (f.toNat * 7)).add 1) = some (.string k) /\ ∃ l, g.cell? ((i.add (f.toNat * 7)).add 2) = some (.string l) /\ ∃ m, g.cell? ((i.add (f.toNat * 7)).add 3) = some (.string m) /\ ∃ n o p, g.cell? ((i.add (f.toNat * 7)).add 4) = some (.slice n o p) /\ ∃ q r s, g.cell? ((i.add (f.toNat * 7)).add 5) = some (.slice q r s) /\ ∃ t u v, g.cell? ((i.add (f.toNat * 7)).add 6) = some (.slice t u v) /\ True /\ (let x := g.alloc (.cells #[.int .i64 0, (.string (⟨#[]⟩ : BA)), (.string (⟨#[]⟩ : BA)), (.string (⟨#[]⟩ : BA)), .slice none 0 0, .slice none 0 0, .slice none 0 0] 96);
 True /\ (let y := g.alloc (.cells #[.int .i64 j, .string k, .string l, .string m, .slice n o p, .slice q r s, .slice t u v] 96);
 ∀ z : Bool -> World -> Prop, (∀ A : Bool, ∀ B : World,
 (((A = true ->
 R (.returned (.bool true)) B) /\
 (A = false ->
 (d (IntKind.i64.wrap (f + 1)) B /\ e (IntKind.i64.wrap (f + 1)) B < e f g)))) ->
 z A B) ->
 CP 29 #[.string l] y (fun C D => ∃ E, C = .returned (.bool E) /\ (KeepT 96 y D /\ True) /\ ((E = false -> CP 29 #[.string k] D (fun F G => ∃ H, F = .returned (.bool H) /\ (KeepT 96 D G /\ True) /\ ((H = false -> CP 29 #[.string m] G (fun I J => ∃ K, I = .returned (.bool K) /\ (KeepT 96 G J /\ True) /\ ((K = false -> CP 28 #[.slice t u v] J (fun L M => ∃ N, L = .returned (.bool N) /\ (KeepT 96 J M /\ True) /\ z N M)) /\ (K = true -> z true J)))) /\ (H = true -> z true G)))) /\ (E = true -> z true D)))))) /\
 ((decide (f < (b : Int))) = false ->
 R (.returned (.bool false)) g)))) : CP 28 #[.slice a b c] w R :=
 vcq Tryz.func28 [4] [(6, ⟨[(7, .int .i64)],[]⟩), (17, ⟨[(28, .bool)],[]⟩)] [.l (.slice a b c)] h
theorem q_hidden (a : BA) (w : World) (R : EW) (h :
 ∀ b : Bool -> World -> Prop, (∀ c : Bool, ∀ d : World,
 (R (.returned (.bool c)) d) ->
 b c d) ->
 (((decide ((a.size : Int) ≥ 2)) = true -> (0 <= (0 : Int) /\ (0 : Int) <= (2 : Int) /\ 2 <= (a.size : Int)) /\ ((((a.extract (0 : Int).toNat (2 : Int).toNat).toList == (⟨#[95,95]⟩ : BA).toList) = true -> b (!(a.toList == (⟨#[95,95,116,121,112,101,110,97,109,101]⟩ : BA).toList)) w) /\ (((a.extract (0 : Int).toNat (2 : Int).toNat).toList == (⟨#[95,95]⟩ : BA).toList) = false -> b false w))) /\ ((decide ((a.size : Int) ≥ 2)) = false -> b false w))) : CP 29 #[.string a] w R :=
 vcq Tryz.func29 [] [(2, ⟨[(2, .bool)],[]⟩)] [.l (.str a)] h
theorem q_IsStart (a : Int) (w : World) (R : EW) (h :
 ∀ b : Bool -> World -> Prop, (∀ c : Bool, ∀ d : World,
 (R (.returned (.bool c)) d) ->
 b c d) ->
 (((a == 95) = false -> (((decide (a ≥ 97)) = true -> (((decide (a <= 122)) = false -> (((decide (a ≥ 65)) = true -> b (decide (a <= 90)) w) /\ ((decide (a ≥ 65)) = false -> b false w))) /\ ((decide (a <= 122)) = true -> b true w))) /\ ((decide (a ≥ 97)) = false -> (((decide (a ≥ 65)) = true -> b (decide (a <= 90)) w) /\ ((decide (a ≥ 65)) = false -> b false w))))) /\ ((a == 95) = true -> b true w))) : CP 90 #[.int .i32 a] w R :=
 vcq Tryz.func90 [] [(2, ⟨[(2, .bool)],[]⟩)] [.l (.int .i32 a)] h
theorem q_IsDigit (a : Int) (w : World) (R : EW) (h :
 ∀ b : Bool -> World -> Prop, (∀ c : Bool, ∀ d : World,
 (R (.returned (.bool c)) d) ->
 b c d) ->
 (((decide (a ≥ 48)) = true -> b (decide (a <= 57)) w) /\ ((decide (a ≥ 48)) = false -> b false w))) : CP 91 #[.int .i32 a] w R :=
 vcq Tryz.func91 [] [(2, ⟨[(2, .bool)],[]⟩)] [.l (.int .i32 a)] h
theorem q_IsName (a : BA) (w : World) (R : EW) (h :
 ∃ (b : Int -> World -> Prop) (c : Int -> World -> Nat), b 0 w /\
 (∀ d : Int, ∀ e : World, b d e ->
 (((decide (d < (a.size : Int))) = true ->
 (0 <= d /\ d < (a.size : Int)) /\ ∀ f : Bool -> World -> Prop, (∀ g : Bool, ∀ i : World,
 (((g = true ->
 R (.returned (.bool false)) i) /\
 (g = false ->
 (b (IntKind.i64.wrap (d + 1)) i /\ c (IntKind.i64.wrap (d + 1)) i < c d e)))) ->
 f g i) ->
 CP 90 #[(.int .i32 (IntKind.i32.wrap (sget a d)))] e (fun j k => ∃ l, j = .returned (.bool l) /\ True /\ (((!l) = true -> (((d == 0) = false -> CP 91 #[(.int .i32 (IntKind.i32.wrap (sget a d)))] k (fun m n => ∃ o, m = .returned (.bool o) /\ True /\ f (!o) n)) /\ ((d == 0) = true -> f true k))) /\ ((!l) = false -> f false k)))) /\
 ((decide (d < (a.size : Int))) = false ->
 R (.returned (.bool (!(a.toList == (⟨#[]⟩ : BA).toList)))) e)))) : CP 54 #[.string a] w R :=
 vcq Tryz.func54 [] [(6, ⟨[(3, .int .i64)],[]⟩), (17, ⟨[(26, .bool)],[]⟩)] [.l (.str a)] h
theorem q_names (a : OA) (b c : Nat) (w : World) (R : EW) (h :
 ∃ (d : Int -> World -> Prop) (e : Int -> World -> Nat), d 0 w /\
 (∀ f : Int, ∀ g : World, d f g ->
 (((decide (f < (b : Int))) = true ->
 ∃ i, a = some i /\ (0 <= f /\ f < (b : Int)) /\ ∃ j, g.cell? (i.add (f.toNat * 1)) = some (.string j) /\ CP 54 #[.string j] g (fun k l => ∃ m, k = .returned (.bool m) /\ True /\ (((!m) = true ->
 R (.returned (.bool false)) l) /\
 ((!m) = false ->
 (d (IntKind.i64.wrap (f + 1)) l /\ e (IntKind.i64.wrap (f + 1)) l < e f g))))) /\
 ((decide (f < (b : Int))) = false ->
 R (.returned (.bool true)) g)))) : CP 108 #[.slice a b c] w R :=
 vcq Tryz.func108 [] [(6, ⟨[(7, .int .i64)],[]⟩)] [.l (.slice a b c)] h
theorem q_Straight (a : BA) (w : World) (R : EW) (h :
 ∃ (b : Int -> World -> Prop) (c : Int -> World -> Nat), b 0 w /\
 (∀ d : Int, ∀ e : World, b d e ->
 (((decide (d < (a.size : Int))) = true ->
 ∀ f : Bool -> World -> Prop, (∀ g : Bool, ∀ i : World,
 (((g = true ->
 R (.returned (.bool false)) i) /\
 (g = false ->
 (b (IntKind.i64.wrap (d + 1)) i /\ c (IntKind.i64.wrap (d + 1)) i < c d e)))) ->
 f g i) ->
 (0 <= d /\ d < (a.size : Int)) /\ (((decide ((sget a d) < 32)) = false -> (0 <= d /\ d < (a.size : Int)) /\ (((decide ((sget a d) > 126)) = false -> (0 <= d /\ d < (a.size : Int)) /\ ((((sget a d) == 34) = false -> (0 <= d /\ d < (a.size : Int)) /\ f ((sget a d) == 92) e) /\ (((sget a d) == 34) = true -> f true e))) /\ ((decide ((sget a d) > 126)) = true -> f true e))) /\ ((decide ((sget a d) < 32)) = true -> f true e))) /\
 ((decide (d < (a.size : Int))) = false ->
 ∀ j : Bool -> World -> Prop, (∀ k : Bool, ∀ l : World,
 (R (.returned (.bool k)) l) ->
 j k l) ->
 (((!(a.toList == (⟨#[]⟩ : BA).toList)) = true -> (0 <= (0 : Int) /\ 0 < (a.size : Int)) /\ ((((sget a 0) != 32) = true -> (0 <= (IntKind.i64.wrap ((a.size : Int) - 1)) /\ (IntKind.i64.wrap ((a.size : Int) - 1)) < (a.size : Int)) /\ ((((sget a (IntKind.i64.wrap ((a.size : Int) - 1))) != 32) = true -> j (decide ((a.size : Int) <= 65536)) e) /\ (((sget a (IntKind.i64.wrap ((a.size : Int) - 1))) != 32) = false -> j false e))) /\ (((sget a 0) != 32) = false -> j false e))) /\ ((!(a.toList == (⟨#[]⟩ : BA).toList)) = false -> j false e)))))) : CP 107 #[.string a] w R :=
 vcq Tryz.func107 [] [(6, ⟨[(3, .int .i64)],[]⟩), (15, ⟨[(31, .bool)],[]⟩), (23, ⟨[(2, .bool)],[]⟩)] [.l (.str a)] h
theorem q_fitsDoc (a : BA) (w : World) (R : EW) (h :
 ∀ b : Bool -> World -> Prop, (∀ c : Bool, ∀ d : World,
 (R (.returned (.bool c)) d) ->
 b c d) ->
 (((a.toList == (⟨#[]⟩ : BA).toList) = false -> CP 107 #[.string a] w (fun e f => ∃ g, e = .returned (.bool g) /\ True /\ b g f)) /\ ((a.toList == (⟨#[]⟩ : BA).toList) = true -> b true w))) : CP 79 #[.string a] w R :=
 vcq Tryz.func79 [] [(2, ⟨[(2, .bool)],[]⟩)] [.l (.str a)] h
theorem q_Easy (a : BA) (w : World) (R : EW) (h :
 ∃ (b : Int -> World -> Prop) (c : Int -> World -> Nat), b 0 w /\
 (∀ d : Int, ∀ e : World, b d e ->
 (((decide (d < (a.size : Int))) = true ->
 ∀ f : Bool -> World -> Prop, (∀ g : Bool, ∀ i : World,
 (((g = true ->
 R (.returned (.bool false)) i) /\
 (g = false ->
 (b (IntKind.i64.wrap (d + 1)) i /\ c (IntKind.i64.wrap (d + 1)) i < c d e)))) ->
 f g i) ->
 (0 <= d /\ d < (a.size : Int)) /\ ((((sget a d) != 9) = true -> (0 <= d /\ d < (a.size : Int)) /\ ((((sget a d) != 10) = true -> (0 <= d /\ d < (a.size : Int)) /\ (((decide ((sget a d) < 32)) = false -> (0 <= d /\ d < (a.size : Int)) /\ f (decide ((sget a d) > 126)) e) /\ ((decide ((sget a d) < 32)) = true -> f true e))) /\ (((sget a d) != 10) = false -> f false e))) /\ (((sget a d) != 9) = false -> f false e))) /\
 ((decide (d < (a.size : Int))) = false ->
 R (.returned (.bool (decide ((a.size : Int) <= 65536)))) e)))) : CP 123 #[.string a] w R :=
 vcq Tryz.func123 [] [(6, ⟨[(3, .int .i64)],[]⟩), (15, ⟨[(31, .bool)],[]⟩)] [.l (.str a)] h
theorem q_nameKind (a : BA) (w : World) (R : EW) (h :
 ∀ b : Bool -> World -> Prop, (∀ c : Bool, ∀ d : World,
 (((c = true ->
 R (.returned (.int .i64 5)) d) /\
 (c = false ->
 (((a.toList == (⟨#[110,117,108,108]⟩ : BA).toList) = true ->
 R (.returned (.int .i64 6)) d) /\
 ((a.toList == (⟨#[110,117,108,108]⟩ : BA).toList) = false ->
 R (.returned (.int .i64 7)) d))))) ->
 b c d) ->
 (((a.toList == (⟨#[116,114,117,101]⟩ : BA).toList) = true ->
 b true w) /\
 ((a.toList == (⟨#[116,114,117,101]⟩ : BA).toList) = false ->
 b (a.toList == (⟨#[102,97,108,115,101]⟩ : BA).toList) w))) : CP 109 #[.string a] w R :=
 vcq Tryz.func109 [] [(6, ⟨[(4, .bool)],[]⟩)] [.l (.str a)] h
theorem q_FitsTyp (a : BA) (b : OA) (c d : Nat) (e : Bool) (f : Int) (w : World) (R : EW) (h :
 True /\ (let g := w.alloc (.cells #[.string a, .slice b c d, .bool e] 56);
 ((((c : Int) == 0) = true ->
 CP 54 #[.string a] g (fun i j => ∃ k, i = .returned (.bool k) /\ (KeepT 56 g j /\ True) /\ R (.returned (.bool k)) j)) /\
 (((c : Int) == 0) = false ->
 ∀ l : Bool -> World -> Prop, (∀ m : Bool, ∀ n : World,
 (R (.returned (.bool m)) n) ->
 l m n) ->
 (((decide (f > 0)) = true -> ((((c : Int) == 1) = true -> (((a.toList == (⟨#[]⟩ : BA).toList) = true -> ∃ o, b = some o /\ (0 <= (0 : Int) /\ 0 < (c : Int)) /\ ∃ p, g.cell? (o.add ((0 : Int).toNat * 3)) = some (.string p) /\ ∃ q r s, g.cell? ((o.add ((0 : Int).toNat * 3)).add 1) = some (.slice q r s) /\ ∃ t, g.cell? ((o.add ((0 : Int).toNat * 3)).add 2) = some (.bool t) /\ CP 92 #[(.agg #[.string p, .slice q r s, .bool t]), (.int .i64 (IntKind.i64.wrap (f - 1)))] g (fun u v => ∃ x, u = .returned (.bool x) /\ (KeepT 56 g v /\ True) /\ l x v)) /\ ((a.toList == (⟨#[]⟩ : BA).toList) = false -> l false g))) /\ (((c : Int) == 1) = false -> l false g))) /\ ((decide (f > 0)) = false -> l false g)))))) : CP 92 #[(.agg #[.string a, .slice b c d, .bool e]), .int .i64 f] w R :=
 vcq Tryz.func92 [2] [(10, ⟨[(4, .bool)],[]⟩)] [.agg [.str a, .slice b c d, .bool e], .l (.int .i64 f)] h
theorem q_fitsDef (a : OA) (b c : Nat) (d : Int) (w : World) (R : EW) (h :
 ∀ e : Bool -> World -> Prop, (∀ f : Bool, ∀ g : World,
 (R (.returned (.bool f)) g) ->
 e f g) ->
 ((((b : Int) == 0) = false -> ((((b : Int) == 1) = true -> ∃ i, a = some i /\ (0 <= (0 : Int) /\ 0 < (b : Int)) /\ ∃ j, w.cell? (i.add ((0 : Int).toNat * 3)) = some (.int .i64 j) /\ ∃ k, w.cell? ((i.add ((0 : Int).toNat * 3)).add 1) = some (.string k) /\ ∃ l m n, w.cell? ((i.add ((0 : Int).toNat * 3)).add 2) = some (.slice l m n) /\ CP 112 #[(.agg #[.int .i64 j, .string k, .slice l m n]), .bool true, .int .i64 d] w (fun o p => ∃ q, o = .returned (.bool q) /\ True /\ e q p)) /\ (((b : Int) == 1) = false -> e false w))) /\ (((b : Int) == 0) = true -> e true w))) : CP 93 #[.slice a b c, .int .i64 d] w R :=
 vcq Tryz.func93 [] [(2, ⟨[(4, .bool)],[]⟩)] [.l (.slice a b c), .l (.int .i64 d)] h
theorem q_fitsArgs (a : OA) (b c : Nat) (d : Bool) (e : Int) (w : World) (R : EW) (h :
 ∃ (f : Int -> World -> Prop) (g : Int -> World -> Nat), f 0 w /\
 (∀ i : Int, ∀ j : World, f i j ->
 (((decide (i < (b : Int))) = true ->
 ∃ k, a = some k /\ (0 <= i /\ i < (b : Int)) /\ ∃ l, j.cell? (k.add (i.toNat * 4)) = some (.string l) /\ ∃ m, j.cell? ((k.add (i.toNat * 4)).add 1) = some (.int .i64 m) /\ ∃ n, j.cell? ((k.add (i.toNat * 4)).add 2) = some (.string n) /\ ∃ o p q, j.cell? ((k.add (i.toNat * 4)).add 3) = some (.slice o p q) /\ True /\ (let r := j.alloc (.cells #[(.string (⟨#[]⟩ : BA)), .int .i64 0, (.string (⟨#[]⟩ : BA)), .slice none 0 0] 254);
 True /\ (let s := j.alloc (.cells #[.string l, .int .i64 m, .string n, .slice o p q] 254);
 ∀ t : Bool -> World -> Prop, (∀ u : Bool, ∀ v : World,
 (((u = true ->
 R (.returned (.bool false)) v) /\
 (u = false ->
 (f (IntKind.i64.wrap (i + 1)) v /\ g (IntKind.i64.wrap (i + 1)) v < g i j)))) ->
 t u v) ->
 CP 54 #[.string l] s (fun x y => ∃ z, x = .returned (.bool z) /\ (KeepT 254 s y /\ True) /\ (((!z) = false -> CP 112 #[(.agg #[.int .i64 m, .string n, .slice o p q]), .bool d, .int .i64 e] y (fun A B => ∃ C, A = .returned (.bool C) /\ (KeepT 254 y B /\ True) /\ t (!C) B)) /\ ((!z) = true -> t true y)))))) /\
 ((decide (i < (b : Int))) = false ->
 R (.returned (.bool true)) j)))) : CP 94 #[.slice a b c, .bool d, .int .i64 e] w R :=
 vcq Tryz.func94 [8] [(6, ⟨[(11, .int .i64)],[]⟩), (17, ⟨[(26, .bool)],[]⟩)] [.l (.slice a b c), .l (.bool d), .l (.int .i64 e)] h
theorem q_fitsDirs (a : OA) (b c : Nat) (d : Bool) (e : Int) (w : World) (R : EW) (h :
 ∃ (f : Int -> World -> Prop) (g : Int -> World -> Nat), f 0 w /\
 (∀ i : Int, ∀ j : World, f i j ->
 (((decide (i < (b : Int))) = true ->
 ∃ k, a = some k /\ (0 <= i /\ i < (b : Int)) /\ ∃ l, j.cell? (k.add (i.toNat * 2)) = some (.string l) /\ ∃ m n o, j.cell? ((k.add (i.toNat * 2)).add 1) = some (.slice m n o) /\ True /\ (let p := j.alloc (.cells #[(.string (⟨#[]⟩ : BA)), .slice none 0 0] 195);
 True /\ (let q := j.alloc (.cells #[.string l, .slice m n o] 195);
 ∀ r : Bool -> World -> Prop, (∀ s : Bool, ∀ t : World,
 (((s = true ->
 R (.returned (.bool false)) t) /\
 (s = false ->
 (f (IntKind.i64.wrap (i + 1)) t /\ g (IntKind.i64.wrap (i + 1)) t < g i j)))) ->
 r s t) ->
 CP 54 #[.string l] q (fun u v => ∃ x, u = .returned (.bool x) /\ (KeepT 195 q v /\ True) /\ (((!x) = false -> CP 94 #[.slice m n o, .bool d, .int .i64 e] v (fun y z => ∃ A, y = .returned (.bool A) /\ (KeepT 195 v z /\ True) /\ r (!A) z)) /\ ((!x) = true -> r true v)))))) /\
 ((decide (i < (b : Int))) = false ->
 R (.returned (.bool true)) j)))) : CP 56 #[.slice a b c, .bool d, .int .i64 e] w R :=
 vcq Tryz.func56 [8] [(6, ⟨[(11, .int .i64)],[]⟩), (17, ⟨[(26, .bool)],[]⟩)] [.l (.slice a b c), .l (.bool d), .l (.int .i64 e)] h
theorem q_fitsVars (a : OA) (b c : Nat) (d : Int) (w : World) (R : EW) (h :
 ∃ (e : Int -> World -> Prop) (f : Int -> World -> Nat), e 0 w /\
 (∀ g : Int, ∀ i : World, e g i ->
 (((decide (g < (b : Int))) = true ->
 ∃ j, a = some j /\ (0 <= g /\ g < (b : Int)) /\ ∃ k, i.cell? (j.add (g.toNat * 6)) = some (.string k) /\ ∃ l, i.cell? ((j.add (g.toNat * 6)).add 1) = some (.string l) /\ ∃ m n o, i.cell? ((j.add (g.toNat * 6)).add 2) = some (.slice m n o) /\ ∃ p, i.cell? ((j.add (g.toNat * 6)).add 3) = some (.bool p) /\ ∃ q r s, i.cell? ((j.add (g.toNat * 6)).add 4) = some (.slice q r s) /\ ∃ t u v, i.cell? ((j.add (g.toNat * 6)).add 5) = some (.slice t u v) /\ True /\ (let x := i.alloc (.cells #[(.string (⟨#[]⟩ : BA)), (.string (⟨#[]⟩ : BA)), .slice none 0 0, .bool false, .slice none 0 0, .slice none 0 0] 59);
 True /\ (let y := i.alloc (.cells #[.string k, .string l, .slice m n o, .bool p, .slice q r s, .slice t u v] 59);
 ∀ z : Bool -> World -> Prop, (∀ A : Bool, ∀ B : World,
 (((A = true ->
 R (.returned (.bool false)) B) /\
 (A = false ->
 (e (IntKind.i64.wrap (g + 1)) B /\ f (IntKind.i64.wrap (g + 1)) B < f g i)))) ->
 z A B) ->
 CP 54 #[.string k] y (fun C D => ∃ E, C = .returned (.bool E) /\ (KeepT 59 y D /\ True) /\ (((!E) = false -> CP 92 #[(.agg #[.string l, .slice m n o, .bool p]), .int .i64 d] D (fun F G => ∃ H, F = .returned (.bool H) /\ (KeepT 59 D G /\ True) /\ (((!H) = false -> CP 93 #[.slice q r s, .int .i64 d] G (fun I J => ∃ K, I = .returned (.bool K) /\ (KeepT 59 G J /\ True) /\ (((!K) = false -> CP 56 #[.slice t u v, .bool true, .int .i64 d] J (fun L M => ∃ N, L = .returned (.bool N) /\ (KeepT 59 J M /\ True) /\ z (!N) M)) /\ ((!K) = true -> z true J)))) /\ ((!H) = true -> z true G)))) /\ ((!E) = true -> z true D)))))) /\
 ((decide (g < (b : Int))) = false ->
 R (.returned (.bool true)) i)))) : CP 55 #[.slice a b c, .int .i64 d] w R :=
 vcq Tryz.func55 [6] [(6, ⟨[(9, .int .i64)],[]⟩), (17, ⟨[(37, .bool)],[]⟩)] [.l (.slice a b c), .l (.int .i64 d)] h
theorem q_fitsSel (a : Int) (b : BA) (c : BA) (d : BA) (e : OA) (f g : Nat) (i : OA) (j k : Nat) (l : OA) (m n : Nat) (o : Int) (w : World) (R : EW) (h :
 True /\ (let p := w.alloc (.cells #[.int .i64 a, .string b, .string c, .string d, .slice e f g, .slice i j k, .slice l m n] 96);
 CP 56 #[.slice i j k, .bool false, .int .i64 o] p (fun q r => ∃ s, q = .returned (.bool s) /\ (KeepT 96 p r /\ True) /\ (((!s) = true ->
 R (.returned (.bool false)) r) /\
 ((!s) = false ->
 (((a == 0) = true ->
 ∀ t : Bool -> World -> Prop, (∀ u : Bool, ∀ v : World,
 (R (.returned (.bool u)) v) ->
 t u v) ->
 (((d.toList == (⟨#[]⟩ : BA).toList) = true -> CP 54 #[.string c] r (fun x y => ∃ z, x = .returned (.bool z) /\ (KeepT 96 r y /\ True) /\ ((z = true -> (((b.toList == (⟨#[]⟩ : BA).toList) = false -> CP 54 #[.string b] y (fun A B => ∃ C, A = .returned (.bool C) /\ (KeepT 96 y B /\ True) /\ ((C = true -> CP 94 #[.slice e f g, .bool false, .int .i64 o] B (fun D E => ∃ F, D = .returned (.bool F) /\ (KeepT 96 B E /\ True) /\ ((F = true -> ((((m : Int) == 0) = false -> CP 57 #[.slice l m n, (.int .i64 (IntKind.i64.wrap (o - 1)))] E (fun G H => ∃ I, G = .returned (.bool I) /\ (KeepT 96 E H /\ True) /\ t I H)) /\ (((m : Int) == 0) = true -> t true E))) /\ (F = false -> t false E)))) /\ (C = false -> t false B)))) /\ ((b.toList == (⟨#[]⟩ : BA).toList) = true -> CP 94 #[.slice e f g, .bool false, .int .i64 o] y (fun J K => ∃ L, J = .returned (.bool L) /\ (KeepT 96 y K /\ True) /\ ((L = true -> ((((m : Int) == 0) = false -> CP 57 #[.slice l m n, (.int .i64 (IntKind.i64.wrap (o - 1)))] K (fun M N => ∃ O, M = .returned (.bool O) /\ (KeepT 96 K N /\ True) /\ t O N)) /\ (((m : Int) == 0) = true -> t true K))) /\ (L = false -> t false K)))))) /\ (z = false -> t false y)))) /\ ((d.toList == (⟨#[]⟩ : BA).toList) = false -> t false r))) /\
 ((a == 0) = false ->
 (((a == 1) = true ->
 ∀ P : Bool -> World -> Prop, (∀ Q : Bool, ∀ S : World,
 (R (.returned (.bool Q)) S) ->
 P Q S) ->
 CP 54 #[.string c] r (fun U V => ∃ W, U = .returned (.bool W) /\ (KeepT 96 r V /\ True) /\ ((W = true -> (((!(c.toList == (⟨#[111,110]⟩ : BA).toList)) = true -> ∃ X, ∃ Y, (eqGuard .add 9 (Operand.tmp 63) (Operand.tmp 65) (.string b) (.string d)).run Tryz.prog V = .ok () V /\ (binOp .add 9 (.string b) (.string d)).run Tryz.prog V = .ok (.string X) Y /\ (KeepT 96 V Y /\ True) /\ (((X.toList == (⟨#[]⟩ : BA).toList) = true -> P ((IntKind.i64.wrap ((f : Int) + (m : Int))) == 0) Y) /\ ((X.toList == (⟨#[]⟩ : BA).toList) = false -> P false Y))) /\ ((!(c.toList == (⟨#[111,110]⟩ : BA).toList)) = false -> P false V))) /\ (W = false -> P false V)))) /\
 ((a == 1) = false ->
 (((a == 2) = true ->
 ∀ Z : Bool -> World -> Prop, (∀ aa : Bool, ∀ ab : World,
 (R (.returned (.bool aa)) ab) ->
 Z aa ab) ->
 ∃ ac, ∃ ad, (eqGuard .add 9 (Operand.tmp 82) (Operand.tmp 84) (.string b) (.string c)).run Tryz.prog r = .ok () r /\ (binOp .add 9 (.string b) (.string c)).run Tryz.prog r = .ok (.string ac) ad /\ (KeepT 96 r ad /\ True) /\ (((ac.toList == (⟨#[]⟩ : BA).toList) = true -> (((d.toList == (⟨#[]⟩ : BA).toList) = false -> CP 54 #[.string d] ad (fun ae af => ∃ ag, ae = .returned (.bool ag) /\ (KeepT 96 ad af /\ True) /\ ((ag = true -> ((((f : Int) == 0) = true -> CP 57 #[.slice l m n, (.int .i64 (IntKind.i64.wrap (o - 1)))] af (fun ah ai => ∃ aj, ah = .returned (.bool aj) /\ (KeepT 96 af ai /\ True) /\ Z aj ai)) /\ (((f : Int) == 0) = false -> Z false af))) /\ (ag = false -> Z false af)))) /\ ((d.toList == (⟨#[]⟩ : BA).toList) = true -> ((((f : Int) == 0) = true -> CP 57 #[.slice l m n, (.int .i64 (IntKind.i64.wrap (o - 1)))] ad (fun ak al => ∃ am, ak = .returned (.bool am) /\ (KeepT 96 ad al /\ True) /\ Z am al)) /\ (((f : Int) == 0) = false -> Z false ad))))) /\ ((ac.toList == (⟨#[]⟩ : BA).toList) = false -> Z false ad))) /\
 ((a == 2) = false ->
 R (.returned (.bool false)) r))))))))))) : CP 95 #[(.agg #[.int .i64 a, .string b, .string c, .string d, .slice e f g, .slice i j k, .slice l m n]), .int .i64 o] w R :=
 vcq Tryz.func95 [2] [(17, ⟨[(4, .bool)],[]⟩), (23, ⟨[(4, .bool)],[]⟩), (29, ⟨[(4, .bool)],[]⟩)] [.agg [.int .i64 a, .str b, .str c, .str d, .slice e f g, .slice i j k, .slice l m n], .l (.int .i64 o)] h
theorem q_FitsSels (a : OA) (b c : Nat) (d : Int) (w : World) (R : EW) (h :
 ∀ e : Bool -> World -> Prop, (∀ f : Bool, ∀ g : World,
 (((f = true ->
 R (.returned (.bool false)) g) /\
 (f = false ->
 ∃ (i : Int -> World -> Prop) (j : Int -> World -> Nat), i 0 g /\
 (∀ k : Int, ∀ l : World, i k l ->
 (((decide (k < (b : Int))) = true ->
 ∃ m, a = some m /\ (0 <= k /\ k < (b : Int)) /\ ∃ n, l.cell? (m.add (k.toNat * 7)) = some (.int .i64 n) /\ ∃ o, l.cell? ((m.add (k.toNat * 7)).add 1) = some (.string o) /\ ∃ p, l.cell? ((m.add (k.toNat * 7)).add 2) = some (.string p) /\ ∃ q, l.cell? ((m.add (k.toNat * 7)).add 3) = some (.string q) /\ ∃ r s t, l.cell? ((m.add (k.toNat * 7)).add 4) = some (.slice r s t) /\ ∃ u v x, l.cell? ((m.add (k.toNat * 7)).add 5) = some (.slice u v x) /\ ∃ y z A, l.cell? ((m.add (k.toNat * 7)).add 6) = some (.slice y z A) /\ True /\ (let B := l.alloc (.cells #[.int .i64 0, (.string (⟨#[]⟩ : BA)), (.string (⟨#[]⟩ : BA)), (.string (⟨#[]⟩ : BA)), .slice none 0 0, .slice none 0 0, .slice none 0 0] 96);
 True /\ (let C := l.alloc (.cells #[.int .i64 n, .string o, .string p, .string q, .slice r s t, .slice u v x, .slice y z A] 96);
 CP 95 #[(.agg #[.int .i64 n, .string o, .string p, .string q, .slice r s t, .slice u v x, .slice y z A]), .int .i64 d] C (fun D E => ∃ F, D = .returned (.bool F) /\ (KeepT 96 C E /\ True) /\ (((!F) = true ->
 R (.returned (.bool false)) E) /\
 ((!F) = false ->
 (i (IntKind.i64.wrap (k + 1)) E /\ j (IntKind.i64.wrap (k + 1)) E < j k l))))))) /\
 ((decide (k < (b : Int))) = false ->
 R (.returned (.bool true)) l)))))) ->
 e f g) ->
 ((((b : Int) == 0) = false -> e (decide (d < 0)) w) /\ (((b : Int) == 0) = true -> e true w))) : CP 57 #[.slice a b c, .int .i64 d] w R :=
 vcq Tryz.func57 [6] [(3, ⟨[(13, .bool)],[]⟩), (14, ⟨[(16, .int .i64)],[]⟩)] [.l (.slice a b c), .l (.int .i64 d)] h
theorem q_FitsQuery (a : OA) (b c : Nat) (d : OA) (e f : Nat) (g : Int) (w : World) (R : EW) (h :
 True /\ (let i := w.alloc (.cells #[.slice a b c, .slice d e f] 30);
 ∃ (j : Int -> World -> Prop) (k : Int -> World -> Nat), j 0 i /\
 (∀ l : Int, ∀ m : World, j l m ->
 (((decide (l < (b : Int))) = true ->
 ∃ n, a = some n /\ (0 <= l /\ l < (b : Int)) /\ ∃ o, m.cell? (n.add (l.toNat * 5)) = some (.string o) /\ ∃ p, m.cell? ((n.add (l.toNat * 5)).add 1) = some (.string p) /\ ∃ q r s, m.cell? ((n.add (l.toNat * 5)).add 2) = some (.slice q r s) /\ ∃ t u v, m.cell? ((n.add (l.toNat * 5)).add 3) = some (.slice t u v) /\ ∃ x y z, m.cell? ((n.add (l.toNat * 5)).add 4) = some (.slice x y z) /\ True /\ (let A := m.alloc (.cells #[(.string (⟨#[]⟩ : BA)), (.string (⟨#[]⟩ : BA)), .slice none 0 0, .slice none 0 0, .slice none 0 0] 51);
 True /\ (let B := m.alloc (.cells #[.string o, .string p, .slice q r s, .slice t u v, .slice x y z] 51);
 ∀ C : Bool -> World -> Prop, (∀ D : Bool, ∀ E : World,
 (((D = true ->
 R (.returned (.bool false)) E) /\
 (D = false ->
 ∀ F : Bool -> World -> Prop, (∀ G : Bool, ∀ H : World,
 (((G = true ->
 R (.returned (.bool false)) H) /\
 (G = false ->
 (j (IntKind.i64.wrap (l + 1)) H /\ k (IntKind.i64.wrap (l + 1)) H < k l m)))) ->
 F G H) ->
 (((!(p.toList == (⟨#[]⟩ : BA).toList)) = true -> CP 54 #[.string p] E (fun I J => ∃ K, I = .returned (.bool K) /\ (KeepT 30 E J /\ KeepT 51 E J /\ True) /\ (((!K) = false -> CP 55 #[.slice q r s, .int .i64 g] J (fun L M => ∃ N, L = .returned (.bool N) /\ (KeepT 30 J M /\ KeepT 51 J M /\ True) /\ (((!N) = false -> CP 56 #[.slice t u v, .bool false, .int .i64 g] M (fun O P => ∃ Q, O = .returned (.bool Q) /\ (KeepT 30 M P /\ KeepT 51 M P /\ True) /\ (((!Q) = false -> CP 57 #[.slice x y z, .int .i64 g] P (fun S U => ∃ V, S = .returned (.bool V) /\ (KeepT 30 P U /\ KeepT 51 P U /\ True) /\ F (!V) U)) /\ ((!Q) = true -> F true P)))) /\ ((!N) = true -> F true M)))) /\ ((!K) = true -> F true J)))) /\ ((!(p.toList == (⟨#[]⟩ : BA).toList)) = false -> CP 55 #[.slice q r s, .int .i64 g] E (fun W X => ∃ Y, W = .returned (.bool Y) /\ (KeepT 30 E X /\ KeepT 51 E X /\ True) /\ (((!Y) = false -> CP 56 #[.slice t u v, .bool false, .int .i64 g] X (fun Z aa => ∃ ab, Z = .returned (.bool ab) /\ (KeepT 30 X aa /\ KeepT 51 X aa /\ True) /\ (((!ab) = false -> CP 57 #[.slice x y z, .int .i64 g] aa (fun ac ad => ∃ ae, ac = .returned (.bool ae) /\ (KeepT 30 aa ad /\ KeepT 51 aa ad /\ True) /\ F (!ae) ad)) /\ ((!ab) = true -> F true aa)))) /\ ((!Y) = true -> F true X)))))))) ->
 C D E) ->
 (((!(o.toList == (⟨#[113,117,101,114,121]⟩ : BA).toList)) = true -> (((!(o.toList == (⟨#[109,117,116,97,116,105,111,110]⟩ : BA).toList)) = true -> C (!(o.toList == (⟨#[115,117,98,115,99,114,105,112,116,105,111,110]⟩ : BA).toList)) B) /\ ((!(o.toList == (⟨#[109,117,116,97,116,105,111,110]⟩ : BA).toList)) = false -> C false B))) /\ ((!(o.toList == (⟨#[113,117,101,114,121]⟩ : BA).toList)) = false -> C false B))))) /\
 ((decide (l < (b : Int))) = false ->
 ∃ (af : Int -> World -> Prop) (ag : Int -> World -> Nat), af 0 m /\
 (∀ ah : Int, ∀ ai : World, af ah ai ->
 (((decide (ah < (e : Int))) = true ->
 ∃ aj, d = some aj /\ (0 <= ah /\ ah < (e : Int)) /\ ∃ ak, ai.cell? (aj.add (ah.toNat * 4)) = some (.string ak) /\ ∃ al, ai.cell? ((aj.add (ah.toNat * 4)).add 1) = some (.string al) /\ ∃ am an ao, ai.cell? ((aj.add (ah.toNat * 4)).add 2) = some (.slice am an ao) /\ ∃ ap aq ar, ai.cell? ((aj.add (ah.toNat * 4)).add 3) = some (.slice ap aq ar) /\ True /\ (let au := ai.alloc (.cells #[(.string (⟨#[]⟩ : BA)), (.string (⟨#[]⟩ : BA)), .slice none 0 0, .slice none 0 0] 63);
 True /\ (let av := ai.alloc (.cells #[.string ak, .string al, .slice am an ao, .slice ap aq ar] 63);
 ∀ ax : Bool -> World -> Prop, (∀ ay : Bool, ∀ az : World,
 (((ay = true ->
 R (.returned (.bool false)) az) /\
 (ay = false ->
 (af (IntKind.i64.wrap (ah + 1)) az /\ ag (IntKind.i64.wrap (ah + 1)) az < ag ah ai)))) ->
 ax ay az) ->
 CP 54 #[.string ak] av (fun aA aB => ∃ aC, aA = .returned (.bool aC) /\ (KeepT 30 av aB /\ KeepT 63 av aB /\ True) /\ (((!aC) = false -> (((ak.toList == (⟨#[111,110]⟩ : BA).toList) = false -> CP 54 #[.string al] aB (fun aD aE => ∃ aF, aD = .returned (.bool aF) /\ (KeepT 30 aB aE /\ KeepT 63 aB aE /\ True) /\ (((!aF) = false -> CP 56 #[.slice am an ao, .bool false, .int .i64 g] aE (fun aG aH => ∃ aI, aG = .returned (.bool aI) /\ (KeepT 30 aE aH /\ KeepT 63 aE aH /\ True) /\ (((!aI) = false -> CP 57 #[.slice ap aq ar, .int .i64 g] aH (fun aJ aK => ∃ aL, aJ = .returned (.bool aL) /\ (KeepT 30 aH aK /\ KeepT 63 aH aK /\ True) /\ ax (!aL) aK)) /\ ((!aI) = true -> ax true aH)))) /\ ((!aF) = true -> ax true aE)))) /\ ((ak.toList == (⟨#[111,110]⟩ : BA).toList) = true -> ax true aB))) /\ ((!aC) = true -> ax true aB)))))) /\
 ((decide (ah < (e : Int))) = false ->
 R (.returned (.bool (decide ((IntKind.i64.wrap ((b : Int) + (e : Int))) > 0)))) ai)))))))) : CP 26 #[(.agg #[.slice a b c, .slice d e f]), .int .i64 g] w R :=
 vcq Tryz.func26 [2, 6, 8] [(6, ⟨[(12, .int .i64)],[]⟩), (18, ⟨[(28, .bool)],[]⟩), (25, ⟨[(58, .bool)],[]⟩), (37, ⟨[(63, .int .i64)],[]⟩), (48, ⟨[(95, .bool)],[]⟩)] [.agg [.slice a b c, .slice d e f], .l (.int .i64 g)] h
theorem q_fitsRoots (a : BA) (b : OA) (c d : Nat) (e : OA) (f g : Nat) (i : Int) (w : World) (R : EW) (h :
 True /\ (let j := w.alloc (.cells #[.string a, .slice b c d, .slice e f g] 181);
 ∃ (k : Int -> World -> Prop) (l : Int -> World -> Nat), k 0 j /\
 (∀ m : Int, ∀ n : World, k m n ->
 (((decide (m < (f : Int))) = true ->
 ∃ o, e = some o /\ (0 <= m /\ m < (f : Int)) /\ ∃ p, n.cell? (o.add (m.toNat * 2)) = some (.string p) /\ ∃ q, n.cell? ((o.add (m.toNat * 2)).add 1) = some (.string q) /\ True /\ (let r := n.alloc (.cells #[(.string (⟨#[]⟩ : BA)), (.string (⟨#[]⟩ : BA))] 146);
 True /\ (let s := n.alloc (.cells #[.string p, .string q] 146);
 ∀ t : Bool -> World -> Prop, (∀ u : Bool, ∀ v : World,
 (((u = true ->
 R (.returned (.bool false)) v) /\
 (u = false ->
 (k (IntKind.i64.wrap (m + 1)) v /\ l (IntKind.i64.wrap (m + 1)) v < l m n)))) ->
 t u v) ->
 (((!(p.toList == (⟨#[113,117,101,114,121]⟩ : BA).toList)) = true -> (((!(p.toList == (⟨#[109,117,116,97,116,105,111,110]⟩ : BA).toList)) = true -> (((!(p.toList == (⟨#[115,117,98,115,99,114,105,112,116,105,111,110]⟩ : BA).toList)) = false -> CP 54 #[.string q] s (fun x y => ∃ z, x = .returned (.bool z) /\ (KeepT 181 s y /\ KeepT 146 s y /\ True) /\ t (!z) y)) /\ ((!(p.toList == (⟨#[115,117,98,115,99,114,105,112,116,105,111,110]⟩ : BA).toList)) = true -> t true s))) /\ ((!(p.toList == (⟨#[109,117,116,97,116,105,111,110]⟩ : BA).toList)) = false -> CP 54 #[.string q] s (fun A B => ∃ C, A = .returned (.bool C) /\ (KeepT 181 s B /\ KeepT 146 s B /\ True) /\ t (!C) B)))) /\ ((!(p.toList == (⟨#[113,117,101,114,121]⟩ : BA).toList)) = false -> CP 54 #[.string q] s (fun D E => ∃ F, D = .returned (.bool F) /\ (KeepT 181 s E /\ KeepT 146 s E /\ True) /\ t (!F) E)))))) /\
 ((decide (m < (f : Int))) = false ->
 ∀ G : Bool -> World -> Prop, (∀ H : Bool, ∀ I : World,
 (R (.returned (.bool H)) I) ->
 G H I) ->
 CP 79 #[.string a] n (fun J K => ∃ L, J = .returned (.bool L) /\ (KeepT 181 n K /\ True) /\ ((L = true -> (((decide ((f : Int) > 0)) = true -> CP 56 #[.slice b c d, .bool true, .int .i64 i] K (fun M N => ∃ O, M = .returned (.bool O) /\ (KeepT 181 K N /\ True) /\ G O N)) /\ ((decide ((f : Int) > 0)) = false -> G false K))) /\ (L = false -> G false K)))))))) : CP 78 #[(.agg #[.string a, .slice b c d, .slice e f g]), .int .i64 i] w R :=
 vcq Tryz.func78 [2, 6] [(6, ⟨[(10, .int .i64)],[]⟩), (17, ⟨[(32, .bool)],[]⟩), (25, ⟨[(4, .bool)],[]⟩)] [.agg [.str a, .slice b c d, .slice e f g], .l (.int .i64 i)] h
theorem q_fitsArgDefs (a : OA) (b c : Nat) (d : Int) (w : World) (R : EW) (h :
 ∃ (e : Int -> World -> Prop) (f : Int -> World -> Nat), e 0 w /\
 (∀ g : Int, ∀ i : World, e g i ->
 (((decide (g < (b : Int))) = true ->
 ∃ j, a = some j /\ (0 <= g /\ g < (b : Int)) /\ ∃ k, i.cell? (j.add (g.toNat * 7)) = some (.string k) /\ ∃ l, i.cell? ((j.add (g.toNat * 7)).add 1) = some (.string l) /\ ∃ m, i.cell? ((j.add (g.toNat * 7)).add 2) = some (.string m) /\ ∃ n o p, i.cell? ((j.add (g.toNat * 7)).add 3) = some (.slice n o p) /\ ∃ q, i.cell? ((j.add (g.toNat * 7)).add 4) = some (.bool q) /\ ∃ r s t, i.cell? ((j.add (g.toNat * 7)).add 5) = some (.slice r s t) /\ ∃ u v x, i.cell? ((j.add (g.toNat * 7)).add 6) = some (.slice u v x) /\ True /\ (let y := i.alloc (.cells #[(.string (⟨#[]⟩ : BA)), (.string (⟨#[]⟩ : BA)), (.string (⟨#[]⟩ : BA)), .slice none 0 0, .bool false, .slice none 0 0, .slice none 0 0] 141);
 True /\ (let z := i.alloc (.cells #[.string k, .string l, .string m, .slice n o p, .bool q, .slice r s t, .slice u v x] 141);
 ∀ A : Bool -> World -> Prop, (∀ B : Bool, ∀ C : World,
 (((B = true ->
 R (.returned (.bool false)) C) /\
 (B = false ->
 (e (IntKind.i64.wrap (g + 1)) C /\ f (IntKind.i64.wrap (g + 1)) C < f g i)))) ->
 A B C) ->
 CP 79 #[.string k] z (fun D E => ∃ F, D = .returned (.bool F) /\ (KeepT 141 z E /\ True) /\ (((!F) = false -> CP 54 #[.string l] E (fun G H => ∃ I, G = .returned (.bool I) /\ (KeepT 141 E H /\ True) /\ (((!I) = false -> CP 92 #[(.agg #[.string m, .slice n o p, .bool q]), .int .i64 d] H (fun J K => ∃ L, J = .returned (.bool L) /\ (KeepT 141 H K /\ True) /\ (((!L) = false -> CP 93 #[.slice r s t, .int .i64 d] K (fun M N => ∃ O, M = .returned (.bool O) /\ (KeepT 141 K N /\ True) /\ (((!O) = false -> CP 56 #[.slice u v x, .bool true, .int .i64 d] N (fun P Q => ∃ S, P = .returned (.bool S) /\ (KeepT 141 N Q /\ True) /\ A (!S) Q)) /\ ((!O) = true -> A true N)))) /\ ((!L) = true -> A true K)))) /\ ((!I) = true -> A true H)))) /\ ((!F) = true -> A true E)))))) /\
 ((decide (g < (b : Int))) = false ->
 R (.returned (.bool true)) i)))) : CP 80 #[.slice a b c, .int .i64 d] w R :=
 vcq Tryz.func80 [6] [(6, ⟨[(9, .int .i64)],[]⟩), (17, ⟨[(43, .bool)],[]⟩)] [.l (.slice a b c), .l (.int .i64 d)] h
theorem q_IsLocation (a : BA) (w : World) (R : EW) (h :
 ∀ b : Bool -> World -> Prop, (∀ c : Bool, ∀ d : World,
 (((c = true ->
 R (.returned (.bool true)) d) /\
 (c = false ->
 ∀ e : Bool -> World -> Prop, (∀ f : Bool, ∀ g : World,
 (((f = true ->
 R (.returned (.bool true)) g) /\
 (f = false ->
 R (.returned (.bool false)) g))) ->
 e f g) ->
 (((a.toList == (⟨#[83,67,72,69,77,65]⟩ : BA).toList) = true ->
 e true d) /\
 ((a.toList == (⟨#[83,67,72,69,77,65]⟩ : BA).toList) = false ->
 (((a.toList == (⟨#[83,67,65,76,65,82]⟩ : BA).toList) = true ->
 e true d) /\
 ((a.toList == (⟨#[83,67,65,76,65,82]⟩ : BA).toList) = false ->
 (((a.toList == (⟨#[79,66,74,69,67,84]⟩ : BA).toList) = true ->
 e true d) /\
 ((a.toList == (⟨#[79,66,74,69,67,84]⟩ : BA).toList) = false ->
 (((a.toList == (⟨#[70,73,69,76,68,95,68,69,70,73,78,73,84,73,79,78]⟩ : BA).toList) = true ->
 e true d) /\
 ((a.toList == (⟨#[70,73,69,76,68,95,68,69,70,73,78,73,84,73,79,78]⟩ : BA).toList) = false ->
 (((a.toList == (⟨#[65,82,71,85,77,69,78,84,95,68,69,70,73,78,73,84,73,79,78]⟩ : BA).toList) = true ->
 e true d) /\
 ((a.toList == (⟨#[65,82,71,85,77,69,78,84,95,68,69,70,73,78,73,84,73,79,78]⟩ : BA).toList) = false ->
 (((a.toList == (⟨#[73,78,84,69,82,70,65,67,69]⟩ : BA).toList) = true ->
 e true d) /\
 ((a.toList == (⟨#[73,78,84,69,82,70,65,67,69]⟩ : BA).toList) = false ->
 (((a.toList == (⟨#[85,78,73,79,78]⟩ : BA).toList) = true ->
 e true d) /\
 ((a.toList == (⟨#[85,78,73,79,78]⟩ : BA).toList) = false ->
 (((a.toList == (⟨#[69,78,85,77]⟩ : BA).toList) = true ->
 e true d) /\
 ((a.toList == (⟨#[69,78,85,77]⟩ : BA).toList) = false ->
 (((a.toList == (⟨#[69,78,85,77,95,86,65,76,85,69]⟩ : BA).toList) = true ->
 e true d) /\
 ((a.toList == (⟨#[69,78,85,77,95,86,65,76,85,69]⟩ : BA).toList) = false ->
 (((a.toList == (⟨#[73,78,80,85,84,95,79,66,74,69,67,84]⟩ : BA).toList) = true ->
 e true d) /\
 ((a.toList == (⟨#[73,78,80,85,84,95,79,66,74,69,67,84]⟩ : BA).toList) = false ->
 e (a.toList == (⟨#[73,78,80,85,84,95,70,73,69,76,68,95,68,69,70,73,78,73,84,73,79,78]⟩ : BA).toList) d))))))))))))))))))))))) ->
 b c d) ->
 (((a.toList == (⟨#[81,85,69,82,89]⟩ : BA).toList) = true ->
 b true w) /\
 ((a.toList == (⟨#[81,85,69,82,89]⟩ : BA).toList) = false ->
 (((a.toList == (⟨#[77,85,84,65,84,73,79,78]⟩ : BA).toList) = true ->
 b true w) /\
 ((a.toList == (⟨#[77,85,84,65,84,73,79,78]⟩ : BA).toList) = false ->
 (((a.toList == (⟨#[83,85,66,83,67,82,73,80,84,73,79,78]⟩ : BA).toList) = true ->
 b true w) /\
 ((a.toList == (⟨#[83,85,66,83,67,82,73,80,84,73,79,78]⟩ : BA).toList) = false ->
 (((a.toList == (⟨#[70,73,69,76,68]⟩ : BA).toList) = true ->
 b true w) /\
 ((a.toList == (⟨#[70,73,69,76,68]⟩ : BA).toList) = false ->
 (((a.toList == (⟨#[70,82,65,71,77,69,78,84,95,68,69,70,73,78,73,84,73,79,78]⟩ : BA).toList) = true ->
 b true w) /\
 ((a.toList == (⟨#[70,82,65,71,77,69,78,84,95,68,69,70,73,78,73,84,73,79,78]⟩ : BA).toList) = false ->
 (((a.toList == (⟨#[70,82,65,71,77,69,78,84,95,83,80,82,69,65,68]⟩ : BA).toList) = true ->
 b true w) /\
 ((a.toList == (⟨#[70,82,65,71,77,69,78,84,95,83,80,82,69,65,68]⟩ : BA).toList) = false ->
 (((a.toList == (⟨#[73,78,76,73,78,69,95,70,82,65,71,77,69,78,84]⟩ : BA).toList) = true ->
 b true w) /\
 ((a.toList == (⟨#[73,78,76,73,78,69,95,70,82,65,71,77,69,78,84]⟩ : BA).toList) = false ->
 b (a.toList == (⟨#[86,65,82,73,65,66,76,69,95,68,69,70,73,78,73,84,73,79,78]⟩ : BA).toList) w))))))))))))))) : CP 81 #[.string a] w R :=
 vcq Tryz.func81 [] [(6, ⟨[(4, .bool)],[]⟩), (40, ⟨[(13, .bool)],[]⟩)] [.l (.str a)] h
theorem q_FitsDef (a : BA) (b : BA) (c : BA) (d : OA) (e f : Nat) (g : OA) (i j : Nat) (k : OA) (l m : Nat) (n : OA) (o p : Nat) (q : OA) (r s : Nat) (t : Int) (w : World) (R : EW) (h :
 True /\ (let u := w.alloc (.cells #[.string a, .string b, .string c, .slice d e f, .slice g i j, .slice k l m, .slice n o p, .slice q r s] 75);
 ∀ v : Bool -> World -> Prop, (∀ x : Bool, ∀ y : World,
 (((x = true ->
 R (.returned (.bool false)) y) /\
 (x = false ->
 ∀ z, z = y.drew -> ((0 = 0) /\ (0 = 0) /\ (0 = 0) /\ True) /\ ((0 = 0) /\ (0 = 0) /\ True) /\ ((0 = 0) /\ True) /\ True /\ ∃ (A : Int -> World -> Prop) (B : Int -> World -> Nat), A 0 z /\
 (∀ C : Int, ∀ D : World, A C D ->
 (((decide (C < (r : Int))) = true ->
 ∃ E, q = some E /\ (0 <= C /\ C < (r : Int)) /\ ∃ F, D.cell? (E.add (C.toNat * 3)) = some (.string F) /\ ∃ G, D.cell? ((E.add (C.toNat * 3)).add 1) = some (.string G) /\ ∃ H I J, D.cell? ((E.add (C.toNat * 3)).add 2) = some (.slice H I J) /\ True /\ (let K := D.alloc (.cells #[(.string (⟨#[]⟩ : BA)), (.string (⟨#[]⟩ : BA)), .slice none 0 0] 189);
 True /\ (let L := D.alloc (.cells #[.string F, .string G, .slice H I J] 189);
 ∀ M : Bool -> World -> Prop, (∀ N : Bool, ∀ O : World,
 (((N = true ->
 R (.returned (.bool false)) O) /\
 (N = false ->
 (A (IntKind.i64.wrap (C + 1)) O /\ B (IntKind.i64.wrap (C + 1)) O < B C D)))) ->
 M N O) ->
 CP 79 #[.string F] L (fun P Q => ∃ S, P = .returned (.bool S) /\ (KeepT 75 L Q /\ KeepT 189 L Q /\ True) /\ (((!S) = false -> CP 54 #[.string G] Q (fun U V => ∃ W, U = .returned (.bool W) /\ (KeepT 75 Q V /\ KeepT 189 Q V /\ True) /\ (((!W) = false -> CP 109 #[.string G] V (fun X Y => ∃ Z, X = .returned (.int .i64 Z) /\ (KeepT 75 V Y /\ KeepT 189 V Y /\ True) /\ (((Z != 7) = false -> CP 56 #[.slice H I J, .bool true, .int .i64 t] Y (fun aa ab => ∃ ac, aa = .returned (.bool ac) /\ (KeepT 75 Y ab /\ KeepT 189 Y ab /\ True) /\ M (!ac) ab)) /\ ((Z != 7) = true -> M true Y)))) /\ ((!W) = true -> M true V)))) /\ ((!S) = true -> M true Q)))))) /\
 ((decide (C < (r : Int))) = false ->
 (((a.toList == (⟨#[83,67,65,76,65,82]⟩ : BA).toList) = true ->
 R (.returned (.bool ((IntKind.i64.wrap ((IntKind.i64.wrap ((IntKind.i64.wrap ((l : Int) + (o : Int))) + (r : Int))) + (i : Int))) == 0))) D) /\
 ((a.toList == (⟨#[83,67,65,76,65,82]⟩ : BA).toList) = false ->
 ∀ ad : Bool -> World -> Prop, (∀ ae : Bool, ∀ af : World,
 (((ae = true ->
 ∀ ag : Bool -> World -> Prop, (∀ ah : Bool, ∀ ai : World,
 (R (.returned (.bool ah)) ai) ->
 ag ah ai) ->
 (((decide ((l : Int) > 0)) = true -> ((((IntKind.i64.wrap ((o : Int) + (r : Int))) == 0) = true -> CP 110 #[.slice k l m, .bool false, .int .i64 t] af (fun aj ak => ∃ al, aj = .returned (.bool al) /\ (KeepT 75 af ak /\ True) /\ ag al ak)) /\ (((IntKind.i64.wrap ((o : Int) + (r : Int))) == 0) = false -> ag false af))) /\ ((decide ((l : Int) > 0)) = false -> ag false af))) /\
 (ae = false ->
 (((a.toList == (⟨#[73,78,80,85,84,95,79,66,74,69,67,84]⟩ : BA).toList) = true ->
 ∀ am : Bool -> World -> Prop, (∀ an : Bool, ∀ ao : World,
 (R (.returned (.bool an)) ao) ->
 am an ao) ->
 (((decide ((l : Int) > 0)) = true -> ((((IntKind.i64.wrap ((IntKind.i64.wrap ((o : Int) + (r : Int))) + (i : Int))) == 0) = true -> CP 110 #[.slice k l m, .bool true, .int .i64 t] af (fun ap aq => ∃ ar, ap = .returned (.bool ar) /\ (KeepT 75 af aq /\ True) /\ am ar aq)) /\ (((IntKind.i64.wrap ((IntKind.i64.wrap ((o : Int) + (r : Int))) + (i : Int))) == 0) = false -> am false af))) /\ ((decide ((l : Int) > 0)) = false -> am false af))) /\
 ((a.toList == (⟨#[73,78,80,85,84,95,79,66,74,69,67,84]⟩ : BA).toList) = false ->
 (((a.toList == (⟨#[85,78,73,79,78]⟩ : BA).toList) = true ->
 ∀ au : Bool -> World -> Prop, (∀ av : Bool, ∀ ax : World,
 (R (.returned (.bool av)) ax) ->
 au av ax) ->
 (((decide ((o : Int) > 0)) = true -> au ((IntKind.i64.wrap ((IntKind.i64.wrap ((l : Int) + (r : Int))) + (i : Int))) == 0) af) /\ ((decide ((o : Int) > 0)) = false -> au false af))) /\
 ((a.toList == (⟨#[85,78,73,79,78]⟩ : BA).toList) = false ->
 (((a.toList == (⟨#[69,78,85,77]⟩ : BA).toList) = true ->
 ∀ ay : Bool -> World -> Prop, (∀ az : Bool, ∀ aA : World,
 (R (.returned (.bool az)) aA) ->
 ay az aA) ->
 (((decide ((r : Int) > 0)) = true -> ay ((IntKind.i64.wrap ((IntKind.i64.wrap ((l : Int) + (o : Int))) + (i : Int))) == 0) af) /\ ((decide ((r : Int) > 0)) = false -> ay false af))) /\
 ((a.toList == (⟨#[69,78,85,77]⟩ : BA).toList) = false ->
 R (.returned (.bool false)) af))))))))) ->
 ad ae af) ->
 (((a.toList == (⟨#[79,66,74,69,67,84]⟩ : BA).toList) = true ->
 ad true D) /\
 ((a.toList == (⟨#[79,66,74,69,67,84]⟩ : BA).toList) = false ->
 ad (a.toList == (⟨#[73,78,84,69,82,70,65,67,69]⟩ : BA).toList) D)))))))))) ->
 v x y) ->
 CP 79 #[.string b] u (fun aB aC => ∃ aD, aB = .returned (.bool aD) /\ (KeepT 75 u aC /\ True) /\ (((!aD) = false -> CP 54 #[.string c] aC (fun aE aF => ∃ aG, aE = .returned (.bool aG) /\ (KeepT 75 aC aF /\ True) /\ (((!aG) = false -> CP 56 #[.slice d e f, .bool true, .int .i64 t] aF (fun aH aI => ∃ aJ, aH = .returned (.bool aJ) /\ (KeepT 75 aF aI /\ True) /\ (((!aJ) = false -> CP 108 #[.slice g i j] aI (fun aK aL => ∃ aM, aK = .returned (.bool aM) /\ (KeepT 75 aI aL /\ True) /\ (((!aM) = false -> CP 108 #[.slice n o p] aL (fun aN aO => ∃ aP, aN = .returned (.bool aP) /\ (KeepT 75 aL aO /\ True) /\ v (!aP) aO)) /\ ((!aM) = true -> v true aL)))) /\ ((!aJ) = true -> v true aI)))) /\ ((!aG) = true -> v true aF)))) /\ ((!aD) = true -> v true aC))))) : CP 82 #[(.agg #[.string a, .string b, .string c, .slice d e f, .slice g i j, .slice k l m, .slice n o p, .slice q r s]), .int .i64 t] w R :=
 vcq Tryz.func82 [2, 10] [(3, ⟨[(39, .bool)],[]⟩), (16, ⟨[(55, .int .i64)],[]⟩), (27, ⟨[(81, .bool)],[]⟩), (45, ⟨[(95, .bool)],[]⟩), (52, ⟨[(4, .bool)],[]⟩), (58, ⟨[(4, .bool)],[]⟩), (64, ⟨[(4, .bool)],[]⟩), (70, ⟨[(4, .bool)],[]⟩)] [.agg [.str a, .str b, .str c, .slice d e f, .slice g i j, .slice k l m, .slice n o p, .slice q r s], .l (.int .i64 t)] h
theorem q_empty (a : BA) (b : BA) (c : BA) (d : OA) (e f : Nat) (g : OA) (i j : Nat) (k : OA) (l m : Nat) (n : OA) (o p : Nat) (q : OA) (r s : Nat) (w : World) (R : EW) (h :
 True /\ (let t := w.alloc (.cells #[.string a, .string b, .string c, .slice d e f, .slice g i j, .slice k l m, .slice n o p, .slice q r s] 75);
 R (.returned (.bool ((IntKind.i64.wrap ((IntKind.i64.wrap ((IntKind.i64.wrap ((IntKind.i64.wrap ((e : Int) + (i : Int))) + (l : Int))) + (o : Int))) + (r : Int))) == 0))) t)) : CP 83 #[(.agg #[.string a, .string b, .string c, .slice d e f, .slice g i j, .slice k l m, .slice n o p, .slice q r s])] w R :=
 vcq Tryz.func83 [1] [] [.agg [.str a, .str b, .str c, .slice d e f, .slice g i j, .slice k l m, .slice n o p, .slice q r s]] h
theorem q_IsOutput (a : BA) (w : World) (R : EW) (h :
 ∀ b : Bool -> World -> Prop, (∀ c : Bool, ∀ d : World,
 (R (.returned (.bool c)) d) ->
 b c d) ->
 (((!(a.toList == (⟨#[]⟩ : BA).toList)) = true -> b (!(a.toList == (⟨#[73,78,80,85,84,95,79,66,74,69,67,84]⟩ : BA).toList)) w) /\ ((!(a.toList == (⟨#[]⟩ : BA).toList)) = false -> b false w))) : CP 86 #[.string a] w R :=
 vcq Tryz.func86 [] [(2, ⟨[(2, .bool)],[]⟩)] [.l (.str a)] h
theorem q_fitsFields (a : OA) (b c : Nat) (d : Bool) (e : Int) (w : World) (R : EW) (h :
 ∃ (f : Int -> World -> Prop) (g : Int -> World -> Nat), f 0 w /\
 (∀ i : Int, ∀ j : World, f i j ->
 (((decide (i < (b : Int))) = true ->
 ∃ k, a = some k /\ (0 <= i /\ i < (b : Int)) /\ ∃ l, j.cell? (k.add (i.toNat * 8)) = some (.string l) /\ ∃ m, j.cell? ((k.add (i.toNat * 8)).add 1) = some (.string m) /\ ∃ n o p, j.cell? ((k.add (i.toNat * 8)).add 2) = some (.slice n o p) /\ ∃ q r s, j.cell? ((k.add (i.toNat * 8)).add 3) = some (.slice q r s) /\ ∃ t, j.cell? ((k.add (i.toNat * 8)).add 4) = some (.string t) /\ ∃ u v x, j.cell? ((k.add (i.toNat * 8)).add 5) = some (.slice u v x) /\ ∃ y, j.cell? ((k.add (i.toNat * 8)).add 6) = some (.bool y) /\ ∃ z A B, j.cell? ((k.add (i.toNat * 8)).add 7) = some (.slice z A B) /\ True /\ (let C := j.alloc (.cells #[(.string (⟨#[]⟩ : BA)), (.string (⟨#[]⟩ : BA)), .slice none 0 0, .slice none 0 0, (.string (⟨#[]⟩ : BA)), .slice none 0 0, .bool false, .slice none 0 0] 187);
 True /\ (let D := j.alloc (.cells #[.string l, .string m, .slice n o p, .slice q r s, .string t, .slice u v x, .bool y, .slice z A B] 187);
 ∀ E : Bool -> World -> Prop, (∀ F : Bool, ∀ G : World,
 (((F = true ->
 R (.returned (.bool false)) G) /\
 (F = false ->
 ∀ H : Bool -> World -> Prop, (∀ I : Bool, ∀ J : World,
 (((I = true ->
 R (.returned (.bool false)) J) /\
 (I = false ->
 (f (IntKind.i64.wrap (i + 1)) J /\ g (IntKind.i64.wrap (i + 1)) J < g i j)))) ->
 H I J) ->
 ((d = true -> (((decide ((o : Int) > 0)) = false -> (((!d) = true -> (((decide ((r : Int) > 0)) = false -> CP 80 #[.slice n o p, .int .i64 e] G (fun K L => ∃ M, K = .returned (.bool M) /\ (KeepT 187 G L /\ True) /\ (((!M) = false -> CP 93 #[.slice q r s, .int .i64 e] L (fun N O => ∃ P, N = .returned (.bool P) /\ (KeepT 187 L O /\ True) /\ H (!P) O)) /\ ((!M) = true -> H true L)))) /\ ((decide ((r : Int) > 0)) = true -> H true G))) /\ ((!d) = false -> CP 80 #[.slice n o p, .int .i64 e] G (fun Q S => ∃ U, Q = .returned (.bool U) /\ (KeepT 187 G S /\ True) /\ (((!U) = false -> CP 93 #[.slice q r s, .int .i64 e] S (fun V W => ∃ X, V = .returned (.bool X) /\ (KeepT 187 S W /\ True) /\ H (!X) W)) /\ ((!U) = true -> H true S)))))) /\ ((decide ((o : Int) > 0)) = true -> H true G))) /\ (d = false -> (((!d) = true -> (((decide ((r : Int) > 0)) = false -> CP 80 #[.slice n o p, .int .i64 e] G (fun Y Z => ∃ aa, Y = .returned (.bool aa) /\ (KeepT 187 G Z /\ True) /\ (((!aa) = false -> CP 93 #[.slice q r s, .int .i64 e] Z (fun ab ac => ∃ ad, ab = .returned (.bool ad) /\ (KeepT 187 Z ac /\ True) /\ H (!ad) ac)) /\ ((!aa) = true -> H true Z)))) /\ ((decide ((r : Int) > 0)) = true -> H true G))) /\ ((!d) = false -> CP 80 #[.slice n o p, .int .i64 e] G (fun ae af => ∃ ag, ae = .returned (.bool ag) /\ (KeepT 187 G af /\ True) /\ (((!ag) = false -> CP 93 #[.slice q r s, .int .i64 e] af (fun ah ai => ∃ aj, ah = .returned (.bool aj) /\ (KeepT 187 af ai /\ True) /\ H (!aj) ai)) /\ ((!ag) = true -> H true af)))))))))) ->
 E F G) ->
 CP 79 #[.string l] D (fun ak al => ∃ am, ak = .returned (.bool am) /\ (KeepT 187 D al /\ True) /\ (((!am) = false -> CP 54 #[.string m] al (fun an ao => ∃ ap, an = .returned (.bool ap) /\ (KeepT 187 al ao /\ True) /\ (((!ap) = false -> CP 92 #[(.agg #[.string t, .slice u v x, .bool y]), .int .i64 e] ao (fun aq ar => ∃ au, aq = .returned (.bool au) /\ (KeepT 187 ao ar /\ True) /\ (((!au) = false -> CP 56 #[.slice z A B, .bool true, .int .i64 e] ar (fun av ax => ∃ ay, av = .returned (.bool ay) /\ (KeepT 187 ar ax /\ True) /\ E (!ay) ax)) /\ ((!au) = true -> E true ar)))) /\ ((!ap) = true -> E true ao)))) /\ ((!am) = true -> E true al)))))) /\
 ((decide (i < (b : Int))) = false ->
 R (.returned (.bool true)) j)))) : CP 110 #[.slice a b c, .bool d, .int .i64 e] w R :=
 vcq Tryz.func110 [8] [(6, ⟨[(11, .int .i64)],[]⟩), (18, ⟨[(38, .bool)],[]⟩), (25, ⟨[(69, .bool)],[]⟩)] [.l (.slice a b c), .l (.bool d), .l (.int .i64 e)] h
theorem q_own (a : BA) (w : World) (R : EW) (h :
 ∀ b : Bool -> World -> Prop, (∀ c : Bool, ∀ d : World,
 (R (.returned (.bool c)) d) ->
 b c d) ->
 CP 54 #[.string a] w (fun e f => ∃ g, e = .returned (.bool g) /\ True /\ ((g = true -> (((decide ((a.size : Int) ≥ 2)) = true -> (0 <= (0 : Int) /\ (0 : Int) <= (2 : Int) /\ 2 <= (a.size : Int)) /\ (((!((a.extract (0 : Int).toNat (2 : Int).toNat).toList == (⟨#[95,95]⟩ : BA).toList)) = true -> CP 67 #[] f (fun i j => ∃ k l m, i = .returned (.slice k l m) /\ True /\ CP 48 #[.string a, .slice k l m] j (fun n o => ∃ p, n = .returned (.bool p) /\ True /\ b (!p) o))) /\ ((!((a.extract (0 : Int).toNat (2 : Int).toNat).toList == (⟨#[95,95]⟩ : BA).toList)) = false -> b false f))) /\ ((decide ((a.size : Int) ≥ 2)) = false -> CP 67 #[] f (fun q r => ∃ s t u, q = .returned (.slice s t u) /\ True /\ CP 48 #[.string a, .slice s t u] r (fun v x => ∃ y, v = .returned (.bool y) /\ True /\ b (!y) x))))) /\ (g = false -> b false f)))) : CP 89 #[.string a] w R :=
 vcq Tryz.func89 [] [(2, ⟨[(2, .bool)],[]⟩)] [.l (.str a)] h
theorem q_unlike (a : OA) (b c : Nat) (w : World) (R : EW) (h :
 ∃ (d : Int -> World -> Prop) (e : Int -> World -> Nat), d 0 w /\
 (∀ f : Int, ∀ g : World, d f g ->
 (((decide (f < (b : Int))) = true ->
 ∃ i, a = some i /\ (0 <= f /\ f < (b : Int)) /\ ∃ j, g.cell? (i.add (f.toNat * 1)) = some (.string j) /\ ∀ k : Bool -> World -> Prop, (∀ l : Bool, ∀ m : World,
 (((l = true ->
 R (.returned (.bool false)) m) /\
 (l = false ->
 (d (IntKind.i64.wrap (f + 1)) m /\ e (IntKind.i64.wrap (f + 1)) m < e f g)))) ->
 k l m) ->
 CP 89 #[.string j] g (fun n o => ∃ p, n = .returned (.bool p) /\ True /\ (((!p) = false -> (0 <= (0 : Int) /\ (0 : Int) <= f /\ f <= (c : Int)) /\ CP 48 #[.string j, (.slice (if c = (0 : Int).toNat then a else Option.map (·.add ((0 : Int).toNat * 1)) a) (f.toNat - (0 : Int).toNat) (c - (0 : Int).toNat))] o (fun q r => ∃ s, q = .returned (.bool s) /\ True /\ k s r)) /\ ((!p) = true -> k true o)))) /\
 ((decide (f < (b : Int))) = false ->
 R (.returned (.bool true)) g)))) : CP 52 #[.slice a b c] w R :=
 vcq Tryz.func52 [] [(6, ⟨[(7, .int .i64)],[]⟩), (17, ⟨[(21, .bool)],[]⟩)] [.l (.slice a b c)] h
theorem q_apart (a : OA) (b c : Nat) (w : World) (R : EW) (h :
 ∃ (d : Int -> World -> Prop) (e : Int -> World -> Nat), d 0 w /\
 (∀ f : Int, ∀ g : World, d f g ->
 (((decide (f < (b : Int))) = true ->
 ∃ i, a = some i /\ (0 <= f /\ f < (b : Int)) /\ ∃ j, g.cell? (i.add (f.toNat * 1)) = some (.string j) /\ (0 <= (0 : Int) /\ (0 : Int) <= f /\ f <= (c : Int)) /\ CP 48 #[.string j, (.slice (if c = (0 : Int).toNat then a else Option.map (·.add ((0 : Int).toNat * 1)) a) (f.toNat - (0 : Int).toNat) (c - (0 : Int).toNat))] g (fun k l => ∃ m, k = .returned (.bool m) /\ True /\ ((m = true ->
 R (.returned (.bool false)) l) /\
 (m = false ->
 (d (IntKind.i64.wrap (f + 1)) l /\ e (IntKind.i64.wrap (f + 1)) l < e f g))))) /\
 ((decide (f < (b : Int))) = false ->
 R (.returned (.bool true)) g)))) : CP 51 #[.slice a b c] w R :=
 vcq Tryz.func51 [] [(6, ⟨[(7, .int .i64)],[]⟩)] [.l (.slice a b c)] h
theorem q_givenDirs (w : World) (R : EW) (h :
 True /\ (let a := w.alloc (.cells #[(.string (⟨#[115,107,105,112]⟩ : BA)), (.string (⟨#[105,110,99,108,117,100,101]⟩ : BA)), (.string (⟨#[100,101,112,114,101,99,97,116,101,100]⟩ : BA)), (.string (⟨#[115,112,101,99,105,102,105,101,100,66,121]⟩ : BA)), (.string (⟨#[111,110,101,79,102]⟩ : BA)), (.string (⟨#[100,101,102,101,114]⟩ : BA)), (.string (⟨#[115,116,114,101,97,109]⟩ : BA))] 9);
 R (.returned (.slice (some (adr w.heap.size)) 7 7)) a)) : CP 49 #[] w R :=
 vcq Tryz.func49 [] [] [] h
theorem q_scalars (w : World) (R : EW) (h :
 True /\ (let a := w.alloc (.cells #[(.string (⟨#[73,110,116]⟩ : BA)), (.string (⟨#[70,108,111,97,116]⟩ : BA)), (.string (⟨#[83,116,114,105,110,103]⟩ : BA)), (.string (⟨#[66,111,111,108,101,97,110]⟩ : BA)), (.string (⟨#[73,68]⟩ : BA))] 9);
 R (.returned (.slice (some (adr w.heap.size)) 5 5)) a)) : CP 67 #[] w R :=
 vcq Tryz.func67 [] [] [] h
theorem q_World_inputs (a : OA) (b : OA) (c d : Nat) (w : World) (R : EW) (h :
 ∃ (e : OA -> Nat -> Nat -> Int -> World -> Prop) (f : OA -> Nat -> Nat -> Int -> World -> Nat), e none 0 0 0 w /\
 (∀ (g : OA) (i j : Nat), ∀ k : Int, ∀ l : World, e g i j k l ->
 (((decide (k < (c : Int))) = true ->
 ∃ m, b = some m /\ (0 <= k /\ k < (c : Int)) /\ ∃ n, l.cell? (m.add (k.toNat * 7)) = some (.string n) /\ ∃ o, l.cell? ((m.add (k.toNat * 7)).add 1) = some (.string o) /\ ∃ p, l.cell? ((m.add (k.toNat * 7)).add 2) = some (.string p) /\ ∃ q r s, l.cell? ((m.add (k.toNat * 7)).add 3) = some (.slice q r s) /\ ∃ t, l.cell? ((m.add (k.toNat * 7)).add 4) = some (.bool t) /\ ∃ u v x, l.cell? ((m.add (k.toNat * 7)).add 5) = some (.slice u v x) /\ ∃ y z A, l.cell? ((m.add (k.toNat * 7)).add 6) = some (.slice y z A) /\ True /\ (let B := l.alloc (.cells #[(.string (⟨#[]⟩ : BA)), (.string (⟨#[]⟩ : BA)), (.string (⟨#[]⟩ : BA)), .slice none 0 0, .bool false, .slice none 0 0, .slice none 0 0] 141);
 True /\ (let C := l.alloc (.cells #[.string n, .string o, .string p, .slice q r s, .bool t, .slice u v x, .slice y z A] 141);
 True /\ (let D := C.alloc (.cells #[.string o] 9);
 ∃ E F G, ∃ H, (Go.builtin .append #[71, 71] 71 #[false, false] #[.slice g i j, (.slice (some (adr C.heap.size)) 1 1)]).run Tryz.prog D = .ok (.value (.slice E F G)) H /\ (KeepT 141 D H /\ True) /\ ∀ I : Bool -> World -> Prop, (∀ J : Bool, ∀ K : World,
 (((J = true ->
 R (.returned (.bool false)) K) /\
 (J = false ->
 (e E F G (IntKind.i64.wrap (k + 1)) K /\ f E F G (IntKind.i64.wrap (k + 1)) K < f g i j k l)))) ->
 I J K) ->
 CP 84 #[.pointer a, (.agg #[.string p, .slice q r s, .bool t])] H (fun L M => ∃ N, L = .returned (.string N) /\ (KeepT 141 H M /\ True) /\ CP 85 #[.string N] M (fun O P => ∃ Q, O = .returned (.bool Q) /\ (KeepT 141 M P /\ True) /\ (((!Q) = false -> (((decide ((IntKind.i64.wrap ((v : Int) + (z : Int))) > 0)) = false -> I (!(n.toList == (⟨#[]⟩ : BA).toList)) P) /\ ((decide ((IntKind.i64.wrap ((v : Int) + (z : Int))) > 0)) = true -> I true P))) /\ ((!Q) = true -> I true P)))))))) /\
 ((decide (k < (c : Int))) = false ->
 CP 52 #[.slice g i j] l (fun S U => ∃ V, S = .returned (.bool V) /\ True /\ R (.returned (.bool V)) U))))) : CP 50 #[.pointer a, .slice b c d] w R :=
 vcq Tryz.func50 [7] [(8, ⟨[(5, .slice), (10, .int .i64)],[]⟩), (21, ⟨[(39, .bool)],[]⟩)] [.l (.optr a), .l (.slice b c d)] h
end Go.VC
