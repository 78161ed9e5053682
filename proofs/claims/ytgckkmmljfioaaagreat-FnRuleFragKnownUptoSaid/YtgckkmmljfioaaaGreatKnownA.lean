/- Part of the proof of a law of a rule over documents (KnownA), where what the arguments hold is of bulk at most 1048576. -/
import Derived.Test.YtgckkmmljfioaaaGreatBaseB
import Derived.Test.YtgckkmmljfioaaaGreatWalkD
import Derived.Test.YtgckkmmljfioaaaGreatLawA
set_option linter.unusedVariables false
set_option linter.unusedSimpArgs false
set_option linter.unusedSectionVars false
set_option linter.deprecated false
namespace Go.VC
open Go Go.Proofs
set_option maxRecDepth 100000
theorem q_rules_KnownFragmentNamesRule (a : OA) (b : Value) (w : World) (R : EW) (h :
 (b.oneCell' = true /\ True) /\ (let c := w.alloc (.cells #[b] 122);
 CP 63 #[.pointer a, (.func (.func 64) #[] #[(.pointer (some (adr w.heap.size)))])] c (fun d e => d = .returned (.tuple #[]) /\ True /\ R (.returned (.tuple #[])) e))) : CP 32 #[.pointer a, b] w R :=
 vcq Tryz.func32 [] [] [.l (.optr a), .l (.val b)] h
theorem q_rules_KnownFragmentNamesRule_1 (a : OA) (b : OA) (c : Addr) (w : World) (R : EW) (h :
 ∃ d, b = some d /\ ∃ e, w.cell? (d.add 3) = some (.pointer e) /\ ((e.isNone = true ->
 ∀ f, f = w.drew -> ∃ g : Value, f.cell? c = some g /\ ∃ i, b = some i /\ ∃ j, f.cell? i = some (.string j) /\ ∃ k, b = some k /\ ∃ l, f.cell? (k.add 4) = some (.pointer l) /\ True /\ (let m := f.alloc (.cells #[(ifcV (some (9, (.string j))))] 20);
 ((m.cell? (k.add 4) = f.cell? (k.add 4)) /\ (m.cell? c = f.cell? c) /\ True) /\ CP 65 #[(.string (⟨#[85,110,107,110,111,119,110,32,102,114,97,103,109,101,110,116,32,34,37,115,34,46]⟩ : BA)), (.slice (some (adr f.heap.size)) 1 1)] m (fun n o => ∃ p : Value, n = .returned p /\ True /\ ((o.cell? (k.add 4) = m.cell? (k.add 4)) /\ (o.cell? c = m.cell? c) /\ True) /\ CP 66 #[.pointer l] o (fun q r => ∃ s : Value, q = .returned s /\ True /\ ((r.cell? c = o.cell? c) /\ True) /\ (p.oneCell' = true /\ s.oneCell' = true /\ True) /\ (let t := r.alloc (.cells #[p, s] 135);
 ((t.cell? c = r.cell? c) /\ True) /\ ∃ u v, g = .func (.func u) #[] v.toArray /\ ∃ x, Tryz.prog.funcs[u]? = some x /\ (x.name == "runtime.NumGoroutine" || x.body.isNone) = false /\ CP u ([(.slice (some (adr r.heap.size)) 2 2)] ++ v).toArray t (fun y z => y = .returned (.tuple #[]) /\ True /\ True /\ R (.returned (.tuple #[])) z)))))) /\
 (e.isNone = false ->
 R (.returned (.tuple #[])) w))) : CP 64 #[.pointer a, .pointer b, (.pointer (some c))] w R :=
 vcq Tryz.func64 [] [] [.l (.optr a), .l (.optr b), .l (.ptr c)] h
theorem q_impl_RKnownFragmentNames (a : OA) (b c : Nat) (d : OA) (e f : Nat) (g : BA) (i : BA) (j : BA) (k : OA) (l m : Nat) (n : OA) (o p : Nat) (q : OA) (r s : Nat) (t : OA) (u v : Nat) (w : World) (R : EW) (h :
 True /\ (let x := w.alloc (.cells #[.slice a b c, .slice d e f, .string g, .string i, .string j, .slice k l m, .slice n o p] 40);
 True /\ (let y := x.alloc (.cells #[.slice q r s, .slice t u v] 30);
 CP 31 #[(.agg #[.slice a b c, .slice d e f, .string g, .string i, .string j, .slice k l m, .slice n o p]), (.agg #[.slice q r s, .slice t u v]), (.func (.func 32) #[] #[])] y (fun z A => ∃ B, ∃ C, z = .returned (.tuple #[.int .i64 B, .bool C]) /\ (KeepT 40 y A /\ KeepT 30 y A /\ True) /\ R (.returned (.tuple #[.int .i64 B, .bool C])) A)))) : CP 12 #[(.agg #[.slice a b c, .slice d e f, .string g, .string i, .string j, .slice k l m, .slice n o p]), (.agg #[.slice q r s, .slice t u v])] w R :=
 vcq Tryz.func12 [2, 3] [] [.agg [.slice a b c, .slice d e f, .str g, .str i, .str j, .slice k l m, .slice n o p], .agg [.slice q r s, .slice t u v]] h
theorem q_NoFrag (a : OA) (b c : Nat) (d : OA) (e f : Nat) (w : World) (R : EW) (h :
 True /\ (let g := w.alloc (.cells #[.slice a b c, .slice d e f] 30);
 CP 38 #[(.agg #[.slice a b c, .slice d e f])] g (fun i j => ∃ k l m, i = .returned (.slice k l m) /\ (KeepT 30 g j /\ True) /\ ∃ (n : Int -> World -> Prop) (o : Int -> World -> Nat), n 0 j /\
 (∀ p : Int, ∀ q : World, n p q ->
 (((decide (p < (l : Int))) = true ->
 ∃ r, k = some r /\ (0 <= p /\ p < (l : Int)) /\ ∃ s, q.cell? (r.add (p.toNat * 1)) = some (.string s) /\ CP 39 #[(.agg #[.slice a b c, .slice d e f]), .string s] q (fun t u => ∃ v, ∃ x, ∃ y z A, ∃ B C D, ∃ E, t = .returned (.tuple #[(.agg #[.string v, .string x, .slice y z A, .slice B C D]), .bool E]) /\ (KeepT 30 q u /\ True) /\ True /\ (let F := u.alloc (.cells #[(.string (⟨#[]⟩ : BA)), (.string (⟨#[]⟩ : BA)), .slice none 0 0, .slice none 0 0] 63);
 True /\ (let G := u.alloc (.cells #[.string v, .string x, .slice y z A, .slice B C D] 63);
 (((!E) = true ->
 R (.returned (.bool true)) G) /\
 ((!E) = false ->
 (n (IntKind.i64.wrap (p + 1)) G /\ o (IntKind.i64.wrap (p + 1)) G < o p q))))))) /\
 ((decide (p < (l : Int))) = false ->
 R (.returned (.bool false)) q)))))) : CP 15 #[(.agg #[.slice a b c, .slice d e f])] w R :=
 vcq Tryz.func15 [1, 5] [(6, ⟨[(10, .int .i64)],[]⟩)] [.agg [.slice a b c, .slice d e f]] h
theorem q_allSpreads (a : OA) (b c : Nat) (d : OA) (e f : Nat) (w : World) (R : EW) (h :
 True /\ (let g := w.alloc (.cells #[.slice a b c, .slice d e f] 30);
 ∃ (i : OA -> Nat -> Nat -> Int -> World -> Prop) (j : OA -> Nat -> Nat -> Int -> World -> Nat), i none 0 0 0 g /\
 (∀ (k : OA) (l m : Nat), ∀ n : Int, ∀ o : World, i k l m n o ->
 (((decide (n < (b : Int))) = true ->
 ∃ p, a = some p /\ (0 <= n /\ n < (b : Int)) /\ ∃ q, o.cell? (p.add (n.toNat * 5)) = some (.string q) /\ ∃ r, o.cell? ((p.add (n.toNat * 5)).add 1) = some (.string r) /\ ∃ s t u, o.cell? ((p.add (n.toNat * 5)).add 2) = some (.slice s t u) /\ ∃ v x y, o.cell? ((p.add (n.toNat * 5)).add 3) = some (.slice v x y) /\ ∃ z A B, o.cell? ((p.add (n.toNat * 5)).add 4) = some (.slice z A B) /\ True /\ (let C := o.alloc (.cells #[(.string (⟨#[]⟩ : BA)), (.string (⟨#[]⟩ : BA)), .slice none 0 0, .slice none 0 0, .slice none 0 0] 51);
 True /\ (let D := o.alloc (.cells #[.string q, .string r, .slice s t u, .slice v x y, .slice z A B] 51);
 CP 71 #[.slice z A B] D (fun E F => ∃ G H I, E = .returned (.slice G H I) /\ (KeepT 30 D F /\ KeepT 51 D F /\ True) /\ ∃ J K L, ∃ M, (Go.builtin .append #[71, 71] 71 #[false, false] #[.slice k l m, .slice G H I]).run Tryz.prog F = .ok (.value (.slice J K L)) M /\ (KeepT 30 F M /\ KeepT 51 F M /\ True) /\ (i J K L (IntKind.i64.wrap (n + 1)) M /\ j J K L (IntKind.i64.wrap (n + 1)) M < j k l m n o))))) /\
 ((decide (n < (b : Int))) = false ->
 ∃ (N : OA -> Nat -> Nat -> Int -> World -> Prop) (O : OA -> Nat -> Nat -> Int -> World -> Nat), N k l m 0 o /\
 (∀ (P : OA) (Q S : Nat), ∀ U : Int, ∀ V : World, N P Q S U V ->
 (((decide (U < (e : Int))) = true ->
 ∃ W, d = some W /\ (0 <= U /\ U < (e : Int)) /\ ∃ X, V.cell? (W.add (U.toNat * 4)) = some (.string X) /\ ∃ Y, V.cell? ((W.add (U.toNat * 4)).add 1) = some (.string Y) /\ ∃ Z aa ab, V.cell? ((W.add (U.toNat * 4)).add 2) = some (.slice Z aa ab) /\ ∃ ac ad ae, V.cell? ((W.add (U.toNat * 4)).add 3) = some (.slice ac ad ae) /\ True /\ (let af := V.alloc (.cells #[(.string (⟨#[]⟩ : BA)), (.string (⟨#[]⟩ : BA)), .slice none 0 0, .slice none 0 0] 63);
 True /\ (let ag := V.alloc (.cells #[.string X, .string Y, .slice Z aa ab, .slice ac ad ae] 63);
 CP 71 #[.slice ac ad ae] ag (fun ah ai => ∃ aj ak al, ah = .returned (.slice aj ak al) /\ (KeepT 30 ag ai /\ KeepT 63 ag ai /\ True) /\ ∃ am an ao, ∃ ap, (Go.builtin .append #[71, 71] 71 #[false, false] #[.slice P Q S, .slice aj ak al]).run Tryz.prog ai = .ok (.value (.slice am an ao)) ap /\ (KeepT 30 ai ap /\ KeepT 63 ai ap /\ True) /\ (N am an ao (IntKind.i64.wrap (U + 1)) ap /\ O am an ao (IntKind.i64.wrap (U + 1)) ap < O P Q S U V))))) /\
 ((decide (U < (e : Int))) = false ->
 R (.returned (.slice P Q S)) V)))))))) : CP 38 #[(.agg #[.slice a b c, .slice d e f])] w R :=
 vcq Tryz.func38 [1, 5, 7] [(8, ⟨[(3, .slice), (11, .int .i64)],[]⟩), (25, ⟨[(3, .slice), (24, .int .i64)],[]⟩)] [.agg [.slice a b c, .slice d e f]] h
theorem q_frag (a : OA) (b c : Nat) (d : OA) (e f : Nat) (g : BA) (w : World) (R : EW) (h :
 True /\ (let i := w.alloc (.cells #[.slice a b c, .slice d e f] 30);
 True /\ (let j := i.alloc (.cells #[(.string (⟨#[]⟩ : BA)), (.string (⟨#[]⟩ : BA)), .slice none 0 0, .slice none 0 0] 63);
 ∃ (k : Int -> BA -> BA -> OA -> Nat -> Nat -> OA -> Nat -> Nat -> World -> Prop) (l : Int -> BA -> BA -> OA -> Nat -> Nat -> OA -> Nat -> Nat -> World -> Nat), k 0 (⟨#[]⟩ : BA) (⟨#[]⟩ : BA) none 0 0 none 0 0 j /\
 (∀ m : Int, ∀ n : BA, ∀ o : BA, ∀ (p : OA) (q r : Nat), ∀ (s : OA) (t u : Nat), ∀ v : World, k m n o p q r s t u v ->
 (((decide (m < (e : Int))) = true ->
 ∃ x, d = some x /\ (0 <= m /\ m < (e : Int)) /\ ∃ y, v.cell? (x.add (m.toNat * 4)) = some (.string y) /\ ∃ z, v.cell? ((x.add (m.toNat * 4)).add 1) = some (.string z) /\ ∃ A B C, v.cell? ((x.add (m.toNat * 4)).add 2) = some (.slice A B C) /\ ∃ D E F, v.cell? ((x.add (m.toNat * 4)).add 3) = some (.slice D E F) /\ True /\ (let G := v.alloc (.cells #[(.string (⟨#[]⟩ : BA)), (.string (⟨#[]⟩ : BA)), .slice none 0 0, .slice none 0 0] 63);
 True /\ (let H := v.alloc (.cells #[.string y, .string z, .slice A B C, .slice D E F] 63);
 (((y.toList == g.toList) = true ->
 True /\ (let I := setB H (i.heap.size) [.string y, .string z, .slice A B C, .slice D E F] 63;
 R (.returned (.tuple #[(.agg #[.string y, .string z, .slice A B C, .slice D E F]), .bool true])) I)) /\
 ((y.toList == g.toList) = false ->
 (k (IntKind.i64.wrap (m + 1)) n o p q r s t u H /\ l (IntKind.i64.wrap (m + 1)) n o p q r s t u H < l m n o p q r s t u v)))))) /\
 ((decide (m < (e : Int))) = false ->
 True /\ True /\ (let J := setB v (i.heap.size) [(.string (⟨#[]⟩ : BA)), (.string (⟨#[]⟩ : BA)), .slice none 0 0, .slice none 0 0] 63;
 R (.returned (.tuple #[(.agg #[(.string (⟨#[]⟩ : BA)), (.string (⟨#[]⟩ : BA)), .slice none 0 0, .slice none 0 0]), .bool false])) J))))))) : CP 39 #[(.agg #[.slice a b c, .slice d e f]), .string g] w R :=
 vcq Tryz.func39 [2, 4, 7] [(6, ⟨[(11, .int .i64)],[(1, [.str, .str, .slice, .slice])]⟩)] [.agg [.slice a b c, .slice d e f], .l (.str g)] h
theorem q_spreads (a : OA) (b c : Nat) (w : World) (R : EW) (h :
 ∃ (d : OA -> Nat -> Nat -> Int -> World -> Prop) (e : OA -> Nat -> Nat -> Int -> World -> Nat), d none 0 0 0 w /\
 (∀ (f : OA) (g i : Nat), ∀ j : Int, ∀ k : World, d f g i j k ->
 (((decide (j < (b : Int))) = true ->
 ∃ l, a = some l /\ (0 <= j /\ j < (b : Int)) /\ ∃ m, k.cell? (l.add (j.toNat * 7)) = some (.int .i64 m) /\ ∃ n, k.cell? ((l.add (j.toNat * 7)).add 1) = some (.string n) /\ ∃ o, k.cell? ((l.add (j.toNat * 7)).add 2) = some (.string o) /\ ∃ p, k.cell? ((l.add (j.toNat * 7)).add 3) = some (.string p) /\ ∃ q r s, k.cell? ((l.add (j.toNat * 7)).add 4) = some (.slice q r s) /\ ∃ t u v, k.cell? ((l.add (j.toNat * 7)).add 5) = some (.slice t u v) /\ ∃ x y z, k.cell? ((l.add (j.toNat * 7)).add 6) = some (.slice x y z) /\ True /\ (let A := k.alloc (.cells #[.int .i64 0, (.string (⟨#[]⟩ : BA)), (.string (⟨#[]⟩ : BA)), (.string (⟨#[]⟩ : BA)), .slice none 0 0, .slice none 0 0, .slice none 0 0] 96);
 True /\ (let B := k.alloc (.cells #[.int .i64 m, .string n, .string o, .string p, .slice q r s, .slice t u v, .slice x y z] 96);
 ∀ C : OA -> Nat -> Nat -> World -> Prop, (∀ (D : OA) (E F : Nat), ∀ G : World,
 (CP 71 #[.slice x y z] G (fun H I => ∃ J K L, H = .returned (.slice J K L) /\ (KeepT 96 G I /\ True) /\ ∃ M N O, ∃ P, (Go.builtin .append #[71, 71] 71 #[false, false] #[.slice D E F, .slice J K L]).run Tryz.prog I = .ok (.value (.slice M N O)) P /\ (KeepT 96 I P /\ True) /\ (d M N O (IntKind.i64.wrap (j + 1)) P /\ e M N O (IntKind.i64.wrap (j + 1)) P < e f g i j k))) ->
 C D E F G) ->
 (((m == 1) = true ->
 True /\ (let Q := B.alloc (.cells #[.string o] 9);
 ∃ S U V, ∃ W, (Go.builtin .append #[71, 71] 71 #[false, false] #[.slice f g i, (.slice (some (adr B.heap.size)) 1 1)]).run Tryz.prog Q = .ok (.value (.slice S U V)) W /\ (KeepT 96 Q W /\ True) /\ C S U V W)) /\
 ((m == 1) = false ->
 C f g i B))))) /\
 ((decide (j < (b : Int))) = false ->
 R (.returned (.slice f g i)) k)))) : CP 71 #[.slice a b c] w R :=
 vcq Tryz.func71 [5] [(8, ⟨[(3, .slice), (8, .int .i64)],[]⟩), (19, ⟨[(3, .slice)],[]⟩)] [.l (.slice a b c)] h
theorem q_laws_FnRuleFragKnown (a : OA) (b c : Nat) (d : OA) (e f : Nat) (g : OA) (i j : Nat) (k : OA) (l m : Nat) (n : OA) (o p : Nat) (q : OA) (r s : Nat) (t : OA) (u v : Nat) (w : World) (R : EW) (h :
 True /\ (let x := w.alloc (.cells #[.slice a b c, .slice d e f, .slice g i j, .slice k l m, .slice n o p] 26);
 True /\ (let y := x.alloc (.cells #[.slice q r s, .slice t u v] 30);
 ∀ z : Bool -> World -> Prop, (∀ A : Bool, ∀ B : World,
 (((A = true ->
 R (.returned (.bool true)) B) /\
 (A = false ->
 CP 10 #[(.agg #[.slice a b c, .slice d e f, .slice g i j, .slice k l m, .slice n o p])] B (fun C D => ∃ E, ∃ F, C = .returned (.tuple #[.pointer E, .bool F]) /\ (KeepT 26 B D /\ KeepT 30 B D /\ True) /\ ∀ G : Bool -> World -> Prop, (∀ H : Bool, ∀ I : World,
 (((H = true ->
 R (.returned (.bool true)) I) /\
 (H = false ->
 ∀ J, J = I.drew -> CP 13 #[.pointer E] J (fun K L => ∃ M N O, ∃ P Q S, ∃ U, ∃ V, ∃ W, ∃ X Y Z, ∃ aa ab ac, K = .returned (.agg #[.slice M N O, .slice P Q S, .string U, .string V, .string W, .slice X Y Z, .slice aa ab ac]) /\ (KeepT 26 J L /\ KeepT 30 J L /\ True) /\ ((0 = 0) /\ True) /\ CP 12 #[(.agg #[.slice M N O, .slice P Q S, .string U, .string V, .string W, .slice X Y Z, .slice aa ab ac]), (.agg #[.slice q r s, .slice t u v])] L (fun ad ae => ∃ af, ∃ ag, ad = .returned (.tuple #[.int .i64 af, .bool ag]) /\ (KeepT 26 L ae /\ KeepT 30 L ae /\ True) /\ True /\ True /\ True /\ CP 15 #[(.agg #[.slice q r s, .slice t u v])] ae (fun ah ai => ∃ aj, ah = .returned (.bool aj) /\ (KeepT 26 ae ai /\ KeepT 30 ae ai /\ True) /\ CP 14 #[.int .i64 af, .bool ag, .bool aj] ai (fun ak al => ∃ am, ak = .returned (.bool am) /\ (KeepT 26 ai al /\ KeepT 30 ai al /\ True) /\ R (.returned (.bool am)) al))))))) ->
 G H I) ->
 (((!F) = false -> CP 11 #[(.agg #[.slice q r s, .slice t u v])] D (fun an ao => ∃ ap, an = .returned (.bool ap) /\ (KeepT 26 D ao /\ KeepT 30 D ao /\ True) /\ G (!ap) ao)) /\ ((!F) = true -> G true D)))))) ->
 z A B) ->
 CP 8 #[(.agg #[.slice a b c, .slice d e f, .slice g i j, .slice k l m, .slice n o p])] y (fun aq ar => ∃ au, aq = .returned (.bool au) /\ (KeepT 26 y ar /\ KeepT 30 y ar /\ True) /\ (((!au) = false -> CP 9 #[(.agg #[.slice q r s, .slice t u v])] ar (fun av ax => ∃ ay, av = .returned (.bool ay) /\ (KeepT 26 ar ax /\ KeepT 30 ar ax /\ True) /\ z (!ay) ax)) /\ ((!au) = true -> z true ar)))))) : CP 3 #[(.agg #[.slice a b c, .slice d e f, .slice g i j, .slice k l m, .slice n o p]), (.agg #[.slice q r s, .slice t u v])] w R :=
 vcq Tryz.func3 [2, 3] [(3, ⟨[(16, .bool)],[]⟩), (13, ⟨[(28, .bool)],[]⟩)] [.agg [.slice a b c, .slice d e f, .slice g i j, .slice k l m, .slice n o p], .agg [.slice q r s, .slice t u v]] h
end Go.VC
namespace Go.VC
open Go Go.Proofs
set_option maxRecDepth 100000
theorem q_core_Events_OnFragmentSpread (a : OA) (b : Value) (w : World) (R : EW) (h :
 ∃ c, a = some c /\ ∃ d e f, w.cell? (c.add 4) = some (.slice d e f) /\ (b.oneCell' = true /\ True) /\ (let g := w.alloc (.cells #[b] 138);
 ∃ i j k, ∃ l, (Go.builtin .append #[112, 112] 112 #[false, false] #[.slice d e f, (.slice (some (adr w.heap.size)) 1 1)]).run Tryz.prog g = .ok (.value (.slice i j k)) l /\ True /\ ∃ m, a = some m /\ Off l (m.add 4) 1 [] /\ True /\ (let n := (l.setCell (m.add 4) (.slice i j k));
 R (.returned (.tuple #[])) n))) : CP 63 #[.pointer a, b] w R :=
 vcq Tryz.func63 [] [] [.l (.optr a), .l (.val b)] h
end Go.VC
namespace Go.VC
open Go Go.Proofs
variable [DB]
theorem c_core_Events_OnFragmentSpread {eb : Nat} {f : Value} {u0 u1 u2 u3 : Value} {cs : List Value} {w : World} (hf : smallV f) (hB : Blk w eb 118 (u0 :: u1 :: u2 :: u3 :: .slice none 0 0 :: cs)) :
  CP 63 #[.pointer (some (adr eb)), f] w fun e w' => e = .returned (.tuple #[]) /\ ∃ (p : Addr) (C : Nat), Blk w' eb 118 (u0 :: u1 :: u2 :: u3 :: .slice (some p) 1 C :: cs) /\ At w' 138 p f /\ w.heap.size <= p.block /\ Ext (fun b => b = eb) w w' := by
 obtain ⟨p, C, w7, r7, ha, hp, hx, -⟩ := on_append 112 138 Tryz.t138 _ _ (by kernel_rfl) (by kernel_rfl) rfl (by kernel_rfl) rfl (by kernel_rfl) (by decide) (w := w) hf 112 #[false, false]
 have hB7 := hB.ext hx id
 have hlt := hB.lt
 have hs : Ext (fun b => b = eb) w7 (w7.setCell ⟨eb, 4, none⟩ (.slice (some p) 1 C)) := Ext.setCell (X := fun b => b = eb) (Ext.refl _) (a := ⟨eb, 4, none⟩) (.inl rfl) _
 refine q_core_Events_OnFragmentSpread (some (adr eb)) f w _ ⟨adr eb, rfl, none, 0, 0, (hB.at (j := 4) rfl).cell, ⟨hf.one, trivial⟩, some p, 1, C, w7, r7, trivial, adr eb, rfl, hB7.off (j := 4) (n := 1) (q := fun _ => false) (by simp) rfl, trivial, rfl, p, C, hB7.set 4 _, hs.at (by show ¬ p.block = eb; omega) ha, hp, (hx.toM _).trans hs fun _ _ e => e⟩
end Go.VC
namespace Go.VC
open Go Go.Proofs
set_option maxRecDepth 100000
theorem q_twice (a : OA) (b c : Nat) (w : World) (R : EW) (h :
 ∃ (d : Int -> World -> Prop) (e : Int -> World -> Nat), d 0 w /\
 (∀ f : Int, ∀ g : World, d f g ->
 (((decide (f < (b : Int))) = true ->
 ∃ i, a = some i /\ (0 <= f /\ f < (b : Int)) /\ ∃ j, g.cell? (i.add (f.toNat * 1)) = some (.string j) /\ ∀ k : Bool -> World -> Prop, (∀ l : Bool, ∀ m : World,
 (((l = true ->
 R (.returned (.bool true)) m) /\
 (l = false ->
 (d (IntKind.i64.wrap (f + 1)) m /\ e (IntKind.i64.wrap (f + 1)) m < e f g)))) ->
 k l m) ->
 (((!(j.toList == (⟨#[]⟩ : BA).toList)) = true -> (0 <= (0 : Int) /\ (0 : Int) <= f /\ f <= (c : Int)) /\ CP 48 #[.string j, (.slice (if c = (0 : Int).toNat then a else Option.map (·.add ((0 : Int).toNat * 1)) a) (f.toNat - (0 : Int).toNat) (c - (0 : Int).toNat))] g (fun n o => ∃ p, n = .returned (.bool p) /\ True /\ k p o)) /\ ((!(j.toList == (⟨#[]⟩ : BA).toList)) = false -> k false g))) /\
 ((decide (f < (b : Int))) = false ->
 R (.returned (.bool false)) g)))) : CP 42 #[.slice a b c] w R :=
 vcq Tryz.func42 [] [(6, ⟨[(7, .int .i64)],[]⟩), (17, ⟨[(20, .bool)],[]⟩)] [.l (.slice a b c)] h
end Go.VC
namespace Go.VC
open Go Go.Proofs
variable [DB]
def nz (l : List BA) : List BA := l.filter fun s => !decide (s = E0)
theorem nz_snoc_e (l : List BA) : nz (l ++ [E0]) = nz l := by
 have : ([E0].filter fun s => !decide (s = E0)) = [] := by simp
 rw [nz, List.filter_append, this, List.append_nil]; rfl
theorem nz_snoc {l : List BA} {x : BA} (h : x ≠ E0) : nz (l ++ [x]) = nz l ++ [x] := by
 have : ([x].filter fun s => !decide (s = E0)) = [x] := by simp [h]
 rw [nz, List.filter_append, this]; rfl
theorem mem_nz {l : List BA} {x : BA} : x ∈ nz l ↔ x ∈ l /\ x ≠ E0 := by simp [nz, List.mem_filter]
theorem nz_all {l : List BA} (h : ∀ x ∈ l, x ≠ E0) : nz l = l := List.filter_eq_self.2 fun x hx => by simp [h x hx]
theorem nz_take {l : List BA} {k : Nat} (h : (nz l).Nodup) : (nz (l.take k)).Nodup := h.sublist ((List.take_sublist k l).filter _)
theorem take_snoc {α : Type} {xs : List α} {i : Int} {x : α} (h0 : 0 <= i) (hx : xs[i.toNat]? = some x) : xs.take (i + 1).toNat = xs.take i.toNat ++ [x] := by
 rw [show (i + 1).toNat = i.toNat + 1 by omega, List.take_add_one, hx]; rfl
theorem SlL.take {α : Type} {w : World} {T n : Nat} {R : α -> List Value -> Prop} {a : OA} {l c : Nat} {xs : List α} (h : SlL w T n R a l c xs) {i : Nat} (hi : i <= l) : SlL w T n R a i c (xs.take i) := by
 obtain ⟨h1, h2, h3, h4⟩ := h
 refine ⟨?_, by omega, by omega, fun j x hx => h4 j x ?_⟩
 ·rw [List.length_take]; omega
 ·rw [List.getElem?_take] at hx
  split at hx
  ·exact hx
  ·cases hx
theorem slice_same (a : OA) (c : Nat) : (if c = (0 : Int).toNat then a else Option.map (·.add ((0 : Int).toNat * 1)) a) = a := by
 split
 ·rfl
 ·cases a with
  | none => rfl
  | some a => rfl
theorem c_twice {a : OA} {l c : Nat} {xs : List BA} {w : World} (hl : RStrs w a l c xs) :
  CP 42 #[.slice a l c] w (RetB w fun b => b = true ↔ ¬ (nz xs).Nodup) := by
 obtain ⟨e1, e3⟩ := hl.len
 have hlc : l <= c := hl.2.1
 refine q_twice a l c w _ ⟨fun i w1 => 0 <= i /\ i <= l /\ Ext (fun _ => False) w w1 /\ (nz (xs.take i.toNat)).Nodup, fun i _ => ((l : Int) - i).toNat, ⟨by omega, by omega, Ext.refl w, by simp [nz]⟩, ?_⟩
 rintro i w1 ⟨h0, hi, hx, hn⟩
 refine ⟨fun hlt => ?_, fun hge => ?_⟩
 ·have hlt := of_decide_eq_true hlt
  obtain ⟨p, x, hp, hxs, cs, hc, rfl⟩ := hl.get h0 hlt
  refine ⟨p, hp, ⟨h0, hlt⟩, x, hx.cell hc.1.choose_spec.2 id, fun K hK => ?_⟩
  have key : ∀ (z : Bool) w', Ext (fun _ => False) w1 w' -> (z = true ↔ x ≠ E0 /\ x ∈ xs.take i.toNat) -> K z w' := by
   intro z w' hx' hz
   refine hK z w' ⟨fun h => ⟨true, rfl, hx.then hx', fun _ hnd => ?_, fun _ => rfl⟩, fun h => ?_⟩
   ·obtain ⟨hne, hm⟩ := hz.1 h
    have := nz_take (k := (i + 1).toNat) hnd
    rw [take_snoc h0 hxs, nz_snoc hne, nodup_snoc] at this
    exact this.2 (mem_nz.2 ⟨hm, hne⟩)
   ·rw [wrap_lt h0 (by omega)]
    refine next h0 hlt ⟨hx.then hx', ?_⟩
    rw [take_snoc h0 hxs]
    by_cases he : x = E0
    ·rw [he, nz_snoc_e]; exact hn
    ·rw [nz_snoc he, nodup_snoc]
     refine ⟨hn, fun hm => ?_⟩
     rw [hz.2 ⟨he, (mem_nz.1 hm).1⟩] at h
     cases h
  refine ⟨fun hne => ⟨⟨by omega, h0, by omega⟩, ?_⟩, fun he => key false w1 (Ext.refl w1) ⟨nofun, fun h => absurd (nbeq_f he) h.1⟩⟩
  rw [slice_same]
  have hne := nbeq_t hne
  have ht : RStrs w1 a (i.toNat - (0 : Int).toNat) (c - (0 : Int).toNat) (xs.take i.toNat) := SlL.take (T := 9) (n := 1) (R := fun s cs => cs = [.string s]) (hl.keep hx.keep) (i := i.toNat) (by omega)
  refine (c_in x ht).mono ?_
  rintro _ w' ⟨b, rfl, hx', hb⟩
  exact ⟨b, rfl, trivial, key b w' hx' (hb.trans ⟨fun h => ⟨hne, h⟩, fun h => h.2⟩)⟩
 ·have hle := of_decide_eq_false hge
  rw [List.take_of_length_le (by omega)] at hn
  exact ⟨false, rfl, hx, nofun, fun h => absurd hn h⟩
end Go.VC
namespace Go.VC
open Go Go.Proofs
variable [DB]
theorem spL_append : ∀ a b : List Sel, spL (a ++ b) = spL a ++ spL b
 | [], b => rfl
 | s :: a, b => by simp [spL, spL_append a b]
theorem spL_take_le (xs : List Sel) (j : Nat) : (spL (xs.take j)).length <= (spL xs).length := by
 have : spL xs = spL (xs.take j) ++ spL (xs.drop j) := by rw [<- spL_append, List.take_append_drop]
 rw [this, List.length_append]
 omega
abbrev SpsOf (xs : List Sel) : Prop := ∀ (a : OA) (l c : Nat) (w : World), RSels w a l c xs -> okSels xs -> (spL xs).length <= 2097152 ->
 CP 71 #[.slice a l c] w fun e w' => ∃ A L C, e = .returned (.slice A L C) /\ Ext (fun _ => False) w w' /\ L = (spL xs).length /\ ∃ cells, Own w.heap.size w' 9 1 A L C cells /\ Flat 1 RS (spL xs) cells
theorem c_spreads_of {xs : List Sel} (IH : ∀ k al n on args dirs kids, Sel.mk k al n on args dirs kids ∈ xs -> SpsOf kids) : SpsOf xs := by
 intro a l c w hl hok hfew
 obtain ⟨e1, e3⟩ := hl.len
 refine q_spreads a l c w _ ⟨fun A L C i w1 => 0 <= i /\ i <= l /\ Ext (fun _ => False) w w1 /\ L = (spL (xs.take i.toNat)).length /\ ∃ cells, Own w.heap.size w1 9 1 A L C cells /\ Flat 1 RS (spL (xs.take i.toNat)) cells, fun _ _ _ i _ => ((l : Int) - i).toNat, ⟨by omega, by omega, Ext.refl w, rfl, [], Own.nil .., .nil⟩, ?_⟩
 rintro A L C i w1 ⟨h0, hi, hx, hL, cells, hown, hf⟩
 refine ⟨fun hlt => ?_, fun hge => ?_⟩
 ·have hlt := of_decide_eq_true hlt
  obtain ⟨p, x, hp, hxs, cs, hc, hv⟩ := hl.get h0 hlt
  have hmem := List.mem_of_getElem? hxs
  have hokx := okSels_iff.1 hok x hmem
  have hlen := spL_take_le xs (i + 1).toNat
  have htk := spL_take h0 hxs
  obtain ⟨k, al, n, on, args, dirs, kids⟩ := x
  have IHk := IH k al n on args dirs kids hmem
  obtain ⟨a1, l1, c1, a2, l2, c2, a3, l3, c3, rfl, hv1, hv2, hv3⟩ := RSel_mk.1 hv
  obtain ⟨⟨_, _, hc0⟩, hs0, ⟨_, _, hc1⟩, hs1, ⟨_, _, hc2⟩, hs2, ⟨_, _, hc3⟩, hs3, ⟨_, _, hc4⟩, hs4, ⟨_, _, hc5⟩, hs5, ⟨_, _, hc6⟩, -⟩ := hc
  simp only [okSel] at hokx
  obtain ⟨hk, -, -, hkids, hk1, -⟩ := hokx
  have hsp : spS (.mk k al n on args dirs kids) = (if k = 1 then [n] else []) ++ spL kids := by
   simp only [spS]
   split
   ·rename_i h1
    rw [(hk1 h1).2]; rfl
   ·rfl
  rw [hsp] at htk
  rw [htk] at hlen
  simp only [List.length_append] at hlen
  refine ⟨p, hp, ⟨h0, hlt⟩, _, hx.cell hc0 id, _, hx.cell hc1 id, _, hx.cell hc2 id, _, hx.cell hc3 id, _, _, _, hx.cell hc4 id, _, _, _, hx.cell hc5 id, _, _, _, hx.cell hc6 id, trivial, trivial, fun K17 hK17 => ?_⟩
  have hx16 : Ext (fun _ => False) w1 (w1.alloc (.cells #[.int .i64 k, .string al, .string n, .string on, .slice a1 l1 c1, .slice a2 l2 c2, .slice a3 l3 c3] 96)) := (Ext.refl w1).alloc _
  have key : ∀ (A' : OA) (L' C' : Nat) (w' : World) (cells' : List Value), Ext (fun _ => False) w w' -> L' = (spL (xs.take i.toNat) ++ if k = 1 then [n] else []).length -> Own w.heap.size w' 9 1 A' L' C' cells' -> Flat 1 RS (spL (xs.take i.toNat) ++ if k = 1 then [n] else []) cells' -> K17 A' L' C' w' := by
   intro A' L' C' w' cells' x' hL' o' f'
   refine hK17 A' L' C' w' ?_
   refine (IHk a3 l3 c3 w' (hv3.keep x'.keep) hkids (by omega)).mono ?_
   rintro _ w21 ⟨A2, L2, C2, rfl, x21, hL2, cells2, o2, f2⟩
   rw [List.length_append] at hL'
   have o1 := o'.keep x21 fun _ _ => id
   obtain ⟨A3, C3, w24, r24, ⟨cells3, o3, f3⟩, x24, -⟩ := append_strs o1 (Nat.le_trans x'.size x21.size) f' (o2.sl f2 (by omega) (by omega)) (by omega)
   refine ⟨A2, L2, C2, rfl, ⟨x21.keepT _, trivial⟩, A3, L' + L2, C3, w24, r24, ⟨o1.keepT x24 (by decide), trivial⟩, ?_⟩
   rw [wrap_lt h0 (by omega)]
   refine next h0 hlt ⟨(x'.then x21).trans x24 fun b hb hbl => ?_, ?_, cells3, o3, ?_⟩
   ·have := (o1.base b hbl).1
    omega
   ·rw [htk]
    simp only [List.length_append]
    omega
   ·rw [htk, <- List.append_assoc]
    exact f3
  refine ⟨fun hk => ?_, fun hk => ?_⟩
  ·have hk : k = 1 := by simpa using hk
   obtain ⟨A2, C2, w27, r1, ⟨cells2, o2, f2⟩, x2, k2⟩ := append_str (hown.keep hx16 fun _ _ => id) (Nat.le_trans hx.size hx16.size) hf (s := n) hs2 (by omega)
   refine ⟨trivial, A2, L + 1, C2, w27, r1, ⟨k2 96 (by decide), trivial⟩, key A2 (L + 1) C2 w27 cells2 ((hx.then hx16).trans x2 fun b hb hbl => ?_) (by rw [if_pos hk, List.length_append, hL]; rfl) o2 (by rw [if_pos hk]; exact f2)⟩
   have := ((hown.keep hx16 fun _ _ => id).base b hbl).1
   omega
  ·have hk : k ≠ 1 := fun e => by simp [e] at hk
   exact key A L C _ cells (hx.then hx16) (by rw [if_neg hk, List.append_nil, hL]) (hown.keep hx16 fun _ _ => id) (by rw [if_neg hk, List.append_nil]; exact hf)
 ·have hle := of_decide_eq_false hge
  rw [List.take_of_length_le (by omega)] at hf hL
  exact ⟨A, L, C, rfl, hx, hL, cells, hown, hf⟩
theorem c_spreads_all : ∀ (d : Nat) (xs : List Sel), SizeOf.sizeOf xs < d -> SpsOf xs
 | 0, _, h => by omega
 | d + 1, xs, h => c_spreads_of fun k al n on args dirs kids hm => c_spreads_all d kids (by
   have := List.sizeOf_lt_of_mem hm
   simp only [Sel.mk.sizeOf_spec] at this
   omega)
theorem c_spreads (xs : List Sel) : SpsOf xs := c_spreads_all _ xs (Nat.lt_succ_self _)
def spAll (ops : List OpD) (frags : List Frag) : List BA := (ops.flatMap fun x => spL x.kids) ++ frags.flatMap fun x => spL x.kids
theorem spAll_len (ops : List OpD) (frags : List Frag) : (spAll ops frags).length = spTot ops frags := by
 simp [spAll, spTot, List.length_flatMap]
theorem flat_take_le {α : Type} (f : α -> List BA) (xs : List α) (j : Nat) : ((xs.take j).flatMap f).length <= (xs.flatMap f).length := by
 have : xs.flatMap f = (xs.take j).flatMap f ++ (xs.drop j).flatMap f := by rw [<- List.flatMap_append, List.take_append_drop]
 rw [this, List.length_append]
 omega
theorem flat_snoc {α : Type} (f : α -> List BA) {xs : List α} {i : Int} {x : α} (h0 : 0 <= i) (hx : xs[i.toNat]? = some x) : (xs.take (i + 1).toNat).flatMap f = (xs.take i.toNat).flatMap f ++ f x := by
 rw [take_snoc h0 hx, List.flatMap_append]
 simp
theorem c_allSpreads {a : OA} {l c : Nat} {a' : OA} {l' c' : Nat} {ops : List OpD} {frags : List Frag} {w : World} (hl : ROps w a l c ops) (hl' : RFrags w a' l' c' frags) (ok1 : ∀ x ∈ ops, okOp x) (ok2 : ∀ x ∈ frags, okFrag x) (hsp : spTot ops frags <= 2097152) :
  CP 38 #[.agg #[.slice a l c, .slice a' l' c']] w fun e w' => ∃ A L C, e = .returned (.slice A L C) /\ Ext (fun _ => False) w w' /\ RStrs w' A L C (spAll ops frags) := by
 obtain ⟨e1, e3⟩ := hl.len
 obtain ⟨e1', e3'⟩ := hl'.len
 have htot := spAll_len ops frags
 simp only [spAll, List.length_append] at htot
 have hx0 := (Ext.refl (X := fun _ => False) w).alloc (.cells #[.slice a l c, .slice a' l' c'] 30)
 refine q_allSpreads a l c a' l' c' w _ ⟨trivial, ?_⟩
 refine ⟨fun A L C i w1 => 0 <= i /\ i <= l /\ Ext (fun _ => False) w w1 /\ L = ((ops.take i.toNat).flatMap fun x => spL x.kids).length /\ ∃ cells, Own w.heap.size w1 9 1 A L C cells /\ Flat 1 RS ((ops.take i.toNat).flatMap fun x => spL x.kids) cells, fun _ _ _ i _ => ((l : Int) - i).toNat, ⟨by omega, by omega, hx0, rfl, [], Own.nil .., .nil⟩, ?_⟩
 rintro A L C i w1 ⟨h0, hi, hx, hL, cells, hown, hf⟩
 refine ⟨fun hlt => ?_, fun hge => ?_⟩
 ·have hlt := of_decide_eq_true hlt
  obtain ⟨p, x, hp, hxs, cs, hc, a1, l1, c1, a2, l2, c2, a3, l3, c3, rfl, hv1, hv2, hv3⟩ := hl.get h0 hlt
  obtain ⟨⟨_, _, hc0⟩, hs0, ⟨_, _, hc1⟩, hs1, ⟨_, _, hc2⟩, hs2, ⟨_, _, hc3⟩, hs3, ⟨_, _, hc4⟩, -⟩ := hc
  have hlen := flat_take_le (fun x : OpD => spL x.kids) ops (i + 1).toNat
  have hsn := flat_snoc (fun x : OpD => spL x.kids) h0 hxs
  have hle1 : (spL x.kids).length <= 2097152 := by
   rw [hsn, List.length_append] at hlen
   omega
  refine ⟨p, hp, ⟨h0, hlt⟩, _, hx.cell hc0 id, _, hx.cell hc1 id, _, _, _, hx.cell hc2 id, _, _, _, hx.cell hc3 id, _, _, _, hx.cell hc4 id, trivial, trivial, ?_⟩
  have hx16 := hx.alloc (.cells #[.string x.kind, .string x.name, .slice a1 l1 c1, .slice a2 l2 c2, .slice a3 l3 c3] 51)
  have hy16 : Ext (fun _ => False) w1 (w1.alloc (.cells #[.string x.kind, .string x.name, .slice a1 l1 c1, .slice a2 l2 c2, .slice a3 l3 c3] 51)) := (Ext.refl w1).alloc _
  refine (c_spreads x.kids a3 l3 c3 _ (hv3.keep hx16.keep) (ok1 x (List.mem_of_getElem? hxs)).2.2.2 hle1).mono ?_
  rintro _ w18 ⟨A2, L2, C2, rfl, x18, hL2, cells2, o2, f2⟩
  have o1 := (hown.keep hy16 fun _ _ => id).keep x18 fun _ _ => id
  obtain ⟨A3, C3, w21, r21, ⟨cells3, o3, f3⟩, x21, -⟩ := append_strs o1 (Nat.le_trans hx16.size x18.size) hf (o2.sl f2 (by omega) (by omega)) (by rw [hsn, List.length_append] at hlen; omega)
  refine ⟨A2, L2, C2, rfl, ⟨x18.keepT _, x18.keepT _, trivial⟩, A3, L + L2, C3, w21, r21, ⟨o1.keepT x21 (by decide), o1.keepT x21 (by decide), trivial⟩, ?_⟩
  rw [wrap_lt h0 (by omega)]
  refine next h0 hlt ⟨(hx16.then x18).trans x21 fun b hb hbl => ?_, ?_, cells3, o3, ?_⟩
  ·have := (o1.base b hbl).1
   omega
  ·rw [hsn, List.length_append]; omega
  ·rw [hsn]; exact f3
 ·have hle := of_decide_eq_false hge
  rw [List.take_of_length_le (by omega)] at hf hL
  refine ⟨fun A L C i w1 => 0 <= i /\ i <= l' /\ Ext (fun _ => False) w w1 /\ L = ((ops.flatMap fun x => spL x.kids) ++ (frags.take i.toNat).flatMap fun x => spL x.kids).length /\ ∃ cells, Own w.heap.size w1 9 1 A L C cells /\ Flat 1 RS ((ops.flatMap fun x => spL x.kids) ++ (frags.take i.toNat).flatMap fun x => spL x.kids) cells, fun _ _ _ i _ => ((l' : Int) - i).toNat, ⟨by omega, by omega, hx, by simpa using hL, cells, hown, by simpa using hf⟩, ?_⟩
  clear hown hf hL hx hle hge h0 hi
  rintro A L C i w1 ⟨h0, hi, hx, hL, cells, hown, hf⟩
  rw [List.length_append] at hL
  refine ⟨fun hlt => ?_, fun hge => ?_⟩
  ·have hlt := of_decide_eq_true hlt
   obtain ⟨p, x, hp, hxs, cs, hc, a2, l2, c2, a3, l3, c3, rfl, hv2, hv3⟩ := hl'.get h0 hlt
   obtain ⟨⟨_, _, hc0⟩, hs0, ⟨_, _, hc1⟩, hs1, ⟨_, _, hc2⟩, hs2, ⟨_, _, hc3⟩, -⟩ := hc
   have hlen := flat_take_le (fun x : Frag => spL x.kids) frags (i + 1).toNat
   have hsn := flat_snoc (fun x : Frag => spL x.kids) h0 hxs
   rw [hsn, List.length_append] at hlen
   refine ⟨p, hp, ⟨h0, hlt⟩, _, hx.cell hc0 id, _, hx.cell hc1 id, _, _, _, hx.cell hc2 id, _, _, _, hx.cell hc3 id, trivial, trivial, ?_⟩
   have hx16 := hx.alloc (.cells #[.string x.name, .string x.on, .slice a2 l2 c2, .slice a3 l3 c3] 63)
   have hy16 : Ext (fun _ => False) w1 (w1.alloc (.cells #[.string x.name, .string x.on, .slice a2 l2 c2, .slice a3 l3 c3] 63)) := (Ext.refl w1).alloc _
   refine (c_spreads x.kids a3 l3 c3 _ (hv3.keep hx16.keep) (ok2 x (List.mem_of_getElem? hxs)).2.1 (by omega)).mono ?_
   rintro _ w18 ⟨A2, L2, C2, rfl, x18, hL2, cells2, o2, f2⟩
   have o1 := (hown.keep hy16 fun _ _ => id).keep x18 fun _ _ => id
   obtain ⟨A3, C3, w21, r21, ⟨cells3, o3, f3⟩, x21, -⟩ := append_strs o1 (Nat.le_trans hx16.size x18.size) hf (o2.sl f2 (by omega) (by omega)) (by omega)
   refine ⟨A2, L2, C2, rfl, ⟨x18.keepT _, x18.keepT _, trivial⟩, A3, L + L2, C3, w21, r21, ⟨o1.keepT x21 (by decide), o1.keepT x21 (by decide), trivial⟩, ?_⟩
   rw [wrap_lt h0 (by omega)]
   refine next h0 hlt ⟨(hx16.then x18).trans x21 fun b hb hbl => ?_, ?_, cells3, o3, ?_⟩
   ·have := (o1.base b hbl).1
    omega
   ·rw [hsn, List.length_append, List.length_append]; omega
   ·rw [hsn, <- List.append_assoc]; exact f3
  ·have hle := of_decide_eq_false hge
   rw [List.take_of_length_le (by omega)] at hf hL
   exact ⟨A, L, C, rfl, hx, hown.sl hf (by omega) (by omega)⟩
theorem c_frag (name : BA) {a : OA} {l c : Nat} {a' : OA} {l' c' : Nat} {frags : List Frag} {w : World} (hl' : RFrags w a' l' c' frags) :
  CP 39 #[.agg #[.slice a l c, .slice a' l' c'], .string name] w fun e w' => ∃ s1 s2 a1 l1 c1 a2 l2 c2 b, e = .returned (.tuple #[.agg #[.string s1, .string s2, .slice a1 l1 c1, .slice a2 l2 c2], .bool b]) /\ Ext (fun _ => False) w w' /\ (b = true ↔ ∃ f ∈ frags, f.name = name) := by
 obtain ⟨e1', e3'⟩ := hl'.len
 have hx4 := (Ext.refl (X := fun _ => False) w).alloc (.cells #[.slice a l c, .slice a' l' c'] 30)
 have hx5 := hx4.alloc (.cells #[.string ⟨#[]⟩, .string ⟨#[]⟩, .slice none 0 0, .slice none 0 0] 63)
 refine q_frag a l c a' l' c' name w _ ⟨trivial, trivial, ?_⟩
 refine ⟨fun i _ _ _ _ _ _ _ _ w1 => 0 <= i /\ i <= l' /\ Ext (fun _ => False) w w1 /\ ∀ f ∈ frags.take i.toNat, f.name ≠ name, fun i _ _ _ _ _ _ _ _ _ => ((l' : Int) - i).toNat, ⟨by omega, by omega, hx5, by simp⟩, ?_⟩
 rintro i s9 s10 a11 a11l a11c a12 a12l a12c w1 ⟨h0, hi, hx, hn⟩
 refine ⟨fun hlt => ?_, fun hge => ?_⟩
 ·have hlt := of_decide_eq_true hlt
  obtain ⟨p, x, hp, hxs, cs, hc, a2, l2, c2, a3, l3, c3, rfl, hv2, hv3⟩ := hl'.get h0 hlt
  obtain ⟨⟨_, _, hc0⟩, hs0, ⟨_, _, hc1⟩, hs1, ⟨_, _, hc2⟩, hs2, ⟨_, _, hc3⟩, -⟩ := hc
  have hx16 := hx.alloc (.cells #[.string x.name, .string x.on, .slice a2 l2 c2, .slice a3 l3 c3] 63)
  refine ⟨p, hp, ⟨h0, hlt⟩, _, hx.cell hc0 id, _, hx.cell hc1 id, _, _, _, hx.cell hc2 id, _, _, _, hx.cell hc3 id, trivial, trivial, fun he => ⟨trivial, ?_⟩, fun hne => ?_⟩
  ·exact ⟨_, _, _, _, _, _, _, _, true, rfl, hx16.setB (.inr hx4.size) _ _, fun _ => ⟨x, List.mem_of_getElem? hxs, bytes_beq_t.1 he⟩, fun _ => rfl⟩
  ·rw [wrap_lt h0 (by omega)]
   exact next h0 hlt ⟨hx16, take_all_int h0 hn hxs (bytes_beq_f.1 hne)⟩
 ·have hno := take_end e1' hge hn
  exact ⟨trivial, trivial, _, _, _, _, _, _, _, _, false, rfl, hx.setB (.inr hx4.size) _ _, nofun, fun ⟨f, hf, he⟩ => absurd he (hno f hf)⟩
theorem c_NoFrag {a : OA} {l c : Nat} {a' : OA} {l' c' : Nat} {ops : List OpD} {frags : List Frag} {w : World} (hl : ROps w a l c ops) (hl' : RFrags w a' l' c' frags) (ok1 : ∀ x ∈ ops, okOp x) (ok2 : ∀ x ∈ frags, okFrag x) (hsp : spTot ops frags <= 2097152) :
  CP 15 #[.agg #[.slice a l c, .slice a' l' c']] w (RetB w fun b => b = true ↔ ∃ n ∈ spAll ops frags, ∀ f ∈ frags, f.name ≠ n) := by
 have hx0 := (Ext.refl (X := fun _ => False) w).alloc (.cells #[.slice a l c, .slice a' l' c'] 30)
 refine q_NoFrag a l c a' l' c' w _ ⟨trivial, ?_⟩
 refine (c_allSpreads (hl.keep hx0.keep) (hl'.keep hx0.keep) ok1 ok2 hsp).mono ?_
 rintro _ w5 ⟨A, L, C, rfl, x5, hr⟩
 have y5 := hx0.then x5
 obtain ⟨e1, e3⟩ := hr.len
 refine ⟨A, L, C, rfl, ⟨x5.keepT _, trivial⟩, fun i w1 => 0 <= i /\ i <= L /\ Ext (fun _ => False) w5 w1 /\ ∀ n ∈ (spAll ops frags).take i.toNat, ∃ f ∈ frags, f.name = n, fun i _ => ((L : Int) - i).toNat, ⟨by omega, by omega, Ext.refl w5, by simp⟩, ?_⟩
 rintro i w1 ⟨h0, hi, hx, hn⟩
 refine ⟨fun hlt => ?_, fun hge => ?_⟩
 ·have hlt := of_decide_eq_true hlt
  obtain ⟨p, n, hp, hns, cs, hc, rfl⟩ := hr.get h0 hlt
  refine ⟨p, hp, ⟨h0, hlt⟩, n, hx.cell hc.1.choose_spec.2 id, ?_⟩
  refine (c_frag n (hl'.keep (y5.then hx).keep)).mono ?_
  rintro _ w14 ⟨s1, s2, a1, l1, c1, a2, l2, c2, b, rfl, x14, hb⟩
  have y21 := (hx.then x14).alloc (.cells #[.string s1, .string s2, .slice a1 l1 c1, .slice a2 l2 c2] 63)
  refine ⟨s1, s2, a1, l1, c1, a2, l2, c2, b, rfl, ⟨x14.keepT _, trivial⟩, trivial, trivial, fun h => ⟨true, rfl, y5.then y21, fun _ => ⟨n, List.mem_of_getElem? hns, fun f hf he => ?_⟩, fun _ => rfl⟩, fun h => ?_⟩
  ·rw [hb.2 ⟨f, hf, he⟩] at h
   cases h
  ·rw [wrap_lt h0 (by omega)]
   exact next h0 hlt ⟨y21, take_all_int h0 hn hns (hb.1 (by simpa using h))⟩
 ·have hall := take_end e1 hge hn
  refine ⟨false, rfl, y5.then hx, nofun, fun ⟨n, hm, hno⟩ => ?_⟩
  obtain ⟨f, hf, he⟩ := hall n hm
  exact absurd he (hno f hf)
end Go.VC
namespace Go.VC
open Go Go.Proofs
variable [DB]
def badKnown : Ev -> Prop
 | .spread _ found => found = false
 | _ => False
abbrev StKnown (ae cnt : Nat) (l : List Ev) (w : World) : Prop := Cnt ae cnt l.length (∃ e ∈ l, badKnown e) w
theorem ex_snoc2 {α : Type} {P : α -> Prop} {l : List α} {x : α} : (∃ e ∈ l ++ [x], P e) ↔ (∃ e ∈ l, P e) ∨ P x := by
 constructor
 ·rintro ⟨e, he, h⟩
  rcases List.mem_append.1 he with he | he
  ·exact .inl ⟨e, he, h⟩
  ·obtain rfl : e = x := by simpa using he
   exact .inr h
 ·rintro (⟨e, he, h⟩ | h)
  ·exact ⟨e, by simp [he], h⟩
  ·exact ⟨x, by simp, h⟩
theorem pot_le (c : WCtx) : pot c [] <= (c.frags.map fun f => (spL f.kids).length).sum := by
 unfold pot
 have : potF [] = fun f : Frag => (spL f.kids).length := funext fun f => potF_out (by simp)
 rw [this]
 exact Nat.le_refl _
theorem sum_add {α : Type} (f : α -> Nat) (k : Nat) : ∀ xs : List α, (xs.map fun x => f x + k).sum = (xs.map f).sum + xs.length * k
 | [] => by simp
 | x :: xs => by
  simp only [List.map_cons, List.sum_cons, List.length_cons, sum_add f k xs, Nat.add_mul]
  omega
theorem spN_le (c : WCtx) (h1 : c.ops.length <= 12) (h2 : c.frags.length <= 12) : spN c c.ops c.frags <= spTot c.ops c.frags + 24 * (1 + spTot c.ops c.frags) := by
 have hp := pot_le c
 unfold spN
 rw [sum_add (fun x : OpD => (spL x.kids).length), sum_add (fun x : Frag => (spL x.kids).length)]
 have k1 := Nat.mul_le_mul_right (1 + pot c []) h1
 have k2 := Nat.mul_le_mul_right (1 + pot c []) h2
 unfold spTot
 omega
theorem c_UKnown_1 {c : WCtx} {ae cnt : Nat} {l : List Ev} {w : World} {co : OA} {vm : Nat} {evs : List Value} {node : Value} {ev : Ev} (hVM : ∀ b, (b = cnt ∨ b = ae) -> ¬ c.M b) (hne : ae ≠ cnt) (hc : StKnown ae cnt l w) (hw : Wst c co vm evs w) (hk : isSpread ev = true) (hn : evNode c w node ev) :
  CP 64 #[.pointer (some (adr c.wb)), node, .pointer (some (adr ae))] w fun e w' => e = .returned (.tuple #[]) /\ Ext (fun b => b = cnt ∨ b = ae) w w' /\ StKnown ae cnt (l ++ [ev]) w' := by
 cases ev with
 | op o => cases hk
 | frag f => cases hk
 | spread n found =>
  obtain ⟨b, q, d, u2, u3, pos, rfl, hM, hB, hq, hqf, -⟩ := hn
  refine q_rules_KnownFragmentNamesRule_1 (some (adr c.wb)) (some (adr b)) (adr ae) w _ ⟨adr b, rfl, q, hq, fun hno => ?_, fun hyes => ⟨rfl, Ext.refl w, Cnt.skip hc (by simp) ⟨fun k => ex_snoc2.2 (.inl k), fun k => (ex_snoc2.1 k).elim id fun hb => ?_⟩⟩⟩
  ·intro w6 e6
   have x6 : Ext (fun _ => False) w w6 := by rw [e6]; exact (Ext.refl w).drew
   have c6 := Cnt.ext hc x6 id id
   have wk6 := hw.wk.trans (Wk.ofExt x6 fun _ _ => id)
   have a6 := wk6.at (a := ⟨b, 4, none⟩) hM (hB.at (j := 4) rfl) rfl
   refine ⟨_, (c6.1.at (j := 0) rfl).cell, adr b, rfl, n, wk6.nd hM hB (j := 0) rfl rfl, adr b, rfl, pos, a6.cell, trivial, ?_⟩
   refine tell c6 a6 hne ((Ext.refl w6).alloc _) rfl fun w' x' c' => ⟨rfl, (x6.toM _).trans x' fun _ _ e => e, Cnt.skip c' (by simp) ⟨fun _ => ex_snoc2.2 (.inr ?_), fun _ => trivial⟩⟩
   show found = false
   rw [<- hqf]
   cases q with
   | none => rfl
   | some q => cases hno
  ·have hb : found = false := hb
   rw [<- hqf] at hb
   cases q with
   | none => cases hyes
   | some q => cases hb
theorem knownRule (ops : List OpD) (frags : List Frag) (h12 : ops.length <= 12) (h12' : frags.length <= 12) (hsp : spTot ops frags <= 2097152) : RuleOK 32 ops frags fun n => 0 <= n /\ (n > 0 ↔ ∃ n ∈ spAll ops frags, ∀ f ∈ frags, f.name ≠ n) := by
 refine ⟨⟨_, Tryz.func32, by kernel_rfl⟩, ?_⟩
 intro c cnt hops hfrags hb hB hcnt hne hMc hMe
 subst hops
 subst hfrags
 have x3 : Ext (fun _ => False) c.w0 (c.w0.alloc (.cells #[.func (.func 61) #[] #[.pointer (some (adr cnt))]] 122)) := (Ext.refl c.w0).alloc _
 have Bae := Blk.made c.w0 122 [.func (.func 61) #[] #[.pointer (some (adr cnt))]]
 refine q_rules_KnownFragmentNamesRule (some (adr c.eb)) _ c.w0 _ ⟨⟨rfl, trivial⟩, ?_⟩
 have hlc := hcnt.lt
 have hle := hB.lt
 generalize hw3 : c.w0.alloc (.cells #[.func (.func 61) #[] #[.pointer (some (adr cnt))]] 122) = w3
 replace x3 : Ext (fun _ => False) c.w0 w3 := by rw [<- hw3]; exact x3
 replace Bae : Blk w3 c.w0.heap.size 122 [.func (.func 61) #[] #[.pointer (some (adr cnt))]] := by rw [<- hw3]; exact Bae
 clear hw3
 have hla := Bae.lt
 refine (c_core_Events_OnFragmentSpread (f := .func (.func 64) #[] #[.pointer (some (adr c.w0.heap.size))]) rfl (hB.ext x3 id)).mono ?_
 rintro _ w5 ⟨rfl, p, C, B5, ap, hpb, x5⟩
 have y5 : Ext (fun b => b = c.eb) c.w0 w5 := (x3.toM _).trans x5 fun _ _ e => e
 have hz5 := x5.size
 have hz3 := x3.size
 have hae : c.w0.heap.size ≠ cnt := by omega
 have Bae5 := Bae.ext x5 (by show ¬ c.w0.heap.size = c.eb; omega)
 have Bc5 := hcnt.ext y5 hne
 refine ⟨rfl, trivial, rfl, y5, fun b => b = cnt ∨ b = c.w0.heap.size, StKnown c.w0.heap.size cnt, ⟨none, 0, 0, false, none, 0, 0, false, some p, 1, C, true⟩, ?_, fun b hb' => ?_, fun b hb' T cs fr ho => ?_, fun l w'' hl ht => ?_⟩
 ·have hVM : ∀ b, (b = cnt ∨ b = c.w0.heap.size) -> ¬ c.M b := fun b hV hM => by
   have := hb.m b hM
   rcases hV with rfl | rfl
   ·exact hMc hM
   ·omega
  refine rule_one hb hMe y5 (fun b hb' => hb'.imp id fun e => by omega) hlc hne hMc hle (fun l w w'' h hx => Cnt.ext h hx (fun e => e (.inr rfl)) fun e => e (.inl rfl)) (Cnt.zero Bae5 Bc5 (by simp)) B5 fun b5 wb fm fl => ⟨.inl ⟨rfl, rfl⟩, .inl ⟨rfl, rfl⟩, vis_one (cap := [.pointer (some (adr c.w0.heap.size))]) ap (fun h => ?_) (fun h => ?_) Tryz.func64 (by kernel_rfl) fun l w1 co vm evs node ev hl hw hk hn => c_UKnown_1 hVM hae hl hw hk hn⟩
  ·have : p.block < c.w0.heap.size := hb.m _ h
   omega
  ·have : p.block = cnt ∨ p.block = c.w0.heap.size := h
   omega
 ·rcases hb' with rfl | rfl
  ·exact .inr (Nat.le_refl _)
  ·exact .inr (by omega)
 ·rcases hb' with rfl | rfl
  ·rw [Bc5.type ho]; decide
  ·rw [Bae5.type ho]; decide
 ·obtain ⟨-, n, hn, hk⟩ := hl
  have hfew := ht.few
  have hN := spN_le { c with V := fun b => b = cnt ∨ b = c.w0.heap.size, St := StKnown c.w0.heap.size cnt, w0 := w5 } h12 h12'
  have hN' : spN { c with V := fun b => b = cnt ∨ b = c.w0.heap.size, St := StKnown c.w0.heap.size cnt, w0 := w5 } c.ops c.frags <= spTot c.ops c.frags + 24 * (1 + spTot c.ops c.frags) := hN
  obtain ⟨k1, k2, k3⟩ := hk (by omega)
  refine ⟨n, hn, k1, k3.trans ?_⟩
  have hsome : ∀ n, (firstN Frag.name c.frags n).isSome = false ↔ ∀ f ∈ c.frags, f.name ≠ n := fun n => by
   unfold firstN
   rw [Option.isSome_eq_false_iff, Option.isNone_iff_eq_none, List.find?_eq_none]
   simp
  constructor
  ·rintro ⟨e, he, hb'⟩
   rcases ht.only e he with ⟨x, hx, rfl, h⟩ | ⟨x, hx, rfl, h⟩ | ⟨n, hall, rfl⟩
   ·cases h
   ·cases h
   ·refine ⟨n, ?_, (hsome n).1 hb'⟩
    rcases hall with ⟨x, hx, hm⟩ | ⟨x, hx, hm⟩
    ·exact List.mem_append.2 (.inl (List.mem_flatMap.2 ⟨x, hx, hm⟩))
    ·exact List.mem_append.2 (.inr (List.mem_flatMap.2 ⟨x, hx, hm⟩))
  ·rintro ⟨n, hm, hno⟩
   refine ⟨spEv { c with V := fun b => b = cnt ∨ b = c.w0.heap.size, St := StKnown c.w0.heap.size cnt, w0 := w5 } n, ?_, (hsome n).2 hno⟩
   rcases List.mem_append.1 hm with hm | hm
   ·obtain ⟨x, hx, hm⟩ := List.mem_flatMap.1 hm
    exact (ht.all rfl).1 x hx n hm
   ·obtain ⟨x, hx, hm⟩ := List.mem_flatMap.1 hm
    exact (ht.all rfl).2 x hx n hm
end Go.VC
namespace Go.VC
open Go Go.Proofs
variable [DB]
theorem c_impl_RKnownFragmentNames {P : Int -> Prop} {wd : WorldD} {a1 : OA} {l1 c1 : Nat} {a2 : OA} {l2 c2 : Nat} {a6 : OA} {l6 c6 : Nat} {a7 : OA} {l7 c7 : Nat} {q8 : OA} {q8l q8c : Nat} {q9 : OA} {q9l q9c : Nat} {ops : List OpD} {frags : List Frag} {w : World}
  (hw : RWorld w wd [.slice a1 l1 c1, .slice a2 l2 c2, .string wd.query, .string wd.mutation, .string wd.subscription, .slice a6 l6 c6, .slice a7 l7 c7]) (ok3 : ∀ x ∈ wd.dirs, ∀ y ∈ x.args, okArgDef y) (ok4 : ∀ x ∈ wd.types, okDef x)
  (few6 : (pushD wd.types wd.possible).length <= 4194304) (few7 : (pushD wd.types wd.implements).length <= 4194304) (hl1 : ROps w q8 q8l q8c ops) (hl2 : RFrags w q9 q9l q9c frags) (ok1 : ∀ x ∈ ops, okOp x) (ok2 : ∀ x ∈ frags, okFrag x) (hr : RuleOK 32 ops frags P) (hB0 : DB.B <= w.heap.size) :
  CP 12 #[.agg #[.slice a1 l1 c1, .slice a2 l2 c2, .string wd.query, .string wd.mutation, .string wd.subscription, .slice a6 l6 c6, .slice a7 l7 c7], .agg #[.slice q8 q8l q8c, .slice q9 q9l q9c]] w fun e w' =>
   ∃ n, e = .returned (.tuple #[.int .i64 n, .bool true]) /\ P n /\ Ext (fun _ => False) w w' := by
 have x11 : Ext (fun _ => False) w (w.alloc (.cells #[.slice a1 l1 c1, .slice a2 l2 c2, .string wd.query, .string wd.mutation, .string wd.subscription, .slice a6 l6 c6, .slice a7 l7 c7] 40)) := (Ext.refl w).alloc _
 have x12 := x11.alloc (.cells #[.slice q8 q8l q8c, .slice q9 q9l q9c] 30)
 refine q_impl_RKnownFragmentNames a1 l1 c1 a2 l2 c2 wd.query wd.mutation wd.subscription a6 l6 c6 a7 l7 c7 q8 q8l q8c q9 q9l q9c w _ ⟨trivial, trivial, ?_⟩
 refine (c_impl_found (RWorld.keep x12.keep hw) ok3 ok4 few6 few7 (hl1.keep x12.keep) (hl2.keep x12.keep) ok1 ok2 hr (Nat.le_trans hB0 x12.size)).mono ?_
 rintro _ w' ⟨n, rfl, hp, hx⟩
 exact ⟨n, true, rfl, ⟨hx.keepT _, hx.keepT _, trivial⟩, n, rfl, hp, x12.then hx⟩
theorem c_law_FnRuleFragKnown {S : List OpD -> List Frag -> Prop} (rule : ∀ ops frags, ops.length <= 12 -> frags.length <= 12 -> (∀ x ∈ ops, okOp x) -> (∀ x ∈ frags, okFrag x) -> spTot ops frags <= 2097152 -> True -> RuleOK 32 ops frags fun n => 0 <= n /\ (n > 0 ↔ S ops frags))
  (spec : ∀ {a : OA} {l c : Nat} {a' : OA} {l' c' : Nat} {ops : List OpD} {frags : List Frag} {w : World}, ROps w a l c ops -> RFrags w a' l' c' frags -> ops.length <= 12 -> frags.length <= 12 -> (∀ x ∈ ops, okOp x) -> (∀ x ∈ frags, okFrag x) -> spTot ops frags <= 2097152 -> True -> CP 15 #[.agg #[.slice a l c, .slice a' l' c']] w (RetB w fun b => b = true ↔ S ops frags))
  {d1 : OA} {d1l d1c : Nat} {d2 : OA} {d2l d2c : Nat} {d3 : OA} {d3l d3c : Nat} {d4 : OA} {d4l d4c : Nat} {d5 : OA} {d5l d5c : Nat} {q6 : OA} {q6l q6c : Nat} {q7 : OA} {q7l q7c : Nat} {defs exts : List SchemaDef} {dirs : List DirDef} {types texts : List Def} {ops : List OpD} {frags : List Frag} {w : World}
  (h1 : RSchemaDefs w d1 d1l d1c defs) (h2 : RSchemaDefs w d2 d2l d2c exts) (h3 : RDirDefs w d3 d3l d3c dirs) (h4 : RDefs w d4 d4l d4c types) (h5 : RDefs w d5 d5l d5c texts) (hs : d1l + d2l <= 4194304) (hsp : spTot ops frags <= 2097152) (h6 : ROps w q6 q6l q6c ops) (h7 : RFrags w q7 q7l q7c frags) (hB0 : DB.B <= w.heap.size) :
  CP 3 #[.agg #[.slice d1 d1l d1c, .slice d2 d2l d2c, .slice d3 d3l d3c, .slice d4 d4l d4c, .slice d5 d5l d5c], .agg #[.slice q6 q6l q6c, .slice q7 q7l q7c]] w fun e w' => e = .returned (.bool true) /\ Ext (fun _ => False) w w' := by
 have x8 : Ext (fun _ => False) w (w.alloc (.cells #[.slice d1 d1l d1c, .slice d2 d2l d2c, .slice d3 d3l d3c, .slice d4 d4l d4c, .slice d5 d5l d5c] 26)) := (Ext.refl w).alloc _
 have x9 := x8.alloc (.cells #[.slice q6 q6l q6c, .slice q7 q7l q7c] 30)
 refine q_laws_FnRuleFragKnown d1 d1l d1c d2 d2l d2c d3 d3l d3c d4 d4l d4c d5 d5l d5c q6 q6l q6c q7 q7l q7c w _ ⟨trivial, trivial, fun K10 hK10 => ?_⟩
 have key10 : ∀ b w', Ext (fun _ => False) w w' -> K10 b w' := by
  intro b w' xw
  refine hK10 b w' ⟨fun _ => ⟨rfl, xw⟩, fun _ => ?_⟩
  refine (c_Build (h1.keep xw.keep) (h2.keep xw.keep) (h3.keep xw.keep) (h4.keep xw.keep) (h5.keep xw.keep) hs (Nat.le_trans hB0 xw.size)).mono ?_
  rintro _ w14 ⟨q15, b16, rfl, x14, hok⟩
  refine ⟨q15, b16, rfl, ⟨x14.keepT _, x14.keepT _, trivial⟩, fun K17 hK17 => ?_⟩
  have y14 := xw.then x14
  have key17 : ∀ b w', Ext (fun _ => False) w14 w' -> (b = false -> b16 = true /\ ops.length <= 12 /\ frags.length <= 12 /\ (∀ x ∈ ops, okOp x) /\ (∀ x ∈ frags, okFrag x) /\ True) -> K17 b w' := by
   intro b w19 x19 hb
   have y19 := y14.then x19
   refine hK17 b w19 ⟨fun _ => ⟨rfl, y19⟩, fun hbf => ?_⟩
   obtain ⟨hb16, n1, n2, ok1, ok2, nl⟩ := hb hbf
   obtain ⟨k, rfl, A, L, C, hB, hR, hO⟩ := hok hb16
   intro w20 e20
   have x20 : Ext (fun _ => False) w19 w20 := by rw [e20]; exact (Ext.refl w19).drew
   have y20 := y19.then x20
   have z20 := x19.then x20
   refine (c_World_Wide (hB.ext z20 id) (h4.keep y20.keep) (hR.keep z20.keep) (h3.keep y20.keep) hO.few.1 (fun t ht => by have := hO.small t ht; omega) hO.few.2 (Nat.le_trans hB0 y20.size)).mono ?_
   rintro _ w22 ⟨cs, rfl, hW, x22⟩
   obtain ⟨ok3, ok4, few6, few7⟩ := wide_ok hO
   have hW' := hW
   obtain ⟨a1, l1, c1, a2, l2, c2, a6, l6, c6, a7, l7, c7, rfl, -⟩ := hW'
   have y22 := y20.then x22
   refine ⟨a1, l1, c1, a2, l2, c2, _, _, _, a6, l6, c6, a7, l7, c7, rfl, ⟨x22.keepT _, x22.keepT _, trivial⟩, ⟨rfl, trivial⟩, ?_⟩
   refine (c_impl_RKnownFragmentNames hW ok3 ok4 few6 few7 (h6.keep y22.keep) (h7.keep y22.keep) ok1 ok2 (rule ops frags n1 n2 ok1 ok2 hsp nl) (Nat.le_trans hB0 y22.size)).mono ?_
   rintro _ w31 ⟨n, rfl, ⟨hn0, hn⟩, x31⟩
   have y31 := y22.then x31
   refine ⟨n, true, rfl, ⟨x31.keepT _, x31.keepT _, trivial⟩, trivial, trivial, trivial, ?_⟩
   refine (spec (h6.keep y31.keep) (h7.keep y31.keep) n1 n2 ok1 ok2 hsp nl).mono ?_
   rintro _ w35 ⟨b36, rfl, x35, hb36⟩
   have y35 := y31.then x35
   refine ⟨b36, rfl, ⟨x35.keepT _, x35.keepT _, trivial⟩, ?_⟩
   refine (c_laws_told n true b36 w35).mono ?_
   rintro _ w38 ⟨rfl, rfl⟩
   refine ⟨_, rfl, ⟨(Ext.refl _).keepT _, (Ext.refl _).keepT _, trivial⟩, ?_, y35⟩
   rw [told_true hn0 (hn.trans hb36.symm)]
  refine ⟨fun hb => ?_, fun hb => key17 true w14 (Ext.refl w14) nofun⟩
  refine (c_Small (h6.keep y14.keep) (h7.keep y14.keep)).mono ?_
  rintro _ w41 ⟨b42, rfl, x41, hsm⟩
  refine ⟨b42, rfl, ⟨x41.keepT _, x41.keepT _, trivial⟩, key17 _ w41 x41 fun h => ⟨by simpa using hb, (hsm (by simpa using h)).1, (hsm (by simpa using h)).2.1, (hsm (by simpa using h)).2.2.1, (hsm (by simpa using h)).2.2.2, trivial⟩⟩
 refine (c_laws_zzFits20 d1 d1l d1c d2 d2l d2c d3 d3l d3c d4 d4l d4c d5 d5l d5c _).mono ?_
 rintro _ w44 ⟨b45, rfl, x44, -⟩
 have y44 := x9.then x44
 refine ⟨b45, rfl, ⟨x44.keepT _, x44.keepT _, trivial⟩, fun _ => ?_, fun _ => key10 true w44 y44⟩
 refine (c_laws_zzFits21 q6 q6l q6c q7 q7l q7c _).mono ?_
 rintro _ w47 ⟨b48, rfl, x47, -⟩
 exact ⟨b48, rfl, ⟨x47.keepT _, x47.keepT _, trivial⟩, key10 _ w47 (y44.then x47)⟩
theorem c_FnRuleFragKnown {d1 : OA} {d1l d1c : Nat} {d2 : OA} {d2l d2c : Nat} {d3 : OA} {d3l d3c : Nat} {d4 : OA} {d4l d4c : Nat} {d5 : OA} {d5l d5c : Nat} {q6 : OA} {q6l q6c : Nat} {q7 : OA} {q7l q7c : Nat} {defs exts : List SchemaDef} {dirs : List DirDef} {types texts : List Def} {ops : List OpD} {frags : List Frag} {w : World}
  (h1 : RSchemaDefs w d1 d1l d1c defs) (h2 : RSchemaDefs w d2 d2l d2c exts) (h3 : RDirDefs w d3 d3l d3c dirs) (h4 : RDefs w d4 d4l d4c types) (h5 : RDefs w d5 d5l d5c texts) (hs : d1l + d2l <= 4194304) (hsp : spTot ops frags <= 2097152) (h6 : ROps w q6 q6l q6c ops) (h7 : RFrags w q7 q7l q7c frags) (hB0 : DB.B <= w.heap.size) :
  CP 3 #[.agg #[.slice d1 d1l d1c, .slice d2 d2l d2c, .slice d3 d3l d3c, .slice d4 d4l d4c, .slice d5 d5l d5c], .agg #[.slice q6 q6l q6c, .slice q7 q7l q7c]] w fun e w' => e = .returned (.bool true) /\ Ext (fun _ => False) w w' :=
 c_law_FnRuleFragKnown (S := fun ops frags => ∃ n ∈ spAll ops frags, ∀ f ∈ frags, f.name ≠ n) (fun ops frags h h' _ _ hsp _ => knownRule ops frags h h' hsp) (fun h h' _ _ ok1 ok2 hsp _ => c_NoFrag h h' ok1 ok2 hsp) h1 h2 h3 h4 h5 hs hsp h6 h7 hB0
end Go.VC
