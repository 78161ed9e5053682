/- Part of the proof of a law of a rule over documents (TextD), where what the arguments hold is of bulk at most 1048576. -/
import Derived.Test.YtgckkmmljfioaaaGreatBaseB
set_option linter.unusedVariables false
set_option linter.unusedSimpArgs false
set_option linter.unusedSectionVars false
set_option linter.deprecated false
namespace Go.VC
open Go Go.Proofs
set_option maxRecDepth 100000
theorem q_impl_maker_pos (a : OA) (w : World) (R : EW) (h :
 ∃ b, a = some b /\ ∃ c, w.cell? (b.add 1) = some (.int .i64 c) /\ ∃ d, a = some d /\ Off w (d.add 1) 1 [] /\ True /\ (let e := (w.setCell (d.add 1) (.int .i64 (IntKind.i64.wrap (c + 1))));
 ∀ f, f = e.drew -> ∃ g, a = some g /\ ∃ i, f.cell? (g.add 1) = some (.int .i64 i) /\ ∃ j, a = some j /\ ∃ k, f.cell? j = some (.pointer k) /\ True /\ True /\ (let l := f.alloc (.cells #[.int .i64 0, .int .i64 0, .int .i64 i, .int .i64 1, .pointer k] 245);
 True /\ True /\ R (.returned (.pointer (some (adr f.heap.size)))) l))) : CP 99 #[.pointer a] w R :=
 vcq Tryz.func99 [] [] [.l (.optr a)] h
theorem q_impl_maker_val (a : OA) (b : Int) (c : BA) (d : OA) (e f : Nat) (w : World) (R : EW) (h :
 True /\ (let g := w.alloc (.cells #[.int .i64 b, .string c, .slice d e f] 144);
 ∀ i : World -> Prop, (∀ j : World,
 (∀ k, k = j.drew -> CP 99 #[.pointer a] k (fun l m => ∃ n, l = .returned (.pointer n) /\ (KeepT 144 k m /\ True) /\ ((0 = 0) /\ (0 = 0) /\ True) /\ True /\ True /\ (let o := m.alloc (.cells #[.string c, .slice none 0 0, .int .i64 b, .pointer n, .pointer none, .pointer none, .pointer none, .pointer none, .bool false] 308);
 True /\ True /\ ∃ (p : Int -> World -> Prop) (q : Int -> World -> Nat), p 0 o /\
 (∀ r : Int, ∀ s : World, p r s ->
 (((decide (r < (e : Int))) = true ->
 ∃ t, d = some t /\ (0 <= r /\ r < (e : Int)) /\ ∃ u, s.cell? (t.add (r.toNat * 4)) = some (.string u) /\ ∃ v, s.cell? ((t.add (r.toNat * 4)).add 1) = some (.int .i64 v) /\ ∃ x, s.cell? ((t.add (r.toNat * 4)).add 2) = some (.string x) /\ ∃ y z A, s.cell? ((t.add (r.toNat * 4)).add 3) = some (.slice y z A) /\ True /\ (let B := s.alloc (.cells #[(.string (⟨#[]⟩ : BA)), .int .i64 0, (.string (⟨#[]⟩ : BA)), .slice none 0 0] 279);
 True /\ (let C := s.alloc (.cells #[.string u, .int .i64 v, .string x, .slice y z A] 279);
 ∀ D, D = C.drew -> ∃ E F G, D.cell? ((adr m.heap.size).add 1) = some (.slice E F G) /\ CP 124 #[.pointer a, (.agg #[.int .i64 v, .string x, .slice y z A])] D (fun H I => ∃ J, H = .returned (.pointer J) /\ (KeepT 144 D I /\ KeepT 279 D I /\ True) /\ ((1 = 1) /\ (I.cell? ((adr m.heap.size).add 1) = D.cell? ((adr m.heap.size).add 1)) /\ True) /\ CP 99 #[.pointer a] I (fun K L => ∃ M, K = .returned (.pointer M) /\ (KeepT 144 I L /\ KeepT 279 I L /\ True) /\ ((1 = 1) /\ (L.cell? ((adr m.heap.size).add 1) = I.cell? ((adr m.heap.size).add 1)) /\ True) /\ True /\ True /\ (let N := L.alloc (.cells #[.string u, .pointer J, .pointer M, .pointer none] 325);
 ((N.cell? ((adr m.heap.size).add 1) = L.cell? ((adr m.heap.size).add 1)) /\ True) /\ True /\ (let O := N.alloc (.cells #[(.pointer (some (adr L.heap.size)))] 324);
 ((O.cell? ((adr m.heap.size).add 1) = N.cell? ((adr m.heap.size).add 1)) /\ True) /\ ∃ P Q S, ∃ U, (Go.builtin .append #[305, 305] 305 #[false, false] #[.slice E F G, (.slice (some (adr N.heap.size)) 1 1)]).run Tryz.prog O = .ok (.value (.slice P Q S)) U /\ (KeepT 144 O U /\ KeepT 279 O U /\ True) /\ True /\ Off U ((adr m.heap.size).add 1) 1 [144,279] /\ True /\ (let V := (U.setCell ((adr m.heap.size).add 1) (.slice P Q S));
 True /\ (p (IntKind.i64.wrap (r + 1)) V /\ q (IntKind.i64.wrap (r + 1)) V < q r s))))))))) /\
 ((decide (r < (e : Int))) = false ->
 R (.returned (.pointer (some (adr m.heap.size)))) s)))))) ->
 i j) ->
 ∀ W : Bool -> World -> Prop, (∀ X : Bool, ∀ Y : World,
 (((X = true ->
 ∃ Z, a = some Z /\ Off Y (Z.add 2) 1 [144] /\ True /\ (let aa := (Y.setCell (Z.add 2) (.bool true));
 i aa)) /\
 (X = false ->
 i Y))) ->
 W X Y) ->
 (((decide (b < 0)) = false -> W (decide (b > 9)) g) /\ ((decide (b < 0)) = true -> W true g)))) : CP 124 #[.pointer a, (.agg #[.int .i64 b, .string c, .slice d e f])] w R :=
 vcq Tryz.func124 [3, 7] [(2, ⟨[],[]⟩), (3, ⟨[(15, .bool)],[]⟩), (14, ⟨[(30, .int .i64)],[]⟩)] [.l (.optr a), .agg [.int .i64 b, .str c, .slice d e f]] h
theorem q_impl_maker_first (a : OA) (b : OA) (c d : Nat) (w : World) (R : EW) (h :
 ((((c : Int) == 0) = true ->
 R (.returned (.pointer none)) w) /\
 (((c : Int) == 0) = false ->
 ∀ e : World -> Prop, (∀ f : World,
 (∃ g, b = some g /\ (0 <= (0 : Int) /\ 0 < (c : Int)) /\ ∃ i, f.cell? (g.add ((0 : Int).toNat * 3)) = some (.int .i64 i) /\ ∃ j, f.cell? ((g.add ((0 : Int).toNat * 3)).add 1) = some (.string j) /\ ∃ k l m, f.cell? ((g.add ((0 : Int).toNat * 3)).add 2) = some (.slice k l m) /\ CP 124 #[.pointer a, (.agg #[.int .i64 i, .string j, .slice k l m])] f (fun n o => ∃ p, n = .returned (.pointer p) /\ True /\ R (.returned (.pointer p)) o)) ->
 e f) ->
 ∃ q, a = some q /\ ∃ r, w.cell? (q.add 2) = some (.bool r) /\ ((r = false -> ∃ s, a = some s /\ Off w (s.add 2) 1 [] /\ True /\ (let t := (w.setCell (s.add 2) (.bool (decide ((c : Int) > 1))));
 e t)) /\ (r = true -> ∃ u, a = some u /\ Off w (u.add 2) 1 [] /\ True /\ (let v := (w.setCell (u.add 2) (.bool true));
 e v)))))) : CP 117 #[.pointer a, .slice b c d] w R :=
 vcq Tryz.func117 [] [(10, ⟨[],[]⟩)] [.l (.optr a), .l (.slice b c d)] h
theorem q_impl_maker_typ (a : OA) (b : BA) (c : OA) (d e : Nat) (f : Bool) (w : World) (R : EW) (h :
 True /\ (let g := w.alloc (.cells #[.string b, .slice c d e, .bool f] 56);
 ∀ i : World -> Prop, (∀ j : World,
 (∀ k, k = j.drew -> CP 99 #[.pointer a] k (fun l m => ∃ n, l = .returned (.pointer n) /\ (KeepT 56 k m /\ True) /\ ((0 = 0) /\ (0 = 0) /\ True) /\ True /\ True /\ (let o := m.alloc (.cells #[.string b, .pointer none, .bool f, .pointer n] 297);
 True /\ True /\ ∀ p : World -> Prop, (∀ q : World,
 (R (.returned (.pointer (some (adr m.heap.size)))) q) ->
 p q) ->
 (((decide ((d : Int) > 0)) = true ->
 ∃ r, c = some r /\ (0 <= (0 : Int) /\ 0 < (d : Int)) /\ ∃ s, o.cell? (r.add ((0 : Int).toNat * 3)) = some (.string s) /\ ∃ t u v, o.cell? ((r.add ((0 : Int).toNat * 3)).add 1) = some (.slice t u v) /\ ∃ x, o.cell? ((r.add ((0 : Int).toNat * 3)).add 2) = some (.bool x) /\ CP 116 #[.pointer a, (.agg #[.string s, .slice t u v, .bool x])] o (fun y z => ∃ A, y = .returned (.pointer A) /\ (KeepT 56 o z /\ True) /\ Off z ((adr m.heap.size).add 1) 1 [56] /\ True /\ (let B := (z.setCell ((adr m.heap.size).add 1) (.pointer A));
 p B))) /\
 ((decide ((d : Int) > 0)) = false ->
 p o))))) ->
 i j) ->
 ∃ C, a = some C /\ ∃ D, g.cell? (C.add 2) = some (.bool D) /\ ((D = false -> (((decide ((d : Int) > 1)) = false -> ∃ E, a = some E /\ Off g (E.add 2) 1 [56] /\ True /\ (let F := (g.setCell (E.add 2) (.bool (!((b.toList == (⟨#[]⟩ : BA).toList) == ((d : Int) == 1)))));
 i F)) /\ ((decide ((d : Int) > 1)) = true -> ∃ G, a = some G /\ Off g (G.add 2) 1 [56] /\ True /\ (let H := (g.setCell (G.add 2) (.bool true));
 i H)))) /\ (D = true -> ∃ I, a = some I /\ Off g (I.add 2) 1 [56] /\ True /\ (let J := (g.setCell (I.add 2) (.bool true));
 i J))))) : CP 116 #[.pointer a, (.agg #[.string b, .slice c d e, .bool f])] w R :=
 vcq Tryz.func116 [3] [(2, ⟨[],[]⟩), (6, ⟨[],[]⟩)] [.l (.optr a), .agg [.str b, .slice c d e, .bool f]] h
theorem q_impl_maker_args (a : OA) (b : OA) (c d : Nat) (w : World) (R : EW) (h :
 ∃ (e : OA -> Nat -> Nat -> Int -> World -> Prop) (f : OA -> Nat -> Nat -> Int -> World -> Nat), e none 0 0 0 w /\
 (∀ (g : OA) (i j : Nat), ∀ k : Int, ∀ l : World, e g i j k l ->
 (((decide (k < (c : Int))) = true ->
 ∃ m, b = some m /\ (0 <= k /\ k < (c : Int)) /\ ∃ n, l.cell? (m.add (k.toNat * 4)) = some (.string n) /\ ∃ o, l.cell? ((m.add (k.toNat * 4)).add 1) = some (.int .i64 o) /\ ∃ p, l.cell? ((m.add (k.toNat * 4)).add 2) = some (.string p) /\ ∃ q r s, l.cell? ((m.add (k.toNat * 4)).add 3) = some (.slice q r s) /\ True /\ (let t := l.alloc (.cells #[(.string (⟨#[]⟩ : BA)), .int .i64 0, (.string (⟨#[]⟩ : BA)), .slice none 0 0] 254);
 True /\ (let u := l.alloc (.cells #[.string n, .int .i64 o, .string p, .slice q r s] 254);
 ∀ v, v = u.drew -> CP 124 #[.pointer a, (.agg #[.int .i64 o, .string p, .slice q r s])] v (fun x y => ∃ z, x = .returned (.pointer z) /\ (KeepT 254 v y /\ True) /\ ((1 = 1) /\ True) /\ CP 99 #[.pointer a] y (fun A B => ∃ C, A = .returned (.pointer C) /\ (KeepT 254 y B /\ True) /\ ((1 = 1) /\ True) /\ True /\ True /\ (let D := B.alloc (.cells #[.string n, .pointer z, .pointer C, .pointer none] 301);
 True /\ True /\ (let E := D.alloc (.cells #[(.pointer (some (adr B.heap.size)))] 299);
 True /\ ∃ F G H, ∃ I, (Go.builtin .append #[263, 263] 263 #[false, false] #[.slice g i j, (.slice (some (adr D.heap.size)) 1 1)]).run Tryz.prog E = .ok (.value (.slice F G H)) I /\ (KeepT 254 E I /\ True) /\ True /\ True /\ (e F G H (IntKind.i64.wrap (k + 1)) I /\ f F G H (IntKind.i64.wrap (k + 1)) I < f g i j k l)))))))) /\
 ((decide (k < (c : Int))) = false ->
 R (.returned (.slice g i j)) l)))) : CP 118 #[.pointer a, .slice b c d] w R :=
 vcq Tryz.func118 [7] [(8, ⟨[(5, .slice), (10, .int .i64)],[]⟩)] [.l (.optr a), .l (.slice b c d)] h
theorem q_impl_maker_dirs (a : OA) (b : OA) (c d : Nat) (w : World) (R : EW) (h :
 ∃ (e : OA -> Nat -> Nat -> Int -> World -> Prop) (f : OA -> Nat -> Nat -> Int -> World -> Nat), e none 0 0 0 w /\
 (∀ (g : OA) (i j : Nat), ∀ k : Int, ∀ l : World, e g i j k l ->
 (((decide (k < (c : Int))) = true ->
 ∃ m, b = some m /\ (0 <= k /\ k < (c : Int)) /\ ∃ n, l.cell? (m.add (k.toNat * 2)) = some (.string n) /\ ∃ o p q, l.cell? ((m.add (k.toNat * 2)).add 1) = some (.slice o p q) /\ True /\ (let r := l.alloc (.cells #[(.string (⟨#[]⟩ : BA)), .slice none 0 0] 195);
 True /\ (let s := l.alloc (.cells #[.string n, .slice o p q] 195);
 ∀ t, t = s.drew -> CP 118 #[.pointer a, .slice o p q] t (fun u v => ∃ x y z, u = .returned (.slice x y z) /\ (KeepT 195 t v /\ True) /\ ((1 = 1) /\ True) /\ CP 99 #[.pointer a] v (fun A B => ∃ C, A = .returned (.pointer C) /\ (KeepT 195 v B /\ True) /\ ((1 = 1) /\ True) /\ True /\ True /\ (let D := B.alloc (.cells #[.string n, .slice x y z, .pointer C, .pointer none, .pointer none, (.string (⟨#[]⟩ : BA))] 266);
 True /\ True /\ (let E := D.alloc (.cells #[(.pointer (some (adr B.heap.size)))] 261);
 True /\ ∃ F G H, ∃ I, (Go.builtin .append #[127, 127] 127 #[false, false] #[.slice g i j, (.slice (some (adr D.heap.size)) 1 1)]).run Tryz.prog E = .ok (.value (.slice F G H)) I /\ (KeepT 195 E I /\ True) /\ True /\ True /\ (e F G H (IntKind.i64.wrap (k + 1)) I /\ f F G H (IntKind.i64.wrap (k + 1)) I < f g i j k l)))))))) /\
 ((decide (k < (c : Int))) = false ->
 R (.returned (.slice g i j)) l)))) : CP 101 #[.pointer a, .slice b c d] w R :=
 vcq Tryz.func101 [7] [(8, ⟨[(5, .slice), (10, .int .i64)],[]⟩)] [.l (.optr a), .l (.slice b c d)] h
theorem q_impl_maker_sels (a : OA) (b : OA) (c d : Nat) (w : World) (R : EW) (h :
 ∃ (e : OA -> Nat -> Nat -> Int -> World -> Prop) (f : OA -> Nat -> Nat -> Int -> World -> Nat), e none 0 0 0 w /\
 (∀ (g : OA) (i j : Nat), ∀ k : Int, ∀ l : World, e g i j k l ->
 (((decide (k < (c : Int))) = true ->
 ∀ m : OA -> Nat -> Nat -> World -> Prop, (∀ (n : OA) (o p : Nat), ∀ q : World,
 ((e n o p (IntKind.i64.wrap (k + 1)) q /\ f n o p (IntKind.i64.wrap (k + 1)) q < f g i j k l)) ->
 m n o p q) ->
 ∃ r, b = some r /\ (0 <= k /\ k < (c : Int)) /\ ∃ s, l.cell? (r.add (k.toNat * 7)) = some (.int .i64 s) /\ ∃ t, l.cell? ((r.add (k.toNat * 7)).add 1) = some (.string t) /\ ∃ u, l.cell? ((r.add (k.toNat * 7)).add 2) = some (.string u) /\ ∃ v, l.cell? ((r.add (k.toNat * 7)).add 3) = some (.string v) /\ ∃ x y z, l.cell? ((r.add (k.toNat * 7)).add 4) = some (.slice x y z) /\ ∃ A B C, l.cell? ((r.add (k.toNat * 7)).add 5) = some (.slice A B C) /\ ∃ D E F, l.cell? ((r.add (k.toNat * 7)).add 6) = some (.slice D E F) /\ True /\ (let G := l.alloc (.cells #[.int .i64 0, (.string (⟨#[]⟩ : BA)), (.string (⟨#[]⟩ : BA)), (.string (⟨#[]⟩ : BA)), .slice none 0 0, .slice none 0 0, .slice none 0 0] 96);
 True /\ (let H := l.alloc (.cells #[.int .i64 s, .string t, .string u, .string v, .slice x y z, .slice A B C, .slice D E F] 96);
 (((s == 0) = true ->
 ∀ I, I = H.drew -> CP 118 #[.pointer a, .slice x y z] I (fun J K => ∃ L M N, J = .returned (.slice L M N) /\ (KeepT 96 I K /\ True) /\ ((1 = 1) /\ (1 = 1) /\ (1 = 1) /\ (1 = 1) /\ True) /\ CP 101 #[.pointer a, .slice A B C] K (fun O P => ∃ Q S U, O = .returned (.slice Q S U) /\ (KeepT 96 K P /\ True) /\ ((1 = 1) /\ (1 = 1) /\ (1 = 1) /\ True) /\ CP 102 #[.pointer a, .slice D E F] P (fun V W => ∃ X Y Z, V = .returned (.slice X Y Z) /\ (KeepT 96 P W /\ True) /\ ((1 = 1) /\ (1 = 1) /\ True) /\ CP 99 #[.pointer a] W (fun aa ab => ∃ ac, aa = .returned (.pointer ac) /\ (KeepT 96 W ab /\ True) /\ ((1 = 1) /\ (1 = 1) /\ True) /\ True /\ True /\ (let ad := ab.alloc (.cells #[.string t, .string u, .slice L M N, .slice Q S U, .slice X Y Z, .pointer ac, .pointer none, .pointer none, .pointer none] 270);
 True /\ True /\ (let ae := ad.alloc (.cells #[(ifcV (some (267, (.pointer (some (adr ab.heap.size))))))] 334);
 True /\ ∃ af ag ah, ∃ ai, (Go.builtin .append #[156, 156] 156 #[false, false] #[.slice g i j, (.slice (some (adr ad.heap.size)) 1 1)]).run Tryz.prog ae = .ok (.value (.slice af ag ah)) ai /\ (KeepT 96 ae ai /\ True) /\ True /\ True /\ m af ag ah ai))))))) /\
 ((s == 0) = false ->
 (((s == 1) = true ->
 ∀ aj, aj = H.drew -> CP 101 #[.pointer a, .slice A B C] aj (fun ak al => ∃ am an ao, ak = .returned (.slice am an ao) /\ (KeepT 96 aj al /\ True) /\ ((1 = 1) /\ True) /\ CP 99 #[.pointer a] al (fun ap aq => ∃ ar, ap = .returned (.pointer ar) /\ (KeepT 96 al aq /\ True) /\ ((1 = 1) /\ True) /\ True /\ True /\ (let au := aq.alloc (.cells #[.string u, .slice am an ao, .pointer none, .pointer none, .pointer ar, .pointer none] 133);
 True /\ True /\ (let av := au.alloc (.cells #[(ifcV (some (125, (.pointer (some (adr aq.heap.size))))))] 334);
 True /\ ∃ ax ay az, ∃ aA, (Go.builtin .append #[156, 156] 156 #[false, false] #[.slice g i j, (.slice (some (adr au.heap.size)) 1 1)]).run Tryz.prog av = .ok (.value (.slice ax ay az)) aA /\ (KeepT 96 av aA /\ True) /\ True /\ True /\ m ax ay az aA))))) /\
 ((s == 1) = false ->
 (((s == 2) = true ->
 ∀ aB, aB = H.drew -> CP 101 #[.pointer a, .slice A B C] aB (fun aC aD => ∃ aE aF aG, aC = .returned (.slice aE aF aG) /\ (KeepT 96 aB aD /\ True) /\ ((1 = 1) /\ (1 = 1) /\ True) /\ CP 102 #[.pointer a, .slice D E F] aD (fun aH aI => ∃ aJ aK aL, aH = .returned (.slice aJ aK aL) /\ (KeepT 96 aD aI /\ True) /\ ((1 = 1) /\ True) /\ CP 99 #[.pointer a] aI (fun aM aN => ∃ aO, aM = .returned (.pointer aO) /\ (KeepT 96 aI aN /\ True) /\ ((1 = 1) /\ True) /\ True /\ True /\ (let aP := aN.alloc (.cells #[.string v, .slice aE aF aG, .slice aJ aK aL, .pointer none, .pointer aO, .pointer none] 273);
 True /\ True /\ (let aQ := aP.alloc (.cells #[(ifcV (some (271, (.pointer (some (adr aN.heap.size))))))] 334);
 True /\ ∃ aS aU aV, ∃ aW, (Go.builtin .append #[156, 156] 156 #[false, false] #[.slice g i j, (.slice (some (adr aP.heap.size)) 1 1)]).run Tryz.prog aQ = .ok (.value (.slice aS aU aV)) aW /\ (KeepT 96 aQ aW /\ True) /\ True /\ True /\ m aS aU aV aW)))))) /\
 ((s == 2) = false ->
 ∃ aX, a = some aX /\ Off H (aX.add 2) 1 [96] /\ True /\ (let aY := (H.setCell (aX.add 2) (.bool true));
 m g i j aY)))))))))) /\
 ((decide (k < (c : Int))) = false ->
 R (.returned (.slice g i j)) l)))) : CP 102 #[.pointer a, .slice b c d] w R :=
 vcq Tryz.func102 [7] [(8, ⟨[(5, .slice), (10, .int .i64)],[]⟩), (15, ⟨[(5, .slice)],[]⟩)] [.l (.optr a), .l (.slice b c d)] h
theorem q_impl_maker_vars (a : OA) (b : OA) (c d : Nat) (w : World) (R : EW) (h :
 ∃ (e : OA -> Nat -> Nat -> Int -> World -> Prop) (f : OA -> Nat -> Nat -> Int -> World -> Nat), e none 0 0 0 w /\
 (∀ (g : OA) (i j : Nat), ∀ k : Int, ∀ l : World, e g i j k l ->
 (((decide (k < (c : Int))) = true ->
 ∃ m, b = some m /\ (0 <= k /\ k < (c : Int)) /\ ∃ n, l.cell? (m.add (k.toNat * 6)) = some (.string n) /\ ∃ o, l.cell? ((m.add (k.toNat * 6)).add 1) = some (.string o) /\ ∃ p q r, l.cell? ((m.add (k.toNat * 6)).add 2) = some (.slice p q r) /\ ∃ s, l.cell? ((m.add (k.toNat * 6)).add 3) = some (.bool s) /\ ∃ t u v, l.cell? ((m.add (k.toNat * 6)).add 4) = some (.slice t u v) /\ ∃ x y z, l.cell? ((m.add (k.toNat * 6)).add 5) = some (.slice x y z) /\ True /\ (let A := l.alloc (.cells #[(.string (⟨#[]⟩ : BA)), (.string (⟨#[]⟩ : BA)), .slice none 0 0, .bool false, .slice none 0 0, .slice none 0 0] 59);
 True /\ (let B := l.alloc (.cells #[.string n, .string o, .slice p q r, .bool s, .slice t u v, .slice x y z] 59);
 ∀ C, C = B.drew -> CP 116 #[.pointer a, (.agg #[.string o, .slice p q r, .bool s])] C (fun D E => ∃ F, D = .returned (.pointer F) /\ (KeepT 59 C E /\ True) /\ ((1 = 1) /\ (1 = 1) /\ (1 = 1) /\ True) /\ CP 117 #[.pointer a, .slice t u v] E (fun G H => ∃ I, G = .returned (.pointer I) /\ (KeepT 59 E H /\ True) /\ ((1 = 1) /\ (1 = 1) /\ True) /\ CP 101 #[.pointer a, .slice x y z] H (fun J K => ∃ L M N, J = .returned (.slice L M N) /\ (KeepT 59 H K /\ True) /\ ((1 = 1) /\ True) /\ CP 99 #[.pointer a] K (fun O P => ∃ Q, O = .returned (.pointer Q) /\ (KeepT 59 K P /\ True) /\ ((1 = 1) /\ True) /\ True /\ True /\ (let S := P.alloc (.cells #[(.string (⟨#[]⟩ : BA)), .string n, .pointer F, .pointer I, .slice L M N, .pointer Q, .pointer none, .pointer none, .bool false] 179);
 True /\ True /\ (let U := S.alloc (.cells #[(.pointer (some (adr P.heap.size)))] 175);
 True /\ ∃ V W X, ∃ Y, (Go.builtin .append #[154, 154] 154 #[false, false] #[.slice g i j, (.slice (some (adr S.heap.size)) 1 1)]).run Tryz.prog U = .ok (.value (.slice V W X)) Y /\ (KeepT 59 U Y /\ True) /\ True /\ True /\ (e V W X (IntKind.i64.wrap (k + 1)) Y /\ f V W X (IntKind.i64.wrap (k + 1)) Y < f g i j k l)))))))))) /\
 ((decide (k < (c : Int))) = false ->
 R (.returned (.slice g i j)) l)))) : CP 100 #[.pointer a, .slice b c d] w R :=
 vcq Tryz.func100 [7] [(8, ⟨[(5, .slice), (10, .int .i64)],[]⟩)] [.l (.optr a), .l (.slice b c d)] h
theorem q_impl_maker_query (a : OA) (b : OA) (c d : Nat) (e : OA) (f g : Nat) (w : World) (R : EW) (h :
 True /\ (let i := w.alloc (.cells #[.slice b c d, .slice e f g] 30);
 CP 99 #[.pointer a] i (fun j k => ∃ l, j = .returned (.pointer l) /\ (KeepT 30 i k /\ True) /\ True /\ True /\ (let m := k.alloc (.cells #[.slice none 0 0, .slice none 0 0, .pointer l, .pointer none] 164);
 ∃ (n : Int -> World -> Prop) (o : Int -> World -> Nat), n 0 m /\
 (∀ p : Int, ∀ q : World, n p q ->
 (((decide (p < (c : Int))) = true ->
 ∃ r, b = some r /\ (0 <= p /\ p < (c : Int)) /\ ∃ s, q.cell? (r.add (p.toNat * 5)) = some (.string s) /\ ∃ t, q.cell? ((r.add (p.toNat * 5)).add 1) = some (.string t) /\ ∃ u v x, q.cell? ((r.add (p.toNat * 5)).add 2) = some (.slice u v x) /\ ∃ y z A, q.cell? ((r.add (p.toNat * 5)).add 3) = some (.slice y z A) /\ ∃ B C D, q.cell? ((r.add (p.toNat * 5)).add 4) = some (.slice B C D) /\ True /\ (let E := q.alloc (.cells #[(.string (⟨#[]⟩ : BA)), (.string (⟨#[]⟩ : BA)), .slice none 0 0, .slice none 0 0, .slice none 0 0] 51);
 True /\ (let F := q.alloc (.cells #[.string s, .string t, .slice u v x, .slice y z A, .slice B C D] 51);
 ∀ G : World -> Prop, (∀ H : World,
 (∀ I, I = H.drew -> ∃ J K L, I.cell? (adr k.heap.size) = some (.slice J K L) /\ CP 100 #[.pointer a, .slice u v x] I (fun M N => ∃ O P Q, M = .returned (.slice O P Q) /\ (KeepT 30 I N /\ KeepT 51 I N /\ True) /\ ((1 = 1) /\ (1 = 1) /\ (1 = 1) /\ (1 = 1) /\ (N.cell? (adr k.heap.size) = I.cell? (adr k.heap.size)) /\ True) /\ CP 101 #[.pointer a, .slice y z A] N (fun S U => ∃ V W X, S = .returned (.slice V W X) /\ (KeepT 30 N U /\ KeepT 51 N U /\ True) /\ ((1 = 1) /\ (1 = 1) /\ (1 = 1) /\ (U.cell? (adr k.heap.size) = N.cell? (adr k.heap.size)) /\ True) /\ CP 102 #[.pointer a, .slice B C D] U (fun Y Z => ∃ aa ab ac, Y = .returned (.slice aa ab ac) /\ (KeepT 30 U Z /\ KeepT 51 U Z /\ True) /\ ((1 = 1) /\ (1 = 1) /\ (Z.cell? (adr k.heap.size) = U.cell? (adr k.heap.size)) /\ True) /\ CP 99 #[.pointer a] Z (fun ad ae => ∃ af, ad = .returned (.pointer af) /\ (KeepT 30 Z ae /\ KeepT 51 Z ae /\ True) /\ ((1 = 1) /\ (1 = 1) /\ (ae.cell? (adr k.heap.size) = Z.cell? (adr k.heap.size)) /\ True) /\ True /\ True /\ (let ag := ae.alloc (.cells #[(.string (⟨#[]⟩ : BA)), .string s, .string t, .slice O P Q, .slice V W X, .slice aa ab ac, .pointer af, .pointer none] 158);
 ((ag.cell? (adr k.heap.size) = ae.cell? (adr k.heap.size)) /\ True) /\ True /\ (let ah := ag.alloc (.cells #[(.pointer (some (adr ae.heap.size)))] 151);
 ((ah.cell? (adr k.heap.size) = ag.cell? (adr k.heap.size)) /\ True) /\ ∃ ai aj ak, ∃ al, (Go.builtin .append #[160, 160] 160 #[false, false] #[.slice J K L, (.slice (some (adr ag.heap.size)) 1 1)]).run Tryz.prog ah = .ok (.value (.slice ai aj ak)) al /\ (KeepT 30 ah al /\ KeepT 51 ah al /\ True) /\ True /\ Off al (adr k.heap.size) 1 [30,51] /\ True /\ (let am := (al.setCell (adr k.heap.size) (.slice ai aj ak));
 True /\ (n (IntKind.i64.wrap (p + 1)) am /\ o (IntKind.i64.wrap (p + 1)) am < o p q))))))))) ->
 G H) ->
 ∃ an, a = some an /\ ∃ ao, F.cell? (an.add 2) = some (.bool ao) /\ ((ao = false -> (((!(s.toList == (⟨#[113,117,101,114,121]⟩ : BA).toList)) = true -> (((!(s.toList == (⟨#[109,117,116,97,116,105,111,110]⟩ : BA).toList)) = true -> ∃ ap, a = some ap /\ Off F (ap.add 2) 1 [30,51] /\ True /\ (let aq := (F.setCell (ap.add 2) (.bool (!(s.toList == (⟨#[115,117,98,115,99,114,105,112,116,105,111,110]⟩ : BA).toList))));
 G aq)) /\ ((!(s.toList == (⟨#[109,117,116,97,116,105,111,110]⟩ : BA).toList)) = false -> ∃ ar, a = some ar /\ Off F (ar.add 2) 1 [30,51] /\ True /\ (let au := (F.setCell (ar.add 2) (.bool false));
 G au)))) /\ ((!(s.toList == (⟨#[113,117,101,114,121]⟩ : BA).toList)) = false -> ∃ av, a = some av /\ Off F (av.add 2) 1 [30,51] /\ True /\ (let ax := (F.setCell (av.add 2) (.bool false));
 G ax)))) /\ (ao = true -> ∃ ay, a = some ay /\ Off F (ay.add 2) 1 [30,51] /\ True /\ (let az := (F.setCell (ay.add 2) (.bool true));
 G az)))))) /\
 ((decide (p < (c : Int))) = false ->
 ∃ (aA : Int -> World -> Prop) (aB : Int -> World -> Nat), aA 0 q /\
 (∀ aC : Int, ∀ aD : World, aA aC aD ->
 (((decide (aC < (f : Int))) = true ->
 ∃ aE, e = some aE /\ (0 <= aC /\ aC < (f : Int)) /\ ∃ aF, aD.cell? (aE.add (aC.toNat * 4)) = some (.string aF) /\ ∃ aG, aD.cell? ((aE.add (aC.toNat * 4)).add 1) = some (.string aG) /\ ∃ aH aI aJ, aD.cell? ((aE.add (aC.toNat * 4)).add 2) = some (.slice aH aI aJ) /\ ∃ aK aL aM, aD.cell? ((aE.add (aC.toNat * 4)).add 3) = some (.slice aK aL aM) /\ True /\ (let aN := aD.alloc (.cells #[(.string (⟨#[]⟩ : BA)), (.string (⟨#[]⟩ : BA)), .slice none 0 0, .slice none 0 0] 63);
 True /\ (let aO := aD.alloc (.cells #[.string aF, .string aG, .slice aH aI aJ, .slice aK aL aM] 63);
 ∀ aP, aP = aO.drew -> ∃ aQ aS aU, aP.cell? ((adr k.heap.size).add 1) = some (.slice aQ aS aU) /\ CP 101 #[.pointer a, .slice aH aI aJ] aP (fun aV aW => ∃ aX aY aZ, aV = .returned (.slice aX aY aZ) /\ (KeepT 30 aP aW /\ KeepT 63 aP aW /\ True) /\ ((1 = 1) /\ (1 = 1) /\ (1 = 1) /\ (aW.cell? ((adr k.heap.size).add 1) = aP.cell? ((adr k.heap.size).add 1)) /\ True) /\ CP 102 #[.pointer a, .slice aK aL aM] aW (fun ba bb => ∃ bc bd be, ba = .returned (.slice bc bd be) /\ (KeepT 30 aW bb /\ KeepT 63 aW bb /\ True) /\ ((1 = 1) /\ (1 = 1) /\ (bb.cell? ((adr k.heap.size).add 1) = aW.cell? ((adr k.heap.size).add 1)) /\ True) /\ CP 99 #[.pointer a] bb (fun bf bg => ∃ bh, bf = .returned (.pointer bh) /\ (KeepT 30 bb bg /\ KeepT 63 bb bg /\ True) /\ ((1 = 1) /\ (1 = 1) /\ (bg.cell? ((adr k.heap.size).add 1) = bb.cell? ((adr k.heap.size).add 1)) /\ True) /\ True /\ True /\ (let bi := bg.alloc (.cells #[(.string (⟨#[]⟩ : BA)), .string aF, .slice none 0 0, .string aG, .slice aX aY aZ, .slice bc bd be, .pointer none, .pointer bh, .pointer none] 172);
 ((bi.cell? ((adr k.heap.size).add 1) = bg.cell? ((adr k.heap.size).add 1)) /\ True) /\ True /\ (let bj := bi.alloc (.cells #[(.pointer (some (adr bg.heap.size)))] 129);
 ((bj.cell? ((adr k.heap.size).add 1) = bi.cell? ((adr k.heap.size).add 1)) /\ True) /\ ∃ bk bl bm, ∃ bn, (Go.builtin .append #[162, 162] 162 #[false, false] #[.slice aQ aS aU, (.slice (some (adr bi.heap.size)) 1 1)]).run Tryz.prog bj = .ok (.value (.slice bk bl bm)) bn /\ (KeepT 30 bj bn /\ KeepT 63 bj bn /\ True) /\ True /\ Off bn ((adr k.heap.size).add 1) 1 [30,63] /\ True /\ (let bo := (bn.setCell ((adr k.heap.size).add 1) (.slice bk bl bm));
 True /\ (aA (IntKind.i64.wrap (aC + 1)) bo /\ aB (IntKind.i64.wrap (aC + 1)) bo < aB aC aD)))))))))) /\
 ((decide (aC < (f : Int))) = false ->
 R (.returned (.pointer (some (adr k.heap.size)))) aD)))))))))) : CP 60 #[.pointer a, (.agg #[.slice b c d, .slice e f g])] w R :=
 vcq Tryz.func60 [3, 7, 9] [(8, ⟨[(17, .int .i64)],[]⟩), (19, ⟨[],[]⟩), (27, ⟨[(76, .int .i64)],[]⟩)] [.l (.optr a), .agg [.slice b c d, .slice e f g]] h
theorem q_impl_maker_argDefs (a : OA) (b : OA) (c d : Nat) (w : World) (R : EW) (h :
 ∃ (e : OA -> Nat -> Nat -> Int -> World -> Prop) (f : OA -> Nat -> Nat -> Int -> World -> Nat), e none 0 0 0 w /\
 (∀ (g : OA) (i j : Nat), ∀ k : Int, ∀ l : World, e g i j k l ->
 (((decide (k < (c : Int))) = true ->
 ∃ m, b = some m /\ (0 <= k /\ k < (c : Int)) /\ ∃ n, l.cell? (m.add (k.toNat * 7)) = some (.string n) /\ ∃ o, l.cell? ((m.add (k.toNat * 7)).add 1) = some (.string o) /\ ∃ p, l.cell? ((m.add (k.toNat * 7)).add 2) = some (.string p) /\ ∃ q r s, l.cell? ((m.add (k.toNat * 7)).add 3) = some (.slice q r s) /\ ∃ t, l.cell? ((m.add (k.toNat * 7)).add 4) = some (.bool t) /\ ∃ u v x, l.cell? ((m.add (k.toNat * 7)).add 5) = some (.slice u v x) /\ ∃ y z A, l.cell? ((m.add (k.toNat * 7)).add 6) = some (.slice y z A) /\ True /\ (let B := l.alloc (.cells #[(.string (⟨#[]⟩ : BA)), (.string (⟨#[]⟩ : BA)), (.string (⟨#[]⟩ : BA)), .slice none 0 0, .bool false, .slice none 0 0, .slice none 0 0] 141);
 True /\ (let C := l.alloc (.cells #[.string n, .string o, .string p, .slice q r s, .bool t, .slice u v x, .slice y z A] 141);
 ∀ D, D = C.drew -> CP 116 #[.pointer a, (.agg #[.string p, .slice q r s, .bool t])] D (fun E F => ∃ G, E = .returned (.pointer G) /\ (KeepT 141 D F /\ True) /\ ((1 = 1) /\ (1 = 1) /\ (1 = 1) /\ (1 = 1) /\ True) /\ CP 117 #[.pointer a, .slice u v x] F (fun H I => ∃ J, H = .returned (.pointer J) /\ (KeepT 141 F I /\ True) /\ ((1 = 1) /\ (1 = 1) /\ (1 = 1) /\ True) /\ CP 101 #[.pointer a, .slice y z A] I (fun K L => ∃ M N O, K = .returned (.slice M N O) /\ (KeepT 141 I L /\ True) /\ ((1 = 1) /\ (1 = 1) /\ True) /\ CP 99 #[.pointer a] L (fun P Q => ∃ S, P = .returned (.pointer S) /\ (KeepT 141 L Q /\ True) /\ ((1 = 1) /\ (1 = 1) /\ True) /\ True /\ True /\ (let U := Q.alloc (.cells #[.string n, .string o, .pointer J, .pointer G, .slice M N O, .pointer S, .pointer none, .pointer none] 295);
 True /\ True /\ (let V := U.alloc (.cells #[(.pointer (some (adr Q.heap.size)))] 293);
 True /\ ∃ W X Y, ∃ Z, (Go.builtin .append #[225, 225] 225 #[false, false] #[.slice g i j, (.slice (some (adr U.heap.size)) 1 1)]).run Tryz.prog V = .ok (.value (.slice W X Y)) Z /\ (KeepT 141 V Z /\ True) /\ True /\ True /\ (e W X Y (IntKind.i64.wrap (k + 1)) Z /\ f W X Y (IntKind.i64.wrap (k + 1)) Z < f g i j k l)))))))))) /\
 ((decide (k < (c : Int))) = false ->
 R (.returned (.slice g i j)) l)))) : CP 115 #[.pointer a, .slice b c d] w R :=
 vcq Tryz.func115 [7] [(8, ⟨[(5, .slice), (10, .int .i64)],[]⟩)] [.l (.optr a), .l (.slice b c d)] h
theorem q_impl_maker_defs (a : OA) (b : OA) (c d : Nat) (w : World) (R : EW) (h :
 ∃ (e : OA -> Nat -> Nat -> Int -> World -> Prop) (f : OA -> Nat -> Nat -> Int -> World -> Nat), e none 0 0 0 w /\
 (∀ (g : OA) (i j : Nat), ∀ k : Int, ∀ l : World, e g i j k l ->
 (((decide (k < (c : Int))) = true ->
 ∃ m, b = some m /\ (0 <= k /\ k < (c : Int)) /\ ∃ n, l.cell? (m.add (k.toNat * 8)) = some (.string n) /\ ∃ o, l.cell? ((m.add (k.toNat * 8)).add 1) = some (.string o) /\ ∃ p, l.cell? ((m.add (k.toNat * 8)).add 2) = some (.string p) /\ ∃ q r s, l.cell? ((m.add (k.toNat * 8)).add 3) = some (.slice q r s) /\ ∃ t u v, l.cell? ((m.add (k.toNat * 8)).add 4) = some (.slice t u v) /\ ∃ x y z, l.cell? ((m.add (k.toNat * 8)).add 5) = some (.slice x y z) /\ ∃ A B C, l.cell? ((m.add (k.toNat * 8)).add 6) = some (.slice A B C) /\ ∃ D E F, l.cell? ((m.add (k.toNat * 8)).add 7) = some (.slice D E F) /\ True /\ (let G := l.alloc (.cells #[(.string (⟨#[]⟩ : BA)), (.string (⟨#[]⟩ : BA)), (.string (⟨#[]⟩ : BA)), .slice none 0 0, .slice none 0 0, .slice none 0 0, .slice none 0 0, .slice none 0 0] 75);
 True /\ (let H := l.alloc (.cells #[.string n, .string o, .string p, .slice q r s, .slice t u v, .slice x y z, .slice A B C, .slice D E F] 75);
 ∀ I : OA -> World -> Prop, (∀ J : OA, ∀ K : World,
 (∀ L : World -> Prop, (∀ M : World,
 (∃ (N : Int -> World -> Prop) (O : Int -> World -> Nat), N 0 M /\
 (∀ P : Int, ∀ Q : World, N P Q ->
 (((decide (P < (y : Int))) = true ->
 ∃ S, x = some S /\ (0 <= P /\ P < (y : Int)) /\ ∃ U, Q.cell? (S.add (P.toNat * 8)) = some (.string U) /\ ∃ V, Q.cell? ((S.add (P.toNat * 8)).add 1) = some (.string V) /\ ∃ W X Y, Q.cell? ((S.add (P.toNat * 8)).add 2) = some (.slice W X Y) /\ ∃ Z aa ab, Q.cell? ((S.add (P.toNat * 8)).add 3) = some (.slice Z aa ab) /\ ∃ ac, Q.cell? ((S.add (P.toNat * 8)).add 4) = some (.string ac) /\ ∃ ad ae af, Q.cell? ((S.add (P.toNat * 8)).add 5) = some (.slice ad ae af) /\ ∃ ag, Q.cell? ((S.add (P.toNat * 8)).add 6) = some (.bool ag) /\ ∃ ah ai aj, Q.cell? ((S.add (P.toNat * 8)).add 7) = some (.slice ah ai aj) /\ True /\ (let ak := Q.alloc (.cells #[(.string (⟨#[]⟩ : BA)), (.string (⟨#[]⟩ : BA)), .slice none 0 0, .slice none 0 0, (.string (⟨#[]⟩ : BA)), .slice none 0 0, .bool false, .slice none 0 0] 187);
 True /\ (let al := Q.alloc (.cells #[.string U, .string V, .slice W X Y, .slice Z aa ab, .string ac, .slice ad ae af, .bool ag, .slice ah ai aj] 187);
 ∀ am, am = al.drew -> ∃ an, J = some an /\ ∃ ao ap aq, am.cell? (an.add 5) = some (.slice ao ap aq) /\ CP 115 #[.pointer a, .slice W X Y] am (fun ar au => ∃ av ax ay, ar = .returned (.slice av ax ay) /\ (KeepT 75 am au /\ KeepT 187 am au /\ True) /\ ((1 = 1) /\ (1 = 1) /\ (1 = 1) /\ (1 = 1) /\ (1 = 1) /\ (au.cell? (an.add 5) = am.cell? (an.add 5)) /\ True) /\ CP 117 #[.pointer a, .slice Z aa ab] au (fun az aA => ∃ aB, az = .returned (.pointer aB) /\ (KeepT 75 au aA /\ KeepT 187 au aA /\ True) /\ ((1 = 1) /\ (1 = 1) /\ (1 = 1) /\ (1 = 1) /\ (aA.cell? (an.add 5) = au.cell? (an.add 5)) /\ True) /\ CP 116 #[.pointer a, (.agg #[.string ac, .slice ad ae af, .bool ag])] aA (fun aC aD => ∃ aE, aC = .returned (.pointer aE) /\ (KeepT 75 aA aD /\ KeepT 187 aA aD /\ True) /\ ((1 = 1) /\ (1 = 1) /\ (1 = 1) /\ (aD.cell? (an.add 5) = aA.cell? (an.add 5)) /\ True) /\ CP 101 #[.pointer a, .slice ah ai aj] aD (fun aF aG => ∃ aH aI aJ, aF = .returned (.slice aH aI aJ) /\ (KeepT 75 aD aG /\ KeepT 187 aD aG /\ True) /\ ((1 = 1) /\ (1 = 1) /\ (aG.cell? (an.add 5) = aD.cell? (an.add 5)) /\ True) /\ CP 99 #[.pointer a] aG (fun aK aL => ∃ aM, aK = .returned (.pointer aM) /\ (KeepT 75 aG aL /\ KeepT 187 aG aL /\ True) /\ ((1 = 1) /\ (1 = 1) /\ (aL.cell? (an.add 5) = aG.cell? (an.add 5)) /\ True) /\ True /\ True /\ (let aN := aL.alloc (.cells #[.string U, .string V, .slice av ax ay, .pointer aB, .pointer aE, .slice aH aI aJ, .pointer aM, .pointer none, .pointer none] 289);
 ((aN.cell? (an.add 5) = aL.cell? (an.add 5)) /\ True) /\ True /\ (let aO := aN.alloc (.cells #[(.pointer (some (adr aL.heap.size)))] 268);
 ((aO.cell? (an.add 5) = aN.cell? (an.add 5)) /\ True) /\ ∃ aP aQ aS, ∃ aU, (Go.builtin .append #[217, 217] 217 #[false, false] #[.slice ao ap aq, (.slice (some (adr aN.heap.size)) 1 1)]).run Tryz.prog aO = .ok (.value (.slice aP aQ aS)) aU /\ (KeepT 75 aO aU /\ KeepT 187 aO aU /\ True) /\ True /\ ∃ aV, J = some aV /\ Off aU (aV.add 5) 1 [75,187] /\ True /\ (let aW := (aU.setCell (aV.add 5) (.slice aP aQ aS));
 True /\ (N (IntKind.i64.wrap (P + 1)) aW /\ O (IntKind.i64.wrap (P + 1)) aW < O P Q)))))))))))) /\
 ((decide (P < (y : Int))) = false ->
 ∃ (aX : Int -> World -> Prop) (aY : Int -> World -> Nat), aX 0 Q /\
 (∀ aZ : Int, ∀ ba : World, aX aZ ba ->
 (((decide (aZ < (E : Int))) = true ->
 ∃ bb, D = some bb /\ (0 <= aZ /\ aZ < (E : Int)) /\ ∃ bc, ba.cell? (bb.add (aZ.toNat * 3)) = some (.string bc) /\ ∃ bd, ba.cell? ((bb.add (aZ.toNat * 3)).add 1) = some (.string bd) /\ ∃ be bf bg, ba.cell? ((bb.add (aZ.toNat * 3)).add 2) = some (.slice be bf bg) /\ True /\ (let bh := ba.alloc (.cells #[(.string (⟨#[]⟩ : BA)), (.string (⟨#[]⟩ : BA)), .slice none 0 0] 189);
 True /\ (let bi := ba.alloc (.cells #[.string bc, .string bd, .slice be bf bg] 189);
 ∀ bj, bj = bi.drew -> ∃ bk, J = some bk /\ ∃ bl bm bn, bj.cell? (bk.add 7) = some (.slice bl bm bn) /\ CP 101 #[.pointer a, .slice be bf bg] bj (fun bo bp => ∃ bq br bs, bo = .returned (.slice bq br bs) /\ (KeepT 75 bj bp /\ KeepT 189 bj bp /\ True) /\ ((1 = 1) /\ (1 = 1) /\ (bp.cell? (bk.add 7) = bj.cell? (bk.add 7)) /\ True) /\ CP 99 #[.pointer a] bp (fun bt bu => ∃ bv, bt = .returned (.pointer bv) /\ (KeepT 75 bp bu /\ KeepT 189 bp bu /\ True) /\ ((1 = 1) /\ (1 = 1) /\ (bu.cell? (bk.add 7) = bp.cell? (bk.add 7)) /\ True) /\ True /\ True /\ (let bx := bu.alloc (.cells #[.string bc, .string bd, .slice bq br bs, .pointer bv, .pointer none, .pointer none] 292);
 ((bx.cell? (bk.add 7) = bu.cell? (bk.add 7)) /\ True) /\ True /\ (let bz := bx.alloc (.cells #[(.pointer (some (adr bu.heap.size)))] 290);
 ((bz.cell? (bk.add 7) = bx.cell? (bk.add 7)) /\ True) /\ ∃ bA bB bC, ∃ bD, (Go.builtin .append #[219, 219] 219 #[false, false] #[.slice bl bm bn, (.slice (some (adr bx.heap.size)) 1 1)]).run Tryz.prog bz = .ok (.value (.slice bA bB bC)) bD /\ (KeepT 75 bz bD /\ KeepT 189 bz bD /\ True) /\ True /\ ∃ bE, J = some bE /\ Off bD (bE.add 7) 1 [75,189] /\ True /\ (let bF := (bD.setCell (bE.add 7) (.slice bA bB bC));
 True /\ (aX (IntKind.i64.wrap (aZ + 1)) bF /\ aY (IntKind.i64.wrap (aZ + 1)) bF < aY aZ ba))))))))) /\
 ((decide (aZ < (E : Int))) = false ->
 True /\ (let bG := ba.alloc (.cells #[.pointer J] 128);
 ∃ bH bI bJ, ∃ bK, (Go.builtin .append #[212, 212] 212 #[false, false] #[.slice g i j, (.slice (some (adr ba.heap.size)) 1 1)]).run Tryz.prog bG = .ok (.value (.slice bH bI bJ)) bK /\ (KeepT 75 bG bK /\ True) /\ (e bH bI bJ (IntKind.i64.wrap (k + 1)) bK /\ f bH bI bJ (IntKind.i64.wrap (k + 1)) bK < f g i j k l))))))))) ->
 L M) ->
 ∃ bL, J = some bL /\ ∃ bM, K.cell? bL = some (.string bM) /\ ∀ bN : Bool -> World -> Prop, (∀ bO : Bool, ∀ bP : World,
 (((bO = true ->
 L bP) /\
 (bO = false ->
 ∃ bQ, a = some bQ /\ Off bP (bQ.add 2) 1 [75] /\ True /\ (let bS := (bP.setCell (bQ.add 2) (.bool true));
 L bS)))) ->
 bN bO bP) ->
 (((bM.toList == (⟨#[83,67,65,76,65,82]⟩ : BA).toList) = true ->
 bN true K) /\
 ((bM.toList == (⟨#[83,67,65,76,65,82]⟩ : BA).toList) = false ->
 (((bM.toList == (⟨#[79,66,74,69,67,84]⟩ : BA).toList) = true ->
 bN true K) /\
 ((bM.toList == (⟨#[79,66,74,69,67,84]⟩ : BA).toList) = false ->
 (((bM.toList == (⟨#[73,78,84,69,82,70,65,67,69]⟩ : BA).toList) = true ->
 bN true K) /\
 ((bM.toList == (⟨#[73,78,84,69,82,70,65,67,69]⟩ : BA).toList) = false ->
 (((bM.toList == (⟨#[85,78,73,79,78]⟩ : BA).toList) = true ->
 bN true K) /\
 ((bM.toList == (⟨#[85,78,73,79,78]⟩ : BA).toList) = false ->
 (((bM.toList == (⟨#[69,78,85,77]⟩ : BA).toList) = true ->
 bN true K) /\
 ((bM.toList == (⟨#[69,78,85,77]⟩ : BA).toList) = false ->
 bN (bM.toList == (⟨#[73,78,80,85,84,95,79,66,74,69,67,84]⟩ : BA).toList) K))))))))))) ->
 I J K) ->
 ∀ bU, bU = H.drew -> ((CP 101 #[.pointer a, .slice q r s] bU (fun bV bW => ∃ bX bY bZ, bV = .returned (.slice bX bY bZ) /\ (KeepT 75 bU bW /\ True) /\ ((1 = 1) /\ (1 = 1) /\ (1 = 1) /\ (1 = 1) /\ (1 = 1) /\ True) /\ (((let ca := bW.alloc (.cells #[] 9);
 ((1 = 1) /\ (1 = 1) /\ (1 = 1) /\ (1 = 1) /\ (1 = 1) /\ True) /\ ((∃ cb cc cd, ∃ ce, (Go.builtin .append #[71, 71] 71 #[false, false] #[(.slice (some (adr bW.heap.size)) 0 0), .slice t u v]).run Tryz.prog ca = .ok (.value (.slice cb cc cd)) ce /\ (KeepT 75 ca ce /\ True) /\ ((1 = 1) /\ (1 = 1) /\ (1 = 1) /\ (1 = 1) /\ True) /\ (let cf := ce.alloc (.cells #[] 9);
 ((1 = 1) /\ (1 = 1) /\ (1 = 1) /\ (1 = 1) /\ True) /\ ∃ cg ch ci, ∃ cj, (Go.builtin .append #[71, 71] 71 #[false, false] #[(.slice (some (adr ce.heap.size)) 0 0), .slice A B C]).run Tryz.prog cf = .ok (.value (.slice cg ch ci)) cj /\ (KeepT 75 cf cj /\ True) /\ ((1 = 1) /\ (1 = 1) /\ (1 = 1) /\ True) /\ CP 99 #[.pointer a] cj (fun ck cl => ∃ cm, ck = .returned (.pointer cm) /\ (KeepT 75 cj cl /\ True) /\ ((1 = 1) /\ (1 = 1) /\ (1 = 1) /\ True) /\ True /\ True /\ (let cn := cl.alloc (.cells #[.string n, .string o, .string p, .slice bX bY bZ, .slice cb cc cd, .slice none 0 0, .slice cg ch ci, .slice none 0 0, .pointer cm, .slice none 0 0, .bool false, .pointer none, .pointer none, .pointer none] 222);
 True /\ True /\ I (some (adr cl.heap.size)) cn)))) /\
 ((let co := ca.alloc (.cells #[] 9);
 ((1 = 1) /\ (1 = 1) /\ (1 = 1) /\ (1 = 1) /\ (1 = 1) /\ True) /\ ∃ cp cq cr, ∃ ct, (Go.builtin .append #[71, 71] 71 #[false, false] #[(.slice (some (adr bW.heap.size)) 0 0), .slice t u v]).run Tryz.prog co = .ok (.value (.slice cp cq cr)) ct /\ (KeepT 75 co ct /\ True) /\ ((1 = 1) /\ (1 = 1) /\ (1 = 1) /\ (1 = 1) /\ True) /\ ∃ cu cv cx, ∃ cy, (Go.builtin .append #[71, 71] 71 #[false, false] #[(.slice (some (adr ca.heap.size)) 0 0), .slice A B C]).run Tryz.prog ct = .ok (.value (.slice cu cv cx)) cy /\ (KeepT 75 ct cy /\ True) /\ ((1 = 1) /\ (1 = 1) /\ (1 = 1) /\ True) /\ CP 99 #[.pointer a] cy (fun cz cA => ∃ cB, cz = .returned (.pointer cB) /\ (KeepT 75 cy cA /\ True) /\ ((1 = 1) /\ (1 = 1) /\ (1 = 1) /\ True) /\ True /\ True /\ (let cC := cA.alloc (.cells #[.string n, .string o, .string p, .slice bX bY bZ, .slice cp cq cr, .slice none 0 0, .slice cu cv cx, .slice none 0 0, .pointer cB, .slice none 0 0, .bool false, .pointer none, .pointer none, .pointer none] 222);
 True /\ True /\ I (some (adr cA.heap.size)) cC))))))) /\
 ((let cD := bW.alloc (.cells #[] 9);
 ((1 = 1) /\ (1 = 1) /\ (1 = 1) /\ (1 = 1) /\ (1 = 1) /\ True) /\ (let cE := cD.alloc (.cells #[] 9);
 ((1 = 1) /\ (1 = 1) /\ (1 = 1) /\ (1 = 1) /\ (1 = 1) /\ True) /\ ∃ cF cG cH, ∃ cI, (Go.builtin .append #[71, 71] 71 #[false, false] #[(.slice (some (adr cD.heap.size)) 0 0), .slice t u v]).run Tryz.prog cE = .ok (.value (.slice cF cG cH)) cI /\ (KeepT 75 cE cI /\ True) /\ ((1 = 1) /\ (1 = 1) /\ (1 = 1) /\ (1 = 1) /\ True) /\ ∃ cJ cK cL, ∃ cM, (Go.builtin .append #[71, 71] 71 #[false, false] #[(.slice (some (adr bW.heap.size)) 0 0), .slice A B C]).run Tryz.prog cI = .ok (.value (.slice cJ cK cL)) cM /\ (KeepT 75 cI cM /\ True) /\ ((1 = 1) /\ (1 = 1) /\ (1 = 1) /\ True) /\ CP 99 #[.pointer a] cM (fun cN cO => ∃ cP, cN = .returned (.pointer cP) /\ (KeepT 75 cM cO /\ True) /\ ((1 = 1) /\ (1 = 1) /\ (1 = 1) /\ True) /\ True /\ True /\ (let cQ := cO.alloc (.cells #[.string n, .string o, .string p, .slice bX bY bZ, .slice cF cG cH, .slice none 0 0, .slice cJ cK cL, .slice none 0 0, .pointer cP, .slice none 0 0, .bool false, .pointer none, .pointer none, .pointer none] 222);
 True /\ True /\ I (some (adr cO.heap.size)) cQ)))))))) /\
 ((let cS := bU.alloc (.cells #[] 9);
 ((1 = 1) /\ (1 = 1) /\ (1 = 1) /\ (1 = 1) /\ (1 = 1) /\ (1 = 1) /\ True) /\ ((CP 101 #[.pointer a, .slice q r s] cS (fun cU cV => ∃ cW cX cY, cU = .returned (.slice cW cX cY) /\ (KeepT 75 cS cV /\ True) /\ ((1 = 1) /\ (1 = 1) /\ (1 = 1) /\ (1 = 1) /\ (1 = 1) /\ True) /\ ((∃ cZ da db, ∃ dc, (Go.builtin .append #[71, 71] 71 #[false, false] #[(.slice (some (adr bU.heap.size)) 0 0), .slice t u v]).run Tryz.prog cV = .ok (.value (.slice cZ da db)) dc /\ (KeepT 75 cV dc /\ True) /\ ((1 = 1) /\ (1 = 1) /\ (1 = 1) /\ (1 = 1) /\ True) /\ (let dd := dc.alloc (.cells #[] 9);
 ((1 = 1) /\ (1 = 1) /\ (1 = 1) /\ (1 = 1) /\ True) /\ ∃ de df dg, ∃ dh, (Go.builtin .append #[71, 71] 71 #[false, false] #[(.slice (some (adr dc.heap.size)) 0 0), .slice A B C]).run Tryz.prog dd = .ok (.value (.slice de df dg)) dh /\ (KeepT 75 dd dh /\ True) /\ ((1 = 1) /\ (1 = 1) /\ (1 = 1) /\ True) /\ CP 99 #[.pointer a] dh (fun di dj => ∃ dk, di = .returned (.pointer dk) /\ (KeepT 75 dh dj /\ True) /\ ((1 = 1) /\ (1 = 1) /\ (1 = 1) /\ True) /\ True /\ True /\ (let dl := dj.alloc (.cells #[.string n, .string o, .string p, .slice cW cX cY, .slice cZ da db, .slice none 0 0, .slice de df dg, .slice none 0 0, .pointer dk, .slice none 0 0, .bool false, .pointer none, .pointer none, .pointer none] 222);
 True /\ True /\ I (some (adr dj.heap.size)) dl)))) /\
 ((let dm := cV.alloc (.cells #[] 9);
 ((1 = 1) /\ (1 = 1) /\ (1 = 1) /\ (1 = 1) /\ (1 = 1) /\ True) /\ ∃ dn dp dq, ∃ dr, (Go.builtin .append #[71, 71] 71 #[false, false] #[(.slice (some (adr bU.heap.size)) 0 0), .slice t u v]).run Tryz.prog dm = .ok (.value (.slice dn dp dq)) dr /\ (KeepT 75 dm dr /\ True) /\ ((1 = 1) /\ (1 = 1) /\ (1 = 1) /\ (1 = 1) /\ True) /\ ∃ ds dt du, ∃ dv, (Go.builtin .append #[71, 71] 71 #[false, false] #[(.slice (some (adr cV.heap.size)) 0 0), .slice A B C]).run Tryz.prog dr = .ok (.value (.slice ds dt du)) dv /\ (KeepT 75 dr dv /\ True) /\ ((1 = 1) /\ (1 = 1) /\ (1 = 1) /\ True) /\ CP 99 #[.pointer a] dv (fun dx dy => ∃ dz, dx = .returned (.pointer dz) /\ (KeepT 75 dv dy /\ True) /\ ((1 = 1) /\ (1 = 1) /\ (1 = 1) /\ True) /\ True /\ True /\ (let dA := dy.alloc (.cells #[.string n, .string o, .string p, .slice cW cX cY, .slice dn dp dq, .slice none 0 0, .slice ds dt du, .slice none 0 0, .pointer dz, .slice none 0 0, .bool false, .pointer none, .pointer none, .pointer none] 222);
 True /\ True /\ I (some (adr dy.heap.size)) dA))))))) /\
 ((let dB := cS.alloc (.cells #[] 9);
 ((1 = 1) /\ (1 = 1) /\ (1 = 1) /\ (1 = 1) /\ (1 = 1) /\ (1 = 1) /\ True) /\ CP 101 #[.pointer a, .slice q r s] dB (fun dC dD => ∃ dE dF dG, dC = .returned (.slice dE dF dG) /\ (KeepT 75 dB dD /\ True) /\ ((1 = 1) /\ (1 = 1) /\ (1 = 1) /\ (1 = 1) /\ (1 = 1) /\ True) /\ ∃ dH dI dJ, ∃ dK, (Go.builtin .append #[71, 71] 71 #[false, false] #[(.slice (some (adr bU.heap.size)) 0 0), .slice t u v]).run Tryz.prog dD = .ok (.value (.slice dH dI dJ)) dK /\ (KeepT 75 dD dK /\ True) /\ ((1 = 1) /\ (1 = 1) /\ (1 = 1) /\ (1 = 1) /\ True) /\ ∃ dL dM dN, ∃ dO, (Go.builtin .append #[71, 71] 71 #[false, false] #[(.slice (some (adr cS.heap.size)) 0 0), .slice A B C]).run Tryz.prog dK = .ok (.value (.slice dL dM dN)) dO /\ (KeepT 75 dK dO /\ True) /\ ((1 = 1) /\ (1 = 1) /\ (1 = 1) /\ True) /\ CP 99 #[.pointer a] dO (fun dP dQ => ∃ dS, dP = .returned (.pointer dS) /\ (KeepT 75 dO dQ /\ True) /\ ((1 = 1) /\ (1 = 1) /\ (1 = 1) /\ True) /\ True /\ True /\ (let dU := dQ.alloc (.cells #[.string n, .string o, .string p, .slice dE dF dG, .slice dH dI dJ, .slice none 0 0, .slice dL dM dN, .slice none 0 0, .pointer dS, .slice none 0 0, .bool false, .pointer none, .pointer none, .pointer none] 222);
 True /\ True /\ I (some (adr dQ.heap.size)) dU)))))))) /\
 ((let dV := bU.alloc (.cells #[] 9);
 ((1 = 1) /\ (1 = 1) /\ (1 = 1) /\ (1 = 1) /\ (1 = 1) /\ (1 = 1) /\ True) /\ ((CP 101 #[.pointer a, .slice q r s] dV (fun dW dX => ∃ dY dZ ea, dW = .returned (.slice dY dZ ea) /\ (KeepT 75 dV dX /\ True) /\ ((1 = 1) /\ (1 = 1) /\ (1 = 1) /\ (1 = 1) /\ (1 = 1) /\ True) /\ (let eb := dX.alloc (.cells #[] 9);
 ((1 = 1) /\ (1 = 1) /\ (1 = 1) /\ (1 = 1) /\ (1 = 1) /\ True) /\ ∃ ec ed ee, ∃ ef, (Go.builtin .append #[71, 71] 71 #[false, false] #[(.slice (some (adr dX.heap.size)) 0 0), .slice t u v]).run Tryz.prog eb = .ok (.value (.slice ec ed ee)) ef /\ (KeepT 75 eb ef /\ True) /\ ((1 = 1) /\ (1 = 1) /\ (1 = 1) /\ (1 = 1) /\ True) /\ ∃ eg eh ei, ∃ ej, (Go.builtin .append #[71, 71] 71 #[false, false] #[(.slice (some (adr bU.heap.size)) 0 0), .slice A B C]).run Tryz.prog ef = .ok (.value (.slice eg eh ei)) ej /\ (KeepT 75 ef ej /\ True) /\ ((1 = 1) /\ (1 = 1) /\ (1 = 1) /\ True) /\ CP 99 #[.pointer a] ej (fun ek el => ∃ em, ek = .returned (.pointer em) /\ (KeepT 75 ej el /\ True) /\ ((1 = 1) /\ (1 = 1) /\ (1 = 1) /\ True) /\ True /\ True /\ (let en := el.alloc (.cells #[.string n, .string o, .string p, .slice dY dZ ea, .slice ec ed ee, .slice none 0 0, .slice eg eh ei, .slice none 0 0, .pointer em, .slice none 0 0, .bool false, .pointer none, .pointer none, .pointer none] 222);
 True /\ True /\ I (some (adr el.heap.size)) en))))) /\
 ((let eo := dV.alloc (.cells #[] 9);
 ((1 = 1) /\ (1 = 1) /\ (1 = 1) /\ (1 = 1) /\ (1 = 1) /\ (1 = 1) /\ True) /\ CP 101 #[.pointer a, .slice q r s] eo (fun ep eq => ∃ er es et, ep = .returned (.slice er es et) /\ (KeepT 75 eo eq /\ True) /\ ((1 = 1) /\ (1 = 1) /\ (1 = 1) /\ (1 = 1) /\ (1 = 1) /\ True) /\ ∃ eu ev ex, ∃ ey, (Go.builtin .append #[71, 71] 71 #[false, false] #[(.slice (some (adr dV.heap.size)) 0 0), .slice t u v]).run Tryz.prog eq = .ok (.value (.slice eu ev ex)) ey /\ (KeepT 75 eq ey /\ True) /\ ((1 = 1) /\ (1 = 1) /\ (1 = 1) /\ (1 = 1) /\ True) /\ ∃ ez eA eB, ∃ eC, (Go.builtin .append #[71, 71] 71 #[false, false] #[(.slice (some (adr bU.heap.size)) 0 0), .slice A B C]).run Tryz.prog ey = .ok (.value (.slice ez eA eB)) eC /\ (KeepT 75 ey eC /\ True) /\ ((1 = 1) /\ (1 = 1) /\ (1 = 1) /\ True) /\ CP 99 #[.pointer a] eC (fun eD eE => ∃ eF, eD = .returned (.pointer eF) /\ (KeepT 75 eC eE /\ True) /\ ((1 = 1) /\ (1 = 1) /\ (1 = 1) /\ True) /\ True /\ True /\ (let eG := eE.alloc (.cells #[.string n, .string o, .string p, .slice er es et, .slice eu ev ex, .slice none 0 0, .slice ez eA eB, .slice none 0 0, .pointer eF, .slice none 0 0, .bool false, .pointer none, .pointer none, .pointer none] 222);
 True /\ True /\ I (some (adr eE.heap.size)) eG)))))))))))) /\
 ((decide (k < (c : Int))) = false ->
 R (.returned (.slice g i j)) l)))) : CP 114 #[.pointer a, .slice b c d] w R :=
 vcq Tryz.func114 [7, 10, 12] [(8, ⟨[(5, .slice), (15, .int .i64)],[]⟩), (19, ⟨[(8, .ptr)],[]⟩), (21, ⟨[],[]⟩), (25, ⟨[(48, .bool)],[]⟩), (54, ⟨[(58, .int .i64)],[]⟩), (71, ⟨[(99, .int .i64)],[]⟩)] [.l (.optr a), .l (.slice b c d)] h
theorem q_impl_maker_schemaDefs (a : OA) (b : OA) (c d : Nat) (w : World) (R : EW) (h :
 ∃ (e : OA -> Nat -> Nat -> Int -> World -> Prop) (f : OA -> Nat -> Nat -> Int -> World -> Nat), e none 0 0 0 w /\
 (∀ (g : OA) (i j : Nat), ∀ k : Int, ∀ l : World, e g i j k l ->
 (((decide (k < (c : Int))) = true ->
 ∃ m, b = some m /\ (0 <= k /\ k < (c : Int)) /\ ∃ n, l.cell? (m.add (k.toNat * 3)) = some (.string n) /\ ∃ o p q, l.cell? ((m.add (k.toNat * 3)).add 1) = some (.slice o p q) /\ ∃ r s t, l.cell? ((m.add (k.toNat * 3)).add 2) = some (.slice r s t) /\ True /\ (let u := l.alloc (.cells #[(.string (⟨#[]⟩ : BA)), .slice none 0 0, .slice none 0 0] 181);
 True /\ (let v := l.alloc (.cells #[.string n, .slice o p q, .slice r s t] 181);
 ∀ x, x = v.drew -> CP 101 #[.pointer a, .slice o p q] x (fun y z => ∃ A B C, y = .returned (.slice A B C) /\ (KeepT 181 x z /\ True) /\ ((1 = 1) /\ True) /\ CP 99 #[.pointer a] z (fun D E => ∃ F, D = .returned (.pointer F) /\ (KeepT 181 z E /\ True) /\ ((1 = 1) /\ True) /\ True /\ True /\ (let G := E.alloc (.cells #[.string n, .slice A B C, .slice none 0 0, .pointer F, .pointer none, .pointer none, .pointer none] 284);
 True /\ True /\ ∃ (H : Int -> World -> Prop) (I : Int -> World -> Nat), H 0 G /\
 (∀ J : Int, ∀ K : World, H J K ->
 (((decide (J < (s : Int))) = true ->
 ∃ L, r = some L /\ (0 <= J /\ J < (s : Int)) /\ ∃ M, K.cell? (L.add (J.toNat * 2)) = some (.string M) /\ ∃ N, K.cell? ((L.add (J.toNat * 2)).add 1) = some (.string N) /\ True /\ (let O := K.alloc (.cells #[(.string (⟨#[]⟩ : BA)), (.string (⟨#[]⟩ : BA))] 146);
 True /\ (let P := K.alloc (.cells #[.string M, .string N] 146);
 ∀ Q : World -> Prop, (∀ S : World,
 (∀ U, U = S.drew -> ∃ V W X, U.cell? ((adr E.heap.size).add 2) = some (.slice V W X) /\ CP 99 #[.pointer a] U (fun Y Z => ∃ aa, Y = .returned (.pointer aa) /\ (KeepT 181 U Z /\ KeepT 146 U Z /\ True) /\ ((1 = 1) /\ (1 = 1) /\ (Z.cell? ((adr E.heap.size).add 2) = U.cell? ((adr E.heap.size).add 2)) /\ True) /\ True /\ True /\ (let ab := Z.alloc (.cells #[.string M, .string N, .pointer aa, .pointer none] 287);
 ((ab.cell? ((adr E.heap.size).add 2) = Z.cell? ((adr E.heap.size).add 2)) /\ True) /\ True /\ (let ac := ab.alloc (.cells #[(.pointer (some (adr Z.heap.size)))] 285);
 ((ac.cell? ((adr E.heap.size).add 2) = ab.cell? ((adr E.heap.size).add 2)) /\ True) /\ ∃ ad ae af, ∃ ag, (Go.builtin .append #[282, 282] 282 #[false, false] #[.slice V W X, (.slice (some (adr ab.heap.size)) 1 1)]).run Tryz.prog ac = .ok (.value (.slice ad ae af)) ag /\ (KeepT 181 ac ag /\ KeepT 146 ac ag /\ True) /\ True /\ Off ag ((adr E.heap.size).add 2) 1 [181,146] /\ True /\ (let ah := (ag.setCell ((adr E.heap.size).add 2) (.slice ad ae af));
 True /\ (H (IntKind.i64.wrap (J + 1)) ah /\ I (IntKind.i64.wrap (J + 1)) ah < I J K)))))) ->
 Q S) ->
 ∃ ai, a = some ai /\ ∃ aj, P.cell? (ai.add 2) = some (.bool aj) /\ ((aj = false -> (((!(M.toList == (⟨#[113,117,101,114,121]⟩ : BA).toList)) = true -> (((!(M.toList == (⟨#[109,117,116,97,116,105,111,110]⟩ : BA).toList)) = true -> ∃ ak, a = some ak /\ Off P (ak.add 2) 1 [181,146] /\ True /\ (let al := (P.setCell (ak.add 2) (.bool (!(M.toList == (⟨#[115,117,98,115,99,114,105,112,116,105,111,110]⟩ : BA).toList))));
 Q al)) /\ ((!(M.toList == (⟨#[109,117,116,97,116,105,111,110]⟩ : BA).toList)) = false -> ∃ am, a = some am /\ Off P (am.add 2) 1 [181,146] /\ True /\ (let an := (P.setCell (am.add 2) (.bool false));
 Q an)))) /\ ((!(M.toList == (⟨#[113,117,101,114,121]⟩ : BA).toList)) = false -> ∃ ao, a = some ao /\ Off P (ao.add 2) 1 [181,146] /\ True /\ (let ap := (P.setCell (ao.add 2) (.bool false));
 Q ap)))) /\ (aj = true -> ∃ aq, a = some aq /\ Off P (aq.add 2) 1 [181,146] /\ True /\ (let ar := (P.setCell (aq.add 2) (.bool true));
 Q ar)))))) /\
 ((decide (J < (s : Int))) = false ->
 True /\ (let au := K.alloc (.cells #[(.pointer (some (adr E.heap.size)))] 280);
 ∃ av ax ay, ∃ az, (Go.builtin .append #[208, 208] 208 #[false, false] #[.slice g i j, (.slice (some (adr K.heap.size)) 1 1)]).run Tryz.prog au = .ok (.value (.slice av ax ay)) az /\ (KeepT 181 au az /\ True) /\ (e av ax ay (IntKind.i64.wrap (k + 1)) az /\ f av ax ay (IntKind.i64.wrap (k + 1)) az < f g i j k l))))))))))) /\
 ((decide (k < (c : Int))) = false ->
 R (.returned (.slice g i j)) l)))) : CP 113 #[.pointer a, .slice b c d] w R :=
 vcq Tryz.func113 [7, 10] [(8, ⟨[(5, .slice), (13, .int .i64)],[]⟩), (25, ⟨[(30, .int .i64)],[]⟩), (36, ⟨[],[]⟩)] [.l (.optr a), .l (.slice b c d)] h
theorem q_impl_maker_schema (a : OA) (b : OA) (c d : Nat) (e : OA) (f g : Nat) (i : OA) (j k : Nat) (l : OA) (m n : Nat) (o : OA) (p q : Nat) (w : World) (R : EW) (h :
 True /\ (let r := w.alloc (.cells #[.slice b c d, .slice e f g, .slice i j k, .slice l m n, .slice o p q] 26);
 ∀ s, s = r.drew -> CP 113 #[.pointer a, .slice b c d] s (fun t u => ∃ v x y, t = .returned (.slice v x y) /\ (KeepT 26 s u /\ True) /\ ((0 = 0) /\ (0 = 0) /\ (0 = 0) /\ True) /\ CP 113 #[.pointer a, .slice e f g] u (fun z A => ∃ B C D, z = .returned (.slice B C D) /\ (KeepT 26 u A /\ True) /\ ((0 = 0) /\ (0 = 0) /\ True) /\ CP 114 #[.pointer a, .slice l m n] A (fun E F => ∃ G H I, E = .returned (.slice G H I) /\ (KeepT 26 A F /\ True) /\ ((0 = 0) /\ True) /\ CP 114 #[.pointer a, .slice o p q] F (fun J K => ∃ L M N, J = .returned (.slice L M N) /\ (KeepT 26 F K /\ True) /\ True /\ CP 99 #[.pointer a] K (fun O P => ∃ Q, O = .returned (.pointer Q) /\ (KeepT 26 K P /\ True) /\ True /\ True /\ True /\ (let S := P.alloc (.cells #[.slice v x y, .slice B C D, .slice none 0 0, .slice none 0 0, .slice G H I, .slice L M N, .pointer Q, .pointer none] 214);
 True /\ True /\ ∃ (U : Int -> World -> Prop) (V : Int -> World -> Nat), U 0 S /\
 (∀ W : Int, ∀ X : World, U W X ->
 (((decide (W < (j : Int))) = true ->
 ∃ Y, i = some Y /\ (0 <= W /\ W < (j : Int)) /\ ∃ Z, X.cell? (Y.add (W.toNat * 5)) = some (.string Z) /\ ∃ aa, X.cell? ((Y.add (W.toNat * 5)).add 1) = some (.string aa) /\ ∃ ab ac ad, X.cell? ((Y.add (W.toNat * 5)).add 2) = some (.slice ab ac ad) /\ ∃ ae af ag, X.cell? ((Y.add (W.toNat * 5)).add 3) = some (.slice ae af ag) /\ ∃ ah, X.cell? ((Y.add (W.toNat * 5)).add 4) = some (.bool ah) /\ True /\ (let ai := X.alloc (.cells #[(.string (⟨#[]⟩ : BA)), (.string (⟨#[]⟩ : BA)), .slice none 0 0, .slice none 0 0, .bool false] 88);
 True /\ (let aj := X.alloc (.cells #[.string Z, .string aa, .slice ab ac ad, .slice ae af ag, .bool ah] 88);
 ∀ ak, ak = aj.drew -> CP 115 #[.pointer a, .slice ab ac ad] ak (fun al am => ∃ an ao ap, al = .returned (.slice an ao ap) /\ (KeepT 26 ak am /\ KeepT 88 ak am /\ True) /\ ((1 = 1) /\ (1 = 1) /\ (1 = 1) /\ True) /\ CP 99 #[.pointer a] am (fun aq ar => ∃ au, aq = .returned (.pointer au) /\ (KeepT 26 am ar /\ KeepT 88 am ar /\ True) /\ ((1 = 1) /\ (1 = 1) /\ (1 = 1) /\ True) /\ True /\ True /\ (let av := ar.alloc (.cells #[.string Z, .string aa, .slice an ao ap, .slice none 0 0, .slice none 0 0, .bool ah, .pointer au, .pointer none, .pointer none] 228);
 True /\ True /\ ∃ (ax : Int -> World -> Prop) (ay : Int -> World -> Nat), ax 0 av /\
 (∀ az : Int, ∀ aA : World, ax az aA ->
 (((decide (az < (af : Int))) = true ->
 ∃ aB, ae = some aB /\ (0 <= az /\ az < (af : Int)) /\ ∃ aC, aA.cell? (aB.add (az.toNat * 1)) = some (.string aC) /\ ∃ aD aE aF, aA.cell? ((adr ar.heap.size).add 4) = some (.slice aD aE aF) /\ True /\ (let aG := aA.alloc (.cells #[.string aC] 258);
 ∃ aH aI aJ, ∃ aK, (Go.builtin .append #[226, 226] 226 #[false, false] #[.slice aD aE aF, (.slice (some (adr aA.heap.size)) 1 1)]).run Tryz.prog aG = .ok (.value (.slice aH aI aJ)) aK /\ (KeepT 26 aG aK /\ KeepT 88 aG aK /\ True) /\ Off aK ((adr ar.heap.size).add 4) 1 [26,88] /\ True /\ (let aL := (aK.setCell ((adr ar.heap.size).add 4) (.slice aH aI aJ));
 (ax (IntKind.i64.wrap (az + 1)) aL /\ ay (IntKind.i64.wrap (az + 1)) aL < ay az aA)))) /\
 ((decide (az < (af : Int))) = false ->
 ∃ aM aN aO, aA.cell? ((adr P.heap.size).add 2) = some (.slice aM aN aO) /\ True /\ (let aP := aA.alloc (.cells #[(.pointer (some (adr ar.heap.size)))] 223);
 ∃ aQ aS aU, ∃ aV, (Go.builtin .append #[210, 210] 210 #[false, false] #[.slice aM aN aO, (.slice (some (adr aA.heap.size)) 1 1)]).run Tryz.prog aP = .ok (.value (.slice aQ aS aU)) aV /\ (KeepT 26 aP aV /\ KeepT 88 aP aV /\ True) /\ Off aV ((adr P.heap.size).add 2) 1 [26,88] /\ True /\ (let aW := (aV.setCell ((adr P.heap.size).add 2) (.slice aQ aS aU));
 (U (IntKind.i64.wrap (W + 1)) aW /\ V (IntKind.i64.wrap (W + 1)) aW < V W X)))))))))))) /\
 ((decide (W < (j : Int))) = false ->
 R (.returned (.pointer (some (adr P.heap.size)))) X))))))))))) : CP 96 #[.pointer a, (.agg #[.slice b c d, .slice e f g, .slice i j k, .slice l m n, .slice o p q])] w R :=
 vcq Tryz.func96 [3, 7] [(8, ⟨[(34, .int .i64)],[]⟩), (25, ⟨[(55, .int .i64)],[]⟩)] [.l (.optr a), .agg [.slice b c d, .slice e f g, .slice i j k, .slice l m n, .slice o p q]] h
theorem q_ast_Schema_AddPossibleType (a : OA) (b : BA) (c : OA) (w : World) (R : EW) (h :
 ∀ d, d = w.drew -> ∃ e, a = some e /\ ∃ f : Option Nat, d.cell? (e.add 6) = some (.map f) /\ ∃ g, a = some g /\ ∃ i : Option Nat, d.cell? (g.add 6) = some (.map i) /\ ∃ j k l, (Instr.lookup 204 (.map i) (.string b) false).run Tryz.prog d = .ok (.slice j k l) d /\ True /\ (let m := d.alloc (.cells #[.pointer c] 128);
 ((∀ n, i = some n -> objAt m n = objAt d n) /\ (m.cell? (g.add 6) = d.cell? (g.add 6)) /\ (m.cell? (e.add 6) = d.cell? (e.add 6)) /\ True) /\ ∃ o p q, ∃ r, (Go.builtin .append #[211, 211] 211 #[false, false] #[.slice j k l, (.slice (some (adr d.heap.size)) 1 1)]).run Tryz.prog m = .ok (.value (.slice o p q)) r /\ True /\ ((r.cell? (e.add 6) = m.cell? (e.add 6)) /\ True) /\ ∃ s, (Instr.mapUpdate 204 (.map f) (.string b) (.slice o p q)).run Tryz.prog r = .ok () s /\ True /\ True /\ R (.returned (.tuple #[])) s)) : CP 97 #[.pointer a, .string b, .pointer c] w R :=
 vcq Tryz.func97 [] [] [.l (.optr a), .l (.str b), .l (.optr c)] h
theorem q_ast_Schema_AddImplements (a : OA) (b : BA) (c : OA) (w : World) (R : EW) (h :
 ∀ d, d = w.drew -> ∃ e, a = some e /\ ∃ f : Option Nat, d.cell? (e.add 7) = some (.map f) /\ ∃ g, a = some g /\ ∃ i : Option Nat, d.cell? (g.add 7) = some (.map i) /\ ∃ j k l, (Instr.lookup 204 (.map i) (.string b) false).run Tryz.prog d = .ok (.slice j k l) d /\ True /\ (let m := d.alloc (.cells #[.pointer c] 128);
 ((∀ n, i = some n -> objAt m n = objAt d n) /\ (m.cell? (g.add 7) = d.cell? (g.add 7)) /\ (m.cell? (e.add 7) = d.cell? (e.add 7)) /\ True) /\ ∃ o p q, ∃ r, (Go.builtin .append #[211, 211] 211 #[false, false] #[.slice j k l, (.slice (some (adr d.heap.size)) 1 1)]).run Tryz.prog m = .ok (.value (.slice o p q)) r /\ True /\ ((r.cell? (e.add 7) = m.cell? (e.add 7)) /\ True) /\ ∃ s, (Instr.mapUpdate 204 (.map f) (.string b) (.slice o p q)).run Tryz.prog r = .ok () s /\ True /\ True /\ R (.returned (.tuple #[])) s)) : CP 98 #[.pointer a, .string b, .pointer c] w R :=
 vcq Tryz.func98 [] [] [.l (.optr a), .l (.str b), .l (.optr c)] h
theorem q_impl_maker_world (a : OA) (b : OA) (c d : Nat) (e : OA) (f g : Nat) (i : BA) (j : BA) (k : BA) (l : OA) (m n : Nat) (o : OA) (p q : Nat) (w : World) (R : EW) (h :
 True /\ (let r := w.alloc (.cells #[.slice b c d, .slice e f g, .string i, .string j, .string k, .slice l m n, .slice o p q] 40);
 True /\ CP 96 #[.pointer a, (.agg #[.slice none 0 0, .slice none 0 0, .slice e f g, .slice b c d, .slice none 0 0])] r (fun s t => ∃ u, s = .returned (.pointer u) /\ (KeepT 40 r t /\ True) /\ let v := t.alloc (.map #[] 0);
 let x := v.alloc (.map #[] 0);
 let y := x.alloc (.map #[] 0);
 let z := y.alloc (.map #[] 0);
 True /\ True /\ (let A := z.alloc (.cells #[.pointer none, .pointer none, .pointer none, .slice none 0 0, (.map (some t.heap.size)), (.map (some v.heap.size)), (.map (some x.heap.size)), (.map (some y.heap.size)), (.string (⟨#[]⟩ : BA)), .pointer none] 206);
 ∃ B, u = some B /\ ∃ C D E, A.cell? (B.add 4) = some (.slice C D E) /\ ∃ (F : Int -> World -> Prop) (G : Int -> World -> Nat), F 0 A /\
 (∀ H : Int, ∀ I : World, F H I ->
 (((decide (H < (D : Int))) = true ->
 ∃ J, C = some J /\ (0 <= H /\ H < (D : Int)) /\ ∃ K, I.cell? (J.add (H.toNat * 1)) = some (.pointer K) /\ ∀ L, L = I.drew -> ∃ M : Option Nat, L.cell? ((adr z.heap.size).add 4) = some (.map M) /\ ∃ N, K = some N /\ ∃ O, L.cell? (N.add 2) = some (.string O) /\ ∃ P, (Instr.mapUpdate 202 (.map M) (.string O) (.pointer K)).run Tryz.prog L = .ok () P /\ (KeepT 40 L P /\ True) /\ True /\ (F (IntKind.i64.wrap (H + 1)) P /\ G (IntKind.i64.wrap (H + 1)) P < G H I)) /\
 ((decide (H < (D : Int))) = false ->
 ∃ Q, u = some Q /\ ∃ S U V, I.cell? (Q.add 2) = some (.slice S U V) /\ ∃ (W : Int -> World -> Prop) (X : Int -> World -> Nat), W 0 I /\
 (∀ Y : Int, ∀ Z : World, W Y Z ->
 (((decide (Y < (U : Int))) = true ->
 ∃ aa, S = some aa /\ (0 <= Y /\ Y < (U : Int)) /\ ∃ ab, Z.cell? (aa.add (Y.toNat * 1)) = some (.pointer ab) /\ ∀ ac, ac = Z.drew -> ∃ ad : Option Nat, ac.cell? ((adr z.heap.size).add 5) = some (.map ad) /\ ∃ ae, ab = some ae /\ ∃ af, ac.cell? (ae.add 1) = some (.string af) /\ ∃ ag, (Instr.mapUpdate 203 (.map ad) (.string af) (.pointer ab)).run Tryz.prog ac = .ok () ag /\ (KeepT 40 ac ag /\ True) /\ True /\ (W (IntKind.i64.wrap (Y + 1)) ag /\ X (IntKind.i64.wrap (Y + 1)) ag < X Y Z)) /\
 ((decide (Y < (U : Int))) = false ->
 ∀ ah, ah = Z.drew -> ∃ ai : Option Nat, ah.cell? ((adr z.heap.size).add 4) = some (.map ai) /\ ∃ aj, (Instr.lookup 202 (.map ai) (.string i) false).run Tryz.prog ah = .ok (.pointer aj) ah /\ ∃ ak : Option Nat, ah.cell? ((adr z.heap.size).add 4) = some (.map ak) /\ ∃ al, (Instr.lookup 202 (.map ak) (.string j) false).run Tryz.prog ah = .ok (.pointer al) ah /\ ∃ am : Option Nat, ah.cell? ((adr z.heap.size).add 4) = some (.map am) /\ ∃ an, (Instr.lookup 202 (.map am) (.string k) false).run Tryz.prog ah = .ok (.pointer an) ah /\ Off ah (adr z.heap.size) 1 [40] /\ True /\ (let ao := (ah.setCell (adr z.heap.size) (.pointer aj));
 True /\ Off ao ((adr z.heap.size).add 1) 1 [40] /\ True /\ (let ap := (ao.setCell ((adr z.heap.size).add 1) (.pointer al));
 True /\ Off ap ((adr z.heap.size).add 2) 1 [40] /\ True /\ (let aq := (ap.setCell ((adr z.heap.size).add 2) (.pointer an));
 True /\ ∃ (ar : Int -> World -> Prop) (au : Int -> World -> Nat), ar 0 aq /\
 (∀ av : Int, ∀ ax : World, ar av ax ->
 (((decide (av < (m : Int))) = true ->
 ∃ ay, l = some ay /\ (0 <= av /\ av < (m : Int)) /\ ∃ az, ax.cell? (ay.add (av.toNat * 2)) = some (.string az) /\ ∃ aA aB aC, ax.cell? ((ay.add (av.toNat * 2)).add 1) = some (.slice aA aB aC) /\ True /\ (let aD := ax.alloc (.cells #[(.string (⟨#[]⟩ : BA)), .slice none 0 0] 78);
 True /\ (let aE := ax.alloc (.cells #[.string az, .slice aA aB aC] 78);
 ∃ (aF : Int -> World -> Prop) (aG : Int -> World -> Nat), aF 0 aE /\
 (∀ aH : Int, ∀ aI : World, aF aH aI ->
 (((decide (aH < (aB : Int))) = true ->
 ∀ aJ : World -> Prop, (∀ aK : World,
 ((aF (IntKind.i64.wrap (aH + 1)) aK /\ aG (IntKind.i64.wrap (aH + 1)) aK < aG aH aI)) ->
 aJ aK) ->
 ∃ aL, aA = some aL /\ (0 <= aH /\ aH < (aB : Int)) /\ ∃ aM, aI.cell? (aL.add (aH.toNat * 1)) = some (.string aM) /\ ∃ aN : Option Nat, aI.cell? ((adr z.heap.size).add 4) = some (.map aN) /\ ∃ aO, (Instr.lookup 202 (.map aN) (.string aM) false).run Tryz.prog aI = .ok (.pointer aO) aI /\ (((!aO.isNone) = true ->
 CP 97 #[(.pointer (some (adr z.heap.size))), .string az, .pointer aO] aI (fun aP aQ => aP = .returned (.tuple #[]) /\ (KeepT 40 aI aQ /\ KeepT 78 aI aQ /\ True) /\ aJ aQ)) /\
 ((!aO.isNone) = false ->
 aJ aI))) /\
 ((decide (aH < (aB : Int))) = false ->
 (ar (IntKind.i64.wrap (av + 1)) aI /\ au (IntKind.i64.wrap (av + 1)) aI < au av ax))))))) /\
 ((decide (av < (m : Int))) = false ->
 ∃ (aS : Int -> World -> Prop) (aU : Int -> World -> Nat), aS 0 ax /\
 (∀ aV : Int, ∀ aW : World, aS aV aW ->
 (((decide (aV < (p : Int))) = true ->
 ∃ aX, o = some aX /\ (0 <= aV /\ aV < (p : Int)) /\ ∃ aY, aW.cell? (aX.add (aV.toNat * 2)) = some (.string aY) /\ ∃ aZ ba bb, aW.cell? ((aX.add (aV.toNat * 2)).add 1) = some (.slice aZ ba bb) /\ True /\ (let bc := aW.alloc (.cells #[(.string (⟨#[]⟩ : BA)), .slice none 0 0] 78);
 True /\ (let bd := aW.alloc (.cells #[.string aY, .slice aZ ba bb] 78);
 ∃ (be : Int -> World -> Prop) (bf : Int -> World -> Nat), be 0 bd /\
 (∀ bg : Int, ∀ bh : World, be bg bh ->
 (((decide (bg < (ba : Int))) = true ->
 ∀ bi : World -> Prop, (∀ bj : World,
 ((be (IntKind.i64.wrap (bg + 1)) bj /\ bf (IntKind.i64.wrap (bg + 1)) bj < bf bg bh)) ->
 bi bj) ->
 ∃ bk, aZ = some bk /\ (0 <= bg /\ bg < (ba : Int)) /\ ∃ bl, bh.cell? (bk.add (bg.toNat * 1)) = some (.string bl) /\ ∃ bm : Option Nat, bh.cell? ((adr z.heap.size).add 4) = some (.map bm) /\ ∃ bn, (Instr.lookup 202 (.map bm) (.string bl) false).run Tryz.prog bh = .ok (.pointer bn) bh /\ (((!bn.isNone) = true ->
 CP 98 #[(.pointer (some (adr z.heap.size))), .string aY, .pointer bn] bh (fun bo bp => bo = .returned (.tuple #[]) /\ (KeepT 40 bh bp /\ KeepT 78 bh bp /\ True) /\ bi bp)) /\
 ((!bn.isNone) = false ->
 bi bh))) /\
 ((decide (bg < (ba : Int))) = false ->
 (aS (IntKind.i64.wrap (aV + 1)) bh /\ aU (IntKind.i64.wrap (aV + 1)) bh < aU aV aW))))))) /\
 ((decide (aV < (p : Int))) = false ->
 R (.returned (.pointer (some (adr z.heap.size)))) aW))))))))))))))))))) : CP 59 #[.pointer a, (.agg #[.slice b c d, .slice e f g, .string i, .string j, .string k, .slice l m n, .slice o p q])] w R :=
 vcq Tryz.func59 [3, 12, 17] [(10, ⟨[(39, .int .i64)],[]⟩), (27, ⟨[(58, .int .i64)],[]⟩), (46, ⟨[(105, .int .i64)],[]⟩), (60, ⟨[(112, .int .i64)],[]⟩), (67, ⟨[],[]⟩), (84, ⟨[(134, .int .i64)],[]⟩), (98, ⟨[(141, .int .i64)],[]⟩), (105, ⟨[],[]⟩)] [.l (.optr a), .agg [.slice b c d, .slice e f g, .str i, .str j, .str k, .slice l m n, .slice o p q]] h
theorem q_impl_newMaker (w : World) (R : EW) (h :
 True /\ True /\ (let a := w.alloc (.cells #[(.string (⟨#[]⟩ : BA)), (.string (⟨#[]⟩ : BA)), .bool false] 199);
 True /\ True /\ (let b := a.alloc (.cells #[(.pointer (some (adr w.heap.size))), .int .i64 0, .bool false] 106);
 R (.returned (.pointer (some (adr a.heap.size)))) b))) : CP 58 #[] w R :=
 vcq Tryz.func58 [] [] [] h
end Go.VC
