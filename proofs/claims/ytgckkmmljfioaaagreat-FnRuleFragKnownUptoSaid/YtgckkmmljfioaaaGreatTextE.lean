/- Part of the proof of a law of a rule over documents (TextE), where what the arguments hold is of bulk at most 1048576. -/
import Derived.Test.YtgckkmmljfioaaaGreatBaseB
set_option linter.unusedVariables false
set_option linter.unusedSimpArgs false
set_option linter.unusedSectionVars false
set_option linter.deprecated false
namespace Go.VC
open Go Go.Proofs
set_option maxRecDepth 100000
theorem q_impl_found (a : OA) (b c : Nat) (d : OA) (e f : Nat) (g : BA) (i : BA) (j : BA) (k : OA) (l m : Nat) (n : OA) (o p : Nat) (q : OA) (r s : Nat) (t : OA) (u v : Nat) (x : Value) (w : World) (R : EW) (h :
 True /\ (let y := w.alloc (.cells #[.slice a b c, .slice d e f, .string g, .string i, .string j, .slice k l m, .slice n o p] 40);
 True /\ (let z := y.alloc (.cells #[.slice q r s, .slice t u v] 30);
 CP 58 #[] z (fun A B => ∃ C, A = .returned (.pointer C) /\ (KeepT 40 z B /\ KeepT 30 z B /\ True) /\ ∀ D, D = B.drew -> CP 59 #[.pointer C, (.agg #[.slice a b c, .slice d e f, .string g, .string i, .string j, .slice k l m, .slice n o p])] D (fun E F => ∃ G, E = .returned (.pointer G) /\ (KeepT 40 D F /\ KeepT 30 D F /\ True) /\ ((0 = 0) /\ True) /\ CP 60 #[.pointer C, (.agg #[.slice q r s, .slice t u v])] F (fun H I => ∃ J, H = .returned (.pointer J) /\ (KeepT 40 F I /\ KeepT 30 F I /\ True) /\ True /\ True /\ True /\ ∃ K, C = some K /\ ∃ L, I.cell? (K.add 2) = some (.bool L) /\ ((L = true ->
 R (.returned (.tuple #[.int .i64 0, .bool false])) I) /\
 (L = false ->
 True /\ (let M := I.alloc (.cells #[.int .i64 0] 3);
 Off M (adr I.heap.size) 1 [40,30] /\ True /\ (let N := (M.setCell (adr I.heap.size) (.int .i64 0));
 True /\ True /\ (let O := N.alloc (.cells #[.slice none 0 0, .slice none 0 0, .slice none 0 0, .slice none 0 0, .slice none 0 0, .slice none 0 0, .slice none 0 0, .slice none 0 0, .slice none 0 0] 118);
 ∃ P Q, x = .func (.func P) #[] Q.toArray /\ ∃ S, Tryz.prog.funcs[P]? = some S /\ (S.name == "runtime.NumGoroutine" || S.body.isNone) = false /\ CP P ([(.pointer (some (adr N.heap.size))), (.func (.func 61) #[] #[(.pointer (some (adr I.heap.size)))])] ++ Q).toArray O (fun U V => U = .returned (.tuple #[]) /\ (KeepT 40 O V /\ KeepT 30 O V /\ True) /\ CP 62 #[.pointer G, .pointer J, (.pointer (some (adr N.heap.size)))] V (fun W X => W = .returned (.tuple #[]) /\ (KeepT 40 V X /\ KeepT 30 V X /\ True) /\ ∃ Y, X.cell? (adr I.heap.size) = some (.int .i64 Y) /\ R (.returned (.tuple #[.int .i64 Y, .bool true])) X))))))))))))) : CP 31 #[(.agg #[.slice a b c, .slice d e f, .string g, .string i, .string j, .slice k l m, .slice n o p]), (.agg #[.slice q r s, .slice t u v]), x] w R :=
 vcq Tryz.func31 [3, 4] [] [.agg [.slice a b c, .slice d e f, .str g, .str i, .str j, .slice k l m, .slice n o p], .agg [.slice q r s, .slice t u v], .l (.val x)] h
theorem q_core_Walk (a : OA) (b : OA) (c : OA) (w : World) (R : EW) (h :
 True /\ True /\ (let d := w.alloc (.cells #[.pointer none, .pointer none, .pointer none, .map none, .pointer none, .map none] 168);
 Off d (adr w.heap.size) 6 [] /\ True /\ (let e := ((((((d.setCell (adr w.heap.size) (.pointer c)).setCell ((adr w.heap.size).add 1) (.pointer a)).setCell ((adr w.heap.size).add 2) (.pointer b)).setCell ((adr w.heap.size).add 3) (.map none)).setCell ((adr w.heap.size).add 4) (.pointer none)).setCell ((adr w.heap.size).add 5) (.map none));
 CP 103 #[(.pointer (some (adr w.heap.size)))] e (fun f g => f = .returned (.tuple #[]) /\ True /\ R (.returned (.tuple #[])) g)))) : CP 62 #[.pointer a, .pointer b, .pointer c] w R :=
 vcq Tryz.func62 [] [] [.l (.optr a), .l (.optr b), .l (.optr c)] h
theorem q_core_Walker_walk (a : OA) (w : World) (R : EW) (h :
 ∃ b, a = some b /\ ∃ c, w.cell? (b.add 2) = some (.pointer c) /\ ∃ d, c = some d /\ ∃ e f g, w.cell? (d.add 1) = some (.slice e f g) /\ let i := w.alloc (.map #[] 0);
 ∃ j, a = some j /\ Off i (j.add 5) 1 [] /\ True /\ (let k := (i.setCell (j.add 5) (.map (some w.heap.size)));
 ∃ l, a = some l /\ ∃ m, k.cell? (l.add 2) = some (.pointer m) /\ ∃ n, m = some n /\ ∃ o p q, k.cell? (n.add 1) = some (.slice o p q) /\ ∃ (r : Int -> World -> Prop) (s : Int -> World -> Nat), r 0 k /\
 (∀ t : Int, ∀ u : World, r t u ->
 (((decide (t < (p : Int))) = true ->
 ∀ v : World -> Prop, (∀ x : World,
 ((r (IntKind.i64.wrap (t + 1)) x /\ s (IntKind.i64.wrap (t + 1)) x < s t u)) ->
 v x) ->
 ∃ y, o = some y /\ (0 <= t /\ t < (p : Int)) /\ ∃ z, u.cell? (y.add (t.toNat * 1)) = some (.pointer z) /\ ∀ A, A = u.drew -> ∃ B, a = some B /\ ∃ C : Option Nat, A.cell? (B.add 5) = some (.map C) /\ ∃ D, z = some D /\ ∃ E, A.cell? (D.add 1) = some (.string E) /\ ∃ F, ∃ G, (Instr.lookup 166 (.map C) (.string E) true).run Tryz.prog A = .ok (.tuple #[.pointer F, .bool G]) A /\ True /\ True /\ (((!G) = true ->
 ∀ H, H = A.drew -> ∃ I, a = some I /\ ∃ J : Option Nat, H.cell? (I.add 5) = some (.map J) /\ ∃ K, z = some K /\ ∃ L, H.cell? (K.add 1) = some (.string L) /\ ∃ M, (Instr.mapUpdate 166 (.map J) (.string L) (.pointer z)).run Tryz.prog H = .ok () M /\ True /\ True /\ v M) /\
 ((!G) = false ->
 v A))) /\
 ((decide (t < (p : Int))) = false ->
 ∃ N, a = some N /\ ∃ O, u.cell? (N.add 2) = some (.pointer O) /\ ∃ P, O = some P /\ ∃ Q S U, u.cell? P = some (.slice Q S U) /\ ∃ (V : Int -> World -> Prop) (W : Int -> World -> Nat), V 0 u /\
 (∀ X : Int, ∀ Y : World, V X Y ->
 (((decide (X < (S : Int))) = true ->
 ∃ Z, Q = some Z /\ (0 <= X /\ X < (S : Int)) /\ ∃ aa, Y.cell? (Z.add (X.toNat * 1)) = some (.pointer aa) /\ let ab := Y.alloc (.map #[] 0);
 ∃ ac, a = some ac /\ Off ab (ac.add 3) 1 [] /\ True /\ (let ad := (ab.setCell (ac.add 3) (.map (some Y.heap.size)));
 CP 119 #[.pointer a, .pointer aa] ad (fun ae af => ae = .returned (.tuple #[]) /\ True /\ (V (IntKind.i64.wrap (X + 1)) af /\ W (IntKind.i64.wrap (X + 1)) af < W X Y)))) /\
 ((decide (X < (S : Int))) = false ->
 ∃ ag, a = some ag /\ ∃ ah, Y.cell? (ag.add 2) = some (.pointer ah) /\ ∃ ai, ah = some ai /\ ∃ aj ak al, Y.cell? (ai.add 1) = some (.slice aj ak al) /\ ∃ (am : Int -> World -> Prop) (an : Int -> World -> Nat), am 0 Y /\
 (∀ ao : Int, ∀ ap : World, am ao ap ->
 (((decide (ao < (ak : Int))) = true ->
 ∃ aq, aj = some aq /\ (0 <= ao /\ ao < (ak : Int)) /\ ∃ ar, ap.cell? (aq.add (ao.toNat * 1)) = some (.pointer ar) /\ let au := ap.alloc (.map #[] 0);
 ∃ av, a = some av /\ Off au (av.add 3) 1 [] /\ True /\ (let ax := (au.setCell (av.add 3) (.map (some ap.heap.size)));
 CP 120 #[.pointer a, .pointer ar] ax (fun ay az => ay = .returned (.tuple #[]) /\ True /\ (am (IntKind.i64.wrap (ao + 1)) az /\ an (IntKind.i64.wrap (ao + 1)) az < an ao ap)))) /\
 ((decide (ao < (ak : Int))) = false ->
 R (.returned (.tuple #[])) ap))))))))))) : CP 103 #[.pointer a] w R :=
 vcq Tryz.func103 [] [(6, ⟨[(30, .int .i64)],[]⟩), (13, ⟨[],[]⟩), (29, ⟨[(66, .int .i64)],[]⟩), (47, ⟨[(86, .int .i64)],[]⟩)] [.l (.optr a)] h
theorem q_core_Walker_walkOperation (a : OA) (b : OA) (w : World) (R : EW) (h :
 ∃ c, a = some c /\ Off w (c.add 4) 1 [] /\ True /\ (let d := (w.setCell (c.add 4) (.pointer b));
 ∃ e, b = some e /\ ∃ f g i, d.cell? (e.add 3) = some (.slice f g i) /\ ∃ (j : Int -> World -> Prop) (k : Int -> World -> Nat), j 0 d /\
 (∀ l : Int, ∀ m : World, j l m ->
 (((decide (l < (g : Int))) = true ->
 ∀ n : World -> Prop, (∀ o : World,
 ((j (IntKind.i64.wrap (l + 1)) o /\ k (IntKind.i64.wrap (l + 1)) o < k l m)) ->
 n o) ->
 ∃ p, f = some p /\ (0 <= l /\ l < (g : Int)) /\ ∃ q, m.cell? (p.add (l.toNat * 1)) = some (.pointer q) /\ ∀ r, r = m.drew -> ∃ s, a = some s /\ ∃ t, r.cell? (s.add 1) = some (.pointer t) /\ ∃ u, t = some u /\ ∃ v : Option Nat, r.cell? (u.add 4) = some (.map v) /\ ∃ x, q = some x /\ ∃ y, r.cell? (x.add 2) = some (.pointer y) /\ CP 125 #[.pointer y] r (fun z A => ∃ B, z = .returned (.string B) /\ True /\ ((A.cell? (u.add 4) = r.cell? (u.add 4)) /\ (A.cell? (s.add 1) = r.cell? (s.add 1)) /\ True) /\ ∃ C, (Instr.lookup 202 (.map v) (.string B) false).run Tryz.prog A = .ok (.pointer C) A /\ ∃ D, q = some D /\ Off A (D.add 7) 1 [] /\ True /\ (let E := (A.setCell (D.add 7) (.pointer C));
 True /\ ∃ F, a = some F /\ ∃ G, E.cell? F = some (.pointer G) /\ ∃ H, G = some H /\ ∃ I J K, E.cell? (H.add 8) = some (.slice I J K) /\ ∃ (L : Int -> World -> Prop) (M : Int -> World -> Nat), L 0 E /\
 (∀ N : Int, ∀ O : World, L N O ->
 (((decide (N < (J : Int))) = true ->
 ∃ P, I = some P /\ (0 <= N /\ N < (J : Int)) /\ ∃ Q : Value, O.cell? (P.add (N.toNat * 1)) = some Q /\ ∃ S U, Q = .func (.func S) #[] U.toArray /\ ∃ V, Tryz.prog.funcs[S]? = some V /\ (V.name == "runtime.NumGoroutine" || V.body.isNone) = false /\ CP S ([.pointer a, .pointer q] ++ U).toArray O (fun W X => W = .returned (.tuple #[]) /\ True /\ (L (IntKind.i64.wrap (N + 1)) X /\ M (IntKind.i64.wrap (N + 1)) X < M N O))) /\
 ((decide (N < (J : Int))) = false ->
 ∃ Y, q = some Y /\ ∃ Z, O.cell? (Y.add 3) = some (.pointer Z) /\ (((!Z.isNone) = true ->
 ∀ aa, aa = O.drew -> ∃ ab, q = some ab /\ ∃ ac, aa.cell? (ab.add 3) = some (.pointer ac) /\ ∃ ad, q = some ad /\ ∃ ae, aa.cell? (ad.add 2) = some (.pointer ae) /\ ∃ af, ac = some af /\ Off aa (af.add 7) 1 [] /\ True /\ (let ag := (aa.setCell (af.add 7) (.pointer ae));
 True /\ ∀ ah, ah = ag.drew -> ∃ ai, q = some ai /\ ∃ aj, ah.cell? (ai.add 3) = some (.pointer aj) /\ ∃ ak, a = some ak /\ ∃ al, ah.cell? (ak.add 1) = some (.pointer al) /\ ∃ am, al = some am /\ ∃ an : Option Nat, ah.cell? (am.add 4) = some (.map an) /\ ∃ ao, q = some ao /\ ∃ ap, ah.cell? (ao.add 2) = some (.pointer ap) /\ CP 125 #[.pointer ap] ah (fun aq ar => ∃ au, aq = .returned (.string au) /\ True /\ ((ar.cell? (am.add 4) = ah.cell? (am.add 4)) /\ (ar.cell? (ak.add 1) = ah.cell? (ak.add 1)) /\ (ar.cell? (ai.add 3) = ah.cell? (ai.add 3)) /\ True) /\ ∃ av, (Instr.lookup 202 (.map an) (.string au) false).run Tryz.prog ar = .ok (.pointer av) ar /\ ∃ ax, aj = some ax /\ Off ar (ax.add 5) 1 [] /\ True /\ (let ay := (ar.setCell (ax.add 5) (.pointer av));
 True /\ n ay)))) /\
 ((!Z.isNone) = false ->
 n O)))))))) /\
 ((decide (l < (g : Int))) = false ->
 ∀ az : OA -> BA -> World -> Prop, (∀ aA : OA, ∀ aB : BA, ∀ aC : World,
 (∃ aD, b = some aD /\ ∃ aE aF aG, aC.cell? (aD.add 3) = some (.slice aE aF aG) /\ ∃ (aH : Int -> World -> Prop) (aI : Int -> World -> Nat), aH 0 aC /\
 (∀ aJ : Int, ∀ aK : World, aH aJ aK ->
 (((decide (aJ < (aF : Int))) = true ->
 ∃ aL, aE = some aL /\ (0 <= aJ /\ aJ < (aF : Int)) /\ ∃ aM, aK.cell? (aL.add (aJ.toNat * 1)) = some (.pointer aM) /\ ∀ aN : World -> Prop, (∀ aO : World,
 (∀ aP, aP = aO.drew -> ∃ aQ, aM = some aQ /\ ∃ aS, aP.cell? (aQ.add 7) = some (.pointer aS) /\ ∃ aU, aM = some aU /\ ∃ aV aW aX, aP.cell? (aU.add 4) = some (.slice aV aW aX) /\ CP 127 #[.pointer a, .pointer aS, .slice aV aW aX, (.string (⟨#[86,65,82,73,65,66,76,69,95,68,69,70,73,78,73,84,73,79,78]⟩ : BA))] aP (fun aY aZ => aY = .returned (.tuple #[]) /\ True /\ True /\ (aH (IntKind.i64.wrap (aJ + 1)) aZ /\ aI (IntKind.i64.wrap (aJ + 1)) aZ < aI aJ aK))) ->
 aN aO) ->
 ∃ ba, aM = some ba /\ ∃ bb, aK.cell? (ba.add 3) = some (.pointer bb) /\ (((!bb.isNone) = true ->
 ∃ bc, aM = some bc /\ ∃ bd, aK.cell? (bc.add 3) = some (.pointer bd) /\ CP 126 #[.pointer a, .pointer bd] aK (fun be bf => be = .returned (.tuple #[]) /\ True /\ aN bf)) /\
 ((!bb.isNone) = false ->
 aN aK))) /\
 ((decide (aJ < (aF : Int))) = false ->
 ∃ bg, b = some bg /\ ∃ bh bi bj, aK.cell? (bg.add 4) = some (.slice bh bi bj) /\ CP 127 #[.pointer a, .pointer aA, .slice bh bi bj, .string aB] aK (fun bk bl => bk = .returned (.tuple #[]) /\ True /\ ∃ bm, b = some bm /\ ∃ bn bo bp, bl.cell? (bm.add 5) = some (.slice bn bo bp) /\ CP 128 #[.pointer a, .pointer aA, .slice bn bo bp] bl (fun bq br => bq = .returned (.tuple #[]) /\ True /\ ∃ bs, a = some bs /\ ∃ bt, br.cell? bs = some (.pointer bt) /\ ∃ bu, bt = some bu /\ ∃ bv bx bz, br.cell? bu = some (.slice bv bx bz) /\ ∃ (bA : Int -> World -> Prop) (bB : Int -> World -> Nat), bA 0 br /\
 (∀ bC : Int, ∀ bD : World, bA bC bD ->
 (((decide (bC < (bx : Int))) = true ->
 ∃ bE, bv = some bE /\ (0 <= bC /\ bC < (bx : Int)) /\ ∃ bF : Value, bD.cell? (bE.add (bC.toNat * 1)) = some bF /\ ∃ bG bH, bF = .func (.func bG) #[] bH.toArray /\ ∃ bI, Tryz.prog.funcs[bG]? = some bI /\ (bI.name == "runtime.NumGoroutine" || bI.body.isNone) = false /\ CP bG ([.pointer a, .pointer b] ++ bH).toArray bD (fun bJ bK => bJ = .returned (.tuple #[]) /\ True /\ (bA (IntKind.i64.wrap (bC + 1)) bK /\ bB (IntKind.i64.wrap (bC + 1)) bK < bB bC bD))) /\
 ((decide (bC < (bx : Int))) = false ->
 ∃ bL, a = some bL /\ Off bD (bL.add 4) 1 [] /\ True /\ (let bM := (bD.setCell (bL.add 4) (.pointer none));
 R (.returned (.tuple #[])) bM)))))))))) ->
 az aA aB aC) ->
 ∃ bN, b = some bN /\ ∃ bO, m.cell? (bN.add 1) = some (.string bO) /\ ∀ bP : Bool -> World -> Prop, (∀ bQ : Bool, ∀ bS : World,
 (((bQ = true ->
 ∃ bU, a = some bU /\ ∃ bV, bS.cell? (bU.add 1) = some (.pointer bV) /\ ∃ bW, bV = some bW /\ ∃ bX, bS.cell? bW = some (.pointer bX) /\ az bX (⟨#[81,85,69,82,89]⟩ : BA) bS) /\
 (bQ = false ->
 (((bO.toList == (⟨#[109,117,116,97,116,105,111,110]⟩ : BA).toList) = true ->
 ∃ bY, a = some bY /\ ∃ bZ, bS.cell? (bY.add 1) = some (.pointer bZ) /\ ∃ ca, bZ = some ca /\ ∃ cb, bS.cell? (ca.add 1) = some (.pointer cb) /\ az cb (⟨#[77,85,84,65,84,73,79,78]⟩ : BA) bS) /\
 ((bO.toList == (⟨#[109,117,116,97,116,105,111,110]⟩ : BA).toList) = false ->
 (((bO.toList == (⟨#[115,117,98,115,99,114,105,112,116,105,111,110]⟩ : BA).toList) = true ->
 ∃ cc, a = some cc /\ ∃ cd, bS.cell? (cc.add 1) = some (.pointer cd) /\ ∃ ce, cd = some ce /\ ∃ cf, bS.cell? (ce.add 2) = some (.pointer cf) /\ az cf (⟨#[83,85,66,83,67,82,73,80,84,73,79,78]⟩ : BA) bS) /\
 ((bO.toList == (⟨#[115,117,98,115,99,114,105,112,116,105,111,110]⟩ : BA).toList) = false ->
 az none (⟨#[]⟩ : BA) bS))))))) ->
 bP bQ bS) ->
 (((bO.toList == (⟨#[113,117,101,114,121]⟩ : BA).toList) = true ->
 bP true m) /\
 ((bO.toList == (⟨#[113,117,101,114,121]⟩ : BA).toList) = false ->
 bP (bO.toList == (⟨#[]⟩ : BA).toList) m))))))) : CP 119 #[.pointer a, .pointer b] w R :=
 vcq Tryz.func119 [] [(6, ⟨[(23, .int .i64)],[]⟩), (13, ⟨[],[]⟩), (23, ⟨[(51, .int .i64)],[]⟩), (48, ⟨[(8, .ptr), (9, .str)],[]⟩), (52, ⟨[(99, .bool)],[]⟩), (79, ⟨[(132, .int .i64)],[]⟩), (90, ⟨[],[]⟩), (106, ⟨[(181, .int .i64)],[]⟩)] [.l (.optr a), .l (.optr b)] h
theorem q_core_Walker_walkFragment (a : OA) (b : OA) (w : World) (R : EW) (h :
 ∀ c, c = w.drew -> ∃ d, a = some d /\ ∃ e, c.cell? (d.add 1) = some (.pointer e) /\ ∃ f, e = some f /\ ∃ g : Option Nat, c.cell? (f.add 4) = some (.map g) /\ ∃ i, b = some i /\ ∃ j, c.cell? (i.add 3) = some (.string j) /\ ∃ k, (Instr.lookup 202 (.map g) (.string j) false).run Tryz.prog c = .ok (.pointer k) c /\ True /\ ∃ l, b = some l /\ Off c (l.add 6) 1 [] /\ True /\ (let m := (c.setCell (l.add 6) (.pointer k));
 ∃ n, b = some n /\ ∃ o p q, m.cell? (n.add 4) = some (.slice o p q) /\ CP 127 #[.pointer a, .pointer k, .slice o p q, (.string (⟨#[70,82,65,71,77,69,78,84,95,68,69,70,73,78,73,84,73,79,78]⟩ : BA))] m (fun r s => r = .returned (.tuple #[]) /\ True /\ ∃ t, b = some t /\ ∃ u v x, s.cell? (t.add 5) = some (.slice u v x) /\ CP 128 #[.pointer a, .pointer k, .slice u v x] s (fun y z => y = .returned (.tuple #[]) /\ True /\ ∃ A, a = some A /\ ∃ B, z.cell? A = some (.pointer B) /\ ∃ C, B = some C /\ ∃ D E F, z.cell? (C.add 2) = some (.slice D E F) /\ ∃ (G : Int -> World -> Prop) (H : Int -> World -> Nat), G 0 z /\
 (∀ I : Int, ∀ J : World, G I J ->
 (((decide (I < (E : Int))) = true ->
 ∃ K, D = some K /\ (0 <= I /\ I < (E : Int)) /\ ∃ L : Value, J.cell? (K.add (I.toNat * 1)) = some L /\ ∃ M N, L = .func (.func M) #[] N.toArray /\ ∃ O, Tryz.prog.funcs[M]? = some O /\ (O.name == "runtime.NumGoroutine" || O.body.isNone) = false /\ CP M ([.pointer a, .pointer b] ++ N).toArray J (fun P Q => P = .returned (.tuple #[]) /\ True /\ (G (IntKind.i64.wrap (I + 1)) Q /\ H (IntKind.i64.wrap (I + 1)) Q < H I J))) /\
 ((decide (I < (E : Int))) = false ->
 R (.returned (.tuple #[])) J))))))) : CP 120 #[.pointer a, .pointer b] w R :=
 vcq Tryz.func120 [] [(11, ⟨[(45, .int .i64)],[]⟩)] [.l (.optr a), .l (.optr b)] h
theorem q_core_Walker_walkValue (a : OA) (b : OA) (w : World) (R : EW) (h :
 ∀ c : World -> Prop, (∀ d : World,
 (∀ e : World -> Prop, (∀ f : World,
 (∀ g : World -> Prop, (∀ i : World,
 (∃ j, a = some j /\ ∃ k, i.cell? j = some (.pointer k) /\ ∃ l, k = some l /\ ∃ m n o, i.cell? (l.add 7) = some (.slice m n o) /\ ∃ (p : Int -> World -> Prop) (q : Int -> World -> Nat), p 0 i /\
 (∀ r : Int, ∀ s : World, p r s ->
 (((decide (r < (n : Int))) = true ->
 ∃ t, m = some t /\ (0 <= r /\ r < (n : Int)) /\ ∃ u : Value, s.cell? (t.add (r.toNat * 1)) = some u /\ ∃ v x, u = .func (.func v) #[] x.toArray /\ ∃ y, Tryz.prog.funcs[v]? = some y /\ (y.name == "runtime.NumGoroutine" || y.body.isNone) = false /\ CP v ([.pointer a, .pointer b] ++ x).toArray s (fun z A => z = .returned (.tuple #[]) /\ True /\ (p (IntKind.i64.wrap (r + 1)) A /\ q (IntKind.i64.wrap (r + 1)) A < q r s))) /\
 ((decide (r < (n : Int))) = false ->
 R (.returned (.tuple #[])) s)))) ->
 g i) ->
 ∃ B, b = some B /\ ∃ C, f.cell? (B.add 2) = some (.int .i64 C) /\ (((C == 8) = true ->
 ∃ D, b = some D /\ ∃ E F G, f.cell? (D.add 1) = some (.slice E F G) /\ ∃ (H : Int -> World -> Prop) (I : Int -> World -> Nat), H 0 f /\
 (∀ J : Int, ∀ K : World, H J K ->
 (((decide (J < (F : Int))) = true ->
 ∃ L, E = some L /\ (0 <= J /\ J < (F : Int)) /\ ∃ M, K.cell? (L.add (J.toNat * 1)) = some (.pointer M) /\ ∀ N : World -> Prop, (∀ O : World,
 (∃ P, M = some P /\ ∃ Q, O.cell? (P.add 1) = some (.pointer Q) /\ CP 126 #[.pointer a, .pointer Q] O (fun S U => S = .returned (.tuple #[]) /\ True /\ (H (IntKind.i64.wrap (J + 1)) U /\ I (IntKind.i64.wrap (J + 1)) U < I J K))) ->
 N O) ->
 ∀ V : Bool -> World -> Prop, (∀ W : Bool, ∀ X : World,
 (((W = true ->
 ∀ Y, Y = X.drew -> ∃ Z, M = some Z /\ ∃ aa, Y.cell? (Z.add 1) = some (.pointer aa) /\ ∃ ab, b = some ab /\ ∃ ac, Y.cell? (ab.add 7) = some (.pointer ac) /\ ∃ ad, ac = some ad /\ ∃ ae, Y.cell? (ad.add 1) = some (.pointer ae) /\ ∃ af, aa = some af /\ Off Y (af.add 7) 1 [] /\ True /\ (let ag := (Y.setCell (af.add 7) (.pointer ae));
 True /\ ∀ ah, ah = ag.drew -> ∃ ai, M = some ai /\ ∃ aj, ah.cell? (ai.add 1) = some (.pointer aj) /\ ∃ ak, b = some ak /\ ∃ al, ah.cell? (ak.add 5) = some (.pointer al) /\ ∃ am, aj = some am /\ Off ah (am.add 5) 1 [] /\ True /\ (let an := (ah.setCell (am.add 5) (.pointer al));
 True /\ N an))) /\
 (W = false ->
 N X))) ->
 V W X) ->
 ∃ ao, b = some ao /\ ∃ ap, K.cell? (ao.add 7) = some (.pointer ap) /\ (((!ap.isNone) = true -> ∃ aq, b = some aq /\ ∃ ar, K.cell? (aq.add 7) = some (.pointer ar) /\ ∃ au, ar = some au /\ ∃ av, K.cell? (au.add 1) = some (.pointer av) /\ V (!av.isNone) K) /\ ((!ap.isNone) = false -> V false K))) /\
 ((decide (J < (F : Int))) = false ->
 g K)))) /\
 ((C == 8) = false ->
 g f))) ->
 e f) ->
 ∃ ax, b = some ax /\ ∃ ay, d.cell? (ax.add 2) = some (.int .i64 ay) /\ (((ay == 9) = true ->
 ∃ az, b = some az /\ ∃ aA aB aC, d.cell? (az.add 1) = some (.slice aA aB aC) /\ ∃ (aD : Int -> World -> Prop) (aE : Int -> World -> Nat), aD 0 d /\
 (∀ aF : Int, ∀ aG : World, aD aF aG ->
 (((decide (aF < (aB : Int))) = true ->
 ∃ aH, aA = some aH /\ (0 <= aF /\ aF < (aB : Int)) /\ ∃ aI, aG.cell? (aH.add (aF.toNat * 1)) = some (.pointer aI) /\ ∀ aJ : World -> Prop, (∀ aK : World,
 (∃ aL, aI = some aL /\ ∃ aM, aK.cell? (aL.add 1) = some (.pointer aM) /\ CP 126 #[.pointer a, .pointer aM] aK (fun aN aO => aN = .returned (.tuple #[]) /\ True /\ (aD (IntKind.i64.wrap (aF + 1)) aO /\ aE (IntKind.i64.wrap (aF + 1)) aO < aE aF aG))) ->
 aJ aK) ->
 ∃ aP, b = some aP /\ ∃ aQ, aG.cell? (aP.add 5) = some (.pointer aQ) /\ (((!aQ.isNone) = true ->
 ∀ aS, aS = aG.drew -> ∃ aU, b = some aU /\ ∃ aV, aS.cell? (aU.add 5) = some (.pointer aV) /\ ∃ aW, aV = some aW /\ ∃ aX aY aZ, aS.cell? (aW.add 5) = some (.slice aX aY aZ) /\ ∃ ba, aI = some ba /\ ∃ bb, aS.cell? ba = some (.string bb) /\ CP 138 #[.slice aX aY aZ, .string bb] aS (fun bc bd => ∃ be, bc = .returned (.pointer be) /\ True /\ True /\ True /\ (((!be.isNone) = true ->
 ∀ bf, bf = bd.drew -> ∃ bg, aI = some bg /\ ∃ bh, bf.cell? (bg.add 1) = some (.pointer bh) /\ ∃ bi, be = some bi /\ ∃ bj, bf.cell? (bi.add 4) = some (.pointer bj) /\ ∃ bk, bh = some bk /\ Off bf (bk.add 7) 1 [] /\ True /\ (let bl := (bf.setCell (bk.add 7) (.pointer bj));
 True /\ ∀ bm : World -> Prop, (∀ bn : World,
 (∀ bo, bo = bn.drew -> ∃ bp, aI = some bp /\ ∃ bq, bo.cell? (bp.add 1) = some (.pointer bq) /\ ∃ br, a = some br /\ ∃ bs, bo.cell? (br.add 1) = some (.pointer bs) /\ ∃ bt, bs = some bt /\ ∃ bu : Option Nat, bo.cell? (bt.add 4) = some (.map bu) /\ ∃ bv, be = some bv /\ ∃ bx, bo.cell? (bv.add 4) = some (.pointer bx) /\ CP 125 #[.pointer bx] bo (fun bz bA => ∃ bB, bz = .returned (.string bB) /\ True /\ ((bA.cell? (bt.add 4) = bo.cell? (bt.add 4)) /\ (bA.cell? (br.add 1) = bo.cell? (br.add 1)) /\ (bA.cell? (bp.add 1) = bo.cell? (bp.add 1)) /\ True) /\ ∃ bC, (Instr.lookup 202 (.map bu) (.string bB) false).run Tryz.prog bA = .ok (.pointer bC) bA /\ ∃ bD, bq = some bD /\ Off bA (bD.add 5) 1 [] /\ True /\ (let bE := (bA.setCell (bD.add 5) (.pointer bC));
 True /\ aJ bE))) ->
 bm bn) ->
 ∀ bF, bF = bl.drew -> ∃ bG, aI = some bG /\ ∃ bH, bF.cell? (bG.add 1) = some (.pointer bH) /\ ∃ bI, be = some bI /\ ∃ bJ, bF.cell? (bI.add 3) = some (.pointer bJ) /\ (((!bJ.isNone) = true -> ∃ bK, be = some bK /\ ∃ bL, bF.cell? (bK.add 3) = some (.pointer bL) /\ ∃ bM, bL = some bM /\ ∃ bN, bF.cell? (bM.add 2) = some (.int .i64 bN) /\ ∃ bO, bH = some bO /\ Off bF (bO.add 8) 1 [] /\ True /\ (let bP := (bF.setCell (bO.add 8) (.bool (bN != 6)));
 True /\ bm bP)) /\ ((!bJ.isNone) = false -> ∃ bQ, bH = some bQ /\ Off bF (bQ.add 8) 1 [] /\ True /\ (let bS := (bF.setCell (bQ.add 8) (.bool false));
 True /\ bm bS))))) /\
 ((!be.isNone) = false ->
 aJ bd)))) /\
 ((!aQ.isNone) = false ->
 aJ aG))) /\
 ((decide (aF < (aB : Int))) = false ->
 e aG)))) /\
 ((ay == 9) = false ->
 e d))) ->
 c d) ->
 ∀ bU : Bool -> World -> Prop, (∀ bV : Bool, ∀ bW : World,
 (((bV = true ->
 ∀ bX, bX = bW.drew -> ∃ bY, a = some bY /\ ∃ bZ, bX.cell? (bY.add 4) = some (.pointer bZ) /\ ∃ ca, bZ = some ca /\ ∃ cb cc cd, bX.cell? (ca.add 3) = some (.slice cb cc cd) /\ ∃ ce, b = some ce /\ ∃ cf, bX.cell? ce = some (.string cf) /\ CP 137 #[.slice cb cc cd, .string cf] bX (fun cg ch => ∃ ci, cg = .returned (.pointer ci) /\ True /\ True /\ ∃ cj, b = some cj /\ Off ch (cj.add 6) 1 [] /\ True /\ (let ck := (ch.setCell (cj.add 6) (.pointer ci));
 True /\ ∃ cl, b = some cl /\ ∃ cm, ck.cell? (cl.add 6) = some (.pointer cm) /\ (((!cm.isNone) = true ->
 ∃ cn, b = some cn /\ ∃ co, ck.cell? (cn.add 6) = some (.pointer co) /\ ∃ cp, co = some cp /\ Off ck (cp.add 8) 1 [] /\ True /\ (let cq := (ck.setCell (cp.add 8) (.bool true));
 c cq)) /\
 ((!cm.isNone) = false ->
 c ck))))) /\
 (bV = false ->
 c bW))) ->
 bU bV bW) ->
 ∃ cr, b = some cr /\ ∃ ct, w.cell? (cr.add 2) = some (.int .i64 ct) /\ (((ct == 0) = true -> ∃ cu, a = some cu /\ ∃ cv, w.cell? (cu.add 4) = some (.pointer cv) /\ bU (!cv.isNone) w) /\ ((ct == 0) = false -> bU false w))) : CP 126 #[.pointer a, .pointer b] w R :=
 vcq Tryz.func126 [] [(0, ⟨[],[]⟩), (1, ⟨[(22, .bool)],[]⟩), (12, ⟨[],[]⟩), (19, ⟨[(59, .int .i64)],[]⟩), (30, ⟨[],[]⟩), (41, ⟨[],[]⟩), (49, ⟨[],[]⟩), (56, ⟨[(149, .int .i64)],[]⟩), (67, ⟨[],[]⟩), (68, ⟨[(167, .bool)],[]⟩), (81, ⟨[(206, .int .i64)],[]⟩)] [.l (.optr a), .l (.optr b)] h
theorem q_core_Walker_walkDirectives (a : OA) (b : OA) (c : OA) (d e : Nat) (f : BA) (w : World) (R : EW) (h :
 ∃ (g : Int -> World -> Prop) (i : Int -> World -> Nat), g 0 w /\
 (∀ j : Int, ∀ k : World, g j k ->
 (((decide (j < (d : Int))) = true ->
 ∃ l, c = some l /\ (0 <= j /\ j < (d : Int)) /\ ∃ m, k.cell? (l.add (j.toNat * 1)) = some (.pointer m) /\ ∀ n, n = k.drew -> ∃ o, a = some o /\ ∃ p, n.cell? (o.add 1) = some (.pointer p) /\ ∃ q, p = some q /\ ∃ r : Option Nat, n.cell? (q.add 5) = some (.map r) /\ ∃ s, m = some s /\ ∃ t, n.cell? s = some (.string t) /\ ∃ u, (Instr.lookup 203 (.map r) (.string t) false).run Tryz.prog n = .ok (.pointer u) n /\ True /\ ∃ v, m = some v /\ Off n (v.add 4) 1 [] /\ True /\ (let x := (n.setCell (v.add 4) (.pointer u));
 ∃ y, m = some y /\ Off x (y.add 3) 1 [] /\ True /\ (let z := (x.setCell (y.add 3) (.pointer b));
 ∃ A, m = some A /\ Off z (A.add 5) 1 [] /\ True /\ (let B := (z.setCell (A.add 5) (.string f));
 ∃ C, m = some C /\ ∃ D E F, B.cell? (C.add 1) = some (.slice D E F) /\ ∃ (G : Int -> World -> Prop) (H : Int -> World -> Nat), G 0 B /\
 (∀ I : Int, ∀ J : World, G I J ->
 (((decide (I < (E : Int))) = true ->
 ∃ K, D = some K /\ (0 <= I /\ I < (E : Int)) /\ ∃ L, J.cell? (K.add (I.toNat * 1)) = some (.pointer L) /\ ∀ M : OA -> World -> Prop, (∀ N : OA, ∀ O : World,
 (CP 140 #[.pointer a, .pointer N, .pointer L] O (fun P Q => P = .returned (.tuple #[]) /\ True /\ (G (IntKind.i64.wrap (I + 1)) Q /\ H (IntKind.i64.wrap (I + 1)) Q < H I J))) ->
 M N O) ->
 (((!u.isNone) = true ->
 ∀ S, S = J.drew -> ∃ U, u = some U /\ ∃ V W X, S.cell? (U.add 2) = some (.slice V W X) /\ ∃ Y, L = some Y /\ ∃ Z, S.cell? Y = some (.string Z) /\ CP 139 #[.slice V W X, .string Z] S (fun aa ab => ∃ ac, aa = .returned (.pointer ac) /\ True /\ True /\ True /\ M ac ab)) /\
 ((!u.isNone) = false ->
 M none J))) /\
 ((decide (I < (E : Int))) = false ->
 ∃ ad, a = some ad /\ ∃ ae, J.cell? ad = some (.pointer ae) /\ ∃ af, ae = some af /\ ∃ ag ah ai, J.cell? (af.add 5) = some (.slice ag ah ai) /\ ∃ (aj : Int -> World -> Prop) (ak : Int -> World -> Nat), aj 0 J /\
 (∀ al : Int, ∀ am : World, aj al am ->
 (((decide (al < (ah : Int))) = true ->
 ∃ an, ag = some an /\ (0 <= al /\ al < (ah : Int)) /\ ∃ ao : Value, am.cell? (an.add (al.toNat * 1)) = some ao /\ ∃ ap aq, ao = .func (.func ap) #[] aq.toArray /\ ∃ ar, Tryz.prog.funcs[ap]? = some ar /\ (ar.name == "runtime.NumGoroutine" || ar.body.isNone) = false /\ CP ap ([.pointer a, .pointer m] ++ aq).toArray am (fun au av => au = .returned (.tuple #[]) /\ True /\ (aj (IntKind.i64.wrap (al + 1)) av /\ ak (IntKind.i64.wrap (al + 1)) av < ak al am))) /\
 ((decide (al < (ah : Int))) = false ->
 (g (IntKind.i64.wrap (j + 1)) am /\ i (IntKind.i64.wrap (j + 1)) am < i j k))))))))))) /\
 ((decide (j < (d : Int))) = false ->
 ∃ ax, a = some ax /\ ∃ ay, k.cell? ax = some (.pointer ay) /\ ∃ az, ay = some az /\ ∃ aA aB aC, k.cell? (az.add 6) = some (.slice aA aB aC) /\ ∃ (aD : Int -> World -> Prop) (aE : Int -> World -> Nat), aD 0 k /\
 (∀ aF : Int, ∀ aG : World, aD aF aG ->
 (((decide (aF < (aB : Int))) = true ->
 ∃ aH, aA = some aH /\ (0 <= aF /\ aF < (aB : Int)) /\ ∃ aI : Value, aG.cell? (aH.add (aF.toNat * 1)) = some aI /\ ∃ aJ aK, aI = .func (.func aJ) #[] aK.toArray /\ ∃ aL, Tryz.prog.funcs[aJ]? = some aL /\ (aL.name == "runtime.NumGoroutine" || aL.body.isNone) = false /\ CP aJ ([.pointer a, .slice c d e] ++ aK).toArray aG (fun aM aN => aM = .returned (.tuple #[]) /\ True /\ (aD (IntKind.i64.wrap (aF + 1)) aN /\ aE (IntKind.i64.wrap (aF + 1)) aN < aE aF aG))) /\
 ((decide (aF < (aB : Int))) = false ->
 R (.returned (.tuple #[])) aG))))))) : CP 127 #[.pointer a, .pointer b, .slice c d e, .string f] w R :=
 vcq Tryz.func127 [] [(4, ⟨[(20, .int .i64)],[]⟩), (27, ⟨[(53, .int .i64)],[]⟩), (40, ⟨[(13, .ptr)],[]⟩), (51, ⟨[(81, .int .i64)],[]⟩), (68, ⟨[(99, .int .i64)],[]⟩)] [.l (.optr a), .l (.optr b), .l (.slice c d e), .l (.str f)] h
theorem q_core_Walker_walkSelectionSet (a : OA) (b : OA) (c : OA) (d e : Nat) (w : World) (R : EW) (h :
 ∃ (f : Int -> World -> Prop) (g : Int -> World -> Nat), f 0 w /\
 (∀ i : Int, ∀ j : World, f i j ->
 (((decide (i < (d : Int))) = true ->
 ∃ k, c = some k /\ (0 <= i /\ i < (d : Int)) /\ ∃ l : Option (TypeId × Value), j.cell? (k.add (i.toNat * 1)) = some (ifcV l) /\ CP 141 #[.pointer a, .pointer b, (ifcV l)] j (fun m n => m = .returned (.tuple #[]) /\ True /\ (f (IntKind.i64.wrap (i + 1)) n /\ g (IntKind.i64.wrap (i + 1)) n < g i j))) /\
 ((decide (i < (d : Int))) = false ->
 R (.returned (.tuple #[])) j)))) : CP 128 #[.pointer a, .pointer b, .slice c d e] w R :=
 vcq Tryz.func128 [] [(3, ⟨[(10, .int .i64)],[]⟩)] [.l (.optr a), .l (.optr b), .l (.slice c d e)] h
theorem q_ast_VariableDefinitionList_ForName (a : OA) (b c : Nat) (d : BA) (w : World) (R : EW) (h :
 ∃ (e : Int -> World -> Prop) (f : Int -> World -> Nat), e 0 w /\
 (∀ g : Int, ∀ i : World, e g i ->
 (((decide (g < (b : Int))) = true ->
 ∃ j, a = some j /\ (0 <= g /\ g < (b : Int)) /\ ∃ k, i.cell? (j.add (g.toNat * 1)) = some (.pointer k) /\ ∃ l, k = some l /\ ∃ m, i.cell? (l.add 1) = some (.string m) /\ (((m.toList == d.toList) = true ->
 R (.returned (.pointer k)) i) /\
 ((m.toList == d.toList) = false ->
 (e (IntKind.i64.wrap (g + 1)) i /\ f (IntKind.i64.wrap (g + 1)) i < f g i)))) /\
 ((decide (g < (b : Int))) = false ->
 R (.returned (.pointer none)) i)))) : CP 137 #[.slice a b c, .string d] w R :=
 vcq Tryz.func137 [] [(6, ⟨[(9, .int .i64)],[]⟩)] [.l (.slice a b c), .l (.str d)] h
theorem q_ast_FieldList_ForName (a : OA) (b c : Nat) (d : BA) (w : World) (R : EW) (h :
 ∃ (e : Int -> World -> Prop) (f : Int -> World -> Nat), e 0 w /\
 (∀ g : Int, ∀ i : World, e g i ->
 (((decide (g < (b : Int))) = true ->
 ∃ j, a = some j /\ (0 <= g /\ g < (b : Int)) /\ ∃ k, i.cell? (j.add (g.toNat * 1)) = some (.pointer k) /\ ∃ l, k = some l /\ ∃ m, i.cell? (l.add 1) = some (.string m) /\ (((m.toList == d.toList) = true ->
 R (.returned (.pointer k)) i) /\
 ((m.toList == d.toList) = false ->
 (e (IntKind.i64.wrap (g + 1)) i /\ f (IntKind.i64.wrap (g + 1)) i < f g i)))) /\
 ((decide (g < (b : Int))) = false ->
 R (.returned (.pointer none)) i)))) : CP 138 #[.slice a b c, .string d] w R :=
 vcq Tryz.func138 [] [(6, ⟨[(9, .int .i64)],[]⟩)] [.l (.slice a b c), .l (.str d)] h
theorem q_core_Walker_walkArgument (a : OA) (b : OA) (c : OA) (w : World) (R : EW) (h :
 ∀ d : World -> Prop, (∀ e : World,
 (∃ f, c = some f /\ ∃ g, e.cell? (f.add 1) = some (.pointer g) /\ CP 126 #[.pointer a, .pointer g] e (fun i j => i = .returned (.tuple #[]) /\ True /\ R (.returned (.tuple #[])) j)) ->
 d e) ->
 (((!b.isNone) = true ->
 ∀ k, k = w.drew -> ∃ l, c = some l /\ ∃ m, k.cell? (l.add 1) = some (.pointer m) /\ ∃ n, b = some n /\ ∃ o, k.cell? (n.add 3) = some (.pointer o) /\ ∃ p, m = some p /\ Off k (p.add 7) 1 [] /\ True /\ (let q := (k.setCell (p.add 7) (.pointer o));
 True /\ ∀ r : World -> Prop, (∀ s : World,
 (∀ t, t = s.drew -> ∃ u, c = some u /\ ∃ v, t.cell? (u.add 1) = some (.pointer v) /\ ∃ x, a = some x /\ ∃ y, t.cell? (x.add 1) = some (.pointer y) /\ ∃ z, y = some z /\ ∃ A : Option Nat, t.cell? (z.add 4) = some (.map A) /\ ∃ B, b = some B /\ ∃ C, t.cell? (B.add 3) = some (.pointer C) /\ CP 125 #[.pointer C] t (fun D E => ∃ F, D = .returned (.string F) /\ True /\ ((E.cell? (z.add 4) = t.cell? (z.add 4)) /\ (E.cell? (x.add 1) = t.cell? (x.add 1)) /\ (E.cell? (u.add 1) = t.cell? (u.add 1)) /\ True) /\ ∃ G, (Instr.lookup 202 (.map A) (.string F) false).run Tryz.prog E = .ok (.pointer G) E /\ ∃ H, v = some H /\ Off E (H.add 5) 1 [] /\ True /\ (let I := (E.setCell (H.add 5) (.pointer G));
 True /\ d I))) ->
 r s) ->
 ∀ J, J = q.drew -> ∃ K, c = some K /\ ∃ L, J.cell? (K.add 1) = some (.pointer L) /\ ∃ M, b = some M /\ ∃ N, J.cell? (M.add 2) = some (.pointer N) /\ (((!N.isNone) = true -> ∃ O, b = some O /\ ∃ P, J.cell? (O.add 2) = some (.pointer P) /\ ∃ Q, P = some Q /\ ∃ S, J.cell? (Q.add 2) = some (.int .i64 S) /\ ∃ U, L = some U /\ Off J (U.add 8) 1 [] /\ True /\ (let V := (J.setCell (U.add 8) (.bool (S != 6)));
 True /\ r V)) /\ ((!N.isNone) = false -> ∃ W, L = some W /\ Off J (W.add 8) 1 [] /\ True /\ (let X := (J.setCell (W.add 8) (.bool false));
 True /\ r X))))) /\
 ((!b.isNone) = false ->
 d w))) : CP 140 #[.pointer a, .pointer b, .pointer c] w R :=
 vcq Tryz.func140 [] [(0, ⟨[],[]⟩), (6, ⟨[],[]⟩)] [.l (.optr a), .l (.optr b), .l (.optr c)] h
theorem q_core_Walker_walkSelection (a : OA) (b : OA) (c : Option (TypeId × Value)) (w : World) (R : EW) (h :
 ∀ d : Bool -> OA -> World -> Prop, (∀ e : Bool, ∀ f : OA, ∀ g : World,
 (((e = true ->
 ∀ i : OA -> World -> Prop, (∀ j : OA, ∀ k : World,
 (∃ l, f = some l /\ Off k (l.add 7) 1 [] /\ True /\ (let m := (k.setCell (l.add 7) (.pointer j));
 ∃ n, f = some n /\ Off m (n.add 8) 1 [] /\ True /\ (let o := (m.setCell (n.add 8) (.pointer b));
 ∀ p : OA -> World -> Prop, (∀ q : OA, ∀ r : World,
 (∃ s, f = some s /\ ∃ t u v, r.cell? (s.add 2) = some (.slice t u v) /\ ∃ (x : Int -> World -> Prop) (y : Int -> World -> Nat), x 0 r /\
 (∀ z : Int, ∀ A : World, x z A ->
 (((decide (z < (u : Int))) = true ->
 ∃ B, t = some B /\ (0 <= z /\ z < (u : Int)) /\ ∃ C, A.cell? (B.add (z.toNat * 1)) = some (.pointer C) /\ ∀ D : OA -> World -> Prop, (∀ E : OA, ∀ F : World,
 (CP 140 #[.pointer a, .pointer E, .pointer C] F (fun G H => G = .returned (.tuple #[]) /\ True /\ (x (IntKind.i64.wrap (z + 1)) H /\ y (IntKind.i64.wrap (z + 1)) H < y z A))) ->
 D E F) ->
 (((!j.isNone) = true ->
 ∀ I, I = A.drew -> ∃ J, j = some J /\ ∃ K L M, I.cell? (J.add 2) = some (.slice K L M) /\ ∃ N, C = some N /\ ∃ O, I.cell? N = some (.string O) /\ CP 139 #[.slice K L M, .string O] I (fun P Q => ∃ S, P = .returned (.pointer S) /\ True /\ True /\ True /\ D S Q)) /\
 ((!j.isNone) = false ->
 D none A))) /\
 ((decide (z < (u : Int))) = false ->
 ∃ U, f = some U /\ ∃ V W X, A.cell? (U.add 3) = some (.slice V W X) /\ CP 127 #[.pointer a, .pointer q, .slice V W X, (.string (⟨#[70,73,69,76,68]⟩ : BA))] A (fun Y Z => Y = .returned (.tuple #[]) /\ True /\ ∃ aa, f = some aa /\ ∃ ab ac ad, Z.cell? (aa.add 4) = some (.slice ab ac ad) /\ CP 128 #[.pointer a, .pointer q, .slice ab ac ad] Z (fun ae af => ae = .returned (.tuple #[]) /\ True /\ ∃ ag, a = some ag /\ ∃ ah, af.cell? ag = some (.pointer ah) /\ ∃ ai, ah = some ai /\ ∃ aj ak al, af.cell? (ai.add 1) = some (.slice aj ak al) /\ ∃ (am : Int -> World -> Prop) (an : Int -> World -> Nat), am 0 af /\
 (∀ ao : Int, ∀ ap : World, am ao ap ->
 (((decide (ao < (ak : Int))) = true ->
 ∃ aq, aj = some aq /\ (0 <= ao /\ ao < (ak : Int)) /\ ∃ ar : Value, ap.cell? (aq.add (ao.toNat * 1)) = some ar /\ ∃ au av, ar = .func (.func au) #[] av.toArray /\ ∃ ax, Tryz.prog.funcs[au]? = some ax /\ (ax.name == "runtime.NumGoroutine" || ax.body.isNone) = false /\ CP au ([.pointer a, .pointer f] ++ av).toArray ap (fun ay az => ay = .returned (.tuple #[]) /\ True /\ (am (IntKind.i64.wrap (ao + 1)) az /\ an (IntKind.i64.wrap (ao + 1)) az < an ao ap))) /\
 ((decide (ao < (ak : Int))) = false ->
 R (.returned (.tuple #[])) ap))))))))) ->
 p q r) ->
 (((!j.isNone) = true ->
 ∀ aA, aA = o.drew -> ∃ aB, a = some aB /\ ∃ aC, aA.cell? (aB.add 1) = some (.pointer aC) /\ ∃ aD, aC = some aD /\ ∃ aE : Option Nat, aA.cell? (aD.add 4) = some (.map aE) /\ ∃ aF, j = some aF /\ ∃ aG, aA.cell? (aF.add 4) = some (.pointer aG) /\ CP 125 #[.pointer aG] aA (fun aH aI => ∃ aJ, aH = .returned (.string aJ) /\ True /\ ((aI.cell? (aD.add 4) = aA.cell? (aD.add 4)) /\ (aI.cell? (aB.add 1) = aA.cell? (aB.add 1)) /\ True) /\ ∃ aK, (Instr.lookup 202 (.map aE) (.string aJ) false).run Tryz.prog aI = .ok (.pointer aK) aI /\ True /\ p aK aI)) /\
 ((!j.isNone) = false ->
 p none o))))) ->
 i j k) ->
 ∃ aL, f = some aL /\ ∃ aM, g.cell? (aL.add 1) = some (.string aM) /\ (((aM.toList == (⟨#[95,95,116,121,112,101,110,97,109,101]⟩ : BA).toList) = true ->
 CP 146 #[(.string (⟨#[83,116,114,105,110,103]⟩ : BA)), .pointer none] g (fun aN aO => ∃ aP, aN = .returned (.pointer aP) /\ True /\ True /\ True /\ (let aQ := aO.alloc (.cells #[(.string (⟨#[]⟩ : BA)), (.string (⟨#[95,95,116,121,112,101,110,97,109,101]⟩ : BA)), .slice none 0 0, .pointer none, .pointer aP, .slice none 0 0, .pointer none, .pointer none, .pointer none] 289);
 i (some (adr aO.heap.size)) aQ))) /\
 ((aM.toList == (⟨#[95,95,116,121,112,101,110,97,109,101]⟩ : BA).toList) = false ->
 (((!b.isNone) = true ->
 ∀ aS, aS = g.drew -> ∃ aU, b = some aU /\ ∃ aV aW aX, aS.cell? (aU.add 5) = some (.slice aV aW aX) /\ ∃ aY, f = some aY /\ ∃ aZ, aS.cell? (aY.add 1) = some (.string aZ) /\ CP 138 #[.slice aV aW aX, .string aZ] aS (fun ba bb => ∃ bc, ba = .returned (.pointer bc) /\ True /\ True /\ True /\ i bc bb)) /\
 ((!b.isNone) = false ->
 i none g))))) /\
 (e = false ->
 ∀ bd : Bool -> OA -> World -> Prop, (∀ be : Bool, ∀ bf : OA, ∀ bg : World,
 (((be = true ->
 ∃ bh, bf = some bh /\ Off bg (bh.add 3) 1 [] /\ True /\ (let bi := (bg.setCell (bh.add 3) (.pointer b));
 ∀ bj : OA -> World -> Prop, (∀ bk : OA, ∀ bl : World,
 (∃ bm, bf = some bm /\ ∃ bn bo bp, bl.cell? (bm.add 1) = some (.slice bn bo bp) /\ CP 127 #[.pointer a, .pointer bk, .slice bn bo bp, (.string (⟨#[73,78,76,73,78,69,95,70,82,65,71,77,69,78,84]⟩ : BA))] bl (fun bq br => bq = .returned (.tuple #[]) /\ True /\ ∃ bs, bf = some bs /\ ∃ bt bu bv, br.cell? (bs.add 2) = some (.slice bt bu bv) /\ CP 128 #[.pointer a, .pointer bk, .slice bt bu bv] br (fun bx bz => bx = .returned (.tuple #[]) /\ True /\ ∃ bA, a = some bA /\ ∃ bB, bz.cell? bA = some (.pointer bB) /\ ∃ bC, bB = some bC /\ ∃ bD bE bF, bz.cell? (bC.add 3) = some (.slice bD bE bF) /\ ∃ (bG : Int -> World -> Prop) (bH : Int -> World -> Nat), bG 0 bz /\
 (∀ bI : Int, ∀ bJ : World, bG bI bJ ->
 (((decide (bI < (bE : Int))) = true ->
 ∃ bK, bD = some bK /\ (0 <= bI /\ bI < (bE : Int)) /\ ∃ bL : Value, bJ.cell? (bK.add (bI.toNat * 1)) = some bL /\ ∃ bM bN, bL = .func (.func bM) #[] bN.toArray /\ ∃ bO, Tryz.prog.funcs[bM]? = some bO /\ (bO.name == "runtime.NumGoroutine" || bO.body.isNone) = false /\ CP bM ([.pointer a, .pointer bf] ++ bN).toArray bJ (fun bP bQ => bP = .returned (.tuple #[]) /\ True /\ (bG (IntKind.i64.wrap (bI + 1)) bQ /\ bH (IntKind.i64.wrap (bI + 1)) bQ < bH bI bJ))) /\
 ((decide (bI < (bE : Int))) = false ->
 R (.returned (.tuple #[])) bJ)))))) ->
 bj bk bl) ->
 ∃ bS, bf = some bS /\ ∃ bU, bi.cell? bS = some (.string bU) /\ (((!(bU.toList == (⟨#[]⟩ : BA).toList)) = true ->
 ∀ bV, bV = bi.drew -> ∃ bW, a = some bW /\ ∃ bX, bV.cell? (bW.add 1) = some (.pointer bX) /\ ∃ bY, bX = some bY /\ ∃ bZ : Option Nat, bV.cell? (bY.add 4) = some (.map bZ) /\ ∃ ca, bf = some ca /\ ∃ cb, bV.cell? ca = some (.string cb) /\ ∃ cc, (Instr.lookup 202 (.map bZ) (.string cb) false).run Tryz.prog bV = .ok (.pointer cc) bV /\ True /\ bj cc bV) /\
 ((!(bU.toList == (⟨#[]⟩ : BA).toList)) = false ->
 bj b bi)))) /\
 (be = false ->
 ∀ cd : Bool -> OA -> World -> Prop, (∀ ce : Bool, ∀ cf : OA, ∀ cg : World,
 (((ce = true ->
 ∀ ch, ch = cg.drew -> ∃ ci, a = some ci /\ ∃ cj : Option Nat, ch.cell? (ci.add 5) = some (.map cj) /\ ∃ ck, cf = some ck /\ ∃ cl, ch.cell? ck = some (.string cl) /\ ∃ cm, (Instr.lookup 166 (.map cj) (.string cl) false).run Tryz.prog ch = .ok (.pointer cm) ch /\ True /\ ∃ cn, cf = some cn /\ Off ch (cn.add 3) 1 [] /\ True /\ (let co := (ch.setCell (cn.add 3) (.pointer cm));
 ∃ cp, cf = some cp /\ Off co (cp.add 2) 1 [] /\ True /\ (let cq := (co.setCell (cp.add 2) (.pointer b));
 ∀ cr : OA -> World -> Prop, (∀ ct : OA, ∀ cu : World,
 (∃ cv, cf = some cv /\ ∃ cx cy cz, cu.cell? (cv.add 1) = some (.slice cx cy cz) /\ CP 127 #[.pointer a, .pointer ct, .slice cx cy cz, (.string (⟨#[70,82,65,71,77,69,78,84,95,83,80,82,69,65,68]⟩ : BA))] cu (fun cA cB => cA = .returned (.tuple #[]) /\ True /\ ∀ cC : World -> Prop, (∀ cD : World,
 (∃ cE, a = some cE /\ ∃ cF, cD.cell? cE = some (.pointer cF) /\ ∃ cG, cF = some cG /\ ∃ cH cI cJ, cD.cell? (cG.add 4) = some (.slice cH cI cJ) /\ ∃ (cK : Int -> World -> Prop) (cL : Int -> World -> Nat), cK 0 cD /\
 (∀ cM : Int, ∀ cN : World, cK cM cN ->
 (((decide (cM < (cI : Int))) = true ->
 ∃ cO, cH = some cO /\ (0 <= cM /\ cM < (cI : Int)) /\ ∃ cP : Value, cN.cell? (cO.add (cM.toNat * 1)) = some cP /\ ∃ cQ cS, cP = .func (.func cQ) #[] cS.toArray /\ ∃ cU, Tryz.prog.funcs[cQ]? = some cU /\ (cU.name == "runtime.NumGoroutine" || cU.body.isNone) = false /\ CP cQ ([.pointer a, .pointer cf] ++ cS).toArray cN (fun cV cW => cV = .returned (.tuple #[]) /\ True /\ (cK (IntKind.i64.wrap (cM + 1)) cW /\ cL (IntKind.i64.wrap (cM + 1)) cW < cL cM cN))) /\
 ((decide (cM < (cI : Int))) = false ->
 R (.returned (.tuple #[])) cN)))) ->
 cC cD) ->
 ∀ cX : Bool -> World -> Prop, (∀ cY : Bool, ∀ cZ : World,
 (((cY = true ->
 ∀ da, da = cZ.drew -> ∃ db, a = some db /\ ∃ dc : Option Nat, da.cell? (db.add 3) = some (.map dc) /\ ∃ dd, cm = some dd /\ ∃ de, da.cell? (dd.add 1) = some (.string de) /\ ∃ df, (Instr.mapUpdate 165 (.map dc) (.string de) (.bool true)).run Tryz.prog da = .ok () df /\ True /\ True /\ ∃ dg, cm = some dg /\ ∃ dh di dj, df.cell? (dg.add 4) = some (.slice dh di dj) /\ CP 127 #[.pointer a, .pointer ct, .slice dh di dj, (.string (⟨#[70,82,65,71,77,69,78,84,95,68,69,70,73,78,73,84,73,79,78]⟩ : BA))] df (fun dk dl => dk = .returned (.tuple #[]) /\ True /\ ∃ dm, cm = some dm /\ ∃ dn dp dq, dl.cell? (dm.add 5) = some (.slice dn dp dq) /\ CP 128 #[.pointer a, .pointer ct, .slice dn dp dq] dl (fun dr ds => dr = .returned (.tuple #[]) /\ True /\ cC ds))) /\
 (cY = false ->
 cC cZ))) ->
 cX cY cZ) ->
 ∀ dt, dt = cB.drew -> (((!cm.isNone) = true -> ∃ du, a = some du /\ ∃ dv : Option Nat, dt.cell? (du.add 3) = some (.map dv) /\ ∃ dx, cm = some dx /\ ∃ dy, dt.cell? (dx.add 1) = some (.string dy) /\ ∃ dz, (Instr.lookup 165 (.map dv) (.string dy) false).run Tryz.prog dt = .ok (.bool dz) dt /\ cX (!dz) dt) /\ ((!cm.isNone) = false -> cX false dt)))) ->
 cr ct cu) ->
 (((!cm.isNone) = true ->
 ∀ dA, dA = cq.drew -> ∃ dB, a = some dB /\ ∃ dC, dA.cell? (dB.add 1) = some (.pointer dC) /\ ∃ dD, dC = some dD /\ ∃ dE : Option Nat, dA.cell? (dD.add 4) = some (.map dE) /\ ∃ dF, cm = some dF /\ ∃ dG, dA.cell? (dF.add 3) = some (.string dG) /\ ∃ dH, (Instr.lookup 202 (.map dE) (.string dG) false).run Tryz.prog dA = .ok (.pointer dH) dA /\ True /\ cr dH dA) /\
 ((!cm.isNone) = false ->
 cr none cq))))) /\
 (ce = false ->
 CP 147 #[(.string (⟨#[117,110,115,117,112,112,111,114,116,101,100,32,115,101,108,101,99,116,105,111,110]⟩ : BA))] cg (fun dI dJ => ∃ dK : Option (TypeId × Value), dI = .returned (ifcV dK) /\ True /\ False)))) ->
 cd ce cf cg) ->
 ((∀ dL, c = some (125, dL) -> ∃ dN, dL = (.pointer dN) /\ cd true dN bg) /\ ((∀ dM, c ≠ some (125, dM)) -> cd false none bg))))) ->
 bd be bf bg) ->
 ((∀ dO, c = some (271, dO) -> ∃ dQ, dO = (.pointer dQ) /\ bd true dQ g) /\ ((∀ dP, c ≠ some (271, dP)) -> bd false none g))))) ->
 d e f g) ->
 ((∀ dS, c = some (267, dS) -> ∃ dV, dS = (.pointer dV) /\ d true dV w) /\ ((∀ dU, c ≠ some (267, dU)) -> d false none w))) : CP 141 #[.pointer a, .pointer b, (ifcV c)] w R :=
 vcq Tryz.func141 [] [(3, ⟨[(27, .bool), (28, .ptr)],[]⟩), (10, ⟨[(7, .ptr)],[]⟩), (26, ⟨[(8, .ptr)],[]⟩), (36, ⟨[(76, .int .i64)],[]⟩), (49, ⟨[(11, .ptr)],[]⟩), (64, ⟨[(118, .int .i64)],[]⟩), (77, ⟨[(128, .bool), (129, .ptr)],[]⟩), (86, ⟨[(15, .ptr)],[]⟩), (99, ⟨[(174, .int .i64)],[]⟩), (112, ⟨[(184, .bool), (185, .ptr)],[]⟩), (125, ⟨[(20, .ptr)],[]⟩), (133, ⟨[],[]⟩), (134, ⟨[(237, .bool)],[]⟩), (146, ⟨[(268, .int .i64)],[]⟩)] [.l (.optr a), .l (.optr b), .l (.ifc c)] h
theorem q_ast_NamedType (a : BA) (b : OA) (w : World) (R : EW) (h :
 True /\ True /\ (let c := w.alloc (.cells #[.string a, .pointer none, .bool false, .pointer b] 297);
 R (.returned (.pointer (some (adr w.heap.size)))) c)) : CP 146 #[.string a, .pointer b] w R :=
 vcq Tryz.func146 [] [] [.l (.str a), .l (.optr b)] h
theorem q_ast_Type_Name (a : OA) (w : World) (R : EW) (h :
 ∃ b, a = some b /\ ∃ c, w.cell? b = some (.string c) /\ (((!(c.toList == (⟨#[]⟩ : BA).toList)) = true ->
 ∃ d, a = some d /\ ∃ e, w.cell? d = some (.string e) /\ R (.returned (.string e)) w) /\
 ((!(c.toList == (⟨#[]⟩ : BA).toList)) = false ->
 ∃ f, a = some f /\ ∃ g, w.cell? (f.add 1) = some (.pointer g) /\ CP 125 #[.pointer g] w (fun i j => ∃ k, i = .returned (.string k) /\ True /\ R (.returned (.string k)) j)))) : CP 125 #[.pointer a] w R :=
 vcq Tryz.func125 [] [] [.l (.optr a)] h
theorem q_ast_ArgumentDefinitionList_ForName (a : OA) (b c : Nat) (d : BA) (w : World) (R : EW) (h :
 ∃ (e : Int -> World -> Prop) (f : Int -> World -> Nat), e 0 w /\
 (∀ g : Int, ∀ i : World, e g i ->
 (((decide (g < (b : Int))) = true ->
 ∃ j, a = some j /\ (0 <= g /\ g < (b : Int)) /\ ∃ k, i.cell? (j.add (g.toNat * 1)) = some (.pointer k) /\ ∃ l, k = some l /\ ∃ m, i.cell? (l.add 1) = some (.string m) /\ (((m.toList == d.toList) = true ->
 R (.returned (.pointer k)) i) /\
 ((m.toList == d.toList) = false ->
 (e (IntKind.i64.wrap (g + 1)) i /\ f (IntKind.i64.wrap (g + 1)) i < f g i)))) /\
 ((decide (g < (b : Int))) = false ->
 R (.returned (.pointer none)) i)))) : CP 139 #[.slice a b c, .string d] w R :=
 vcq Tryz.func139 [] [(6, ⟨[(9, .int .i64)],[]⟩)] [.l (.slice a b c), .l (.str d)] h
theorem q_impl_found_1 (a : OA) (b c : Nat) (d : Addr) (w : World) (R : EW) (h :
 ∃ e, w.cell? d = some (.int .i64 e) /\ Off w d 1 [] /\ True /\ (let f := (w.setCell d (.int .i64 (IntKind.i64.wrap (e + 1))));
 R (.returned (.tuple #[])) f)) : CP 61 #[.slice a b c, (.pointer (some d))] w R :=
 vcq Tryz.func61 [] [] [.l (.slice a b c), .l (.ptr d)] h
theorem q_core_Message (a : BA) (b : OA) (c d : Nat) (w : World) (R : EW) (h :
 True /\ (let e := w.alloc (.cells #[.string a] 9);
 R (.returned (.func (.func 104) #[] #[(.pointer (some (adr w.heap.size)))])) e)) : CP 65 #[.string a, .slice b c d] w R :=
 vcq Tryz.func65 [] [] [.l (.str a), .l (.slice b c d)] h
theorem q_core_At (a : OA) (w : World) (R : EW) (h :
 True /\ (let b := w.alloc (.cells #[.pointer a] 130);
 R (.returned (.func (.func 105) #[] #[(.pointer (some (adr w.heap.size)))])) b)) : CP 66 #[.pointer a] w R :=
 vcq Tryz.func66 [] [] [.l (.optr a)] h
theorem q_laws_zzFits20 (a : OA) (b c : Nat) (d : OA) (e f : Nat) (g : OA) (i j : Nat) (k : OA) (l m : Nat) (n : OA) (o p : Nat) (w : World) (R : EW) (h :
 True /\ (let q := w.alloc (.cells #[.slice a b c, .slice d e f, .slice g i j, .slice k l m, .slice n o p] 26);
 (((decide ((b : Int) > 2147483647)) = true ->
 R (.returned (.bool false)) q) /\
 ((decide ((b : Int) > 2147483647)) = false ->
 (((decide ((e : Int) > 2147483647)) = true ->
 R (.returned (.bool false)) q) /\
 ((decide ((e : Int) > 2147483647)) = false ->
 (((decide ((i : Int) > 2147483647)) = true ->
 R (.returned (.bool false)) q) /\
 ((decide ((i : Int) > 2147483647)) = false ->
 (((decide ((l : Int) > 2147483647)) = true ->
 R (.returned (.bool false)) q) /\
 ((decide ((l : Int) > 2147483647)) = false ->
 (((decide ((o : Int) > 2147483647)) = true ->
 R (.returned (.bool false)) q) /\
 ((decide ((o : Int) > 2147483647)) = false ->
 R (.returned (.bool true)) q)))))))))))) : CP 8 #[(.agg #[.slice a b c, .slice d e f, .slice g i j, .slice k l m, .slice n o p])] w R :=
 vcq Tryz.func8 [1] [] [.agg [.slice a b c, .slice d e f, .slice g i j, .slice k l m, .slice n o p]] h
theorem q_laws_zzFits21 (a : OA) (b c : Nat) (d : OA) (e f : Nat) (w : World) (R : EW) (h :
 True /\ (let g := w.alloc (.cells #[.slice a b c, .slice d e f] 30);
 (((decide ((b : Int) > 2147483647)) = true ->
 R (.returned (.bool false)) g) /\
 ((decide ((b : Int) > 2147483647)) = false ->
 (((decide ((e : Int) > 2147483647)) = true ->
 R (.returned (.bool false)) g) /\
 ((decide ((e : Int) > 2147483647)) = false ->
 R (.returned (.bool true)) g)))))) : CP 9 #[(.agg #[.slice a b c, .slice d e f])] w R :=
 vcq Tryz.func9 [1] [] [.agg [.slice a b c, .slice d e f]] h
theorem q_laws_told (a : Int) (b : Bool) (c : Bool) (w : World) (R : EW) (h :
 ∀ d : Bool -> World -> Prop, (∀ e : Bool, ∀ f : World,
 (R (.returned (.bool e)) f) ->
 d e f) ->
 ((b = true -> (((decide (a ≥ 0)) = true -> d ((decide (a > 0)) == c) w) /\ ((decide (a ≥ 0)) = false -> d false w))) /\ (b = false -> d false w))) : CP 14 #[.int .i64 a, .bool b, .bool c] w R :=
 vcq Tryz.func14 [] [(2, ⟨[(6, .bool)],[]⟩)] [.l (.int .i64 a), .l (.bool b), .l (.bool c)] h
end Go.VC
