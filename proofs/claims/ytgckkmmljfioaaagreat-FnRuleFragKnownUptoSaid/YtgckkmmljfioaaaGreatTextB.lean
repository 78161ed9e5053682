/- Part of the proof of a law of a rule over documents (TextB), where what the arguments hold is of bulk at most 1048576. -/
import Derived.Test.YtgckkmmljfioaaaGreatBaseB
set_option linter.unusedVariables false
set_option linter.unusedSimpArgs false
set_option linter.unusedSectionVars false
set_option linter.deprecated false
namespace Go.VC
open Go Go.Proofs
set_option maxRecDepth 100000
theorem q_IsNumber (a : BA) (b : Bool) (w : World) (R : EW) (h :
 CP 136 #[.string a] w (fun c d => ∃ e f g, ∃ i, ∃ j, c = .returned (.tuple #[.slice e f g, .bool i, .bool j]) /\ True /\ ∀ k : Bool -> World -> Prop, (∀ l : Bool, ∀ m : World,
 (((l = true ->
 R (.returned (.bool false)) m) /\
 (l = false ->
 ∀ n : Bool -> World -> Prop, (∀ o : Bool, ∀ p : World,
 (R (.returned (.bool o)) p) ->
 n o p) ->
 ((b = true -> ∃ q, e = some q /\ (0 <= (0 : Int) /\ 0 < (f : Int)) /\ ∃ r, m.cell? (q.add ((0 : Int).toNat * 6)) = some (.int .i64 r) /\ (((r == 17) = false -> (((!b) = true -> ∃ s, e = some s /\ (0 <= (0 : Int) /\ 0 < (f : Int)) /\ ∃ t, m.cell? (s.add ((0 : Int).toNat * 6)) = some (.int .i64 t) /\ n (t == 16) m) /\ ((!b) = false -> n false m))) /\ ((r == 17) = true -> n true m))) /\ (b = false -> (((!b) = true -> ∃ u, e = some u /\ (0 <= (0 : Int) /\ 0 < (f : Int)) /\ ∃ v, m.cell? (u.add ((0 : Int).toNat * 6)) = some (.int .i64 v) /\ n (v == 16) m) /\ ((!b) = false -> n false m))))))) ->
 k l m) ->
 (((!i) = false -> ((((f : Int) != 1) = false -> ∃ x, e = some x /\ (0 <= (0 : Int) /\ 0 < (f : Int)) /\ ∃ y, d.cell? ((x.add ((0 : Int).toNat * 6)).add 1) = some (.string y) /\ k (!(y.toList == a.toList)) d) /\ (((f : Int) != 1) = true -> k true d))) /\ ((!i) = true -> k true d)))) : CP 122 #[.string a, .bool b] w R :=
 vcq Tryz.func122 [] [(5, ⟨[(28, .bool)],[]⟩), (12, ⟨[(4, .bool)],[]⟩)] [.l (.str a), .l (.bool b)] h
theorem q_Lex (a : BA) (w : World) (R : EW) (h :
 ∃ b c d, ∃ e, (convert 9 340 (.string a)).run Tryz.prog w = .ok (.slice b c d) e /\ True /\ True /\ True /\ (let f := e.alloc (.cells #[.slice b c d, .int .i64 0, .slice none 0 0, .bool true, .int .i64 0, .int .i64 1, .int .i64 0] 342);
 ∃ (g : World -> Prop) (i : World -> Nat), g f /\
 (∀ j : World, g j ->
 ∀ k, k = j.drew -> ∃ l, k.cell? ((adr e.heap.size).add 1) = some (.int .i64 l) /\ ∃ m n o, k.cell? (adr e.heap.size) = some (.slice m n o) /\ (((decide (l < (n : Int))) = true ->
 CP 145 #[(.pointer (some (adr e.heap.size)))] k (fun p q => ∃ r, p = .returned (.bool r) /\ True /\ (((!r) = true ->
 ∀ s, s = q.drew -> ∃ t, s.cell? ((adr e.heap.size).add 3) = some (.bool t) /\ ((s.cell? ((adr e.heap.size).add 3) = s.cell? ((adr e.heap.size).add 3)) /\ True) /\ ((s.cell? ((adr e.heap.size).add 3) = s.cell? ((adr e.heap.size).add 3)) /\ True) /\ True /\ R (.returned (.tuple #[.slice none 0 0, .bool false, .bool t])) s) /\
 ((!r) = false ->
 (g q /\ i q < i j))))) /\
 ((decide (l < (n : Int))) = false ->
 ∀ u, u = k.drew -> ∃ v x y, u.cell? ((adr e.heap.size).add 2) = some (.slice v x y) /\ ∃ z, u.cell? ((adr e.heap.size).add 3) = some (.bool z) /\ ((u.cell? ((adr e.heap.size).add 3) = u.cell? ((adr e.heap.size).add 3)) /\ True) /\ ((u.cell? ((adr e.heap.size).add 3) = u.cell? ((adr e.heap.size).add 3)) /\ True) /\ True /\ R (.returned (.tuple #[.slice v x y, .bool true, .bool z])) u))))) : CP 136 #[.string a] w R :=
 vcq Tryz.func136 [] [(6, ⟨[],[]⟩)] [.l (.str a)] h
theorem q_lexer_token (a : OA) (w : World) (R : EW) (h :
 ∀ b, b = w.drew -> ∃ c, a = some c /\ ∃ d e f, b.cell? c = some (.slice d e f) /\ ∃ g, a = some g /\ ∃ i, b.cell? (g.add 1) = some (.int .i64 i) /\ ∃ j, d = some j /\ (0 <= i /\ i < (e : Int)) /\ ∃ k, b.cell? (j.add (i.toNat * 1)) = some (.int .i32 k) /\ ∃ l, a = some l /\ ∃ m, b.cell? (l.add 1) = some (.int .i64 m) /\ ((b.cell? (l.add 1) = b.cell? (l.add 1)) /\ True) /\ True /\ ∀ n : World -> Prop, (∀ o : World,
 (R (.returned (.bool true)) o) ->
 n o) ->
 ∀ p : Bool -> World -> Prop, (∀ q : Bool, ∀ r : World,
 (((q = true ->
 ∀ s : World -> Prop, (∀ t : World,
 (∃ u, a = some u /\ ∃ v, t.cell? (u.add 1) = some (.int .i64 v) /\ ∃ x, a = some x /\ Off t (x.add 1) 1 [] /\ True /\ (let y := (t.setCell (x.add 1) (.int .i64 (IntKind.i64.wrap (v + 1))));
 n y)) ->
 s t) ->
 ∀ z : Bool -> World -> Prop, (∀ A : Bool, ∀ B : World,
 (((A = true ->
 ∃ C, a = some C /\ Off B (C.add 3) 1 [] /\ True /\ (let D := (B.setCell (C.add 3) (.bool false));
 s D)) /\
 (A = false ->
 s B))) ->
 z A B) ->
 (((k == 65279) = true -> ∃ E, a = some E /\ ∃ F, r.cell? (E.add 1) = some (.int .i64 F) /\ z (decide (F > 0)) r) /\ ((k == 65279) = false -> z false r))) /\
 (q = false ->
 (((k == 35) = true ->
 ∃ (G : World -> Prop) (H : World -> Nat), G r /\
 (∀ I : World, G I ->
 ∀ J : Bool -> World -> Prop, (∀ K : Bool, ∀ L : World,
 (((K = true ->
 ∃ M, a = some M /\ ∃ N, L.cell? (M.add 1) = some (.int .i64 N) /\ ∃ O, a = some O /\ Off L (O.add 1) 1 [] /\ True /\ (let P := (L.setCell (O.add 1) (.int .i64 (IntKind.i64.wrap (N + 1))));
 (G P /\ H P < H I))) /\
 (K = false ->
 ∀ Q, Q = L.drew -> ∃ S, a = some S /\ ∃ U V W, Q.cell? S = some (.slice U V W) /\ ∃ X, a = some X /\ ∃ Y, Q.cell? (X.add 1) = some (.int .i64 Y) /\ (0 <= m /\ m <= Y /\ Y <= (W : Int)) /\ ∃ Z, ∃ aa, (convert 340 9 (.slice (if W = m.toNat then U else Option.map (·.add (m.toNat * 1)) U) (Y.toNat - m.toNat) (W - m.toNat))).run Tryz.prog Q = .ok (.string Z) aa /\ True /\ True /\ CP 149 #[.pointer a, .int .i64 20, .string Z, .int .i64 m] aa (fun ab ac => ab = .returned (.tuple #[]) /\ True /\ True /\ n ac)))) ->
 J K L) ->
 ∀ ad, ad = I.drew -> ∃ ae, a = some ae /\ ∃ af, ad.cell? (ae.add 1) = some (.int .i64 af) /\ ∃ ag, a = some ag /\ ∃ ah ai aj, ad.cell? ag = some (.slice ah ai aj) /\ (((decide (af < (ai : Int))) = true -> ∃ ak, a = some ak /\ ∃ al am an, ad.cell? ak = some (.slice al am an) /\ ∃ ao, a = some ao /\ ∃ ap, ad.cell? (ao.add 1) = some (.int .i64 ap) /\ ∃ aq, al = some aq /\ (0 <= ap /\ ap < (am : Int)) /\ ∃ ar, ad.cell? (aq.add (ap.toNat * 1)) = some (.int .i32 ar) /\ (((ar != 10) = true -> ∃ au, a = some au /\ ∃ av ax ay, ad.cell? au = some (.slice av ax ay) /\ ∃ az, a = some az /\ ∃ aA, ad.cell? (az.add 1) = some (.int .i64 aA) /\ ∃ aB, av = some aB /\ (0 <= aA /\ aA < (ax : Int)) /\ ∃ aC, ad.cell? (aB.add (aA.toNat * 1)) = some (.int .i32 aC) /\ (((aC != 13) = true -> ∃ aD, a = some aD /\ ∃ aE aF aG, ad.cell? aD = some (.slice aE aF aG) /\ ∃ aH, a = some aH /\ ∃ aI, ad.cell? (aH.add 1) = some (.int .i64 aI) /\ ∃ aJ, aE = some aJ /\ (0 <= aI /\ aI < (aF : Int)) /\ ∃ aK, ad.cell? (aJ.add (aI.toNat * 1)) = some (.int .i32 aK) /\ CP 148 #[.int .i32 aK] ad (fun aL aM => ∃ aN, aL = .returned (.bool aN) /\ True /\ True /\ J aN aM)) /\ ((aC != 13) = false -> J false ad))) /\ ((ar != 10) = false -> J false ad))) /\ ((decide (af < (ai : Int))) = false -> J false ad)))) /\
 ((k == 35) = false ->
 CP 150 #[.int .i32 k] r (fun aO aP => ∃ aQ, aO = .returned (.int .i64 aQ) /\ True /\ (((decide (aQ > 0)) = true ->
 ∃ aS, a = some aS /\ ∃ aU, aP.cell? (aS.add 1) = some (.int .i64 aU) /\ ∃ aV, a = some aV /\ Off aP (aV.add 1) 1 [] /\ True /\ (let aW := (aP.setCell (aV.add 1) (.int .i64 (IntKind.i64.wrap (aU + 1))));
 CP 150 #[.int .i32 k] aW (fun aX aY => ∃ aZ, aX = .returned (.int .i64 aZ) /\ True /\ CP 149 #[.pointer a, .int .i64 aZ, (.string (⟨#[]⟩ : BA)), .int .i64 m] aY (fun ba bb => ba = .returned (.tuple #[]) /\ True /\ n bb)))) /\
 ((decide (aQ > 0)) = false ->
 (((k == 46) = true ->
 ∀ bc : Bool -> World -> Prop, (∀ bd : Bool, ∀ be : World,
 (((bd = true ->
 R (.returned (.bool false)) be) /\
 (bd = false ->
 ∃ bf, a = some bf /\ ∃ bg, be.cell? (bf.add 1) = some (.int .i64 bg) /\ ∃ bh, a = some bh /\ Off be (bh.add 1) 1 [] /\ True /\ (let bi := (be.setCell (bh.add 1) (.int .i64 (IntKind.i64.wrap (bg + 3))));
 CP 149 #[.pointer a, .int .i64 6, (.string (⟨#[]⟩ : BA)), .int .i64 m] bi (fun bj bk => bj = .returned (.tuple #[]) /\ True /\ n bk))))) ->
 bc bd be) ->
 CP 151 #[.pointer a, .int .i64 1] aP (fun bl bm => ∃ bn, bl = .returned (.int .i32 bn) /\ True /\ (((bn != 46) = false -> CP 151 #[.pointer a, .int .i64 2] bm (fun bo bp => ∃ bq, bo = .returned (.int .i32 bq) /\ True /\ bc (bq != 46) bp)) /\ ((bn != 46) = true -> bc true bm)))) /\
 ((k == 46) = false ->
 CP 90 #[.int .i32 k] aP (fun br bs => ∃ bt, br = .returned (.bool bt) /\ True /\ ((bt = true ->
 ∃ (bu : World -> Prop) (bv : World -> Nat), bu bs /\
 (∀ bx : World, bu bx ->
 ∀ bz : Bool -> World -> Prop, (∀ bA : Bool, ∀ bB : World,
 (((bA = true ->
 ∃ bC, a = some bC /\ ∃ bD, bB.cell? (bC.add 1) = some (.int .i64 bD) /\ ∃ bE, a = some bE /\ Off bB (bE.add 1) 1 [] /\ True /\ (let bF := (bB.setCell (bE.add 1) (.int .i64 (IntKind.i64.wrap (bD + 1))));
 (bu bF /\ bv bF < bv bx))) /\
 (bA = false ->
 ∀ bG, bG = bB.drew -> ∃ bH, a = some bH /\ ∃ bI bJ bK, bG.cell? bH = some (.slice bI bJ bK) /\ ∃ bL, a = some bL /\ ∃ bM, bG.cell? (bL.add 1) = some (.int .i64 bM) /\ (0 <= m /\ m <= bM /\ bM <= (bK : Int)) /\ ∃ bN, ∃ bO, (convert 340 9 (.slice (if bK = m.toNat then bI else Option.map (·.add (m.toNat * 1)) bI) (bM.toNat - m.toNat) (bK - m.toNat))).run Tryz.prog bG = .ok (.string bN) bO /\ True /\ True /\ CP 149 #[.pointer a, .int .i64 15, .string bN, .int .i64 m] bO (fun bP bQ => bP = .returned (.tuple #[]) /\ True /\ True /\ n bQ)))) ->
 bz bA bB) ->
 CP 151 #[.pointer a, .int .i64 0] bx (fun bS bU => ∃ bV, bS = .returned (.int .i32 bV) /\ True /\ CP 90 #[.int .i32 bV] bU (fun bW bX => ∃ bY, bW = .returned (.bool bY) /\ True /\ ((bY = false -> CP 151 #[.pointer a, .int .i64 0] bX (fun bZ ca => ∃ cb, bZ = .returned (.int .i32 cb) /\ True /\ CP 91 #[.int .i32 cb] ca (fun cc cd => ∃ ce, cc = .returned (.bool ce) /\ True /\ bz ce cd))) /\ (bY = true -> bz true bX)))))) /\
 (bt = false ->
 ∀ cf : Bool -> World -> Prop, (∀ cg : Bool, ∀ ch : World,
 (((cg = true ->
 CP 152 #[.pointer a] ch (fun ci cj => ∃ ck, ci = .returned (.bool ck) /\ True /\ R (.returned (.bool ck)) cj)) /\
 (cg = false ->
 ∀ cl : Bool -> World -> Prop, (∀ cm : Bool, ∀ cn : World,
 (((cm = true ->
 CP 153 #[.pointer a] cn (fun co cp => ∃ cq, co = .returned (.bool cq) /\ True /\ R (.returned (.bool cq)) cp)) /\
 (cm = false ->
 (((k == 34) = true ->
 CP 154 #[.pointer a] cn (fun cr ct => ∃ cu, cr = .returned (.bool cu) /\ True /\ R (.returned (.bool cu)) ct)) /\
 ((k == 34) = false ->
 R (.returned (.bool false)) cn))))) ->
 cl cm cn) ->
 (((k == 34) = true -> CP 151 #[.pointer a, .int .i64 1] ch (fun cv cx => ∃ cy, cv = .returned (.int .i32 cy) /\ True /\ (((cy == 34) = true -> CP 151 #[.pointer a, .int .i64 2] cx (fun cz cA => ∃ cB, cz = .returned (.int .i32 cB) /\ True /\ cl (cB == 34) cA)) /\ ((cy == 34) = false -> cl false cx)))) /\ ((k == 34) = false -> cl false ch))))) ->
 cf cg ch) ->
 (((k == 45) = false -> CP 91 #[.int .i32 k] bs (fun cC cD => ∃ cE, cC = .returned (.bool cE) /\ True /\ cf cE cD)) /\ ((k == 45) = true -> cf true bs))))))))))))))) ->
 p q r) ->
 (((k == 65279) = false -> (((k == 32) = false -> (((k == 44) = false -> (((k == 9) = false -> (((k == 10) = false -> p (k == 13) b) /\ ((k == 10) = true -> p true b))) /\ ((k == 9) = true -> p true b))) /\ ((k == 44) = true -> p true b))) /\ ((k == 32) = true -> p true b))) /\ ((k == 65279) = true -> p true b))) : CP 145 #[.pointer a] w R :=
 vcq Tryz.func145 [] [(4, ⟨[],[]⟩), (6, ⟨[(19, .bool)],[]⟩), (9, ⟨[],[]⟩), (10, ⟨[(50, .bool)],[]⟩), (21, ⟨[],[]⟩), (23, ⟨[(112, .bool)],[]⟩), (41, ⟨[(160, .bool)],[]⟩), (56, ⟨[],[]⟩), (58, ⟨[(181, .bool)],[]⟩), (66, ⟨[(203, .bool)],[]⟩), (72, ⟨[(212, .bool)],[]⟩)] [.l (.optr a)] h
theorem q_IsSource (a : Int) (w : World) (R : EW) (h :
 ∀ b : Bool -> World -> Prop, (∀ c : Bool, ∀ d : World,
 (R (.returned (.bool c)) d) ->
 b c d) ->
 (((a == 9) = false -> (((a == 10) = false -> (((a == 13) = false -> b (decide (a ≥ 32)) w) /\ ((a == 13) = true -> b true w))) /\ ((a == 10) = true -> b true w))) /\ ((a == 9) = true -> b true w))) : CP 148 #[.int .i32 a] w R :=
 vcq Tryz.func148 [] [(2, ⟨[(2, .bool)],[]⟩)] [.l (.int .i32 a)] h
theorem q_lexer_put (a : OA) (b : Int) (c : BA) (d : Int) (w : World) (R : EW) (h :
 CP 155 #[.pointer a, .int .i64 d] w (fun e f => e = .returned (.tuple #[]) /\ True /\ ∀ g, g = f.drew -> ∃ i, a = some i /\ ∃ j k l, g.cell? (i.add 2) = some (.slice j k l) /\ ∃ m, a = some m /\ ∃ n, g.cell? (m.add 1) = some (.int .i64 n) /\ ∃ o, a = some o /\ ∃ p, g.cell? (o.add 5) = some (.int .i64 p) /\ ∃ q, a = some q /\ ∃ r, g.cell? (q.add 6) = some (.int .i64 r) /\ True /\ True /\ (let s := g.alloc (.cells #[.int .i64 b, .string c, .int .i64 d, .int .i64 n, .int .i64 p, (.int .i64 (IntKind.i64.wrap ((IntKind.i64.wrap (d - r)) + 1)))] 323);
 ((s.cell? (i.add 2) = g.cell? (i.add 2)) /\ True) /\ ∃ t u v, ∃ x, (Go.builtin .append #[319, 319] 319 #[false, false] #[.slice j k l, (.slice (some (adr g.heap.size)) 1 1)]).run Tryz.prog s = .ok (.value (.slice t u v)) x /\ True /\ True /\ ∃ y, a = some y /\ Off x (y.add 2) 1 [] /\ True /\ (let z := (x.setCell (y.add 2) (.slice t u v));
 True /\ R (.returned (.tuple #[])) z)))) : CP 149 #[.pointer a, .int .i64 b, .string c, .int .i64 d] w R :=
 vcq Tryz.func149 [] [] [.l (.optr a), .l (.int .i64 b), .l (.str c), .l (.int .i64 d)] h
theorem q_Mark (a : Int) (w : World) (R : EW) (h :
 (((a == 33) = true ->
 R (.returned (.int .i64 1)) w) /\
 ((a == 33) = false ->
 (((a == 36) = true ->
 R (.returned (.int .i64 2)) w) /\
 ((a == 36) = false ->
 (((a == 38) = true ->
 R (.returned (.int .i64 3)) w) /\
 ((a == 38) = false ->
 (((a == 40) = true ->
 R (.returned (.int .i64 4)) w) /\
 ((a == 40) = false ->
 (((a == 41) = true ->
 R (.returned (.int .i64 5)) w) /\
 ((a == 41) = false ->
 (((a == 58) = true ->
 R (.returned (.int .i64 7)) w) /\
 ((a == 58) = false ->
 (((a == 61) = true ->
 R (.returned (.int .i64 8)) w) /\
 ((a == 61) = false ->
 (((a == 64) = true ->
 R (.returned (.int .i64 9)) w) /\
 ((a == 64) = false ->
 (((a == 91) = true ->
 R (.returned (.int .i64 10)) w) /\
 ((a == 91) = false ->
 (((a == 93) = true ->
 R (.returned (.int .i64 11)) w) /\
 ((a == 93) = false ->
 (((a == 123) = true ->
 R (.returned (.int .i64 12)) w) /\
 ((a == 123) = false ->
 (((a == 125) = true ->
 R (.returned (.int .i64 13)) w) /\
 ((a == 125) = false ->
 (((a == 124) = true ->
 R (.returned (.int .i64 14)) w) /\
 ((a == 124) = false ->
 R (.returned (.int .i64 0)) w))))))))))))))))))))))))))) : CP 150 #[.int .i32 a] w R :=
 vcq Tryz.func150 [] [] [.l (.int .i32 a)] h
theorem q_lexer_peek (a : OA) (b : Int) (w : World) (R : EW) (h :
 ∀ c, c = w.drew -> ∃ d, a = some d /\ ∃ e, c.cell? (d.add 1) = some (.int .i64 e) /\ ∃ f, a = some f /\ ∃ g i j, c.cell? f = some (.slice g i j) /\ (((decide ((IntKind.i64.wrap (e + b)) < (i : Int))) = true ->
 ∀ k, k = c.drew -> ∃ l, a = some l /\ ∃ m n o, k.cell? l = some (.slice m n o) /\ ∃ p, a = some p /\ ∃ q, k.cell? (p.add 1) = some (.int .i64 q) /\ ∃ r, m = some r /\ (0 <= (IntKind.i64.wrap (q + b)) /\ (IntKind.i64.wrap (q + b)) < (n : Int)) /\ ∃ s, k.cell? (r.add ((IntKind.i64.wrap (q + b)).toNat * 1)) = some (.int .i32 s) /\ True /\ R (.returned (.int .i32 s)) k) /\
 ((decide ((IntKind.i64.wrap (e + b)) < (i : Int))) = false ->
 R (.returned (.int .i32 0)) c))) : CP 151 #[.pointer a, .int .i64 b] w R :=
 vcq Tryz.func151 [] [] [.l (.optr a), .l (.int .i64 b)] h
theorem q_lexer_number (a : OA) (w : World) (R : EW) (h :
 ∃ b, a = some b /\ ∃ c, w.cell? (b.add 1) = some (.int .i64 c) /\ ∀ d : World -> Prop, (∀ e : World,
 (∀ f : Bool -> World -> Prop, (∀ g : Bool, ∀ i : World,
 (((g = true ->
 R (.returned (.bool false)) i) /\
 (g = false ->
 ∀ j : Int -> World -> Prop, (∀ k : Int, ∀ l : World,
 (∀ m : Int -> World -> Prop, (∀ n : Int, ∀ o : World,
 (∀ p : World -> Prop, (∀ q : World,
 (∀ r, r = q.drew -> ∃ s, a = some s /\ ∃ t u v, r.cell? s = some (.slice t u v) /\ ∃ x, a = some x /\ ∃ y, r.cell? (x.add 1) = some (.int .i64 y) /\ (0 <= c /\ c <= y /\ y <= (v : Int)) /\ ∃ z, ∃ A, (convert 340 9 (.slice (if v = c.toNat then t else Option.map (·.add (c.toNat * 1)) t) (y.toNat - c.toNat) (v - c.toNat))).run Tryz.prog r = .ok (.string z) A /\ True /\ True /\ CP 149 #[.pointer a, .int .i64 n, .string z, .int .i64 c] A (fun B C => B = .returned (.tuple #[]) /\ True /\ True /\ R (.returned (.bool true)) C)) ->
 p q) ->
 ∀ D : Bool -> World -> Prop, (∀ E : Bool, ∀ F : World,
 (((E = true ->
 ∃ G, a = some G /\ Off F (G.add 3) 1 [] /\ True /\ (let H := (F.setCell (G.add 3) (.bool false));
 p H)) /\
 (E = false ->
 p F))) ->
 D E F) ->
 CP 151 #[.pointer a, .int .i64 0] o (fun I J => ∃ K, I = .returned (.int .i32 K) /\ True /\ CP 90 #[.int .i32 K] J (fun L M => ∃ N, L = .returned (.bool N) /\ True /\ ((N = false -> CP 151 #[.pointer a, .int .i64 0] M (fun O P => ∃ Q, O = .returned (.int .i32 Q) /\ True /\ D (Q == 46) P)) /\ (N = true -> D true M))))) ->
 m n o) ->
 ∀ S : Bool -> World -> Prop, (∀ U : Bool, ∀ V : World,
 (((U = true ->
 ∃ W, a = some W /\ ∃ X, V.cell? (W.add 1) = some (.int .i64 X) /\ ∃ Y, a = some Y /\ Off V (Y.add 1) 1 [] /\ True /\ (let Z := (V.setCell (Y.add 1) (.int .i64 (IntKind.i64.wrap (X + 1))));
 ∀ aa : World -> Prop, (∀ ab : World,
 (CP 156 #[.pointer a] ab (fun ac ad => ∃ ae, ac = .returned (.bool ae) /\ True /\ (((!ae) = true ->
 R (.returned (.bool false)) ad) /\
 ((!ae) = false ->
 m 17 ad)))) ->
 aa ab) ->
 ∀ af : Bool -> World -> Prop, (∀ ag : Bool, ∀ ah : World,
 (((ag = true ->
 ∃ ai, a = some ai /\ ∃ aj, ah.cell? (ai.add 1) = some (.int .i64 aj) /\ ∃ ak, a = some ak /\ Off ah (ak.add 1) 1 [] /\ True /\ (let al := (ah.setCell (ak.add 1) (.int .i64 (IntKind.i64.wrap (aj + 1))));
 aa al)) /\
 (ag = false ->
 aa ah))) ->
 af ag ah) ->
 CP 151 #[.pointer a, .int .i64 0] Z (fun am an => ∃ ao, am = .returned (.int .i32 ao) /\ True /\ (((ao == 43) = false -> CP 151 #[.pointer a, .int .i64 0] an (fun ap aq => ∃ ar, ap = .returned (.int .i32 ar) /\ True /\ af (ar == 45) aq)) /\ ((ao == 43) = true -> af true an))))) /\
 (U = false ->
 m k V))) ->
 S U V) ->
 CP 151 #[.pointer a, .int .i64 0] l (fun au av => ∃ ax, au = .returned (.int .i32 ax) /\ True /\ (((ax == 101) = false -> CP 151 #[.pointer a, .int .i64 0] av (fun ay az => ∃ aA, ay = .returned (.int .i32 aA) /\ True /\ S (aA == 69) az)) /\ ((ax == 101) = true -> S true av)))) ->
 j k l) ->
 CP 151 #[.pointer a, .int .i64 0] i (fun aB aC => ∃ aD, aB = .returned (.int .i32 aD) /\ True /\ (((aD == 46) = true ->
 ∃ aE, a = some aE /\ ∃ aF, aC.cell? (aE.add 1) = some (.int .i64 aF) /\ ∃ aG, a = some aG /\ Off aC (aG.add 1) 1 [] /\ True /\ (let aH := (aC.setCell (aG.add 1) (.int .i64 (IntKind.i64.wrap (aF + 1))));
 CP 156 #[.pointer a] aH (fun aI aJ => ∃ aK, aI = .returned (.bool aK) /\ True /\ (((!aK) = true ->
 R (.returned (.bool false)) aJ) /\
 ((!aK) = false ->
 j 17 aJ))))) /\
 ((aD == 46) = false ->
 j 16 aC)))))) ->
 f g i) ->
 CP 151 #[.pointer a, .int .i64 0] e (fun aL aM => ∃ aN, aL = .returned (.int .i32 aN) /\ True /\ (((aN == 48) = true -> CP 151 #[.pointer a, .int .i64 1] aM (fun aO aP => ∃ aQ, aO = .returned (.int .i32 aQ) /\ True /\ CP 91 #[.int .i32 aQ] aP (fun aS aU => ∃ aV, aS = .returned (.bool aV) /\ True /\ ((aV = false -> CP 156 #[.pointer a] aU (fun aW aX => ∃ aY, aW = .returned (.bool aY) /\ True /\ f (!aY) aX)) /\ (aV = true -> f true aU))))) /\ ((aN == 48) = false -> CP 156 #[.pointer a] aM (fun aZ ba => ∃ bb, aZ = .returned (.bool bb) /\ True /\ f (!bb) ba))))) ->
 d e) ->
 CP 151 #[.pointer a, .int .i64 0] w (fun bc bd => ∃ be, bc = .returned (.int .i32 be) /\ True /\ (((be == 45) = true ->
 ∃ bf, a = some bf /\ ∃ bg, bd.cell? (bf.add 1) = some (.int .i64 bg) /\ ∃ bh, a = some bh /\ Off bd (bh.add 1) 1 [] /\ True /\ (let bi := (bd.setCell (bh.add 1) (.int .i64 (IntKind.i64.wrap (bg + 1))));
 d bi)) /\
 ((be == 45) = false ->
 d bd)))) : CP 152 #[.pointer a] w R :=
 vcq Tryz.func152 [] [(4, ⟨[],[]⟩), (11, ⟨[(31, .bool)],[]⟩), (18, ⟨[(4, .int .i64)],[]⟩), (34, ⟨[(4, .int .i64)],[]⟩), (35, ⟨[(52, .bool)],[]⟩), (42, ⟨[],[]⟩), (43, ⟨[(67, .bool)],[]⟩), (56, ⟨[],[]⟩), (57, ⟨[(85, .bool)],[]⟩)] [.l (.optr a)] h
theorem q_lexer_block (a : OA) (w : World) (R : EW) (h :
 ∃ b, a = some b /\ ∃ c, w.cell? (b.add 1) = some (.int .i64 c) /\ ∃ d, a = some d /\ ∃ e, w.cell? (d.add 1) = some (.int .i64 e) /\ ∃ f, a = some f /\ Off w (f.add 1) 1 [] /\ True /\ (let g := (w.setCell (f.add 1) (.int .i64 (IntKind.i64.wrap (e + 3))));
 ∃ (i : OA -> Nat -> Nat -> World -> Prop) (j : OA -> Nat -> Nat -> World -> Nat), i none 0 0 g /\
 (∀ (k : OA) (l m : Nat), ∀ n : World, i k l m n ->
 ∀ o, o = n.drew -> ∃ p, a = some p /\ ∃ q, o.cell? (p.add 1) = some (.int .i64 q) /\ ∃ r, a = some r /\ ∃ s t u, o.cell? r = some (.slice s t u) /\ (((decide (q < (t : Int))) = true ->
 ∀ v, v = o.drew -> ∃ x, a = some x /\ ∃ y z A, v.cell? x = some (.slice y z A) /\ ∃ B, a = some B /\ ∃ C, v.cell? (B.add 1) = some (.int .i64 C) /\ ∃ D, y = some D /\ (0 <= C /\ C < (z : Int)) /\ ∃ E, v.cell? (D.add (C.toNat * 1)) = some (.int .i32 E) /\ True /\ ∀ F : Bool -> World -> Prop, (∀ G : Bool, ∀ H : World,
 (((G = true ->
 ∃ I, a = some I /\ ∃ J, H.cell? (I.add 1) = some (.int .i64 J) /\ ∃ K, a = some K /\ Off H (K.add 1) 1 [] /\ True /\ (let L := (H.setCell (K.add 1) (.int .i64 (IntKind.i64.wrap (J + 3))));
 ∀ M : World -> Prop, (∀ N : World,
 (∃ O, ∃ P, (convert 340 9 (.slice k l m)).run Tryz.prog N = .ok (.string O) P /\ True /\ CP 158 #[.string O] P (fun Q S => ∃ U, Q = .returned (.string U) /\ True /\ CP 149 #[.pointer a, .int .i64 19, .string U, .int .i64 c] S (fun V W => V = .returned (.tuple #[]) /\ True /\ R (.returned (.bool true)) W))) ->
 M N) ->
 ∃ X, a = some X /\ ∃ Y, L.cell? (X.add 3) = some (.bool Y) /\ ((Y = true -> ∃ Z, ∃ aa, (convert 340 9 (.slice k l m)).run Tryz.prog L = .ok (.string Z) aa /\ True /\ CP 157 #[.string Z] aa (fun ab ac => ∃ ad, ab = .returned (.bool ad) /\ True /\ ((ad = true -> CP 151 #[.pointer a, .int .i64 0] ac (fun ae af => ∃ ag, ae = .returned (.int .i32 ag) /\ True /\ ∃ ah, a = some ah /\ Off af (ah.add 3) 1 [] /\ True /\ (let ai := (af.setCell (ah.add 3) (.bool (ag != 34)));
 M ai))) /\ (ad = false -> ∃ aj, a = some aj /\ Off ac (aj.add 3) 1 [] /\ True /\ (let ak := (ac.setCell (aj.add 3) (.bool false));
 M ak))))) /\ (Y = false -> ∃ al, a = some al /\ Off L (al.add 3) 1 [] /\ True /\ (let am := (L.setCell (al.add 3) (.bool false));
 M am))))) /\
 (G = false ->
 ∀ an : Bool -> World -> Prop, (∀ ao : Bool, ∀ ap : World,
 (((ao = true ->
 True /\ (let aq := ap.alloc (.cells #[.int .i32 34, .int .i32 34, .int .i32 34] 21);
 ∃ ar au av, ∃ ax, (Go.builtin .append #[340, 340] 340 #[false, false] #[.slice k l m, (.slice (some (adr ap.heap.size)) 3 3)]).run Tryz.prog aq = .ok (.value (.slice ar au av)) ax /\ True /\ ∃ ay, a = some ay /\ ∃ az, ax.cell? (ay.add 1) = some (.int .i64 az) /\ ∃ aA, a = some aA /\ Off ax (aA.add 1) 1 [] /\ True /\ (let aB := (ax.setCell (aA.add 1) (.int .i64 (IntKind.i64.wrap (az + 4))));
 (i ar au av aB /\ j ar au av aB < j k l m n)))) /\
 (ao = false ->
 CP 148 #[.int .i32 E] ap (fun aC aD => ∃ aE, aC = .returned (.bool aE) /\ True /\ (((!aE) = true ->
 R (.returned (.bool false)) aD) /\
 ((!aE) = false ->
 True /\ (let aF := aD.alloc (.cells #[.int .i32 E] 21);
 ∃ aG aH aI, ∃ aJ, (Go.builtin .append #[340, 340] 340 #[false, false] #[.slice k l m, (.slice (some (adr aD.heap.size)) 1 1)]).run Tryz.prog aF = .ok (.value (.slice aG aH aI)) aJ /\ True /\ ∃ aK, a = some aK /\ ∃ aL, aJ.cell? (aK.add 1) = some (.int .i64 aL) /\ ∃ aM, a = some aM /\ Off aJ (aM.add 1) 1 [] /\ True /\ (let aN := (aJ.setCell (aM.add 1) (.int .i64 (IntKind.i64.wrap (aL + 1))));
 (i aG aH aI aN /\ j aG aH aI aN < j k l m n))))))))) ->
 an ao ap) ->
 (((E == 92) = true -> CP 151 #[.pointer a, .int .i64 1] H (fun aO aP => ∃ aQ, aO = .returned (.int .i32 aQ) /\ True /\ (((aQ == 34) = true -> CP 151 #[.pointer a, .int .i64 2] aP (fun aS aU => ∃ aV, aS = .returned (.int .i32 aV) /\ True /\ (((aV == 34) = true -> CP 151 #[.pointer a, .int .i64 3] aU (fun aW aX => ∃ aY, aW = .returned (.int .i32 aY) /\ True /\ an (aY == 34) aX)) /\ ((aV == 34) = false -> an false aU)))) /\ ((aQ == 34) = false -> an false aP)))) /\ ((E == 92) = false -> an false H))))) ->
 F G H) ->
 (((E == 34) = true -> CP 151 #[.pointer a, .int .i64 1] v (fun aZ ba => ∃ bb, aZ = .returned (.int .i32 bb) /\ True /\ (((bb == 34) = true -> CP 151 #[.pointer a, .int .i64 2] ba (fun bc bd => ∃ be, bc = .returned (.int .i32 be) /\ True /\ F (be == 34) bd)) /\ ((bb == 34) = false -> F false ba)))) /\ ((E == 34) = false -> F false v))) /\
 ((decide (q < (t : Int))) = false ->
 R (.returned (.bool false)) o))))) : CP 153 #[.pointer a] w R :=
 vcq Tryz.func153 [] [(10, ⟨[(4, .slice)],[]⟩), (20, ⟨[(6, .bool)],[]⟩), (28, ⟨[],[]⟩), (35, ⟨[(93, .bool)],[]⟩)] [.l (.optr a)] h
theorem q_lexer_quoted (a : OA) (w : World) (R : EW) (h :
 ∃ b, a = some b /\ ∃ c, w.cell? (b.add 1) = some (.int .i64 c) /\ ∃ d, a = some d /\ ∃ e, w.cell? (d.add 1) = some (.int .i64 e) /\ ∃ f, a = some f /\ Off w (f.add 1) 1 [] /\ True /\ (let g := (w.setCell (f.add 1) (.int .i64 (IntKind.i64.wrap (e + 1))));
 ∃ (i : OA -> Nat -> Nat -> World -> Prop) (j : OA -> Nat -> Nat -> World -> Nat), i none 0 0 g /\
 (∀ (k : OA) (l m : Nat), ∀ n : World, i k l m n ->
 ∀ o, o = n.drew -> ∃ p, a = some p /\ ∃ q, o.cell? (p.add 1) = some (.int .i64 q) /\ ∃ r, a = some r /\ ∃ s t u, o.cell? r = some (.slice s t u) /\ (((decide (q < (t : Int))) = true ->
 ∀ v, v = o.drew -> ∃ x, a = some x /\ ∃ y z A, v.cell? x = some (.slice y z A) /\ ∃ B, a = some B /\ ∃ C, v.cell? (B.add 1) = some (.int .i64 C) /\ ∃ D, y = some D /\ (0 <= C /\ C < (z : Int)) /\ ∃ E, v.cell? (D.add (C.toNat * 1)) = some (.int .i32 E) /\ True /\ ∃ F, a = some F /\ ∃ G, v.cell? (F.add 1) = some (.int .i64 G) /\ ∃ H, a = some H /\ Off v (H.add 1) 1 [] /\ True /\ (let I := (v.setCell (H.add 1) (.int .i64 (IntKind.i64.wrap (G + 1))));
 (((E == 34) = true ->
 ∃ J, ∃ K, (convert 340 9 (.slice k l m)).run Tryz.prog I = .ok (.string J) K /\ True /\ CP 149 #[.pointer a, .int .i64 18, .string J, .int .i64 c] K (fun L M => L = .returned (.tuple #[]) /\ True /\ R (.returned (.bool true)) M)) /\
 ((E == 34) = false ->
 ∀ N : Bool -> World -> Prop, (∀ O : Bool, ∀ P : World,
 (((O = true ->
 R (.returned (.bool false)) P) /\
 (O = false ->
 (((E == 92) = true ->
 CP 159 #[.pointer a] P (fun Q S => ∃ U, ∃ V, Q = .returned (.tuple #[.int .i32 U, .bool V]) /\ True /\ (((!V) = true ->
 R (.returned (.bool false)) S) /\
 ((!V) = false ->
 True /\ (let W := S.alloc (.cells #[.int .i32 U] 21);
 ∃ X Y Z, ∃ aa, (Go.builtin .append #[340, 340] 340 #[false, false] #[.slice k l m, (.slice (some (adr S.heap.size)) 1 1)]).run Tryz.prog W = .ok (.value (.slice X Y Z)) aa /\ True /\ (i X Y Z aa /\ j X Y Z aa < j k l m n)))))) /\
 ((E == 92) = false ->
 True /\ (let ab := P.alloc (.cells #[.int .i32 E] 21);
 ∃ ac ad ae, ∃ af, (Go.builtin .append #[340, 340] 340 #[false, false] #[.slice k l m, (.slice (some (adr P.heap.size)) 1 1)]).run Tryz.prog ab = .ok (.value (.slice ac ad ae)) af /\ True /\ (i ac ad ae af /\ j ac ad ae af < j k l m n))))))) ->
 N O P) ->
 (((E == 10) = false -> (((E == 13) = false -> CP 148 #[.int .i32 E] I (fun ag ah => ∃ ai, ag = .returned (.bool ai) /\ True /\ N (!ai) ah)) /\ ((E == 13) = true -> N true I))) /\ ((E == 10) = true -> N true I)))))) /\
 ((decide (q < (t : Int))) = false ->
 R (.returned (.bool false)) o))))) : CP 154 #[.pointer a] w R :=
 vcq Tryz.func154 [] [(10, ⟨[(4, .slice)],[]⟩), (31, ⟨[(58, .bool)],[]⟩)] [.l (.optr a)] h
theorem q_lexer_lines (a : OA) (b : Int) (w : World) (R : EW) (h :
 ∃ (c : World -> Prop) (d : World -> Nat), c w /\
 (∀ e : World, c e ->
 ∃ f, a = some f /\ ∃ g, e.cell? (f.add 4) = some (.int .i64 g) /\ (((decide (g < b)) = true ->
 ∀ i : World -> Prop, (∀ j : World,
 (∃ k, a = some k /\ ∃ l, j.cell? (k.add 4) = some (.int .i64 l) /\ ∃ m, a = some m /\ Off j (m.add 4) 1 [] /\ True /\ (let n := (j.setCell (m.add 4) (.int .i64 (IntKind.i64.wrap (l + 1))));
 (c n /\ d n < d e))) ->
 i j) ->
 ∀ o, o = e.drew -> ∃ p, a = some p /\ ∃ q r s, o.cell? p = some (.slice q r s) /\ ∃ t, a = some t /\ ∃ u, o.cell? (t.add 4) = some (.int .i64 u) /\ ∃ v, q = some v /\ (0 <= u /\ u < (r : Int)) /\ ∃ x, o.cell? (v.add (u.toNat * 1)) = some (.int .i32 x) /\ True /\ ∀ y : Bool -> World -> Prop, (∀ z : Bool, ∀ A : World,
 (((z = true ->
 i A) /\
 (z = false ->
 ∀ B : Bool -> World -> Prop, (∀ C : Bool, ∀ D : World,
 (((C = true ->
 ∀ E, E = D.drew -> ∃ F, a = some F /\ ∃ G, E.cell? (F.add 5) = some (.int .i64 G) /\ ∃ H, a = some H /\ ∃ I, E.cell? (H.add 4) = some (.int .i64 I) /\ ∃ J, a = some J /\ Off E (J.add 5) 1 [] /\ True /\ (let K := (E.setCell (J.add 5) (.int .i64 (IntKind.i64.wrap (G + 1))));
 True /\ ∃ L, a = some L /\ Off K (L.add 6) 1 [] /\ True /\ (let M := (K.setCell (L.add 6) (.int .i64 (IntKind.i64.wrap (I + 1))));
 True /\ i M))) /\
 (C = false ->
 i D))) ->
 B C D) ->
 (((x == 10) = false -> B (x == 13) A) /\ ((x == 10) = true -> B true A))))) ->
 y z A) ->
 ∀ N, N = o.drew -> (((x == 13) = true -> ∃ O, a = some O /\ ∃ P, N.cell? (O.add 4) = some (.int .i64 P) /\ ∃ Q, a = some Q /\ ∃ S U V, N.cell? Q = some (.slice S U V) /\ (((decide ((IntKind.i64.wrap (P + 1)) < (U : Int))) = true -> ∃ W, a = some W /\ ∃ X Y Z, N.cell? W = some (.slice X Y Z) /\ ∃ aa, a = some aa /\ ∃ ab, N.cell? (aa.add 4) = some (.int .i64 ab) /\ ∃ ac, X = some ac /\ (0 <= (IntKind.i64.wrap (ab + 1)) /\ (IntKind.i64.wrap (ab + 1)) < (Y : Int)) /\ ∃ ad, N.cell? (ac.add ((IntKind.i64.wrap (ab + 1)).toNat * 1)) = some (.int .i32 ad) /\ y (ad == 10) N) /\ ((decide ((IntKind.i64.wrap (P + 1)) < (U : Int))) = false -> y false N))) /\ ((x == 13) = false -> y false N))) /\
 ((decide (g < b)) = false ->
 R (.returned (.tuple #[])) e)))) : CP 155 #[.pointer a, .int .i64 b] w R :=
 vcq Tryz.func155 [] [(1, ⟨[],[]⟩), (8, ⟨[],[]⟩), (13, ⟨[(56, .bool)],[]⟩), (18, ⟨[(62, .bool)],[]⟩)] [.l (.optr a), .l (.int .i64 b)] h
theorem q_lexer_digits (a : OA) (w : World) (R : EW) (h :
 ∃ b, a = some b /\ ∃ c, w.cell? (b.add 1) = some (.int .i64 c) /\ ∃ (d : World -> Prop) (e : World -> Nat), d w /\
 (∀ f : World, d f ->
 CP 151 #[.pointer a, .int .i64 0] f (fun g i => ∃ j, g = .returned (.int .i32 j) /\ True /\ CP 91 #[.int .i32 j] i (fun k l => ∃ m, k = .returned (.bool m) /\ True /\ ((m = true ->
 ∃ n, a = some n /\ ∃ o, l.cell? (n.add 1) = some (.int .i64 o) /\ ∃ p, a = some p /\ Off l (p.add 1) 1 [] /\ True /\ (let q := (l.setCell (p.add 1) (.int .i64 (IntKind.i64.wrap (o + 1))));
 (d q /\ e q < e f))) /\
 (m = false ->
 ∃ r, a = some r /\ ∃ s, l.cell? (r.add 1) = some (.int .i64 s) /\ R (.returned (.bool (decide (s > c)))) l)))))) : CP 156 #[.pointer a] w R :=
 vcq Tryz.func156 [] [(6, ⟨[],[]⟩)] [.l (.optr a)] h
theorem q_Level (a : BA) (w : World) (R : EW) (h :
 ∃ (b : Int -> World -> Prop) (c : Int -> World -> Nat), b 0 w /\
 (∀ d : Int, ∀ e : World, b d e ->
 (((decide (d < (a.size : Int))) = true ->
 (0 <= d /\ d < (a.size : Int)) /\ ((((sget a d) == 13) = true ->
 R (.returned (.bool false)) e) /\
 (((sget a d) == 13) = false ->
 (b (IntKind.i64.wrap (d + 1)) e /\ c (IntKind.i64.wrap (d + 1)) e < c d e)))) /\
 ((decide (d < (a.size : Int))) = false ->
 CP 160 #[.string a] e (fun f g => ∃ i j k, f = .returned (.slice i j k) /\ True /\ ∀ l : Bool -> World -> Prop, (∀ m : Bool, ∀ n : World,
 (R (.returned (.bool m)) n) ->
 l m n) ->
 ∀ o, o = g.drew -> ∃ p, i = some p /\ (0 <= (0 : Int) /\ 0 < (j : Int)) /\ ∃ q, o.cell? (p.add ((0 : Int).toNat * 1)) = some (.string q) /\ ∃ r, i = some r /\ (0 <= (0 : Int) /\ 0 < (j : Int)) /\ ∃ s, o.cell? (r.add ((0 : Int).toNat * 1)) = some (.string s) /\ CP 161 #[.string q] o (fun t u => ∃ v, t = .returned (.int .i64 v) /\ True /\ ((u.cell? (r.add ((0 : Int).toNat * 1)) = o.cell? (r.add ((0 : Int).toNat * 1))) /\ True) /\ (((v == (s.size : Int)) = true -> True /\ l true u) /\ ((v == (s.size : Int)) = false -> ((((j : Int) == 1) = true -> CP 161 #[.string a] u (fun x y => ∃ z, x = .returned (.int .i64 z) /\ True /\ True /\ True /\ l (z == 0) y)) /\ (((j : Int) == 1) = false -> True /\ l false u)))))))))) : CP 157 #[.string a] w R :=
 vcq Tryz.func157 [] [(6, ⟨[(3, .int .i64)],[]⟩), (25, ⟨[(2, .bool)],[]⟩)] [.l (.str a)] h
theorem q_BlockValue (a : BA) (w : World) (R : EW) (h :
 CP 160 #[.string a] w (fun b c => ∃ d e f, b = .returned (.slice d e f) /\ True /\ ∃ (g : Int -> Int -> World -> Prop) (i : Int -> Int -> World -> Nat), g (-1 : Int) 0 c /\
 (∀ j : Int, ∀ k : Int, ∀ l : World, g j k l ->
 (((decide (k < (e : Int))) = true ->
 ∀ m : Int -> World -> Prop, (∀ n : Int, ∀ o : World,
 ((g n (IntKind.i64.wrap (k + 1)) o /\ i n (IntKind.i64.wrap (k + 1)) o < i j k l)) ->
 m n o) ->
 ∃ p, d = some p /\ (0 <= k /\ k < (e : Int)) /\ ∃ q, l.cell? (p.add (k.toNat * 1)) = some (.string q) /\ CP 161 #[.string q] l (fun r s => ∃ t, r = .returned (.int .i64 t) /\ True /\ ∀ u : Bool -> World -> Prop, (∀ v : Bool, ∀ x : World,
 (((v = true ->
 m t x) /\
 (v = false ->
 m j x))) ->
 u v x) ->
 (((decide (k > 0)) = true -> (((decide (t < (q.size : Int))) = true -> (((decide (j < 0)) = false -> u (decide (t < j)) s) /\ ((decide (j < 0)) = true -> u true s))) /\ ((decide (t < (q.size : Int))) = false -> u false s))) /\ ((decide (k > 0)) = false -> u false s)))) /\
 ((decide (k < (e : Int))) = false ->
 ∃ (y : Int -> World -> Prop) (z : Int -> World -> Nat), y 0 l /\
 (∀ A : Int, ∀ B : World, y A B ->
 (((decide (A < (e : Int))) = true ->
 ∀ C : World -> Prop, (∀ D : World,
 ((y (IntKind.i64.wrap (A + 1)) D /\ z (IntKind.i64.wrap (A + 1)) D < z A B)) ->
 C D) ->
 ∃ E, d = some E /\ (0 <= A /\ A < (e : Int)) /\ ∃ F, B.cell? (E.add (A.toNat * 1)) = some (.string F) /\ ∀ G : Bool -> World -> Prop, (∀ H : Bool, ∀ I : World,
 (((H = true ->
 ∃ J, ∃ K, (Go.builtin .min #[3, 3] 3 #[false, false] #[.int .i64 j, (.int .i64 (F.size : Int))]).run Tryz.prog I = .ok (.value (.int .i64 J)) K /\ True /\ (0 <= J /\ J <= (F.size : Int) /\ (F.size : Int) <= (F.size : Int)) /\ ∃ L, d = some L /\ (0 <= A /\ A < (e : Int)) /\ Off K (L.add (A.toNat * 1)) 1 [] /\ True /\ (let M := (K.setCell (L.add (A.toNat * 1)) (.string (F.extract J.toNat (F.size : Int).toNat)));
 C M)) /\
 (H = false ->
 C I))) ->
 G H I) ->
 (((decide (A > 0)) = true -> G (decide (j > 0)) B) /\ ((decide (A > 0)) = false -> G false B))) /\
 ((decide (A < (e : Int))) = false ->
 ∃ (N : OA -> Nat -> Nat -> World -> Prop) (O : OA -> Nat -> Nat -> World -> Nat), N d e f B /\
 (∀ (P : OA) (Q S : Nat), ∀ U : World, N P Q S U ->
 ∀ V : Bool -> World -> Prop, (∀ W : Bool, ∀ X : World,
 (((W = true ->
 (0 <= (1 : Int) /\ 1 <= (Q : Int) /\ (Q : Int) <= (S : Int)) /\ (N (if S = (1 : Int).toNat then P else Option.map (·.add ((1 : Int).toNat * 1)) P) ((Q : Int).toNat - (1 : Int).toNat) (S - (1 : Int).toNat) X /\ O (if S = (1 : Int).toNat then P else Option.map (·.add ((1 : Int).toNat * 1)) P) ((Q : Int).toNat - (1 : Int).toNat) (S - (1 : Int).toNat) X < O P Q S U)) /\
 (W = false ->
 ∃ (Y : OA -> Nat -> Nat -> World -> Prop) (Z : OA -> Nat -> Nat -> World -> Nat), Y P Q S X /\
 (∀ (aa : OA) (ab ac : Nat), ∀ ad : World, Y aa ab ac ad ->
 ∀ ae : Bool -> World -> Prop, (∀ af : Bool, ∀ ag : World,
 (((af = true ->
 (0 <= (0 : Int) /\ 0 <= (IntKind.i64.wrap ((ab : Int) - 1)) /\ (IntKind.i64.wrap ((ab : Int) - 1)) <= (ac : Int)) /\ (Y (if ac = (0 : Int).toNat then aa else Option.map (·.add ((0 : Int).toNat * 1)) aa) ((IntKind.i64.wrap ((ab : Int) - 1)).toNat - (0 : Int).toNat) (ac - (0 : Int).toNat) ag /\ Z (if ac = (0 : Int).toNat then aa else Option.map (·.add ((0 : Int).toNat * 1)) aa) ((IntKind.i64.wrap ((ab : Int) - 1)).toNat - (0 : Int).toNat) (ac - (0 : Int).toNat) ag < Z aa ab ac ad)) /\
 (af = false ->
 ∃ (ah : BA -> Int -> World -> Prop) (ai : BA -> Int -> World -> Nat), ah (⟨#[]⟩ : BA) 0 ag /\
 (∀ aj : BA, ∀ ak : Int, ∀ al : World, ah aj ak al ->
 (((decide (ak < (ab : Int))) = true ->
 ∃ am, aa = some am /\ (0 <= ak /\ ak < (ab : Int)) /\ ∃ an, al.cell? (am.add (ak.toNat * 1)) = some (.string an) /\ ∀ ao : BA -> World -> Prop, (∀ ap : BA, ∀ aq : World,
 (∃ ar, ∃ au, (eqGuard .add 9 (Operand.tmp 118) (Operand.tmp 119) (.string ap) (.string an)).run Tryz.prog aq = .ok () aq /\ (binOp .add 9 (.string ap) (.string an)).run Tryz.prog aq = .ok (.string ar) au /\ True /\ (ah ar (IntKind.i64.wrap (ak + 1)) au /\ ai ar (IntKind.i64.wrap (ak + 1)) au < ai aj ak al)) ->
 ao ap aq) ->
 (((decide (ak > 0)) = true ->
 ∃ av, ∃ ax, (eqGuard .add 9 (Operand.tmp 116) (Operand.const (.string (⟨#[10]⟩ : BA))) (.string aj) (.string (⟨#[10]⟩ : BA))).run Tryz.prog al = .ok () al /\ (binOp .add 9 (.string aj) (.string (⟨#[10]⟩ : BA))).run Tryz.prog al = .ok (.string av) ax /\ True /\ ao av ax) /\
 ((decide (ak > 0)) = false ->
 ao aj al))) /\
 ((decide (ak < (ab : Int))) = false ->
 R (.returned (.string aj)) al)))))) ->
 ae af ag) ->
 ∀ ay, ay = ad.drew -> (((decide ((ab : Int) > 0)) = true -> ∃ az, aa = some az /\ (0 <= (IntKind.i64.wrap ((ab : Int) - 1)) /\ (IntKind.i64.wrap ((ab : Int) - 1)) < (ab : Int)) /\ ∃ aA, ay.cell? (az.add ((IntKind.i64.wrap ((ab : Int) - 1)).toNat * 1)) = some (.string aA) /\ ∃ aB, aa = some aB /\ (0 <= (IntKind.i64.wrap ((ab : Int) - 1)) /\ (IntKind.i64.wrap ((ab : Int) - 1)) < (ab : Int)) /\ ∃ aC, ay.cell? (aB.add ((IntKind.i64.wrap ((ab : Int) - 1)).toNat * 1)) = some (.string aC) /\ CP 161 #[.string aA] ay (fun aD aE => ∃ aF, aD = .returned (.int .i64 aF) /\ True /\ ((aE.cell? (aB.add ((IntKind.i64.wrap ((ab : Int) - 1)).toNat * 1)) = ay.cell? (aB.add ((IntKind.i64.wrap ((ab : Int) - 1)).toNat * 1))) /\ True) /\ ae (aF == (aC.size : Int)) aE)) /\ ((decide ((ab : Int) > 0)) = false -> ae false ay)))))) ->
 V W X) ->
 ∀ aG, aG = U.drew -> (((decide ((Q : Int) > 0)) = true -> ∃ aH, P = some aH /\ (0 <= (0 : Int) /\ 0 < (Q : Int)) /\ ∃ aI, aG.cell? (aH.add ((0 : Int).toNat * 1)) = some (.string aI) /\ ∃ aJ, P = some aJ /\ (0 <= (0 : Int) /\ 0 < (Q : Int)) /\ ∃ aK, aG.cell? (aJ.add ((0 : Int).toNat * 1)) = some (.string aK) /\ CP 161 #[.string aI] aG (fun aL aM => ∃ aN, aL = .returned (.int .i64 aN) /\ True /\ ((aM.cell? (aJ.add ((0 : Int).toNat * 1)) = aG.cell? (aJ.add ((0 : Int).toNat * 1))) /\ True) /\ V (aN == (aK.size : Int)) aM)) /\ ((decide ((Q : Int) > 0)) = false -> V false aG))))))))))) : CP 158 #[.string a] w R :=
 vcq Tryz.func158 [] [(10, ⟨[(4, .int .i64), (17, .int .i64)],[]⟩), (17, ⟨[(4, .int .i64)],[]⟩), (23, ⟨[(40, .bool)],[]⟩), (33, ⟨[(45, .int .i64)],[]⟩), (40, ⟨[],[]⟩), (44, ⟨[(55, .bool)],[]⟩), (52, ⟨[(3, .slice)],[]⟩), (54, ⟨[(79, .bool)],[]⟩), (63, ⟨[(3, .slice)],[]⟩), (65, ⟨[(101, .bool)],[]⟩), (78, ⟨[(10, .str), (109, .int .i64)],[]⟩), (89, ⟨[(10, .str)],[]⟩)] [.l (.str a)] h
theorem q_lexer_escape (a : OA) (w : World) (R : EW) (h :
 CP 151 #[.pointer a, .int .i64 0] w (fun b c => ∃ d, b = .returned (.int .i32 d) /\ True /\ ∃ e, a = some e /\ ∃ f, c.cell? (e.add 1) = some (.int .i64 f) /\ ∃ g, a = some g /\ Off c (g.add 1) 1 [] /\ True /\ (let i := (c.setCell (g.add 1) (.int .i64 (IntKind.i64.wrap (f + 1))));
 ∀ j : Bool -> World -> Prop, (∀ k : Bool, ∀ l : World,
 (((k = true ->
 R (.returned (.tuple #[.int .i32 d, .bool true])) l) /\
 (k = false ->
 (((d == 98) = true ->
 R (.returned (.tuple #[.int .i32 8, .bool true])) l) /\
 ((d == 98) = false ->
 (((d == 102) = true ->
 R (.returned (.tuple #[.int .i32 12, .bool true])) l) /\
 ((d == 102) = false ->
 (((d == 110) = true ->
 R (.returned (.tuple #[.int .i32 10, .bool true])) l) /\
 ((d == 110) = false ->
 (((d == 114) = true ->
 R (.returned (.tuple #[.int .i32 13, .bool true])) l) /\
 ((d == 114) = false ->
 (((d == 116) = true ->
 R (.returned (.tuple #[.int .i32 9, .bool true])) l) /\
 ((d == 116) = false ->
 (((d == 117) = true ->
 CP 151 #[.pointer a, .int .i64 0] l (fun m n => ∃ o, m = .returned (.int .i32 o) /\ True /\ (((o == 123) = true ->
 ∃ p, a = some p /\ Off n (p.add 3) 1 [] /\ True /\ (let q := (n.setCell (p.add 3) (.bool false));
 R (.returned (.tuple #[.int .i32 0, .bool false])) q)) /\
 ((o == 123) = false ->
 ∃ (r : Int -> Int -> World -> Prop) (s : Int -> Int -> World -> Nat), r 0 0 n /\
 (∀ t : Int, ∀ u : Int, ∀ v : World, r t u v ->
 (((decide (u < 4)) = true ->
 CP 151 #[.pointer a, .int .i64 0] v (fun x y => ∃ z, x = .returned (.int .i32 z) /\ True /\ CP 162 #[.int .i32 z] y (fun A B => ∃ C, A = .returned (.int .i64 C) /\ True /\ (((decide (C < 0)) = true ->
 R (.returned (.tuple #[.int .i32 0, .bool false])) B) /\
 ((decide (C < 0)) = false ->
 ∃ D, a = some D /\ ∃ E, B.cell? (D.add 1) = some (.int .i64 E) /\ ∃ F, a = some F /\ Off B (F.add 1) 1 [] /\ True /\ (let G := (B.setCell (F.add 1) (.int .i64 (IntKind.i64.wrap (E + 1))));
 (r (IntKind.i64.wrap ((IntKind.i64.wrap (16 * t)) + C)) (IntKind.i64.wrap (u + 1)) G /\ s (IntKind.i64.wrap ((IntKind.i64.wrap (16 * t)) + C)) (IntKind.i64.wrap (u + 1)) G < s t u v))))))) /\
 ((decide (u < 4)) = false ->
 ∀ H : World -> Prop, (∀ I : World,
 (R (.returned (.tuple #[(.int .i32 (IntKind.i32.wrap t)), .bool true])) I) ->
 H I) ->
 ∀ J : Bool -> World -> Prop, (∀ K : Bool, ∀ L : World,
 (((K = true ->
 ∃ M, a = some M /\ Off L (M.add 3) 1 [] /\ True /\ (let N := (L.setCell (M.add 3) (.bool false));
 H N)) /\
 (K = false ->
 H L))) ->
 J K L) ->
 (((decide (t ≥ 55296)) = true -> J (decide (t < 57344)) v) /\ ((decide (t ≥ 55296)) = false -> J false v))))))))) /\
 ((d == 117) = false ->
 R (.returned (.tuple #[.int .i32 0, .bool false])) l))))))))))))))) ->
 j k l) ->
 (((d == 34) = true ->
 j true i) /\
 ((d == 34) = false ->
 (((d == 92) = true ->
 j true i) /\
 ((d == 92) = false ->
 j (d == 47) i))))))) : CP 159 #[.pointer a] w R :=
 vcq Tryz.func159 [] [(10, ⟨[(17, .bool)],[]⟩), (77, ⟨[(5, .int .i64), (40, .int .i64)],[]⟩), (100, ⟨[],[]⟩), (101, ⟨[(64, .bool)],[]⟩)] [.l (.optr a)] h
theorem q_Lines (a : BA) (w : World) (R : EW) (h :
 (let b := w.alloc (.cells #[] 9);
 ∃ (c : OA -> Nat -> Nat -> Int -> Int -> World -> Prop) (d : OA -> Nat -> Nat -> Int -> Int -> World -> Nat), c (some (adr w.heap.size)) 0 0 0 0 b /\
 (∀ (e : OA) (f g : Nat), ∀ i : Int, ∀ j : Int, ∀ k : World, c e f g i j k ->
 (((decide (j < (a.size : Int))) = true ->
 ∀ l : OA -> Nat -> Nat -> Int -> Int -> World -> Prop, (∀ (m : OA) (n o : Nat), ∀ p : Int, ∀ q : Int, ∀ r : World,
 ((c m n o p (IntKind.i64.wrap (q + 1)) r /\ d m n o p (IntKind.i64.wrap (q + 1)) r < d e f g i j k)) ->
 l m n o p q r) ->
 ∀ s : Bool -> World -> Prop, (∀ t : Bool, ∀ u : World,
 (((t = true ->
 l e f g i j u) /\
 (t = false ->
 (0 <= i /\ i <= j /\ j <= (a.size : Int)) /\ True /\ (let v := u.alloc (.cells #[(.string (a.extract i.toNat j.toNat))] 9);
 ∃ x y z, ∃ A, (Go.builtin .append #[71, 71] 71 #[false, false] #[.slice e f g, (.slice (some (adr u.heap.size)) 1 1)]).run Tryz.prog v = .ok (.value (.slice x y z)) A /\ True /\ ∀ B : Int -> World -> Prop, (∀ C : Int, ∀ D : World,
 (l x y z (IntKind.i64.wrap (C + 1)) C D) ->
 B C D) ->
 ∀ E : Bool -> World -> Prop, (∀ F : Bool, ∀ G : World,
 (((F = true ->
 B (IntKind.i64.wrap (j + 1)) G) /\
 (F = false ->
 B j G))) ->
 E F G) ->
 (0 <= j /\ j < (a.size : Int)) /\ ((((sget a j) == 13) = true -> (((decide ((IntKind.i64.wrap (j + 1)) < (a.size : Int))) = true -> (0 <= (IntKind.i64.wrap (j + 1)) /\ (IntKind.i64.wrap (j + 1)) < (a.size : Int)) /\ E ((sget a (IntKind.i64.wrap (j + 1))) == 10) A) /\ ((decide ((IntKind.i64.wrap (j + 1)) < (a.size : Int))) = false -> E false A))) /\ (((sget a j) == 13) = false -> E false A)))))) ->
 s t u) ->
 (0 <= j /\ j < (a.size : Int)) /\ ((((sget a j) != 10) = true -> (0 <= j /\ j < (a.size : Int)) /\ s ((sget a j) != 13) k) /\ (((sget a j) != 10) = false -> s false k))) /\
 ((decide (j < (a.size : Int))) = false ->
 (0 <= i /\ i <= (a.size : Int) /\ (a.size : Int) <= (a.size : Int)) /\ True /\ (let H := k.alloc (.cells #[(.string (a.extract i.toNat (a.size : Int).toNat))] 9);
 ∃ I J K, ∃ L, (Go.builtin .append #[71, 71] 71 #[false, false] #[.slice e f g, (.slice (some (adr k.heap.size)) 1 1)]).run Tryz.prog H = .ok (.value (.slice I J K)) L /\ True /\ R (.returned (.slice I J K)) L)))))) : CP 160 #[.string a] w R :=
 vcq Tryz.func160 [] [(10, ⟨[(3, .slice), (4, .int .i64), (5, .int .i64)],[]⟩), (17, ⟨[(3, .slice), (4, .int .i64), (5, .int .i64)],[]⟩), (20, ⟨[(22, .bool)],[]⟩), (27, ⟨[(5, .int .i64)],[]⟩), (28, ⟨[(47, .bool)],[]⟩)] [.l (.str a)] h
theorem q_leading (a : BA) (w : World) (R : EW) (h :
 ∃ (b : Int -> World -> Prop) (c : Int -> World -> Nat), b 0 w /\
 (∀ d : Int, ∀ e : World, b d e ->
 ∀ f : Bool -> World -> Prop, (∀ g : Bool, ∀ i : World,
 (((g = true ->
 (b (IntKind.i64.wrap (d + 1)) i /\ c (IntKind.i64.wrap (d + 1)) i < c d e)) /\
 (g = false ->
 R (.returned (.int .i64 d)) i))) ->
 f g i) ->
 (((decide (d < (a.size : Int))) = true -> (0 <= d /\ d < (a.size : Int)) /\ ((((sget a d) == 32) = false -> (0 <= d /\ d < (a.size : Int)) /\ f ((sget a d) == 9) e) /\ (((sget a d) == 32) = true -> f true e))) /\ ((decide (d < (a.size : Int))) = false -> f false e)))) : CP 161 #[.string a] w R :=
 vcq Tryz.func161 [] [(6, ⟨[(3, .int .i64)],[]⟩), (8, ⟨[(19, .bool)],[]⟩)] [.l (.str a)] h
theorem q_Hex (a : Int) (w : World) (R : EW) (h :
 CP 91 #[.int .i32 a] w (fun b c => ∃ d, b = .returned (.bool d) /\ True /\ ((d = true ->
 R (.returned (.int .i64 (IntKind.i64.wrap (IntKind.i32.wrap (a - 48))))) c) /\
 (d = false ->
 ∀ e : Bool -> World -> Prop, (∀ f : Bool, ∀ g : World,
 (((f = true ->
 R (.returned (.int .i64 (IntKind.i64.wrap ((IntKind.i64.wrap (IntKind.i32.wrap (a - 97))) + 10)))) g) /\
 (f = false ->
 ∀ i : Bool -> World -> Prop, (∀ j : Bool, ∀ k : World,
 (((j = true ->
 R (.returned (.int .i64 (IntKind.i64.wrap ((IntKind.i64.wrap (IntKind.i32.wrap (a - 65))) + 10)))) k) /\
 (j = false ->
 R (.returned (.int .i64 (-1 : Int))) k))) ->
 i j k) ->
 (((decide (a ≥ 65)) = true -> i (decide (a <= 70)) g) /\ ((decide (a ≥ 65)) = false -> i false g))))) ->
 e f g) ->
 (((decide (a ≥ 97)) = true -> e (decide (a <= 102)) c) /\ ((decide (a ≥ 97)) = false -> e false c)))))) : CP 162 #[.int .i32 a] w R :=
 vcq Tryz.func162 [] [(10, ⟨[(9, .bool)],[]⟩), (16, ⟨[(20, .bool)],[]⟩)] [.l (.int .i32 a)] h
theorem q_FitsVal (a : Int) (b : BA) (c : OA) (d e : Nat) (f : Bool) (g : Int) (w : World) (R : EW) (h :
 True /\ (let i := w.alloc (.cells #[.int .i64 a, .string b, .slice c d e] 144);
 ∀ j : Bool -> World -> Prop, (∀ k : Bool, ∀ l : World,
 (((k = true ->
 R (.returned (.bool false)) l) /\
 (k = false ->
 (((a == 0) = true ->
 ∀ m : Bool -> World -> Prop, (∀ n : Bool, ∀ o : World,
 (R (.returned (.bool n)) o) ->
 m n o) ->
 (((!f) = true -> CP 54 #[.string b] l (fun p q => ∃ r, p = .returned (.bool r) /\ (KeepT 144 l q /\ True) /\ m r q)) /\ ((!f) = false -> m false l))) /\
 ((a == 0) = false ->
 ∀ s : Bool -> World -> Prop, (∀ t : Bool, ∀ u : World,
 (((t = true ->
 CP 122 #[.string b, (.bool (a == 2))] u (fun v x => ∃ y, v = .returned (.bool y) /\ (KeepT 144 u x /\ True) /\ R (.returned (.bool y)) x)) /\
 (t = false ->
 (((a == 3) = true ->
 CP 123 #[.string b] u (fun z A => ∃ B, z = .returned (.bool B) /\ (KeepT 144 u A /\ True) /\ R (.returned (.bool B)) A)) /\
 ((a == 3) = false ->
 (((a == 4) = true ->
 CP 107 #[.string b] u (fun C D => ∃ E, C = .returned (.bool E) /\ (KeepT 144 u D /\ True) /\ R (.returned (.bool E)) D)) /\
 ((a == 4) = false ->
 ∀ F : Bool -> World -> Prop, (∀ G : Bool, ∀ H : World,
 (((G = true ->
 ∀ I : Bool -> World -> Prop, (∀ J : Bool, ∀ K : World,
 (R (.returned (.bool J)) K) ->
 I J K) ->
 ∀ L, L = H.drew -> CP 54 #[.string b] L (fun M N => ∃ O, M = .returned (.bool O) /\ (KeepT 144 L N /\ True) /\ True /\ ((O = true -> CP 109 #[.string b] N (fun P Q => ∃ S, P = .returned (.int .i64 S) /\ (KeepT 144 N Q /\ True) /\ ((0 = 0) /\ True) /\ True /\ I (S == a) Q)) /\ (O = false -> True /\ I false N)))) /\
 (G = false ->
 ∀ U : Bool -> World -> Prop, (∀ V : Bool, ∀ W : World,
 (((V = true ->
 ∃ (X : Int -> World -> Prop) (Y : Int -> World -> Nat), X 0 W /\
 (∀ Z : Int, ∀ aa : World, X Z aa ->
 (((decide (Z < (d : Int))) = true ->
 ∃ ab, c = some ab /\ (0 <= Z /\ Z < (d : Int)) /\ ∃ ac, aa.cell? (ab.add (Z.toNat * 4)) = some (.string ac) /\ ∃ ad, aa.cell? ((ab.add (Z.toNat * 4)).add 1) = some (.int .i64 ad) /\ ∃ ae, aa.cell? ((ab.add (Z.toNat * 4)).add 2) = some (.string ae) /\ ∃ af ag ah, aa.cell? ((ab.add (Z.toNat * 4)).add 3) = some (.slice af ag ah) /\ True /\ (let ai := aa.alloc (.cells #[(.string (⟨#[]⟩ : BA)), .int .i64 0, (.string (⟨#[]⟩ : BA)), .slice none 0 0] 279);
 True /\ (let aj := aa.alloc (.cells #[.string ac, .int .i64 ad, .string ae, .slice af ag ah] 279);
 ∀ ak : Bool -> World -> Prop, (∀ al : Bool, ∀ am : World,
 (((al = true ->
 R (.returned (.bool false)) am) /\
 (al = false ->
 (X (IntKind.i64.wrap (Z + 1)) am /\ Y (IntKind.i64.wrap (Z + 1)) am < Y Z aa)))) ->
 ak al am) ->
 ∀ an, an = aj.drew -> CP 54 #[.string ac] an (fun ao ap => ∃ aq, ao = .returned (.bool aq) /\ (KeepT 144 an ap /\ KeepT 279 an ap /\ True) /\ ((0 = 0) /\ True) /\ (((!((a == 9) == aq)) = true -> ak true ap) /\ ((!((a == 9) == aq)) = false -> (((a == 8) = true -> (((!(ac.toList == (⟨#[]⟩ : BA).toList)) = true -> ak true ap) /\ ((!(ac.toList == (⟨#[]⟩ : BA).toList)) = false -> CP 112 #[(.agg #[.int .i64 ad, .string ae, .slice af ag ah]), .bool f, (.int .i64 (IntKind.i64.wrap (g - 1)))] ap (fun ar au => ∃ av, ar = .returned (.bool av) /\ (KeepT 144 ap au /\ KeepT 279 ap au /\ True) /\ True /\ ak (!av) au)))) /\ ((a == 8) = false -> CP 112 #[(.agg #[.int .i64 ad, .string ae, .slice af ag ah]), .bool f, (.int .i64 (IntKind.i64.wrap (g - 1)))] ap (fun ax ay => ∃ az, ax = .returned (.bool az) /\ (KeepT 144 ap ay /\ KeepT 279 ap ay /\ True) /\ True /\ ak (!az) ay))))))))) /\
 ((decide (Z < (d : Int))) = false ->
 R (.returned (.bool (b.toList == (⟨#[]⟩ : BA).toList))) aa)))) /\
 (V = false ->
 R (.returned (.bool false)) W))) ->
 U V W) ->
 (((a == 8) = true ->
 U true H) /\
 ((a == 8) = false ->
 U (a == 9) H))))) ->
 F G H) ->
 (((a == 5) = true ->
 F true u) /\
 ((a == 5) = false ->
 (((a == 6) = true ->
 F true u) /\
 ((a == 6) = false ->
 F (a == 7) u))))))))))) ->
 s t u) ->
 (((a == 1) = true ->
 s true l) /\
 ((a == 1) = false ->
 s (a == 2) l))))))) ->
 j k l) ->
 (((decide (g < 0)) = false -> (((decide (a < 8)) = true -> j (decide ((d : Int) > 0)) i) /\ ((decide (a < 8)) = false -> j false i))) /\ ((decide (g < 0)) = true -> j true i)))) : CP 112 #[(.agg #[.int .i64 a, .string b, .slice c d e]), .bool f, .int .i64 g] w R :=
 vcq Tryz.func112 [3, 8] [(3, ⟨[(21, .bool)],[]⟩), (17, ⟨[(6, .bool)],[]⟩), (20, ⟨[(33, .bool)],[]⟩), (42, ⟨[(52, .bool)],[]⟩), (53, ⟨[(6, .bool)],[]⟩), (56, ⟨[(67, .bool)],[]⟩), (67, ⟨[(73, .int .i64)],[]⟩), (78, ⟨[(102, .bool)],[]⟩)] [.agg [.int .i64 a, .str b, .slice c d e], .l (.bool f), .l (.int .i64 g)] h
end Go.VC
