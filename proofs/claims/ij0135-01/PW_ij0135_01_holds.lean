import PyProof.Rows.All
import Wide.All
import OpenK.AllK
import Wide.FinOn
import PySem.Challenge.RW_ij0135_01
open PySem PySem.W PyProof.Rows PySem.Calls
set_option Elab.async false
set_option linter.unusedVariables false
set_option compiler.extract_closed false
namespace Mine
noncomputable abbrev hp : Program := PySem.Challenge.pw_ij0135_01
section
local macro_rules | `(tactic| o_head $H) => `(tactic| assumption)
set_option maxRecDepth 100000 in
set_option maxHeartbeats 0 in
theorem hd0 : PySem.Challenge.rw_ij0135_01.row.Holds → PySem.Challenge.rw_ij0135_01.row.Holds := by
  intro hq
  k_head
end
noncomputable def viewQ : Program := { hp with main := { hp.main with body := ([0,1,2,4,5,6,8,9,10,11,12,13,14,15,17,18,19,20,22,23,25,27,28,29,30,32,33,34,35,36,37,38] : List Nat).filterMap fun i => hp.main.body[i]? } }
noncomputable abbrev pB : List Stmt := PySem.Challenge.rw_ij0135_01.row.prog.main.body
theorem lk1 : sreFenced PySem.Challenge.rw_ij0135_01.row.prog.main = true := by
  have h : @PySem.W.Fast.tw11788848310118352699 PySem.Challenge.rw_ij0135_01.row.prog.main = true := by kernel_rfl
  rw [← PySem.W.Fast.te11788848310118352699] at h
  exact h
theorem lk2 : ((moduleNames pB).isEmpty || lookedIntoSs (moduleNames pB) pB) = true := by
  have h : ((@PySem.W.Fast.tw9807087744658564304 pB).isEmpty || @PySem.W.Fast.tw12862048085361865435 (@PySem.W.Fast.tw9807087744658564304 pB) pB) = true := by kernel_rfl
  rw [← PySem.W.Fast.te9807087744658564304, ← PySem.W.Fast.te12862048085361865435] at h
  exact h
theorem lk3 : namesResolve PySem.Challenge.rw_ij0135_01.row.prog = true := by
  have h : @PySem.W.Fast.tw8377067652309620493 PySem.Challenge.rw_ij0135_01.row.prog = true := by kernel_rfl
  rw [← PySem.W.Fast.te8377067652309620493] at h
  exact h
theorem lk4 : (PySem.Challenge.rw_ij0135_01.row.prog.boundNames.all fun n => !worldNames.contains n) = true := by
  kernel_rfl
theorem lk6 : namesMeet PySem.Challenge.rw_ij0135_01.row.prog pB (fun _ n => attrL n) = true := by
  have h : @PySem.W.Fast.tw17119622794617984870 PySem.Challenge.rw_ij0135_01.row.prog pB (fun _ n => attrL n) = true := by kernel_rfl
  rw [← PySem.W.Fast.te17119622794617984870] at h
  exact h
theorem lk5v : readsOut PySem.Challenge.rw_ij0135_01.row.prog pB (Str.ofString "vars") = false := by
  have h : @PySem.W.Fast.tw13343964577679436407 PySem.Challenge.rw_ij0135_01.row.prog pB (Str.ofString "vars") = false := by kernel_rfl
  rw [← PySem.W.Fast.te13343964577679436407] at h
  exact h
theorem lk5w : readsOut PySem.Challenge.rw_ij0135_01.row.prog pB (Str.ofString "dir") = false := by
  have h : @PySem.W.Fast.tw13343964577679436407 PySem.Challenge.rw_ij0135_01.row.prog pB (Str.ofString "dir") = false := by kernel_rfl
  rw [← PySem.W.Fast.te13343964577679436407] at h
  exact h
theorem lk5x : readsOut PySem.Challenge.rw_ij0135_01.row.prog pB (Str.ofString "locals") = false := by
  have h : @PySem.W.Fast.tw13343964577679436407 PySem.Challenge.rw_ij0135_01.row.prog pB (Str.ofString "locals") = false := by kernel_rfl
  rw [← PySem.W.Fast.te13343964577679436407] at h
  exact h
theorem lk5a : (["vars", "dir", "locals"] : List Str).filter (readsOut PySem.Challenge.rw_ij0135_01.row.prog pB) = [] := by
  show List.filter (readsOut PySem.Challenge.rw_ij0135_01.row.prog pB) [Str.ofString "vars", Str.ofString "dir", Str.ofString "locals"] = []
  rw [List.filter, lk5v, List.filter, lk5w, List.filter, lk5x, List.filter]
theorem lk5b : (!(importedModules pB).all cThrough.contains) = false := by kernel_rfl
theorem noRoad_app (lk : Look) : ∀ l r : List Stmt, noRoadLSs lk l = true → noRoadLSs lk r = true → noRoadLSs lk (l ++ r) = true
  | [], _, _, h => h
  | s :: l, r, h, k => by
    rw [noRoadLSs] at h
    obtain ⟨h1, h2⟩ := Bool.and_eq_true_iff.mp h
    rw [List.cons_append, noRoadLSs, h1, noRoad_app lk l r h2 k]
    rfl
theorem lk5c : noRoadLSs { strict := false, foot := none } (pB.take 15) = true := by
  have h : @PySem.W.Fast.tw8326940854005059898 { strict := false, foot := none } (pB.take 15) = true := by kernel_rfl
  rw [← PySem.W.Fast.te8326940854005059898] at h
  exact h
theorem lk5d : noRoadLSs { strict := false, foot := none } ((pB.drop 15).take 1) = true := by
  have h : @PySem.W.Fast.tw8326940854005059898 { strict := false, foot := none } ((pB.drop 15).take 1) = true := by kernel_rfl
  rw [← PySem.W.Fast.te8326940854005059898] at h
  exact h
theorem lk5e : noRoadLSs { strict := false, foot := none } (pB.drop 16) = true := by
  have h : @PySem.W.Fast.tw8326940854005059898 { strict := false, foot := none } (pB.drop 16) = true := by kernel_rfl
  rw [← PySem.W.Fast.te8326940854005059898] at h
  exact h
theorem lk5 : noRoadLSs { strict := !(importedModules pB).all cThrough.contains, foot := none, bare := (["vars", "dir", "locals"] : List Str).filter (readsOut PySem.Challenge.rw_ij0135_01.row.prog pB) } pB = true := by
  rw [lk5a, lk5b]
  have e : pB.take 15 ++ ((pB.drop 15).take 1 ++ pB.drop 16) = pB := by
    rw [show pB.drop 16 = (pB.drop 15).drop 1 by rw [List.drop_drop], List.take_append_drop, List.take_append_drop]
  have := noRoad_app _ _ _ lk5c (noRoad_app _ _ _ lk5d lk5e)
  rw [e] at this
  exact this
theorem lookSaid : looksOpen PySem.Challenge.rw_ij0135_01.row.prog = true := by
  unfold looksOpen
  exact look_both (look_both (look_both (look_both (look_both lk1 lk2) lk3) lk4) lk5) lk6
theorem rowSaid : PySem.Challenge.rw_ij0135_01.row.wellSaid = true := by
  unfold OpenRow.wellSaid OpenRow.partSaid
  repeat with_reducible refine look_both ?_ ?_
  · exact lookSaid
  all_goals kernel_rfl
theorem lawSaid : PySem.Challenge.rw_ij0135_01.wellSaid = true := by
  unfold OpenLaw.wellSaid
  repeat with_reducible refine look_both ?_ ?_
  · exact rowSaid
  all_goals kernel_rfl
noncomputable abbrev hEnv : Env := { scope := hp.main.scope, locals := mainNs, globals := mainNs, cells := [], code := .ref 36, frame := some 37 }
noncomputable abbrev hPos : Pos := { line := 0, col := 0, endLine := 0, endCol := 0 }
noncomputable abbrev hEnd : Pos := { line := 773, col := 0, endLine := 792, endCol := 72 }
noncomputable abbrev hC : Code := .body (behindTheImports hp) hEnv
noncomputable abbrev hB : List Frame := [topFrame hPos]
noncomputable def tImpE (w : World) : Option Shared := (@PySem.W.Fast.tw10274390034422433532 PySem.W.Fast.tw14364793385576792824 (opening hp) w 1200 (@PySem.W.Fast.tw1435165496053646825 (opening hp)).1 (@PySem.W.Fast.tw1435165496053646825 (opening hp)).2).bind (@PySem.W.Fast.tw14289696077712309145 hp)
noncomputable def hS0 (w : World) : Shared := (tImpE w).getD (start hp).1
noncomputable def hGo (w : World) : Option (Shared × Thread) := @PySem.W.Fast.tw15667345088766844465 PySem.W.Fast.tw14364793385576792824 hp w 34 (some (.ref 6)) 12 (hS0 w) (topStub hp)
noncomputable def hSa (w : World) : Shared := ((hGo w).map (·.1)).getD (start hp).1
noncomputable def treeF (l : List Obj) : Nat → Nat → Nat → BT
  | 0, _, _ => .nil
  | n + 1, a, b => match l[b]? with
    | some o => .node o (treeF l n (2 * a) (a + b)) (treeF l n (2 * a) (2 * a + b))
    | none => .nil
noncomputable def hSt (w : World) : SharedT := { tree := treeF (hSa w).heap.objs.toList 8 1 0, n := 38, life := (hSa w).heap.life, gens := #[], drawn := (hSa w).drawn, toks := 324, os := (hSa w).os }
noncomputable abbrev looseQ : List Str := [Str.ofString "_twin_re_1", Str.ofString "UnsupportedOperation", Str.ofString "IOBase", Str.ofString "BufferedIOBase", Str.ofString "TextIOBase", Str.ofString "BytesIO", Str.ofString "StringIO", Str.ofString "join_path", Str.ofString "shlex", Str.ofString "split", Str.ofString "join_shlex", Str.ofString "_find_unsafe"]
noncomputable abbrev recQ : WRecords := RowW.records PySem.Challenge.rw_ij0135_01.row.toRowW
set_option maxRecDepth 1000000 in
theorem hq1 : ∀ (w : World), (tImpE w).isSome = true := by
  intro w
  kernel_rfl
set_option maxRecDepth 1000000 in
theorem hq2 : ∀ (w : World), ((hS0 w).heap.isNs mainGlobals && (hS0 w).gens.size == 0, (hS0 w).heap.objs.size, @PySem.W.Fast.tw8920871248978507458 (hS0 w).heap mainGlobals "__annotations__") = (true, 34, some (.ref 6)) := by
  intro w
  kernel_rfl
set_option maxRecDepth 1000000 in
theorem hq3 : ∀ (w : World), (hGo w).map (·.2) = some ⟨@PySem.W.Fast.tw11892475500146522536 PySem.W.Fast.tw14364793385576792824 hC, hC, hPos, hB⟩ := by
  intro w
  kernel_rfl
set_option maxRecDepth 1000000 in
theorem hq4 : ∀ (w : World), (hSt w).abs = hSa w := by
  intro w
  kernel_rfl
theorem hq5 : ∀ (w : World) (S : Shared), segRun treeTable hp w 34 (some (.ref 6)) 1 1 S (blockOf (behindTheImports hp) hEnv hC hPos [topFrame hPos]) = some (.next, S, hC, hPos) := by
  intro w S
  kernel_rfl
theorem hq6 : ∀ (w : World) (S : Shared), topRun treeTable hp w 34 (some (.ref 6)) 2 S ⟨doneF .next, hC, hEnd, [topFrame hPos]⟩ = some S := by
  intro w S
  obtain ⟨heap, gens, drawn, toks, os⟩ := S
  kernel_rfl
theorem hi1 (w : World) : (importEnds treeTable (opening hp) w 1200 (start (opening hp)).1 (start (opening hp)).2).bind (fenceModules? hp) = some (hS0 w) := by
  have h : tImpE w = some (hS0 w) := by
    have e := hq1 w
    unfold hS0
    cases h : tImpE w with
    | none => rw [h] at e; cases e
    | some s => rfl
  unfold tImpE at h
  rw [← PySem.W.Fast.te14364793385576792824, ← PySem.W.Fast.te10274390034422433532, ← PySem.W.Fast.te1435165496053646825, ← PySem.W.Fast.te14289696077712309145] at h
  exact h
theorem hi2 (w : World) : (hS0 w).heap.isNs mainGlobals && (hS0 w).gens.size == 0 := by
  exact (Prod.mk.inj (hq2 w)).1
theorem hi3 (w : World) : (hS0 w).heap.objs.size = 34 := (Prod.mk.inj (Prod.mk.inj (hq2 w)).2).1
theorem hi4 (w : World) : (hS0 w).heap.nsMap mainGlobals "__annotations__" = some (.ref 6) := by
  have h := (Prod.mk.inj (Prod.mk.inj (hq2 w)).2).2
  rw [← PySem.W.Fast.te8920871248978507458] at h
  exact h
theorem hi5 (w : World) : topGo treeTable hp w 34 (some (.ref 6)) 12 (hS0 w) (topStub hp) = some (hSa w, ⟨denote treeTable hC, hC, hPos, hB⟩) := by
  obtain ⟨⟨x, t⟩, e, e'⟩ := Option.map_eq_some_iff.mp (hq3 w)
  have e2 : hSa w = x := by unfold hSa; rw [e]; rfl
  have e3 : t = ⟨@PySem.W.Fast.tw11892475500146522536 PySem.W.Fast.tw14364793385576792824 hC, hC, hPos, hB⟩ := e'
  rw [e2]
  rw [e3] at e
  unfold hGo at e
  rw [← PySem.W.Fast.te14364793385576792824, ← PySem.W.Fast.te15667345088766844465, ← PySem.W.Fast.te11892475500146522536] at e
  exact e
theorem left_of {p q : Program} {loose : List Str} {Xt : Shared → Bool} {α : Type} {Yf : Shared → α} {a : α} {w : World} {S₀ S : Shared} {m₀ : Nat} {ann : Option Value}
    (i : (importEnds treeTable (opening p) w 1200 (start (opening p)).1 (start (opening p)).2).bind (fenceModules? p) = some S₀)
    (z1 : (S₀.heap.isNs mainGlobals && S₀.gens.size == 0) = true) (z2 : S₀.heap.objs.size = m₀) (z3 : S₀.heap.nsMap mainGlobals "__annotations__" = ann)
    (r : topRun treeTable p w m₀ ann 10492 S₀ (topStub p) = some S)
    (l1 : (staticsOk (importedModules p.main.body) S₀.heap S.heap && namesBound p S.heap && gensDone S && laidKept S₀.heap S.heap) = true)
    (l2 : openSeen q loose (importedModules p.main.body) Xt true S = openGood q loose) (l3 : Yf S = a) :
    (openEnds treeTable p w 10492).map (fun s => (openSeen q loose (importedModules p.main.body) Xt true s, Yf s)) = some (openGood q loose, a) := by
  obtain ⟨I, i1, i2⟩ := Option.bind_eq_some_iff.mp i
  have i3 := importEnds_mono 9292 _ _ _ _ i1
  have t : topFrom treeTable p w 10492 S₀ = some S := by
    unfold topFrom
    rw [z1, z2, z3, r]
    show (match staticsOk (importedModules p.main.body) S₀.heap S.heap && namesBound p S.heap && gensDone S && laidKept S₀.heap S.heap with | true => _ | false => _) = _
    rw [l1]
  have fo : fencedOpening treeTable p w 10492 = some S₀ := by
    unfold fencedOpening
    rw [show (10492 : Nat) = 1200 + 9292 from rfl, i3]
    exact i2
  unfold openEnds
  rw [fo]
  show (topFrom treeTable p w 10492 _).map _ = _
  rw [t]
  exact congrArg some (Prod.ext l2 l3)
noncomputable def treeA (f : Nat → Obj) (n : Nat) : Nat → Nat → Nat → BT
  | 0, _, _ => .nil
  | d + 1, a, b => match Nat.blt b n with
    | true => .node (f b) (treeA f n d (2 * a) (a + b)) (treeA f n d (2 * a) (2 * a + b))
    | false => .nil
theorem treeA_get (f : Nat → Obj) (n : Nat) : ∀ d a b i, b + a * i < n → i + 1 < 2 ^ d → (treeA f n d a b).get i = some (f (b + a * i))
  | 0, a, b, i, _, h => by rw [Nat.pow_zero] at h; omega
  | d + 1, a, b, i, h, hd => by
    have hb : Nat.blt b n = true := Nat.ble_eq_true_of_le (Nat.lt_of_le_of_lt (Nat.le_add_right _ _) h)
    show (match Nat.blt b n with | true => BT.node (f b) (treeA f n d (2 * a) (a + b)) (treeA f n d (2 * a) (2 * a + b)) | false => .nil).get i = _
    rw [hb]
    show (BT.node (f b) (treeA f n d (2 * a) (a + b)) (treeA f n d (2 * a) (2 * a + b))).get i = _
    rw [BT.get_node]
    rw [Nat.pow_succ] at hd
    by_cases h0 : i = 0
    · subst h0; rw [if_pos rfl, Nat.mul_zero, Nat.add_zero]
    · rw [if_neg h0]
      by_cases h1 : i % 2 = 1
      · rw [if_pos h1]
        obtain ⟨k, hk⟩ : ∃ k, i = 2 * k + 1 := ⟨i / 2, by omega⟩
        have e : (a + b) + 2 * a * (i / 2) = b + a * i := by
          subst hk
          rw [show (2 * k + 1) / 2 = k by omega, Nat.mul_add, Nat.mul_one, Nat.mul_left_comm, Nat.mul_assoc]
          omega
        rw [treeA_get f n d (2 * a) (a + b) (i / 2) (by rw [e]; exact h) (by omega), e]
      · rw [if_neg h1]
        obtain ⟨k, hk⟩ : ∃ k, i = 2 * k + 2 := ⟨i / 2 - 1, by omega⟩
        have e : (2 * a + b) + 2 * a * (i / 2 - 1) = b + a * i := by
          subst hk
          rw [show (2 * k + 2) / 2 - 1 = k by omega, Nat.mul_add, Nat.mul_left_comm a 2 k, Nat.mul_assoc 2 a k]
          omega
        rw [treeA_get f n d (2 * a) (2 * a + b) (i / 2 - 1) (by rw [e]; exact h) (by omega), e]
noncomputable def midT (R : SharedT) (n toks : Nat) (ps : List (Nat × Obj)) : SharedT :=
  { tree := ps.foldl (fun t p => t.set p.1 fun _ => p.2) (treeA (fun i => (R.tree.get i).getD default) n 10 1 0), n := n, life := R.life, gens := #[], drawn := R.drawn, toks := toks, os := R.os }
theorem sets_at {g : Nat → Obj} {n : Nat} : ∀ (ps : List (Nat × Obj)) (t : BT), (∀ i, i < n → (t.get i).getD default = g i) → (∀ p ∈ ps, p.2 = g p.1) →
    ∀ i, i < n → ((ps.foldl (fun t p => t.set p.1 fun _ => p.2) t).get i).getD default = g i
  | [], _, ht, _ => ht
  | p :: ps, t, ht, hp => sets_at ps (t.set p.1 fun _ => p.2) (fun i hi => by
      rw [BT.get_set]
      by_cases e : i = p.1
      · rw [if_pos e]
        have := ht i hi
        subst e
        cases h : t.get p.1 with
        | none => rw [h] at this; exact this
        | some o => exact hp p List.mem_cons_self
      · rw [if_neg e]; exact ht i hi) (fun q hq => hp q (List.mem_cons_of_mem _ hq))
theorem midT_abs {R : SharedT} {n toks : Nat} {ps : List (Nat × Obj)} (h1 : R.n = n) (h2 : R.toks = toks) (h3 : R.gens = #[]) (hn : n ≤ 1022) (h4 : ps.map (fun p => R.tree.get p.1) = ps.map (fun p => some p.2)) : (midT R n toks ps).abs = R.abs := by
  obtain ⟨T, n', life, gens, drawn, toks', os⟩ := R
  dsimp only at h1 h2 h3 h4
  subst h1 h2 h3
  show Shared.mk (absHeap _ n' life) #[] drawn toks' os = Shared.mk (absHeap T n' life) #[] drawn toks' os
  have e : (ps.foldl (fun t p => t.set p.1 fun _ => p.2) (treeA (fun i => (T.get i).getD default) n' 10 1 0)).list n' = T.list n' := by
    unfold BT.list
    refine List.map_congr_left fun i hi => ?_
    have hi := List.mem_range.mp hi
    refine sets_at (g := fun i => (T.get i).getD default) (n := n') ps _ (fun i hi => ?_) (fun p hp => ?_) i hi
    · rw [treeA_get _ _ 10 1 0 i (by omega) (by omega)]
      show (T.get (0 + 1 * i)).getD default = _
      rw [Nat.zero_add, Nat.one_mul]
    · have := List.map_inj_left.mp h4 p hp
      rw [this]; rfl
  unfold absHeap
  rw [show (midT ⟨T, n', life, #[], drawn, toks', os⟩ n' toks' ps).tree = ps.foldl (fun t p => t.set p.1 fun _ => p.2) (treeA (fun i => (T.get i).getD default) n' 10 1 0) from rfl, e]
theorem mid_gen {run : Option (Flow × SharedT × Code × Pos)} {d : SharedT} {ps : List (Nat × Obj)} {c : Code} {q : Pos} {n k : Nat} (hn : n ≤ 1022)
    (h : run.map (fun x => (x.1, x.2.2.1, x.2.2.2, x.2.1.n, x.2.1.toks, x.2.1.gens, ps.map (fun p => x.2.1.tree.get p.1))) = some (.next, c, q, n, k, #[], ps.map fun p => some p.2)) :
    ∃ R, run = some (.next, R, c, q) ∧ (midT ((run.map (·.2.1)).getD d) n k ps).abs = R.abs := by
  obtain ⟨⟨f, R, c', q'⟩, e, e'⟩ := Option.map_eq_some_iff.mp h
  obtain ⟨h1, e'⟩ := Prod.mk.inj e'
  obtain ⟨h2, e'⟩ := Prod.mk.inj e'
  obtain ⟨h3, e'⟩ := Prod.mk.inj e'
  obtain ⟨h4, e'⟩ := Prod.mk.inj e'
  obtain ⟨h5, e'⟩ := Prod.mk.inj e'
  obtain ⟨h6, h7⟩ := Prod.mk.inj e'
  dsimp only at h1 h2 h3 h4 h5 h6 h7
  subst h1 h2 h3
  refine ⟨R, e, ?_⟩
  rw [e]
  exact midT_abs h4 h5 h6 hn h7
theorem piece_cut {p : Program} {w : World} {env : Env} {m₀ : Nat} {ann : Option Value} {M R M' : SharedT} {L : List Stmt} {c : Code} {r : Shared} {q pos p' : Pos} {n N : Nat} (a k : Nat)
    (e : segRunT treeTable p w m₀ ann 1 n M (piecesOf ((L.drop a).take k) env c pos [topFrame q]) = some (.next, R, c, p')) (m : M'.abs = R.abs)
    (K : topRun treeTable p w m₀ ann N M'.abs (restOf (L.drop (a + k)) env c p' [topFrame q]) = some r) : topRun treeTable p w m₀ ann (n + N) M.abs (restOf (L.drop a) env c pos [topFrame q]) = some r := by
  rw [m, ← List.drop_drop] at K
  have x := piece_app (segRun_of e) K
  rw [List.take_append_drop] at x
  exact x
theorem left_run {p : Program} {w : World} {env : Env} {S₀ Sa r : Shared} {St : SharedT} {m₀ N : Nat} {ann : Option Value} {pos : Pos}
    (h1 : topGo treeTable p w m₀ ann 12 S₀ (topStub p) = some (Sa, ⟨denote treeTable (.body (behindTheImports p) env), .body (behindTheImports p) env, pos, [topFrame pos]⟩))
    (h2 : ∀ S, segRun treeTable p w m₀ ann 1 1 S (blockOf (behindTheImports p) env (.body (behindTheImports p) env) pos [topFrame pos]) = some (.next, S, .body (behindTheImports p) env, pos))
    (h3 : St.abs = Sa) (K : topRun treeTable p w m₀ ann N St.abs (restOf ((behindTheImports p).drop 0) env (.body (behindTheImports p) env) pos [topFrame pos]) = some r) : topRun treeTable p w m₀ ann (12 + (1 + N)) S₀ (topStub p) = some r := by
  rw [h3] at K
  exact go_top h1 (piece_block (h2 Sa) K)
noncomputable def atT (S : SharedT) (a : Addr) : Option Obj := if a < S.n then alive ((S.tree.get a).getD default) else none
theorem atT_eq (S : SharedT) (a : Addr) : S.abs.heap.get? a = atT S a := by
  show (absHeap S.tree S.n S.life).get? a = _
  unfold Heap.get? atT
  by_cases h : a < S.n
  · rw [absHeap_at, if_pos h, if_pos h]
    generalize (S.tree.get a).getD default = o
    obtain ⟨c, d, dt, sl⟩ := o
    cases dt <;> rfl
  · rw [absHeap_at, if_neg h, if_neg h]
noncomputable abbrev xtQ : Shared → Bool := fun s => xlAt viewQ [] s && recOk recQ s
noncomputable abbrev pzT : Obj := { cls := .none, data := .fields #[] }
noncomputable def keepK (n : Nat) (L : List Nat) : List (Nat × Obj) → List (Nat × Obj)
  | [] => []
  | p :: r => match Nat.blt p.1 n && !(L.any (Nat.beq p.1)) with
    | true => p :: keepK n L r
    | false => keepK n L r
noncomputable def pz2E (P : Params) : Obj := { cls := Value.none, data := Data.dict #[{ hash := PyData.keyHash P ({ cps := #[105, 109, 112, 111, 114, 116, 46, 108, 111, 97, 100, 101, 100, 46, 95, 115, 114, 101] }), key := Value.str ({ cps := #[105, 109, 112, 111, 114, 116, 46, 108, 111, 97, 100, 101, 100, 46, 95, 115, 114, 101] }) 183, val := Value.bool true }, { hash := PyData.keyHash P (Str.ofString "class._frozen_importlib.BuiltinImporter"), key := Value.str (Str.ofString "class._frozen_importlib.BuiltinImporter") 185, val := Value.ref 14 }, { hash := PyData.keyHash P ({ cps := #[119, 97, 116, 99, 104, 101, 100, 46, 105, 109, 112, 111, 114, 116] }), key := Value.str ({ cps := #[119, 97, 116, 99, 104, 101, 100, 46, 105, 109, 112, 111, 114, 116] }) 206, val := Value.ref 18 }, { hash := PyData.keyHash P (Str.ofString "class._frozen_importlib.ModuleSpec"), key := Value.str (Str.ofString "class._frozen_importlib.ModuleSpec") 216, val := Value.ref 22 }, { hash := PyData.keyHash P (Str.ofString "sys.modules.booked-epoch"), key := Value.str (Str.ofString "sys.modules.booked-epoch") 245, val := Value.int 4 0 }, { hash := PyData.keyHash P ({ cps := #[105, 109, 112, 111, 114, 116, 46, 108, 97, 116, 101, 114, 45, 108, 97, 105, 100, 46, 95, 115, 114, 101] }), key := Value.str ({ cps := #[105, 109, 112, 111, 114, 116, 46, 108, 97, 116, 101, 114, 45, 108, 97, 105, 100, 46, 95, 115, 114, 101] }) 270, val := Value.bool true }, { hash := PyData.keyHash P (Str.ofString "watched.library"), key := Value.str (Str.ofString "watched.library") 272, val := Value.ref 27 }, { hash := PyData.keyHash P (Str.ofString "watched.library-objects"), key := Value.str (Str.ofString "watched.library-objects") 0, val := Value.str (Str.ofString "\x0c\x1e") 0 }, { hash := PyData.keyHash P (Str.ofString "watched.library-deep._sre"), key := Value.str (Str.ofString "watched.library-deep._sre") 273, val := Value.str (Str.ofString "\x04\x00\x00\x0b\x04\x00\x00\x0b\x04\x00\x00\x03\x04\x00\x00\x0b\x08\x04dict\x02") 0 }, { hash := PyData.keyHash P ({ cps := #[105, 109, 112, 111, 114, 116, 46, 108, 111, 97, 100, 101, 100, 46, 95, 99, 111, 108, 108, 101, 99, 116, 105, 111, 110, 115] }), key := Value.str ({ cps := #[105, 109, 112, 111, 114, 116, 46, 108, 111, 97, 100, 101, 100, 46, 95, 99, 111, 108, 108, 101, 99, 116, 105, 111, 110, 115] }) 280, val := Value.bool true }, { hash := PyData.keyHash P (Str.ofString "sys.modules.landed._collections"), key := Value.str (Str.ofString "sys.modules.landed._collections") 294, val := Value.bool true }, { hash := PyData.keyHash P ({ cps := #[105, 109, 112, 111, 114, 116, 46, 108, 97, 116, 101, 114, 45, 108, 97, 105, 100, 46, 95, 99, 111, 108, 108, 101, 99, 116, 105, 111, 110, 115] }), key := Value.str ({ cps := #[105, 109, 112, 111, 114, 116, 46, 108, 97, 116, 101, 114, 45, 108, 97, 105, 100, 46, 95, 99, 111, 108, 108, 101, 99, 116, 105, 111, 110, 115] }) 309, val := Value.bool true }, { hash := PyData.keyHash P (Str.ofString "watched.library-deep._collections"), key := Value.str (Str.ofString "watched.library-deep._collections") 311, val := Value.str (Str.ofString "\x04\x00\x00\x1d\x04\x00\x00\x1d\x04\x00\x00\x03\x04\x00\x00\x1d\x08\x04dict\x02") 0 }] 13 }
noncomputable def pz3E (P : Params) : Obj := { cls := Value.type "dict", data := Data.dict #[{ hash := PyData.keyHash P (Str.ofString "__name__"), key := Value.str (Str.ofString "__name__") 165, val := Value.str (Str.ofString "cpy313.enum") 331 }, { hash := PyData.keyHash P (Str.ofString "__doc__"), key := Value.str (Str.ofString "__doc__") 166, val := Value.none }, { hash := PyData.keyHash P (Str.ofString "__package__"), key := Value.str (Str.ofString "__package__") 167, val := Value.none }, { hash := PyData.keyHash P (Str.ofString "__loader__"), key := Value.str (Str.ofString "__loader__") 168, val := Value.builtin "__main__.__loader__#opaque" }, { hash := PyData.keyHash P (Str.ofString "__spec__"), key := Value.str (Str.ofString "__spec__") 169, val := Value.none }, { hash := PyData.keyHash P (Str.ofString "__annotations__"), key := Value.str (Str.ofString "__annotations__") 170, val := Value.ref 6 }, { hash := PyData.keyHash P (Str.ofString "__builtins__"), key := Value.str (Str.ofString "__builtins__") 171, val := Value.ref 4 }, { hash := PyData.keyHash P (Str.ofString "__file__"), key := Value.str (Str.ofString "__file__") 173, val := Value.str (Str.ofString "/claim/cut.py") 172 }, { hash := PyData.keyHash P (Str.ofString "__cached__"), key := Value.str (Str.ofString "__cached__") 174, val := Value.none }, { hash := PyData.keyHash P (Str.ofString "_sre"), key := Value.str (Str.ofString "_sre") 275, val := Value.ref 12 }, { hash := PyData.keyHash P (Str.ofString "deque"), key := Value.str (Str.ofString "deque") 317, val := Value.type "collections.deque" }, { hash := PyData.keyHash P (Str.ofString "_wall"), key := Value.str (Str.ofString "_wall") 330, val := Value.ref 44 }, { hash := PyData.keyHash P (Str.ofString "_is_dunder"), key := Value.str (Str.ofString "_is_dunder") 339, val := Value.ref 51 }, { hash := PyData.keyHash P (Str.ofString "_is_sunder"), key := Value.str (Str.ofString "_is_sunder") 346, val := Value.ref 58 }, { hash := PyData.keyHash P (Str.ofString "_twin_re_1"), key := Value.str (Str.ofString "_twin_re_1") 386, val := Value.ref 63 }] 15 }
noncomputable def pz0E (P : Params) : Obj := { cls := Value.type "dict", data := Data.dict #[{ hash := PyData.keyHash P (Str.ofString "__name__"), key := Value.str (Str.ofString "__name__") 1, val := Value.str (Str.ofString "builtins") 160 }, { hash := PyData.keyHash P (Str.ofString "__doc__"), key := Value.str (Str.ofString "__doc__") 2, val := Value.builtin "builtins.__doc__:str#opaque" }, { hash := PyData.keyHash P (Str.ofString "__package__"), key := Value.str (Str.ofString "__package__") 3, val := Value.builtin "builtins.__package__:str#opaque" }, { hash := PyData.keyHash P (Str.ofString "__loader__"), key := Value.str (Str.ofString "__loader__") 4, val := Value.builtin "builtins.__loader__:shared#opaque" }, { hash := PyData.keyHash P (Str.ofString "__spec__"), key := Value.str (Str.ofString "__spec__") 5, val := Value.builtin "builtins.__spec__#opaque" }, { hash := PyData.keyHash P (Str.ofString "__build_class__"), key := Value.str (Str.ofString "__build_class__") 6, val := Value.builtin "__build_class__" }, { hash := PyData.keyHash P (Str.ofString "__import__"), key := Value.str (Str.ofString "__import__") 7, val := Value.builtin "__import__" }, { hash := PyData.keyHash P (Str.ofString "abs"), key := Value.str (Str.ofString "abs") 8, val := Value.builtin "abs" }, { hash := PyData.keyHash P (Str.ofString "all"), key := Value.str (Str.ofString "all") 9, val := Value.builtin "all" }, { hash := PyData.keyHash P (Str.ofString "any"), key := Value.str (Str.ofString "any") 10, val := Value.builtin "any" }, { hash := PyData.keyHash P (Str.ofString "ascii"), key := Value.str (Str.ofString "ascii") 11, val := Value.builtin "ascii" }, { hash := PyData.keyHash P (Str.ofString "bin"), key := Value.str (Str.ofString "bin") 12, val := Value.builtin "bin" }, { hash := PyData.keyHash P (Str.ofString "breakpoint"), key := Value.str (Str.ofString "breakpoint") 13, val := Value.builtin "breakpoint" }, { hash := PyData.keyHash P (Str.ofString "callable"), key := Value.str (Str.ofString "callable") 14, val := Value.builtin "callable" }, { hash := PyData.keyHash P (Str.ofString "chr"), key := Value.str (Str.ofString "chr") 15, val := Value.builtin "chr" }, { hash := PyData.keyHash P (Str.ofString "compile"), key := Value.str (Str.ofString "compile") 16, val := Value.builtin "compile" }, { hash := PyData.keyHash P (Str.ofString "delattr"), key := Value.str (Str.ofString "delattr") 17, val := Value.builtin "delattr" }, { hash := PyData.keyHash P (Str.ofString "dir"), key := Value.str (Str.ofString "dir") 18, val := Value.builtin "dir" }, { hash := PyData.keyHash P (Str.ofString "divmod"), key := Value.str (Str.ofString "divmod") 19, val := Value.builtin "divmod" }, { hash := PyData.keyHash P (Str.ofString "eval"), key := Value.str (Str.ofString "eval") 20, val := Value.builtin "eval" }, { hash := PyData.keyHash P (Str.ofString "exec"), key := Value.str (Str.ofString "exec") 21, val := Value.builtin "exec" }, { hash := PyData.keyHash P (Str.ofString "format"), key := Value.str (Str.ofString "format") 22, val := Value.builtin "format" }, { hash := PyData.keyHash P (Str.ofString "getattr"), key := Value.str (Str.ofString "getattr") 23, val := Value.builtin "getattr" }, { hash := PyData.keyHash P (Str.ofString "globals"), key := Value.str (Str.ofString "globals") 24, val := Value.builtin "globals" }, { hash := PyData.keyHash P (Str.ofString "hasattr"), key := Value.str (Str.ofString "hasattr") 25, val := Value.builtin "hasattr" }, { hash := PyData.keyHash P (Str.ofString "hash"), key := Value.str (Str.ofString "hash") 26, val := Value.builtin "hash" }, { hash := PyData.keyHash P (Str.ofString "hex"), key := Value.str (Str.ofString "hex") 27, val := Value.builtin "hex" }, { hash := PyData.keyHash P (Str.ofString "id"), key := Value.str (Str.ofString "id") 28, val := Value.builtin "id" }, { hash := PyData.keyHash P (Str.ofString "input"), key := Value.str (Str.ofString "input") 29, val := Value.builtin "input" }, { hash := PyData.keyHash P (Str.ofString "isinstance"), key := Value.str (Str.ofString "isinstance") 30, val := Value.builtin "isinstance" }, { hash := PyData.keyHash P (Str.ofString "issubclass"), key := Value.str (Str.ofString "issubclass") 31, val := Value.builtin "issubclass" }, { hash := PyData.keyHash P (Str.ofString "iter"), key := Value.str (Str.ofString "iter") 32, val := Value.builtin "iter" }, { hash := PyData.keyHash P (Str.ofString "aiter"), key := Value.str (Str.ofString "aiter") 33, val := Value.builtin "aiter" }, { hash := PyData.keyHash P (Str.ofString "len"), key := Value.str (Str.ofString "len") 34, val := Value.builtin "len" }, { hash := PyData.keyHash P (Str.ofString "locals"), key := Value.str (Str.ofString "locals") 35, val := Value.builtin "locals" }, { hash := PyData.keyHash P (Str.ofString "max"), key := Value.str (Str.ofString "max") 36, val := Value.builtin "max" }, { hash := PyData.keyHash P (Str.ofString "min"), key := Value.str (Str.ofString "min") 37, val := Value.builtin "min" }, { hash := PyData.keyHash P (Str.ofString "next"), key := Value.str (Str.ofString "next") 38, val := Value.builtin "next" }, { hash := PyData.keyHash P (Str.ofString "anext"), key := Value.str (Str.ofString "anext") 39, val := Value.builtin "anext" }, { hash := PyData.keyHash P (Str.ofString "oct"), key := Value.str (Str.ofString "oct") 40, val := Value.builtin "oct" }, { hash := PyData.keyHash P (Str.ofString "ord"), key := Value.str (Str.ofString "ord") 41, val := Value.builtin "ord" }, { hash := PyData.keyHash P (Str.ofString "pow"), key := Value.str (Str.ofString "pow") 42, val := Value.builtin "pow" }, { hash := PyData.keyHash P (Str.ofString "print"), key := Value.str (Str.ofString "print") 43, val := Value.builtin "print" }, { hash := PyData.keyHash P (Str.ofString "repr"), key := Value.str (Str.ofString "repr") 44, val := Value.builtin "repr" }, { hash := PyData.keyHash P (Str.ofString "round"), key := Value.str (Str.ofString "round") 45, val := Value.builtin "round" }, { hash := PyData.keyHash P (Str.ofString "setattr"), key := Value.str (Str.ofString "setattr") 46, val := Value.builtin "setattr" }, { hash := PyData.keyHash P (Str.ofString "sorted"), key := Value.str (Str.ofString "sorted") 47, val := Value.builtin "sorted" }, { hash := PyData.keyHash P (Str.ofString "sum"), key := Value.str (Str.ofString "sum") 48, val := Value.builtin "sum" }, { hash := PyData.keyHash P (Str.ofString "vars"), key := Value.str (Str.ofString "vars") 49, val := Value.builtin "vars" }, { hash := PyData.keyHash P (Str.ofString "None"), key := Value.str (Str.ofString "None") 50, val := Value.none }, { hash := PyData.keyHash P (Str.ofString "Ellipsis"), key := Value.str (Str.ofString "Ellipsis") 51, val := Value.ellipsis }, { hash := PyData.keyHash P (Str.ofString "NotImplemented"), key := Value.str (Str.ofString "NotImplemented") 52, val := Value.notImplemented }, { hash := PyData.keyHash P (Str.ofString "False"), key := Value.str (Str.ofString "False") 53, val := Value.bool false }, { hash := PyData.keyHash P (Str.ofString "True"), key := Value.str (Str.ofString "True") 54, val := Value.bool true }, { hash := PyData.keyHash P (Str.ofString "bool"), key := Value.str (Str.ofString "bool") 55, val := Value.type "bool" }, { hash := PyData.keyHash P (Str.ofString "memoryview"), key := Value.str (Str.ofString "memoryview") 56, val := Value.type "memoryview" }, { hash := PyData.keyHash P (Str.ofString "bytearray"), key := Value.str (Str.ofString "bytearray") 57, val := Value.type "bytearray" }, { hash := PyData.keyHash P (Str.ofString "bytes"), key := Value.str (Str.ofString "bytes") 58, val := Value.type "bytes" }, { hash := PyData.keyHash P (Str.ofString "classmethod"), key := Value.str (Str.ofString "classmethod") 59, val := Value.type "classmethod" }, { hash := PyData.keyHash P (Str.ofString "complex"), key := Value.str (Str.ofString "complex") 60, val := Value.type "complex" }, { hash := PyData.keyHash P (Str.ofString "dict"), key := Value.str (Str.ofString "dict") 61, val := Value.type "dict" }, { hash := PyData.keyHash P (Str.ofString "enumerate"), key := Value.str (Str.ofString "enumerate") 62, val := Value.type "enumerate" }, { hash := PyData.keyHash P (Str.ofString "filter"), key := Value.str (Str.ofString "filter") 63, val := Value.type "filter" }, { hash := PyData.keyHash P (Str.ofString "float"), key := Value.str (Str.ofString "float") 64, val := Value.type "float" }, { hash := PyData.keyHash P (Str.ofString "frozenset"), key := Value.str (Str.ofString "frozenset") 65, val := Value.type "frozenset" }, { hash := PyData.keyHash P (Str.ofString "property"), key := Value.str (Str.ofString "property") 66, val := Value.type "property" }, { hash := PyData.keyHash P (Str.ofString "int"), key := Value.str (Str.ofString "int") 67, val := Value.type "int" }, { hash := PyData.keyHash P (Str.ofString "list"), key := Value.str (Str.ofString "list") 68, val := Value.type "list" }, { hash := PyData.keyHash P (Str.ofString "map"), key := Value.str (Str.ofString "map") 69, val := Value.type "map" }, { hash := PyData.keyHash P (Str.ofString "object"), key := Value.str (Str.ofString "object") 70, val := Value.type "object" }, { hash := PyData.keyHash P (Str.ofString "range"), key := Value.str (Str.ofString "range") 71, val := Value.type "range" }, { hash := PyData.keyHash P (Str.ofString "reversed"), key := Value.str (Str.ofString "reversed") 72, val := Value.type "reversed" }, { hash := PyData.keyHash P (Str.ofString "set"), key := Value.str (Str.ofString "set") 73, val := Value.type "set" }, { hash := PyData.keyHash P (Str.ofString "slice"), key := Value.str (Str.ofString "slice") 74, val := Value.type "slice" }, { hash := PyData.keyHash P (Str.ofString "staticmethod"), key := Value.str (Str.ofString "staticmethod") 75, val := Value.type "staticmethod" }, { hash := PyData.keyHash P (Str.ofString "str"), key := Value.str (Str.ofString "str") 76, val := Value.type "str" }, { hash := PyData.keyHash P (Str.ofString "super"), key := Value.str (Str.ofString "super") 77, val := Value.type "super" }, { hash := PyData.keyHash P (Str.ofString "tuple"), key := Value.str (Str.ofString "tuple") 78, val := Value.type "tuple" }, { hash := PyData.keyHash P (Str.ofString "type"), key := Value.str (Str.ofString "type") 79, val := Value.type "type" }, { hash := PyData.keyHash P (Str.ofString "zip"), key := Value.str (Str.ofString "zip") 80, val := Value.type "zip" }, { hash := PyData.keyHash P (Str.ofString "__debug__"), key := Value.str (Str.ofString "__debug__") 81, val := Value.bool true }, { hash := PyData.keyHash P (Str.ofString "BaseException"), key := Value.str (Str.ofString "BaseException") 82, val := Value.type "BaseException" }, { hash := PyData.keyHash P (Str.ofString "BaseExceptionGroup"), key := Value.str (Str.ofString "BaseExceptionGroup") 83, val := Value.type "BaseExceptionGroup" }, { hash := PyData.keyHash P (Str.ofString "Exception"), key := Value.str (Str.ofString "Exception") 84, val := Value.type "Exception" }, { hash := PyData.keyHash P (Str.ofString "GeneratorExit"), key := Value.str (Str.ofString "GeneratorExit") 85, val := Value.type "GeneratorExit" }, { hash := PyData.keyHash P (Str.ofString "KeyboardInterrupt"), key := Value.str (Str.ofString "KeyboardInterrupt") 86, val := Value.type "KeyboardInterrupt" }, { hash := PyData.keyHash P (Str.ofString "SystemExit"), key := Value.str (Str.ofString "SystemExit") 87, val := Value.type "SystemExit" }, { hash := PyData.keyHash P (Str.ofString "ArithmeticError"), key := Value.str (Str.ofString "ArithmeticError") 88, val := Value.type "ArithmeticError" }, { hash := PyData.keyHash P (Str.ofString "AssertionError"), key := Value.str (Str.ofString "AssertionError") 89, val := Value.type "AssertionError" }, { hash := PyData.keyHash P (Str.ofString "AttributeError"), key := Value.str (Str.ofString "AttributeError") 90, val := Value.type "AttributeError" }, { hash := PyData.keyHash P (Str.ofString "BufferError"), key := Value.str (Str.ofString "BufferError") 91, val := Value.type "BufferError" }, { hash := PyData.keyHash P (Str.ofString "EOFError"), key := Value.str (Str.ofString "EOFError") 92, val := Value.type "EOFError" }, { hash := PyData.keyHash P (Str.ofString "ImportError"), key := Value.str (Str.ofString "ImportError") 93, val := Value.type "ImportError" }, { hash := PyData.keyHash P (Str.ofString "LookupError"), key := Value.str (Str.ofString "LookupError") 94, val := Value.type "LookupError" }, { hash := PyData.keyHash P (Str.ofString "MemoryError"), key := Value.str (Str.ofString "MemoryError") 95, val := Value.type "MemoryError" }, { hash := PyData.keyHash P (Str.ofString "NameError"), key := Value.str (Str.ofString "NameError") 96, val := Value.type "NameError" }, { hash := PyData.keyHash P (Str.ofString "OSError"), key := Value.str (Str.ofString "OSError") 97, val := Value.type "OSError" }, { hash := PyData.keyHash P (Str.ofString "ReferenceError"), key := Value.str (Str.ofString "ReferenceError") 98, val := Value.type "ReferenceError" }, { hash := PyData.keyHash P (Str.ofString "RuntimeError"), key := Value.str (Str.ofString "RuntimeError") 99, val := Value.type "RuntimeError" }, { hash := PyData.keyHash P (Str.ofString "StopAsyncIteration"), key := Value.str (Str.ofString "StopAsyncIteration") 100, val := Value.type "StopAsyncIteration" }, { hash := PyData.keyHash P (Str.ofString "StopIteration"), key := Value.str (Str.ofString "StopIteration") 101, val := Value.type "StopIteration" }, { hash := PyData.keyHash P (Str.ofString "SyntaxError"), key := Value.str (Str.ofString "SyntaxError") 102, val := Value.type "SyntaxError" }, { hash := PyData.keyHash P (Str.ofString "SystemError"), key := Value.str (Str.ofString "SystemError") 103, val := Value.type "SystemError" }, { hash := PyData.keyHash P (Str.ofString "TypeError"), key := Value.str (Str.ofString "TypeError") 104, val := Value.type "TypeError" }, { hash := PyData.keyHash P (Str.ofString "ValueError"), key := Value.str (Str.ofString "ValueError") 105, val := Value.type "ValueError" }, { hash := PyData.keyHash P (Str.ofString "Warning"), key := Value.str (Str.ofString "Warning") 106, val := Value.type "Warning" }, { hash := PyData.keyHash P (Str.ofString "FloatingPointError"), key := Value.str (Str.ofString "FloatingPointError") 107, val := Value.type "FloatingPointError" }, { hash := PyData.keyHash P (Str.ofString "OverflowError"), key := Value.str (Str.ofString "OverflowError") 108, val := Value.type "OverflowError" }, { hash := PyData.keyHash P (Str.ofString "ZeroDivisionError"), key := Value.str (Str.ofString "ZeroDivisionError") 109, val := Value.type "ZeroDivisionError" }, { hash := PyData.keyHash P (Str.ofString "BytesWarning"), key := Value.str (Str.ofString "BytesWarning") 110, val := Value.type "BytesWarning" }, { hash := PyData.keyHash P (Str.ofString "DeprecationWarning"), key := Value.str (Str.ofString "DeprecationWarning") 111, val := Value.type "DeprecationWarning" }, { hash := PyData.keyHash P (Str.ofString "EncodingWarning"), key := Value.str (Str.ofString "EncodingWarning") 112, val := Value.type "EncodingWarning" }, { hash := PyData.keyHash P (Str.ofString "FutureWarning"), key := Value.str (Str.ofString "FutureWarning") 113, val := Value.type "FutureWarning" }, { hash := PyData.keyHash P (Str.ofString "ImportWarning"), key := Value.str (Str.ofString "ImportWarning") 114, val := Value.type "ImportWarning" }, { hash := PyData.keyHash P (Str.ofString "PendingDeprecationWarning"), key := Value.str (Str.ofString "PendingDeprecationWarning") 115, val := Value.type "PendingDeprecationWarning" }, { hash := PyData.keyHash P (Str.ofString "ResourceWarning"), key := Value.str (Str.ofString "ResourceWarning") 116, val := Value.type "ResourceWarning" }, { hash := PyData.keyHash P (Str.ofString "RuntimeWarning"), key := Value.str (Str.ofString "RuntimeWarning") 117, val := Value.type "RuntimeWarning" }, { hash := PyData.keyHash P (Str.ofString "SyntaxWarning"), key := Value.str (Str.ofString "SyntaxWarning") 118, val := Value.type "SyntaxWarning" }, { hash := PyData.keyHash P (Str.ofString "UnicodeWarning"), key := Value.str (Str.ofString "UnicodeWarning") 119, val := Value.type "UnicodeWarning" }, { hash := PyData.keyHash P (Str.ofString "UserWarning"), key := Value.str (Str.ofString "UserWarning") 120, val := Value.type "UserWarning" }, { hash := PyData.keyHash P (Str.ofString "BlockingIOError"), key := Value.str (Str.ofString "BlockingIOError") 121, val := Value.type "BlockingIOError" }, { hash := PyData.keyHash P (Str.ofString "ChildProcessError"), key := Value.str (Str.ofString "ChildProcessError") 122, val := Value.type "ChildProcessError" }, { hash := PyData.keyHash P (Str.ofString "ConnectionError"), key := Value.str (Str.ofString "ConnectionError") 123, val := Value.type "ConnectionError" }, { hash := PyData.keyHash P (Str.ofString "FileExistsError"), key := Value.str (Str.ofString "FileExistsError") 124, val := Value.type "FileExistsError" }, { hash := PyData.keyHash P (Str.ofString "FileNotFoundError"), key := Value.str (Str.ofString "FileNotFoundError") 125, val := Value.type "FileNotFoundError" }, { hash := PyData.keyHash P (Str.ofString "InterruptedError"), key := Value.str (Str.ofString "InterruptedError") 126, val := Value.type "InterruptedError" }, { hash := PyData.keyHash P (Str.ofString "IsADirectoryError"), key := Value.str (Str.ofString "IsADirectoryError") 127, val := Value.type "IsADirectoryError" }, { hash := PyData.keyHash P (Str.ofString "NotADirectoryError"), key := Value.str (Str.ofString "NotADirectoryError") 128, val := Value.type "NotADirectoryError" }, { hash := PyData.keyHash P (Str.ofString "PermissionError"), key := Value.str (Str.ofString "PermissionError") 129, val := Value.type "PermissionError" }, { hash := PyData.keyHash P (Str.ofString "ProcessLookupError"), key := Value.str (Str.ofString "ProcessLookupError") 130, val := Value.type "ProcessLookupError" }, { hash := PyData.keyHash P (Str.ofString "TimeoutError"), key := Value.str (Str.ofString "TimeoutError") 131, val := Value.type "TimeoutError" }, { hash := PyData.keyHash P (Str.ofString "IndentationError"), key := Value.str (Str.ofString "IndentationError") 132, val := Value.type "IndentationError" }, { hash := PyData.keyHash P (Str.ofString "_IncompleteInputError"), key := Value.str (Str.ofString "_IncompleteInputError") 133, val := Value.type "_IncompleteInputError" }, { hash := PyData.keyHash P (Str.ofString "IndexError"), key := Value.str (Str.ofString "IndexError") 134, val := Value.type "IndexError" }, { hash := PyData.keyHash P (Str.ofString "KeyError"), key := Value.str (Str.ofString "KeyError") 135, val := Value.type "KeyError" }, { hash := PyData.keyHash P (Str.ofString "ModuleNotFoundError"), key := Value.str (Str.ofString "ModuleNotFoundError") 136, val := Value.type "ModuleNotFoundError" }, { hash := PyData.keyHash P (Str.ofString "NotImplementedError"), key := Value.str (Str.ofString "NotImplementedError") 137, val := Value.type "NotImplementedError" }, { hash := PyData.keyHash P (Str.ofString "PythonFinalizationError"), key := Value.str (Str.ofString "PythonFinalizationError") 138, val := Value.type "PythonFinalizationError" }, { hash := PyData.keyHash P (Str.ofString "RecursionError"), key := Value.str (Str.ofString "RecursionError") 139, val := Value.type "RecursionError" }, { hash := PyData.keyHash P (Str.ofString "UnboundLocalError"), key := Value.str (Str.ofString "UnboundLocalError") 140, val := Value.type "UnboundLocalError" }, { hash := PyData.keyHash P (Str.ofString "UnicodeError"), key := Value.str (Str.ofString "UnicodeError") 141, val := Value.type "UnicodeError" }, { hash := PyData.keyHash P (Str.ofString "BrokenPipeError"), key := Value.str (Str.ofString "BrokenPipeError") 142, val := Value.type "BrokenPipeError" }, { hash := PyData.keyHash P (Str.ofString "ConnectionAbortedError"), key := Value.str (Str.ofString "ConnectionAbortedError") 143, val := Value.type "ConnectionAbortedError" }, { hash := PyData.keyHash P (Str.ofString "ConnectionRefusedError"), key := Value.str (Str.ofString "ConnectionRefusedError") 144, val := Value.type "ConnectionRefusedError" }, { hash := PyData.keyHash P (Str.ofString "ConnectionResetError"), key := Value.str (Str.ofString "ConnectionResetError") 145, val := Value.type "ConnectionResetError" }, { hash := PyData.keyHash P (Str.ofString "TabError"), key := Value.str (Str.ofString "TabError") 146, val := Value.type "TabError" }, { hash := PyData.keyHash P (Str.ofString "UnicodeDecodeError"), key := Value.str (Str.ofString "UnicodeDecodeError") 147, val := Value.type "UnicodeDecodeError" }, { hash := PyData.keyHash P (Str.ofString "UnicodeEncodeError"), key := Value.str (Str.ofString "UnicodeEncodeError") 148, val := Value.type "UnicodeEncodeError" }, { hash := PyData.keyHash P (Str.ofString "UnicodeTranslateError"), key := Value.str (Str.ofString "UnicodeTranslateError") 149, val := Value.type "UnicodeTranslateError" }, { hash := PyData.keyHash P (Str.ofString "ExceptionGroup"), key := Value.str (Str.ofString "ExceptionGroup") 150, val := Value.type "ExceptionGroup" }, { hash := PyData.keyHash P (Str.ofString "EnvironmentError"), key := Value.str (Str.ofString "EnvironmentError") 151, val := Value.type "OSError" }, { hash := PyData.keyHash P (Str.ofString "IOError"), key := Value.str (Str.ofString "IOError") 152, val := Value.type "OSError" }, { hash := PyData.keyHash P (Str.ofString "open"), key := Value.str (Str.ofString "open") 153, val := Value.builtin "open" }, { hash := PyData.keyHash P (Str.ofString "quit"), key := Value.str (Str.ofString "quit") 154, val := Value.builtin "builtins.quit#opaque" }, { hash := PyData.keyHash P (Str.ofString "exit"), key := Value.str (Str.ofString "exit") 155, val := Value.builtin "builtins.exit#opaque" }, { hash := PyData.keyHash P (Str.ofString "copyright"), key := Value.str (Str.ofString "copyright") 156, val := Value.builtin "builtins.copyright#opaque" }, { hash := PyData.keyHash P (Str.ofString "credits"), key := Value.str (Str.ofString "credits") 157, val := Value.builtin "builtins.credits#opaque" }, { hash := PyData.keyHash P (Str.ofString "license"), key := Value.str (Str.ofString "license") 158, val := Value.builtin "builtins.license#opaque" }, { hash := PyData.keyHash P (Str.ofString "help"), key := Value.str (Str.ofString "help") 159, val := Value.builtin "builtins.help#opaque" }] 159 }
noncomputable def pz1E (P : Params) : Obj := { cls := Value.type "dict", data := Data.dict #[{ hash := PyData.keyHash P (Str.ofString "builtins"), key := Value.str (Str.ofString "builtins") 162, val := Value.ref 4 }, { hash := PyData.keyHash P (Str.ofString "__main__"), key := Value.str (Str.ofString "__main__") 163, val := Value.ref 5 }, { hash := PyData.keyHash P (Str.ofString "_sre"), key := Value.str (Str.ofString "_sre") 244, val := Value.ref 12 }, { hash := PyData.keyHash P (Str.ofString "_collections"), key := Value.str (Str.ofString "_collections") 292, val := Value.ref 30 }] 4 }
noncomputable def pz4E (P : Params) : Obj := { cls := Value.type "module", dict := some 0 }
noncomputable def pz35E (P : Params) : Obj := { cls := Value.none, data := Data.fields #[Value.int 3 0, Value.int 0 0, Value.ref 43, Value.int 7 0, Value.int 0 0, Value.ref 50, Value.int 9 0, Value.int 0 0, Value.ref 57] }
noncomputable def pz36E (P : Params) : Obj := { cls := Value.type "code", data := Data.fields #[Value.str (Str.ofString "<module>") 319, Value.str (Str.ofString "<module>") 320, Value.str (Str.ofString "/claim/cut.py") 321, Value.int 1 0, Value.int 0 0, Value.int 0 0, Value.int 0 0, Value.int 0 0, Value.ref 34, Value.bool false, Value.int 318 0, Value.ref 35, Value.none, Value.none, Value.none, Value.none, Value.int 322 0, Value.int 1 0, Value.str (Str.ofString "/claim/cut.py") 323] }
noncomputable abbrev hPosE : Pos := { line := 11, col := 0, endLine := 11, endCol := 10 }
noncomputable def psE (w : World) : List (Nat × Obj) := keepK 64 ([2, 3] : List Nat) (hd0.heap_1 w.params) ++ ([(2, pz2E w.params), (3, pz3E w.params), (0, pz0E w.params), (1, pz1E w.params), (4, pz4E w.params), (35, pz35E w.params), (36, pz36E w.params)] ++ ([8, 39, 46, 53] : List Nat).map fun a => (a, pzT))
noncomputable def hRunE (w : World) : Option (Flow × SharedT × Code × Pos) := @PySem.W.Fast.tw10110043849684766642 PySem.W.Fast.tw14364793385576792824 hp w 34 (some (.ref 6)) 1 190 (hSt w) (piecesOf (((behindTheImports hp).drop 0).take 5) hEnv hC hPos hB)
noncomputable def hME (w : World) : SharedT := midT (((hRunE w).map (·.2.1)).getD (hSt w)) 64 387 (psE w)
set_option maxRecDepth 1000000 in
theorem hrE : ∀ w, (hRunE w).map (fun x => (x.1, x.2.2.1, x.2.2.2, x.2.1.n, x.2.1.toks, x.2.1.gens, (psE w).map (fun p => x.2.1.tree.get p.1))) = some (.next, hC, hPosE, 64, 387, #[], (psE w).map fun p => some p.2) := by
  intro w
  kernel_rfl
noncomputable def pz3A (P : Params) : Obj := { cls := Value.type "dict", data := Data.dict #[{ hash := PyData.keyHash P (Str.ofString "__name__"), key := Value.str (Str.ofString "__name__") 165, val := Value.str (Str.ofString "io") 387 }, { hash := PyData.keyHash P (Str.ofString "__doc__"), key := Value.str (Str.ofString "__doc__") 166, val := Value.none }, { hash := PyData.keyHash P (Str.ofString "__package__"), key := Value.str (Str.ofString "__package__") 167, val := Value.none }, { hash := PyData.keyHash P (Str.ofString "__loader__"), key := Value.str (Str.ofString "__loader__") 168, val := Value.builtin "__main__.__loader__#opaque" }, { hash := PyData.keyHash P (Str.ofString "__spec__"), key := Value.str (Str.ofString "__spec__") 169, val := Value.none }, { hash := PyData.keyHash P (Str.ofString "__annotations__"), key := Value.str (Str.ofString "__annotations__") 170, val := Value.ref 6 }, { hash := PyData.keyHash P (Str.ofString "__builtins__"), key := Value.str (Str.ofString "__builtins__") 171, val := Value.ref 4 }, { hash := PyData.keyHash P (Str.ofString "__file__"), key := Value.str (Str.ofString "__file__") 173, val := Value.str (Str.ofString "/claim/cut.py") 172 }, { hash := PyData.keyHash P (Str.ofString "__cached__"), key := Value.str (Str.ofString "__cached__") 174, val := Value.none }, { hash := PyData.keyHash P (Str.ofString "_sre"), key := Value.str (Str.ofString "_sre") 275, val := Value.ref 12 }, { hash := PyData.keyHash P (Str.ofString "deque"), key := Value.str (Str.ofString "deque") 317, val := Value.type "collections.deque" }, { hash := PyData.keyHash P (Str.ofString "_wall"), key := Value.str (Str.ofString "_wall") 330, val := Value.ref 44 }, { hash := PyData.keyHash P (Str.ofString "_is_dunder"), key := Value.str (Str.ofString "_is_dunder") 339, val := Value.ref 51 }, { hash := PyData.keyHash P (Str.ofString "_is_sunder"), key := Value.str (Str.ofString "_is_sunder") 346, val := Value.ref 58 }, { hash := PyData.keyHash P (Str.ofString "_twin_re_1"), key := Value.str (Str.ofString "_twin_re_1") 386, val := Value.ref 63 }, { hash := PyData.keyHash P (Str.ofString "_whence"), key := Value.str (Str.ofString "_whence") 396, val := Value.ref 70 }, { hash := PyData.keyHash P (Str.ofString "_index"), key := Value.str (Str.ofString "_index") 404, val := Value.ref 77 }, { hash := PyData.keyHash P (Str.ofString "UnsupportedOperation"), key := Value.str (Str.ofString "UnsupportedOperation") 426, val := Value.ref 87 }, { hash := PyData.keyHash P (Str.ofString "IOBase"), key := Value.str (Str.ofString "IOBase") 458, val := Value.ref 107 }, { hash := PyData.keyHash P (Str.ofString "BufferedIOBase"), key := Value.str (Str.ofString "BufferedIOBase") 476, val := Value.ref 122 }, { hash := PyData.keyHash P (Str.ofString "TextIOBase"), key := Value.str (Str.ofString "TextIOBase") 494, val := Value.ref 134 }] 21 }
noncomputable def pz122A (P : Params) : Obj := { cls := Value.type "type", data := Data.cls { name := Str.ofString "BufferedIOBase", bases := [Value.ref 107], mro := [Value.ref 122, Value.ref 107, Value.type "object"], ns := 121, qualname := Str.ofString "BufferedIOBase" }, slots := #[some (Value.ref 113), none, some (Value.str (Str.ofString "BufferedIOBase") 459), some (Value.str (Str.ofString "BufferedIOBase") 467), some Value.none, some (Value.bool true)] }
noncomputable def pz134A (P : Params) : Obj := { cls := Value.type "type", data := Data.cls { name := Str.ofString "TextIOBase", bases := [Value.ref 107], mro := [Value.ref 134, Value.ref 107, Value.type "object"], ns := 133, qualname := Str.ofString "TextIOBase" }, slots := #[some (Value.ref 125), none, some (Value.str (Str.ofString "TextIOBase") 477), some (Value.str (Str.ofString "TextIOBase") 485), some Value.none, some (Value.bool true)] }
noncomputable def pz35A (P : Params) : Obj := { cls := Value.none, data := Data.fields #[Value.int 3 0, Value.int 0 0, Value.ref 43, Value.int 7 0, Value.int 0 0, Value.ref 50, Value.int 9 0, Value.int 0 0, Value.ref 57, Value.int 13 0, Value.int 0 0, Value.ref 69, Value.int 18 0, Value.int 0 0, Value.ref 76, Value.int 25 0, Value.int 0 0, Value.ref 83, Value.int 27 0, Value.int 0 0, Value.ref 96, Value.int 34 0, Value.int 0 0, Value.ref 118, Value.int 36 0, Value.int 0 0, Value.ref 130] }
noncomputable abbrev hPosA : Pos := { line := 36, col := 0, endLine := 37, endCol := 21 }
noncomputable def psA (w : World) : List (Nat × Obj) := keepK 137 ([3, 122, 134] : List Nat) (hd0.heap_1 w.params) ++ ([(3, pz3A w.params), (122, pz122A w.params), (134, pz134A w.params), (0, pz0E w.params), (1, pz1E w.params), (4, pz4E w.params), (35, pz35A w.params), (36, pz36E w.params)] ++ ([8, 39, 46, 53, 65, 72, 82, 99, 117, 129] : List Nat).map fun a => (a, pzT))
noncomputable def hRunA (w : World) : Option (Flow × SharedT × Code × Pos) := @PySem.W.Fast.tw10110043849684766642 PySem.W.Fast.tw14364793385576792824 hp w 34 (some (.ref 6)) 1 970 (hME w) (piecesOf (((behindTheImports hp).drop 5).take 7) hEnv hC hPosE hB)
noncomputable def hMA (w : World) : SharedT := midT (((hRunA w).map (·.2.1)).getD (hSt w)) 137 495 (psA w)
set_option maxRecDepth 1000000 in
theorem hrA : ∀ w, (hRunA w).map (fun x => (x.1, x.2.2.1, x.2.2.2, x.2.1.n, x.2.1.toks, x.2.1.gens, (psA w).map (fun p => x.2.1.tree.get p.1))) = some (.next, hC, hPosA, 137, 495, #[], (psA w).map fun p => some p.2) := by
  intro w
  kernel_rfl
noncomputable def pz3B (P : Params) : Obj := { cls := Value.type "dict", data := Data.dict #[{ hash := PyData.keyHash P (Str.ofString "__name__"), key := Value.str (Str.ofString "__name__") 165, val := Value.str (Str.ofString "io") 387 }, { hash := PyData.keyHash P (Str.ofString "__doc__"), key := Value.str (Str.ofString "__doc__") 166, val := Value.none }, { hash := PyData.keyHash P (Str.ofString "__package__"), key := Value.str (Str.ofString "__package__") 167, val := Value.none }, { hash := PyData.keyHash P (Str.ofString "__loader__"), key := Value.str (Str.ofString "__loader__") 168, val := Value.builtin "__main__.__loader__#opaque" }, { hash := PyData.keyHash P (Str.ofString "__spec__"), key := Value.str (Str.ofString "__spec__") 169, val := Value.none }, { hash := PyData.keyHash P (Str.ofString "__annotations__"), key := Value.str (Str.ofString "__annotations__") 170, val := Value.ref 6 }, { hash := PyData.keyHash P (Str.ofString "__builtins__"), key := Value.str (Str.ofString "__builtins__") 171, val := Value.ref 4 }, { hash := PyData.keyHash P (Str.ofString "__file__"), key := Value.str (Str.ofString "__file__") 173, val := Value.str (Str.ofString "/claim/cut.py") 172 }, { hash := PyData.keyHash P (Str.ofString "__cached__"), key := Value.str (Str.ofString "__cached__") 174, val := Value.none }, { hash := PyData.keyHash P (Str.ofString "_sre"), key := Value.str (Str.ofString "_sre") 275, val := Value.ref 12 }, { hash := PyData.keyHash P (Str.ofString "deque"), key := Value.str (Str.ofString "deque") 317, val := Value.type "collections.deque" }, { hash := PyData.keyHash P (Str.ofString "_wall"), key := Value.str (Str.ofString "_wall") 330, val := Value.ref 44 }, { hash := PyData.keyHash P (Str.ofString "_is_dunder"), key := Value.str (Str.ofString "_is_dunder") 339, val := Value.ref 51 }, { hash := PyData.keyHash P (Str.ofString "_is_sunder"), key := Value.str (Str.ofString "_is_sunder") 346, val := Value.ref 58 }, { hash := PyData.keyHash P (Str.ofString "_twin_re_1"), key := Value.str (Str.ofString "_twin_re_1") 386, val := Value.ref 63 }, { hash := PyData.keyHash P (Str.ofString "_whence"), key := Value.str (Str.ofString "_whence") 396, val := Value.ref 70 }, { hash := PyData.keyHash P (Str.ofString "_index"), key := Value.str (Str.ofString "_index") 404, val := Value.ref 77 }, { hash := PyData.keyHash P (Str.ofString "UnsupportedOperation"), key := Value.str (Str.ofString "UnsupportedOperation") 426, val := Value.ref 87 }, { hash := PyData.keyHash P (Str.ofString "IOBase"), key := Value.str (Str.ofString "IOBase") 458, val := Value.ref 107 }, { hash := PyData.keyHash P (Str.ofString "BufferedIOBase"), key := Value.str (Str.ofString "BufferedIOBase") 476, val := Value.ref 122 }, { hash := PyData.keyHash P (Str.ofString "TextIOBase"), key := Value.str (Str.ofString "TextIOBase") 494, val := Value.ref 134 }, { hash := PyData.keyHash P (Str.ofString "BytesIO"), key := Value.str (Str.ofString "BytesIO") 756, val := Value.ref 364 }] 22 }
noncomputable def pz35B (P : Params) : Obj := { cls := Value.none, data := Data.fields #[Value.int 3 0, Value.int 0 0, Value.ref 43, Value.int 7 0, Value.int 0 0, Value.ref 50, Value.int 9 0, Value.int 0 0, Value.ref 57, Value.int 13 0, Value.int 0 0, Value.ref 69, Value.int 18 0, Value.int 0 0, Value.ref 76, Value.int 25 0, Value.int 0 0, Value.ref 83, Value.int 27 0, Value.int 0 0, Value.ref 96, Value.int 34 0, Value.int 0 0, Value.ref 118, Value.int 36 0, Value.int 0 0, Value.ref 130, Value.int 38 0, Value.int 0 0, Value.ref 142] }
noncomputable abbrev hPosB : Pos := { line := 38, col := 0, endLine := 207, endCol := 17 }
noncomputable def psB (w : World) : List (Nat × Obj) := keepK 367 ([3, 134] : List Nat) (hd0.heap_1 w.params) ++ ([(3, pz3B w.params), (134, pz134A w.params), (0, pz0E w.params), (1, pz1E w.params), (4, pz4E w.params), (35, pz35B w.params), (36, pz36E w.params)] ++ ([8, 39, 46, 53, 65, 72, 82, 99, 117, 129, 146, 153, 160, 167, 175, 182, 189, 196, 203, 210, 217, 224, 231, 238, 245, 252, 259, 267, 275, 283, 291, 298, 305, 313, 321, 328, 335, 342, 349, 356] : List Nat).map fun a => (a, pzT))
noncomputable def hRunB (w : World) : Option (Flow × SharedT × Code × Pos) := @PySem.W.Fast.tw10110043849684766642 PySem.W.Fast.tw14364793385576792824 hp w 34 (some (.ref 6)) 1 1280 (hMA w) (piecesOf (((behindTheImports hp).drop 12).take 1) hEnv hC hPosA hB)
noncomputable def hMB (w : World) : SharedT := midT (((hRunB w).map (·.2.1)).getD (hSt w)) 367 757 (psB w)
set_option maxRecDepth 1000000 in
theorem hrB : ∀ w, (hRunB w).map (fun x => (x.1, x.2.2.1, x.2.2.2, x.2.1.n, x.2.1.toks, x.2.1.gens, (psB w).map (fun p => x.2.1.tree.get p.1))) = some (.next, hC, hPosB, 367, 757, #[], (psB w).map fun p => some p.2) := by
  intro w
  kernel_rfl
noncomputable def pz3C (P : Params) : Obj := { cls := Value.type "dict", data := Data.dict #[{ hash := PyData.keyHash P (Str.ofString "__name__"), key := Value.str (Str.ofString "__name__") 165, val := Value.str (Str.ofString "io") 387 }, { hash := PyData.keyHash P (Str.ofString "__doc__"), key := Value.str (Str.ofString "__doc__") 166, val := Value.none }, { hash := PyData.keyHash P (Str.ofString "__package__"), key := Value.str (Str.ofString "__package__") 167, val := Value.none }, { hash := PyData.keyHash P (Str.ofString "__loader__"), key := Value.str (Str.ofString "__loader__") 168, val := Value.builtin "__main__.__loader__#opaque" }, { hash := PyData.keyHash P (Str.ofString "__spec__"), key := Value.str (Str.ofString "__spec__") 169, val := Value.none }, { hash := PyData.keyHash P (Str.ofString "__annotations__"), key := Value.str (Str.ofString "__annotations__") 170, val := Value.ref 6 }, { hash := PyData.keyHash P (Str.ofString "__builtins__"), key := Value.str (Str.ofString "__builtins__") 171, val := Value.ref 4 }, { hash := PyData.keyHash P (Str.ofString "__file__"), key := Value.str (Str.ofString "__file__") 173, val := Value.str (Str.ofString "/claim/cut.py") 172 }, { hash := PyData.keyHash P (Str.ofString "__cached__"), key := Value.str (Str.ofString "__cached__") 174, val := Value.none }, { hash := PyData.keyHash P (Str.ofString "_sre"), key := Value.str (Str.ofString "_sre") 275, val := Value.ref 12 }, { hash := PyData.keyHash P (Str.ofString "deque"), key := Value.str (Str.ofString "deque") 317, val := Value.type "collections.deque" }, { hash := PyData.keyHash P (Str.ofString "_wall"), key := Value.str (Str.ofString "_wall") 330, val := Value.ref 44 }, { hash := PyData.keyHash P (Str.ofString "_is_dunder"), key := Value.str (Str.ofString "_is_dunder") 339, val := Value.ref 51 }, { hash := PyData.keyHash P (Str.ofString "_is_sunder"), key := Value.str (Str.ofString "_is_sunder") 346, val := Value.ref 58 }, { hash := PyData.keyHash P (Str.ofString "_twin_re_1"), key := Value.str (Str.ofString "_twin_re_1") 386, val := Value.ref 63 }, { hash := PyData.keyHash P (Str.ofString "_whence"), key := Value.str (Str.ofString "_whence") 396, val := Value.ref 70 }, { hash := PyData.keyHash P (Str.ofString "_index"), key := Value.str (Str.ofString "_index") 404, val := Value.ref 77 }, { hash := PyData.keyHash P (Str.ofString "UnsupportedOperation"), key := Value.str (Str.ofString "UnsupportedOperation") 426, val := Value.ref 87 }, { hash := PyData.keyHash P (Str.ofString "IOBase"), key := Value.str (Str.ofString "IOBase") 458, val := Value.ref 107 }, { hash := PyData.keyHash P (Str.ofString "BufferedIOBase"), key := Value.str (Str.ofString "BufferedIOBase") 476, val := Value.ref 122 }, { hash := PyData.keyHash P (Str.ofString "TextIOBase"), key := Value.str (Str.ofString "TextIOBase") 494, val := Value.ref 134 }, { hash := PyData.keyHash P (Str.ofString "BytesIO"), key := Value.str (Str.ofString "BytesIO") 756, val := Value.ref 364 }, { hash := PyData.keyHash P (Str.ofString "StringIO"), key := Value.str (Str.ofString "StringIO") 1043, val := Value.ref 611 }] 23 }
noncomputable def pz35C (P : Params) : Obj := { cls := Value.none, data := Data.fields #[Value.int 3 0, Value.int 0 0, Value.ref 43, Value.int 7 0, Value.int 0 0, Value.ref 50, Value.int 9 0, Value.int 0 0, Value.ref 57, Value.int 13 0, Value.int 0 0, Value.ref 69, Value.int 18 0, Value.int 0 0, Value.ref 76, Value.int 25 0, Value.int 0 0, Value.ref 83, Value.int 27 0, Value.int 0 0, Value.ref 96, Value.int 34 0, Value.int 0 0, Value.ref 118, Value.int 36 0, Value.int 0 0, Value.ref 130, Value.int 38 0, Value.int 0 0, Value.ref 142, Value.int 208 0, Value.int 0 0, Value.ref 372] }
noncomputable abbrev hPosC : Pos := { line := 208, col := 0, endLine := 412, endCol := 17 }
noncomputable def psC (w : World) : List (Nat × Obj) := keepK 614 ([3] : List Nat) (hd0.heap_1 w.params) ++ ([(3, pz3C w.params), (0, pz0E w.params), (1, pz1E w.params), (4, pz4E w.params), (35, pz35C w.params), (36, pz36E w.params)] ++ ([8, 39, 46, 53, 65, 72, 82, 99, 117, 129, 146, 153, 160, 167, 175, 182, 189, 196, 203, 210, 217, 224, 231, 238, 245, 252, 259, 267, 275, 283, 291, 298, 305, 313, 321, 328, 335, 342, 349, 356, 376, 383, 390, 397, 404, 411, 419, 427, 435, 443, 451, 458, 465, 472, 479, 486, 493, 500, 507, 514, 521, 528, 536, 544, 552, 560, 568, 575, 582, 589, 596, 603] : List Nat).map fun a => (a, pzT))
noncomputable def hRunC (w : World) : Option (Flow × SharedT × Code × Pos) := @PySem.W.Fast.tw10110043849684766642 PySem.W.Fast.tw14364793385576792824 hp w 34 (some (.ref 6)) 1 1580 (hMB w) (piecesOf (((behindTheImports hp).drop 13).take 1) hEnv hC hPosB hB)
noncomputable def hMC (w : World) : SharedT := midT (((hRunC w).map (·.2.1)).getD (hSt w)) 614 1044 (psC w)
set_option maxRecDepth 1000000 in
theorem hrC : ∀ w, (hRunC w).map (fun x => (x.1, x.2.2.1, x.2.2.2, x.2.1.n, x.2.1.toks, x.2.1.gens, (psC w).map (fun p => x.2.1.tree.get p.1))) = some (.next, hC, hPosC, 614, 1044, #[], (psC w).map fun p => some p.2) := by
  intro w
  kernel_rfl
noncomputable def pz35D (P : Params) : Obj := { cls := Value.none, data := Data.fields #[Value.int 3 0, Value.int 0 0, Value.ref 43, Value.int 7 0, Value.int 0 0, Value.ref 50, Value.int 9 0, Value.int 0 0, Value.ref 57, Value.int 13 0, Value.int 0 0, Value.ref 69, Value.int 18 0, Value.int 0 0, Value.ref 76, Value.int 25 0, Value.int 0 0, Value.ref 83, Value.int 27 0, Value.int 0 0, Value.ref 96, Value.int 34 0, Value.int 0 0, Value.ref 118, Value.int 36 0, Value.int 0 0, Value.ref 130, Value.int 38 0, Value.int 0 0, Value.ref 142, Value.int 208 0, Value.int 0 0, Value.ref 372, Value.int 414 0, Value.int 0 0, Value.ref 619, Value.int 435 0, Value.int 0 0, Value.ref 626, Value.int 440 0, Value.int 0 0, Value.ref 633, Value.int 445 0, Value.int 0 0, Value.ref 640, Value.int 448 0, Value.int 0 0, Value.ref 647, Value.int 469 0, Value.int 0 0, Value.ref 654, Value.int 478 0, Value.int 0 0, Value.ref 661, Value.int 730 0, Value.int 0 0, Value.ref 757, Value.int 738 0, Value.int 0 0, Value.ref 764, Value.int 742 0, Value.int 0 0, Value.ref 772, Value.int 749 0, Value.int 0 0, Value.ref 779, Value.int 751 0, Value.int 0 0, Value.ref 786, Value.int 753 0, Value.int 0 0, Value.ref 793, Value.int 755 0, Value.int 0 0, Value.ref 800, Value.int 759 0, Value.int 0 0, Value.ref 807, Value.int 765 0, Value.int 0 0, Value.ref 814, Value.int 773 0, Value.int 0 0, Value.ref 819] }
noncomputable abbrev hPosD : Pos := { line := 773, col := 0, endLine := 792, endCol := 72 }
noncomputable def psD (w : World) : List (Nat × Obj) := keepK 821 ([] : List Nat) (hd0.heap_1 w.params) ++ ([(0, pz0E w.params), (1, pz1E w.params), (4, pz4E w.params), (35, pz35D w.params), (36, pz36E w.params)] ++ ([8, 39, 46, 53, 65, 72, 82, 99, 117, 129, 146, 153, 160, 167, 175, 182, 189, 196, 203, 210, 217, 224, 231, 238, 245, 252, 259, 267, 275, 283, 291, 298, 305, 313, 321, 328, 335, 342, 349, 356, 376, 383, 390, 397, 404, 411, 419, 427, 435, 443, 451, 458, 465, 472, 479, 486, 493, 500, 507, 514, 521, 528, 536, 544, 552, 560, 568, 575, 582, 589, 596, 603, 615, 622, 629, 636, 643, 650, 665, 672, 680, 688, 695, 702, 709, 716, 724, 731, 738, 753, 760, 768, 775, 782, 789, 796, 803, 810, 817] : List Nat).map fun a => (a, pzT))
noncomputable def hRunD (w : World) : Option (Flow × SharedT × Code × Pos) := @PySem.W.Fast.tw10110043849684766642 PySem.W.Fast.tw14364793385576792824 hp w 34 (some (.ref 6)) 1 1222 (hMC w) (piecesOf (((behindTheImports hp).drop 14).take 23) hEnv hC hPosC hB)
noncomputable def hMD (w : World) : SharedT := midT (((hRunD w).map (·.2.1)).getD (hSt w)) 821 1324 (psD w)
set_option maxRecDepth 1000000 in
theorem hrD : ∀ w, (hRunD w).map (fun x => (x.1, x.2.2.1, x.2.2.2, x.2.1.n, x.2.1.toks, x.2.1.gens, (psD w).map (fun p => x.2.1.tree.get p.1))) = some (.next, hC, hPosD, 821, 1324, #[], (psD w).map fun p => some p.2) := by
  intro w
  kernel_rfl
set_option maxRecDepth 1000000 in
theorem hend : (behindTheImports hp).drop 37 = [] := by kernel_rfl
noncomputable def hAs : List Addr := [2, 3, 38, 40, 41, 43, 44, 45, 47, 48, 50, 51, 52, 54, 55, 57, 58, 62, 63, 64, 66, 67, 69, 70, 71, 73, 74, 76, 77, 78, 85, 86, 87, 88, 98, 100, 101, 103, 104, 105, 106, 107, 108, 109, 110, 113, 120, 121, 122, 125, 132, 133, 134, 137, 144, 145, 147, 148, 150, 151, 152, 154, 155, 157, 158, 159, 161, 162, 164, 165, 166, 168, 169, 171, 172, 173, 174, 176, 177, 179, 180, 181, 183, 184, 186, 187, 188, 190, 191, 193, 194, 195, 197, 198, 200, 201, 202, 204, 205, 207, 208, 209, 211, 212, 214, 215, 216, 218, 219, 221, 222, 223, 225, 226, 228, 229, 230, 232, 233, 235, 236, 237, 239, 240, 242, 243, 244, 246, 247, 249, 250, 251, 253, 254, 256, 257, 258, 260, 261, 263, 264, 265, 266, 268, 269, 271, 272, 273, 274, 276, 277, 279, 280, 281, 282, 284, 285, 287, 288, 289, 290, 292, 293, 295, 296, 297, 299, 300, 302, 303, 304, 306, 307, 309, 310, 311, 312, 314, 315, 317, 318, 319, 320, 322, 323, 325, 326, 327, 329, 330, 332, 333, 334, 336, 337, 339, 340, 341, 343, 344, 346, 347, 348, 350, 351, 353, 354, 355, 357, 358, 360, 361, 362, 363, 364, 367, 374, 375, 377, 378, 380, 381, 382, 384, 385, 387, 388, 389, 391, 392, 394, 395, 396, 398, 399, 401, 402, 403, 405, 406, 408, 409, 410, 412, 413, 415, 416, 417, 418, 420, 421, 423, 424, 425, 426, 428, 429, 431, 432, 433, 434, 436, 437, 439, 440, 441, 442, 444, 445, 447, 448, 449, 450, 452, 453, 455, 456, 457, 459, 460, 462, 463, 464, 466, 467, 469, 470, 471, 473, 474, 476, 477, 478, 480, 481, 483, 484, 485, 487, 488, 490, 491, 492, 494, 495, 497, 498, 499, 501, 502, 504, 505, 506, 508, 509, 511, 512, 513, 515, 516, 518, 519, 520, 522, 523, 525, 526, 527, 529, 530, 532, 533, 534, 535, 537, 538, 540, 541, 542, 543, 545, 546, 548, 549, 550, 551, 553, 554, 556, 557, 558, 559, 561, 562, 564, 565, 566, 567, 569, 570, 572, 573, 574, 576, 577, 579, 580, 581, 583, 584, 586, 587, 588, 590, 591, 593, 594, 595, 597, 598, 600, 601, 602, 604, 605, 607, 608, 609, 610, 611, 614, 616, 617, 619, 620, 621, 623, 624, 626, 627, 628, 630, 631, 633, 634, 635, 637, 638, 640, 641, 642, 644, 645, 647, 648, 649, 651, 652, 654, 655, 663, 664, 666, 667, 669, 670, 671, 673, 674, 676, 677, 678, 679, 681, 682, 684, 685, 686, 687, 689, 690, 692, 693, 694, 696, 697, 699, 700, 701, 703, 704, 706, 707, 708, 710, 711, 713, 714, 715, 717, 718, 720, 721, 722, 723, 725, 726, 728, 729, 730, 732, 733, 735, 736, 737, 739, 740, 742, 743, 744, 745, 746, 747, 748, 751, 752, 754, 755, 757, 758, 759, 761, 762, 764, 765, 766, 767, 769, 770, 772, 773, 774, 776, 777, 779, 780, 781, 783, 784, 786, 787, 788, 790, 791, 793, 794, 795, 797, 798, 800, 801, 802, 804, 805, 807, 808, 809, 811, 812, 814, 815, 816, 819, 820]
set_option maxRecDepth 1000000 in
theorem hAs_eq : ∀ P, hAs = (hd0.heap_1 P).map (·.1) := fun _ => by kernel_rfl
set_option maxRecDepth 1000000 in
theorem hl1 : ∀ w, (staticsOk (@PySem.W.Fast.tw5923862056798008813 hp.main.body) (hS0 w).heap (hMD w).abs.heap && namesBound hp (hMD w).abs.heap && gensDone (hMD w).abs && laidKept (hS0 w).heap (hMD w).abs.heap) = true := by
  intro w
  kernel_rfl
set_option maxRecDepth 1000000 in
theorem hl2 : ∀ w, @PySem.W.Fast.tw4187177175401517315 viewQ looseQ (@PySem.W.Fast.tw5923862056798008813 hp.main.body) xtQ true (hMD w).abs = openGood viewQ looseQ := by
  intro w
  kernel_rfl
set_option maxRecDepth 1000000 in
theorem hl3 : ∀ w, hAs.map (atT (hMD w)) = (hd0.heap_1 w.params).map fun p => some p.2 := by
  intro w
  kernel_rfl
theorem left_top (w : World) : topRun treeTable hp w 34 (some (.ref 6)) 10492 (hS0 w) (topStub hp) = some (hMD w).abs := by
  obtain ⟨RE, eE, mE⟩ := mid_gen (d := hSt w) (by decide) (hrE w)
  unfold hRunE at eE
  obtain ⟨RA, eA, mA⟩ := mid_gen (d := hSt w) (by decide) (hrA w)
  unfold hRunA at eA
  obtain ⟨RB, eB, mB⟩ := mid_gen (d := hSt w) (by decide) (hrB w)
  unfold hRunB at eB
  obtain ⟨RC, eC, mC⟩ := mid_gen (d := hSt w) (by decide) (hrC w)
  unfold hRunC at eC
  obtain ⟨RD, eD, mD⟩ := mid_gen (d := hSt w) (by decide) (hrD w)
  unfold hRunD at eD
  rw [← PySem.W.Fast.te14364793385576792824, ← PySem.W.Fast.te10110043849684766642] at eE eA eB eC eD
  have x := left_run (hi5 w) (hq5 w) (hq4 w) (piece_cut (M := hSt w) (M' := hME w) 0 5 eE mE (piece_cut (M := hME w) (M' := hMA w) 5 7 eA mA (piece_cut (M := hMA w) (M' := hMB w) 12 1 eB mB (piece_cut (M := hMB w) (M' := hMC w) 13 1 eC mC (piece_cut (M := hMC w) (M' := hMD w) 14 23 eD mD (by
    rw [show (14 : Nat) + 23 = 37 from rfl, hend]
    exact piece_nil (hq6 w _)))))))
  have y := topRun_mono 5235 _ _ _ _ x
  exact y
theorem left : LeftO hp viewQ looseQ xtQ (Hook.obs (kHook hd0.heap_1 hAs hAs_eq)) (Hook.val (kHook hd0.heap_1 hAs hAs_eq)) 10492 := fun w => by
  have l1 := hl1 w
  have l2 := hl2 w
  rw [← PySem.W.Fast.te5923862056798008813] at l1 l2
  rw [← PySem.W.Fast.te4187177175401517315] at l2
  refine left_of (hi1 w) (hi2 w) (hi3 w) (hi4 w) (left_top w) l1 l2 ?_
  show hAs.map (hMD w).abs.heap.get? = (hd0.heap_1 w.params).map fun p => some p.2
  rw [← hl3 w]
  exact List.map_congr_left fun a _ => atT_eq (hMD w) a
section W
local macro_rules | `(tactic| k_all) => `(tactic| assumption)
local macro_rules | `(tactic| k_room) => `(tactic| ((try simp only [depth_under_make, depth_under_kw, depth_in1, depth_deeper]); (try dsimp only [ktrTop]); omega))
local macro_rules | `(tactic| walk_at "my enter") => `(tactic| (k_dflt (refine' code_def ?k1 ?k2 ?k3 ?k4 ?k5 ?kA ?kF ?kK ?k6 ?k7 ?k8 ?k9 ?kB ?_ ?c2 ?c3 ?c4 ?c5; (case kA => exact rfl); (case kF => exact rfl); (case kK => first | assumption | exact rfl); (case k1 => k_asm); (case k2 => k_asm); (case k3 => k_asm); (case k4 => k_asm); (case k5 => k_asm); (case k6 => k_is); (case k7 => k_is); (case k8 => k_room); (case k9 => first | exact BindsTo.of_eq rfl | exact binds_K (by k_in) rfl (by k_is) rfl rfl rfl | fail "my enter: no rule for these arguments"); (case c5 => decide); (case kB => exact locs rfl); (case c2 => exact rfl); (case c3 => exact rfl); (case c4 => exact rfl); k_whole; intro g' L' h' FG' F' N' B' X' T'; (try dsimp only); (try k_lift B'); (try k_fold))))
local macro_rules | `(tactic| is_list) => `(tactic| exact News.isList (by k_asm) (by ktr_member))
section TC1
noncomputable abbrev PR : Program := PySem.Challenge.rw_ij0135_01.row.prog
noncomputable def dunderV (x : Str) : Bool := decide (4 < (x.length : Int)) && (Txt.slice x none (some 2) == Txt.slice x (some (-2)) none && (Txt.slice x (some (-2)) none == Str.ofString "__" && (Txt.item x 2 != Str.ofString "_" && Txt.item x (-3) != Str.ofString "_")))
noncomputable def sunderV (x : Str) : Bool := decide (2 < (x.length : Int)) && (Txt.item x 0 == Txt.item x (-1) && (Txt.item x (-1) == Str.ofString "_" && (Txt.item x 1 != Str.ofString "_" && Txt.item x (-2) != Str.ofString "_")))
section
variable {w : World} {p : Program} {loose : List Str} {mean : ExcName → Option Value} {mg mb : Str → Option Value}
  {dp un : Nat} {gd : Option (List Code)} {cn : Str} {cs : Scope} {a : Addr} {ccd : Value} {cl : List (Str × Addr)} {outer : List Env} {A₀ : Around} {base h₀ : Heap} {L : Addr} {m : Str → Option Value} {news : List (Addr × Obj)} {s : Shared} {Q E : Value → Shared → Prop}

set_option maxRecDepth 100000 in
set_option maxHeartbeats 0 in
theorem c_dunder (B : Below A₀ base outer h₀) (F : Fr h₀ L s.heap m) (X : (hd0.heap_1 w.params).In h₀) (N : News h₀ L s.heap news) (T : Top p loose mean mg mb h₀) (hk : cs.kind = .function)
    (x : Str) (t : Tok) (hx : x.length ≤ 1000000) (hd : dp + 5 < recursionLimit)
    (hret : CbRet h₀ L m news s Q (fun _ => .bool (dunderV x))) :
    wpAny (model PR w) (ktrTop dp un gd cn cs L a ccd cl outer) (call (.ref 51) [.str x t]) Q E s := by
  refine wpAny_call ?_
  walk_at "my enter"
  k_steps
  all_goals (refine cb_retB (x := dunderV x) hret ?_ (by k_asm) (by k_asm); simp [dunderV, *])

set_option maxRecDepth 100000 in
set_option maxHeartbeats 0 in
theorem c_sunder (B : Below A₀ base outer h₀) (F : Fr h₀ L s.heap m) (X : (hd0.heap_1 w.params).In h₀) (N : News h₀ L s.heap news) (T : Top p loose mean mg mb h₀) (hk : cs.kind = .function)
    (x : Str) (t : Tok) (hx : x.length ≤ 1000000) (hd : dp + 5 < recursionLimit)
    (hret : CbRet h₀ L m news s Q (fun _ => .bool (sunderV x))) :
    wpAny (model PR w) (ktrTop dp un gd cn cs L a ccd cl outer) (call (.ref 58) [.str x t]) Q E s := by
  refine wpAny_call ?_
  walk_at "my enter"
  k_steps
  all_goals (refine cb_retB (x := sunderV x) hret ?_ (by k_asm) (by k_asm); simp [sunderV, *])
end
end TC1
section TC2
local macro_rules | `(tactic| walk_at "call ref") => `(tactic| (k_here; k_dflt (first
  | (refine' c_dunder ?B ?F ?X ?N ?T ?k _ _ ?x ?d ?_; (case B => k_asm); (case F => k_asm); (case X => k_in); (case N => k_asm); (case T => k_asm); (case k => first | assumption | exact rfl); (case x => first | assumption | omega); (case d => k_room); k_whole)
  | (refine' c_sunder ?B ?F ?X ?N ?T ?k _ _ ?x ?d ?_; (case B => k_asm); (case F => k_asm); (case X => k_in); (case N => k_asm); (case T => k_asm); (case k => first | assumption | exact rfl); (case x => first | assumption | omega); (case d => k_room); k_whole)); intro t9 h9 tk9 F9 N9; (try dsimp only); (try k_sweep)))
section
variable {w : World} {p : Program} {loose : List Str} {mean : ExcName → Option Value} {mg mb : Str → Option Value}
  {dp un : Nat} {gd : Option (List Code)} {cn : Str} {cs : Scope} {a : Addr} {ccd : Value} {cl : List (Str × Addr)} {outer : List Env} {A₀ : Around} {base h₀ : Heap} {L : Addr} {m : Str → Option Value} {news : List (Addr × Obj)} {s : Shared} {Q E : Value → Shared → Prop}

set_option maxRecDepth 100000 in
set_option maxHeartbeats 0 in
theorem c_is_of (B : Below A₀ base outer h₀) (F : Fr h₀ L s.heap m) (X : (hd0.heap_1 w.params).In h₀) (N : News h₀ L s.heap news) (T : Top p loose mean mg mb h₀) (hk : cs.kind = .function)
    (x : Str) (t : Tok) (hx : x.length ≤ 1000000) (l : Addr) (b0 b1 : Bool) (n : Nat) (hl : (l, PySem.W.listOf #[.bool b0, .bool b1] n) ∈ news) (hd : dp + 8 < recursionLimit)
    (hret : CbRet h₀ L m news s Q (fun _ => .bool (dunderV x == b0 && sunderV x == b1))) :
    wpAny (model PR w) (ktrTop dp un gd cn cs L a ccd cl outer) (call (.ref 794) [.str x t, .ref l]) Q E s := by
  refine wpAny_call ?_
  walk_at "my enter"
  k_steps
  all_goals (refine cb_retB hret ?_ (by k_asm) (by k_asm); simp [*])
end
end TC2
section TC3
section
variable {w : World} {p : Program} {loose : List Str} {mean : ExcName → Option Value} {mg mb : Str → Option Value}
  {dp un : Nat} {gd : Option (List Code)} {cn : Str} {cs : Scope} {a : Addr} {ccd : Value} {cl : List (Str × Addr)} {outer : List Env} {A₀ : Around} {base h₀ : Heap} {L : Addr} {m : Str → Option Value} {news : List (Addr × Obj)} {s : Shared} {Q E : Value → Shared → Prop}
noncomputable def sioEs (P : Params) (k : Nat → Tok) (buf : Str) (pos : Int) (tb tp tn : Tok) : List DictEntry :=
  [⟨PyData.keyHash P "_StringIO__newline", .str "_StringIO__newline" (k 0), .str "\n" tn⟩,
   ⟨PyData.keyHash P "_StringIO__buf", .str "_StringIO__buf" (k 1), .str buf tb⟩,
   ⟨PyData.keyHash P "_StringIO__pos", .str "_StringIO__pos" (k 2), .int pos tp⟩]

theorem cut_last (c : Nat) : Txt.slice ((⟨#[c]⟩ : Str) ++ Str.ofString " ") none (some (-1)) = ⟨#[c]⟩ := by
  have e : Str.ofString " " = ⟨#[32]⟩ := by decide +kernel
  have e2 : (⟨#[c]⟩ : Str) ++ (⟨#[32]⟩ : Str) = ⟨#[c, 32]⟩ := rfl
  rw [e, e2]
  have e3 : Builtin.Str.strSliceIndices none (some (-1)) 1 2 = [0] := by decide +kernel
  unfold Txt.slice
  simp [Str.length, e3]
theorem drop_lt {l : List Nat} {k c : Nat} {r : List Nat} (h : l.drop k = c :: r) : k < l.length := by
  have := congrArg List.length h
  simp at this
  omega
theorem read_one {buf : Str} {k c : Nat} {r : List Nat} (h : buf.cps.toList.drop k = c :: r) :
    Txt.slice (Txt.slice buf (some (k : Int)) (some ((k : Int) + 1)) ++ Str.ofString " ") none (some (-1)) = ⟨#[c]⟩ := by
  have hl := drop_lt h
  have e1 : Txt.slice buf (some (k : Int)) (some ((k : Int) + 1)) = ⟨#[c]⟩ := by
    have := beq_iff_eq.mp (slice_closes (x := buf) (i := (k : Int)) (j := (k : Int) + 1) ⟨by omega, by omega, by omega⟩)
    rw [this]
    have e2 : ((k : Int) + 1 - (k : Int)).toNat = 1 := by omega
    rw [Int.toNat_natCast, e2, h]
    rfl
  rw [e1, cut_last]
theorem read_last {buf : Str} {k c : Nat} {r : List Nat} (h : buf.cps.toList.drop k = c :: r) (hn : ¬ ((k : Int) + 1 < (buf.length : Int))) : (buf.length : Int) = (k : Int) + 1 := by
  have hl := drop_lt h
  have : buf.length = buf.cps.toList.length := by simp [Str.length]
  omega

set_option maxRecDepth 100000 in
set_option maxHeartbeats 0 in
set_option pp.maxSteps 3000 in
theorem c_read_char
  (B : Below A₀ base outer h₀) (F : Fr h₀ L s.heap m) (X : (hd0.heap_1 w.params).In h₀) (T : Top p loose mean mg mb h₀) (hk : cs.kind = .function)
  {io dio : Addr} {kk : Nat → Tok} {tb tp tn : Tok} {buf : Str} {k c : Nat} {r : List Nat} {rest : List (Addr × Obj)}
  (N : News h₀ L s.heap ((io, instObj 611 dio) :: (dio, dictOf (sioEs w.params kk buf k tb tp tn) 3) :: rest)) (hio : io ≠ dio) (hrest : ∀ p ∈ rest, p.1 ≠ dio)
  (t : Tok) (hpos : buf.cps.toList.drop k = c :: r) (hx : buf.length ≤ 1000000) (hd : dp + 10 < recursionLimit)
  (hret : ∀ (t' : Tok) (h' : Heap) (tk' : Nat) (tp' : Tok), Fr h₀ L h' m → News h₀ L h' ((io, instObj 611 dio) :: (dio, dictOf (sioEs w.params kk buf ((k : Int) + 1) tb tp' tn) 3) :: rest) → Q (.str ⟨#[c]⟩ t') { s with heap := h', toks := tk' }) :
  wpAny (model PR w) (ktrTop dp un gd cn cs L a ccd cl outer) (call (.ref 557) [.ref io, .int 1 t]) Q E s := by
  have hlt : (k : Int) < (buf.length : Int) := by
    have := drop_lt hpos
    have : buf.length = buf.cps.toList.length := by simp [Str.length]
    omega
  have h0 : (0 : Int) ≤ (k : Int) := by omega
  unfold sioEs at N
  refine wpAny_call ?_
  walk_at "my enter"
  k_steps
  · rw [read_one hpos]
    exact hret _ _ _ _ (by k_asm) (by k_asm)
  · have hn := read_last hpos (by first | assumption | omega)
    rw [hn, read_one hpos]
    rename News _ _ _ _ => NE
    rw [hn] at NE
    exact hret _ _ _ _ (by k_asm) NE

set_option maxRecDepth 100000 in
set_option maxHeartbeats 0 in
theorem c_read_end
  (B : Below A₀ base outer h₀) (F : Fr h₀ L s.heap m) (X : (hd0.heap_1 w.params).In h₀) (T : Top p loose mean mg mb h₀) (hk : cs.kind = .function)
  {io dio : Addr} {kk : Nat → Tok} {tb tp tn : Tok} {buf : Str} {k : Nat} {rest : List (Addr × Obj)}
  (N : News h₀ L s.heap ((io, instObj 611 dio) :: (dio, dictOf (sioEs w.params kk buf k tb tp tn) 3) :: rest)) (hio : io ≠ dio) (hrest : ∀ p ∈ rest, p.1 ≠ dio)
  (t : Tok) (hpos : buf.length ≤ k) (hx : buf.length ≤ 1000000) (hd : dp + 10 < recursionLimit)
  (hret : ∀ (t' : Tok) (h' : Heap) (tk' : Nat), Fr h₀ L h' m → News h₀ L h' ((io, instObj 611 dio) :: (dio, dictOf (sioEs w.params kk buf k tb tp tn) 3) :: rest) → Q (.str (Str.ofString "") t') { s with heap := h', toks := tk' }) :
  wpAny (model PR w) (ktrTop dp un gd cn cs L a ccd cl outer) (call (.ref 557) [.ref io, .int 1 t]) Q E s := by
  have hlt : (buf.length : Int) ≤ (k : Int) := by omega
  unfold sioEs at N
  refine wpAny_call ?_
  walk_at "my enter"
  k_steps
  all_goals exact hret _ _ _ (by k_asm) (by k_asm)

end
end TC3
section TC4
section
variable {w : World} {p : Program} {loose : List Str} {mean : ExcName → Option Value} {mg mb : Str → Option Value}
  {dp un : Nat} {gd : Option (List Code)} {cn : Str} {cs : Scope} {a : Addr} {ccd : Value} {cl : List (Str × Addr)} {outer : List Env} {A₀ : Around} {base h₀ : Heap} {L : Addr} {m : Str → Option Value} {news : List (Addr × Obj)} {s : Shared} {Q E : Value → Shared → Prop}
noncomputable abbrev dqObj : Obj := { cls := .type "collections.deque", data := .fields #[.none, .int 0 0] }
noncomputable def lexEs (P : Params) (kk vv : Nat → Tok) (io pb fs : Addr) (wc : Str) (state : Value) (token : Str) (tt : Tok) : List DictEntry :=
  [⟨PyData.keyHash P "instream", .str "instream" (kk 0), .ref io⟩,
   ⟨PyData.keyHash P "infile", .str "infile" (kk 1), .none⟩,
   ⟨PyData.keyHash P "posix", .str "posix" (kk 2), .bool true⟩,
   ⟨PyData.keyHash P "eof", .str "eof" (kk 3), .none⟩,
   ⟨PyData.keyHash P "commenters", .str "commenters" (kk 4), .str "" (vv 0)⟩,
   ⟨PyData.keyHash P "wordchars", .str "wordchars" (kk 5), .str wc (vv 1)⟩,
   ⟨PyData.keyHash P "whitespace", .str "whitespace" (kk 6), .str " \t\r\n" (vv 2)⟩,
   ⟨PyData.keyHash P "whitespace_split", .str "whitespace_split" (kk 7), .bool true⟩,
   ⟨PyData.keyHash P "quotes", .str "quotes" (kk 8), .str "'\"" (vv 3)⟩,
   ⟨PyData.keyHash P "escape", .str "escape" (kk 9), .str "\\" (vv 4)⟩,
   ⟨PyData.keyHash P "escapedquotes", .str "escapedquotes" (kk 10), .str "\"" (vv 5)⟩,
   ⟨PyData.keyHash P "state", .str "state" (kk 11), state⟩,
   ⟨PyData.keyHash P "pushback", .str "pushback" (kk 12), .ref pb⟩,
   ⟨PyData.keyHash P "lineno", .str "lineno" (kk 13), .int 1 (vv 6)⟩,
   ⟨PyData.keyHash P "debug", .str "debug" (kk 14), .int 0 (vv 7)⟩,
   ⟨PyData.keyHash P "token", .str "token" (kk 15), .str token tt⟩,
   ⟨PyData.keyHash P "filestack", .str "filestack" (kk 16), .ref fs⟩,
   ⟨PyData.keyHash P "source", .str "source" (kk 17), .none⟩,
   ⟨PyData.keyHash P "_punctuation_chars", .str "_punctuation_chars" (kk 18), .str "" (vv 8)⟩]
inductive MyStop (P : Prop) : Prop | intro (h : P)
theorem MyStop.out {P : Prop} : MyStop P → P | .intro h => h
theorem upd_old {d : Addr} {o o' : Obj} : ∀ {l l' : List (Addr × Obj)}, Upd d o o' l l' → (d, o) ∈ l
  | _, _, .head _ => .head _
  | _, _, .tail _ r => .tail _ (upd_old r)
theorem upd_new {d : Addr} {o o' : Obj} : ∀ {l l' : List (Addr × Obj)}, Upd d o o' l l' → ∀ q ∈ l', q = (d, o') ∨ (q ∈ l ∧ q.1 ≠ d)
  | _, _, .head h, q, hq => by
    rcases List.mem_cons.mp hq with rfl | hq
    · exact .inl rfl
    · exact .inr ⟨.tail _ hq, h q hq⟩
  | _, _, .tail hn r, q, hq => by
    rcases List.mem_cons.mp hq with rfl | hq
    · exact .inr ⟨.head _, hn⟩
    · rcases upd_new r q hq with h | ⟨h1, h2⟩
      · exact .inl h
      · exact .inr ⟨.tail _ h1, h2⟩
theorem c_read_charU
  (B : Below A₀ base outer h₀) (F : Fr h₀ L s.heap m) (X : (hd0.heap_1 w.params).In h₀) (T : Top p loose mean mg mb h₀) (hk : cs.kind = .function)
  {io dio : Addr} {kk : Nat → Tok} {tb tp tn : Tok} {buf : Str} {k c : Nat} {r : List Nat} {nw : Obj → List (Addr × Obj)}
  (N : News h₀ L s.heap news) (hio : (io, instObj 611 dio) ∈ news) (hU : ∀ o', Upd dio (dictOf [⟨PyData.keyHash w.params "_StringIO__newline", .str "_StringIO__newline" (kk 0), .str "\n" tn⟩,
   ⟨PyData.keyHash w.params "_StringIO__buf", .str "_StringIO__buf" (kk 1), .str buf tb⟩,
   ⟨PyData.keyHash w.params "_StringIO__pos", .str "_StringIO__pos" (kk 2), .int (k : Int) tp⟩] 3) o' news (nw o'))
  (t : Tok) (hpos : buf.cps.toList.drop k = c :: r) (hx : buf.length ≤ 1000000) (hd : dp + 10 < recursionLimit)
  (hret : ∀ (t' : Tok) (h' : Heap) (tk' : Nat) (tp' : Tok), Fr h₀ L h' m → News h₀ L h' (nw (dictOf [⟨PyData.keyHash w.params "_StringIO__newline", .str "_StringIO__newline" (kk 0), .str "\n" tn⟩,
   ⟨PyData.keyHash w.params "_StringIO__buf", .str "_StringIO__buf" (kk 1), .str buf tb⟩,
   ⟨PyData.keyHash w.params "_StringIO__pos", .str "_StringIO__pos" (kk 2), .int ((k : Int) + 1) tp'⟩] 3)) → Q (.str ⟨#[c]⟩ t') { s with heap := h', toks := tk' }) :
  wpAny (model PR w) (ktrTop dp un gd cn cs L a ccd cl outer) (call (.ref 557) [.ref io, .int 1 t]) Q E s := by
  have hdio : (dio, dictOf (sioEs w.params kk buf k tb tp tn) 3) ∈ news := upd_old (hU dqObj)
  have hne : io ≠ dio := fun e => by
    have h1 := (N _ hio).1
    have h2 := (N _ hdio).1
    rw [show (io, instObj 611 dio).1 = dio from e] at h1
    rw [h2] at h1
    exact absurd (congrArg Obj.cls (Option.some.inj h1)) (by intro q; cases q)
  have N' : News h₀ L s.heap ((io, instObj 611 dio) :: (dio, dictOf (sioEs w.params kk buf k tb tp tn) 3) :: news.filter (fun p => decide (p.1 ≠ dio))) := by
    intro q hq
    rcases List.mem_cons.mp hq with rfl | hq
    · exact N _ hio
    · rcases List.mem_cons.mp hq with rfl | hq
      · exact N _ hdio
      · exact N _ (List.mem_filter.mp hq).1
  refine c_read_char B F X T hk N' hne (fun p hp => of_decide_eq_true (List.mem_filter.mp hp).2) t hpos hx hd fun t' h' tk' tp' F' N'' => hret t' h' tk' tp' F' ?_
  intro q hq
  rcases upd_new (hU _) q hq with rfl | ⟨h, hn⟩
  · exact N'' _ (.tail _ (.head _))
  · exact N'' _ (.tail _ (.tail _ (List.mem_filter.mpr ⟨h, decide_eq_true hn⟩)))

theorem c_read_endU
  (B : Below A₀ base outer h₀) (F : Fr h₀ L s.heap m) (X : (hd0.heap_1 w.params).In h₀) (T : Top p loose mean mg mb h₀) (hk : cs.kind = .function)
  {io dio : Addr} {kk : Nat → Tok} {tb tp tn : Tok} {buf : Str} {k : Nat} {nw : Obj → List (Addr × Obj)}
  (N : News h₀ L s.heap news) (hio : (io, instObj 611 dio) ∈ news) (hU : ∀ o', Upd dio (dictOf [⟨PyData.keyHash w.params "_StringIO__newline", .str "_StringIO__newline" (kk 0), .str "\n" tn⟩,
   ⟨PyData.keyHash w.params "_StringIO__buf", .str "_StringIO__buf" (kk 1), .str buf tb⟩,
   ⟨PyData.keyHash w.params "_StringIO__pos", .str "_StringIO__pos" (kk 2), .int (k : Int) tp⟩] 3) o' news (nw o'))
  (t : Tok) (hpos : buf.length ≤ k) (hx : buf.length ≤ 1000000) (hd : dp + 10 < recursionLimit)
  (hret : ∀ (t' : Tok) (h' : Heap) (tk' : Nat), Fr h₀ L h' m → News h₀ L h' news → Q (.str (Str.ofString "") t') { s with heap := h', toks := tk' }) : 
  wpAny (model PR w) (ktrTop dp un gd cn cs L a ccd cl outer) (call (.ref 557) [.ref io, .int 1 t]) Q E s := by
  have hdio : (dio, dictOf (sioEs w.params kk buf k tb tp tn) 3) ∈ news := upd_old (hU dqObj)
  have hne : io ≠ dio := fun e => by
    have h1 := (N _ hio).1
    have h2 := (N _ hdio).1
    rw [show (io, instObj 611 dio).1 = dio from e] at h1
    rw [h2] at h1
    exact absurd (congrArg Obj.cls (Option.some.inj h1)) (by intro q; cases q)
  have N' : News h₀ L s.heap ((io, instObj 611 dio) :: (dio, dictOf (sioEs w.params kk buf k tb tp tn) 3) :: news.filter (fun p => decide (p.1 ≠ dio))) := by
    intro q hq
    rcases List.mem_cons.mp hq with rfl | hq
    · exact N _ hio
    · rcases List.mem_cons.mp hq with rfl | hq
      · exact N _ hdio
      · exact N _ (List.mem_filter.mp hq).1
  refine c_read_end B F X T hk N' hne (fun p hp => of_decide_eq_true (List.mem_filter.mp hp).2) t hpos hx hd fun t' h' tk' F' N'' => hret t' h' tk' F' ?_
  intro q hq
  by_cases hn : q.1 = dio
  · have := (N q hq).1
    rw [hn, (N _ hdio).1] at this
    have e : q = (dio, dictOf (sioEs w.params kk buf k tb tp tn) 3) := Prod.ext hn (Option.some.inj this).symm
    rw [e]
    exact N'' _ (.tail _ (.head _))
  · exact N'' _ (.tail _ (.tail _ (List.mem_filter.mpr ⟨hq, decide_eq_true hn⟩)))

end
end TC4
section TS0
section
variable {w : World} {p : Program} {loose : List Str} {mean : ExcName → Option Value} {mg mb : Str → Option Value}
  {dp un : Nat} {gd : Option (List Code)} {cn : Str} {cs : Scope} {a : Addr} {ccd : Value} {cl : List (Str × Addr)} {outer : List Env} {A₀ : Around} {base h₀ : Heap} {L : Addr} {m : Str → Option Value} {news : List (Addr × Obj)} {s : Shared} {Q E : Value → Shared → Prop}
noncomputable def inS (x y : Str) : Bool := !(Builtin.Str.occurrences x y 0 x.length 1).isEmpty
theorem eq_strT {x y : Str} {t u : Tok} {Q : Value → Shared → Prop} (e : (x == y) = true) (h : Q (.bool true) s) : wpAny (model PR w) A₀ (compareOp .Eq (.str x t) (.str y u)) Q E s := eq_str (by rw [e]; exact h)
theorem eq_strF {x y : Str} {t u : Tok} {Q : Value → Shared → Prop} (e : (x == y) = false) (h : Q (.bool false) s) : wpAny (model PR w) A₀ (compareOp .Eq (.str x t) (.str y u)) Q E s := eq_str (by rw [e]; exact h)
theorem in_strT {x y : Str} {t u : Tok} {Q : Value → Shared → Prop} (e : inS x y = true) (h : Q (.bool true) s) : wpAny (model PR w) A₀ (compareOp .In (.str y u) (.str x t)) Q E s := PyProof.Rows.in_str (by show Q (.bool (inS x y)) s; rw [e]; exact h)
theorem in_strF {x y : Str} {t u : Tok} {Q : Value → Shared → Prop} (e : inS x y = false) (h : Q (.bool false) s) : wpAny (model PR w) A₀ (compareOp .In (.str y u) (.str x t)) Q E s := PyProof.Rows.in_str (by show Q (.bool (inS x y)) s; rw [e]; exact h)
theorem in_strQ {x y : Str} {t u : Tok} {Q : Value → Shared → Prop} (h1 : inS x y = true → Q (.bool true) s) (h2 : inS x y = false → Q (.bool false) s) : wpAny (model PR w) A₀ (compareOp .In (.str y u) (.str x t)) Q E s := by
  cases e : inS x y with
  | true => exact in_strT e (h1 e)
  | false => exact in_strF e (h2 e)
theorem truthy_strT {x : Str} {t : Tok} {Q : Bool → Shared → Prop} (e : (x == Str.ofString "") = false) (hl : x.length ≤ 1000000) (h : Q true { s with toks := s.toks + 1 + 1 }) : wpAny (model PR w) A₀ (truthy (.str x t)) Q E s := by
  refine PySem.P.truthy_str (by omega) ?_
  have : ((x.length : Int) != 0) = true := by
    rw [bne_iff_ne]
    intro h0
    have h1 : x.cps.size = 0 := by have : x.length = 0 := by omega
                                   exact this
    have h2 : x = Str.ofString "" := by
      have e0 : Str.ofString "" = ⟨#[]⟩ := by decide +kernel
      rw [e0]
      cases x
      rename_i a
      have : a = #[] := Array.eq_empty_of_size_eq_zero h1
      rw [this]
    rw [h2] at e
    exact absurd e (by decide +kernel)
  rw [this]; exact h
theorem truthy_strF {x : Str} {t : Tok} {Q : Bool → Shared → Prop} (e : (x == Str.ofString "") = true) (h : Q false { s with toks := s.toks + 1 + 1 }) : wpAny (model PR w) A₀ (truthy (.str x t)) Q E s := by
  have e1 := beq_iff_eq.mp e
  subst e1
  refine PySem.P.truthy_str (by decide +kernel) ?_
  have : (((Str.ofString "").length : Int) != 0) = false := by decide +kernel
  rw [this]; exact h
theorem notin_strF {x y : Str} {t u : Tok} {Q : Value → Shared → Prop} (e : inS x y = true) (h : Q (.bool false) s) : wpAny (model PR w) A₀ (compareOp .NotIn (.str y u) (.str x t)) Q E s := PyProof.Rows.notIn_str (by show Q (.bool (!inS x y)) s; rw [e]; exact h)
theorem notin_strT {x y : Str} {t u : Tok} {Q : Value → Shared → Prop} (e : inS x y = false) (h : Q (.bool true) s) : wpAny (model PR w) A₀ (compareOp .NotIn (.str y u) (.str x t)) Q E s := PyProof.Rows.notIn_str (by show Q (.bool (!inS x y)) s; rw [e]; exact h)
theorem q_a_sp : (Str.ofString "a" == Str.ofString " ") = false := by decide +kernel
theorem q_sp_sp : (Str.ofString " " == Str.ofString " ") = true := by decide +kernel
theorem q_a_c : (Str.ofString "a" == Str.ofString "c") = false := by decide +kernel
theorem q_em_nl : (Str.ofString "" == Str.ofString "\n") = false := by decide +kernel
theorem i_a_q : inS (Str.ofString "'\"") (Str.ofString "a") = false := by decide +kernel
theorem i_a_e : inS (Str.ofString "\\") (Str.ofString "a") = false := by decide +kernel
theorem ite_nt {p q : Prop} (h : q) : if (!true) = true then p else q := h
theorem ite_nf {p q : Prop} (h : p) : if (!false) = true then p else q := h

end
end TS0
section TG1
section
variable {w : World} {p : Program} {loose : List Str} {mean : ExcName → Option Value} {mg mb : Str → Option Value}
  {dp un : Nat} {gd : Option (List Code)} {cn : Str} {cs : Scope} {a : Addr} {ccd : Value} {cl : List (Str × Addr)} {outer : List Env} {A₀ : Around} {base h₀ : Heap} {L : Addr} {m : Str → Option Value} {news ext : List (Addr × Obj)} {s : Shared} {Q E : Value → Shared → Prop}
inductive LSt | non | sp | a | q (d : Nat)
noncomputable def plainL : List Nat := [95, 97, 98, 36, 45, 105, 116, 115]
noncomputable def plainC (c : Nat) : Bool := plainL.contains c
noncomputable def okC (c : Nat) : Bool := plainC c || c == 32 || c == 39 || c == 34
noncomputable def lexRun : LSt → Str → Bool → List Nat → Option (LSt × Str × Bool × List Nat)
  | .non, _, q, [] => some (.non, Str.ofString "", q, [])
  | .non, _, _, _ :: _ => none
  | .sp, _, _, [] => none
  | .sp, tok, q, c :: r => if c = 39 then lexRun (.q 39) tok q r else if plainC c then lexRun .a ⟨#[c]⟩ q r else none
  | .a, tok, q, [] => some (.non, tok, q, [])
  | .a, tok, q, c :: r => if c = 32 then (if (tok == Str.ofString "") = false ∨ q = true then some (.sp, tok, q, r) else none)
      else if c = 39 ∨ c = 34 then lexRun (.q c) tok q r else if plainC c then lexRun .a (tok ++ ⟨#[c]⟩) q r else none
  | .q _, _, _, [] => none
  | .q d, tok, _, c :: r => if c = d then lexRun .a tok true r else if okC c then lexRun (.q d) (tok ++ ⟨#[c]⟩) true r else none
noncomputable def LSt.val : LSt → Tok → Value
  | .non, _ => .none
  | .sp, t => .str " " t
  | .a, t => .str "a" t
  | .q d, t => .str ⟨#[d]⟩ t
noncomputable def LSt.ok : LSt → Prop
  | .q d => d = 39 ∨ d = 34
  | _ => True
theorem plain_cases {c : Nat} (h : plainC c = true) : c = 95 ∨ c = 97 ∨ c = 98 ∨ c = 36 ∨ c = 45 ∨ c = 105 ∨ c = 116 ∨ c = 115 := by
  simpa [plainC, plainL] using h
theorem ok_cases {c : Nat} (h : okC c = true) : c = 95 ∨ c = 97 ∨ c = 98 ∨ c = 36 ∨ c = 45 ∨ c = 105 ∨ c = 116 ∨ c = 115 ∨ c = 32 ∨ c = 39 ∨ c = 34 := by
  simp only [okC, Bool.or_eq_true, beq_iff_eq] at h
  rcases h with ((h | h) | h) | h
  · have := plain_cases h
    omega
  all_goals omega
theorem pf_plain {c : Nat} (h : plainC c = true) : ((⟨#[c]⟩ : Str) == Str.ofString "\n") = false ∧ ((⟨#[c]⟩ : Str) == Str.ofString "") = false ∧ inS (Str.ofString " \t\r\n") ⟨#[c]⟩ = false ∧ inS (Str.ofString "") ⟨#[c]⟩ = false ∧ inS (Str.ofString "'\"") ⟨#[c]⟩ = false ∧ inS (Str.ofString "\\") ⟨#[c]⟩ = false := by
  rcases plain_cases h with rfl | rfl | rfl | rfl | rfl | rfl | rfl | rfl <;> decide +kernel
theorem pf_ok {c : Nat} (h : okC c = true) : ((⟨#[c]⟩ : Str) == Str.ofString "\n") = false ∧ ((⟨#[c]⟩ : Str) == Str.ofString "") = false ∧ inS (Str.ofString "\\") ⟨#[c]⟩ = false := by
  rcases ok_cases h with rfl | rfl | rfl | rfl | rfl | rfl | rfl | rfl | rfl | rfl | rfl <;> decide +kernel
theorem pf_quote {c : Nat} (h : c = 39 ∨ c = 34) : ((⟨#[c]⟩ : Str) == Str.ofString "\n") = false ∧ ((⟨#[c]⟩ : Str) == Str.ofString "") = false ∧ inS (Str.ofString " \t\r\n") ⟨#[c]⟩ = false ∧ inS (Str.ofString "") ⟨#[c]⟩ = false ∧ inS (Str.ofString "'\"") ⟨#[c]⟩ = true ∧ inS (Str.ofString "\\") ⟨#[c]⟩ = false ∧ ((⟨#[c]⟩ : Str) == Str.ofString " ") = false ∧ okC c = true := by
  rcases h with rfl | rfl <;> decide +kernel
theorem pf_space {c : Nat} (h : c = 32) : ((⟨#[c]⟩ : Str) == Str.ofString "\n") = false ∧ ((⟨#[c]⟩ : Str) == Str.ofString "") = false ∧ inS (Str.ofString " \t\r\n") ⟨#[c]⟩ = true := by
  subst h
  decide +kernel
theorem one_ne {c d : Nat} (h : c ≠ d) : ((⟨#[c]⟩ : Str) == ⟨#[d]⟩) = false := by
  rw [beq_eq_false_iff_ne]
  intro e
  exact h (by simpa using e)
theorem one_len (c : Nat) : (⟨#[c]⟩ : Str).length ≤ 1000000 := by show 1 ≤ 1000000; omega
theorem one_length (c : Nat) : (⟨#[c]⟩ : Str).length = 1 := rfl
theorem one_eq (c : Nat) : ((⟨#[c]⟩ : Str) == ⟨#[c]⟩) = true := beq_self_eq_true _
theorem fr_kst {g h : Heap} {L : Addr} {m' : Str → Option Value} {ps : List (Str × Value)} (F : Fr g L h m') (hs : ∀ p ∈ ps, m' p.1 = some p.2) : Fr g L h (kstB m' ps) := by
  have e : kstB m' ps = m' := funext fun z => kstB_eq hs fun _ => rfl
  rwa [e]
theorem rt_loop {w : World} {A : Around} {env : Env} {test : Expr} {body orelse : List Stmt} {Qf : Flow → Shared → Prop} (I : Nat → Shared → Prop)
    (turn : ∀ n s, (∀ n' s', n' < n → I n' s' → WhlRest PR w A (fun _ _ => False) env test body orelse Qf 0 s') → I n s → WhlRest PR w A (fun _ _ => False) env test body orelse Qf 1 s) (n : Nat) (s : Shared) (h : I n s) : WhlRest PR w A (fun _ _ => False) env test body orelse Qf 1 s := by
  induction n using Nat.strongRecOn generalizing s with
  | ind n ih => exact turn n s (fun n' s' hn hi => ih n' hn s' hi) h
noncomputable def rtLed (ext : List (Addr × Obj)) (P : Params) (x dx io dio pb fs : Addr) (kk vv kb : Nat → Tok) (buf wc : Str) (tb tn : Tok) (st : Value) (tok : Str) (tt : Tok) (pos : Int) (tp : Tok) : List (Addr × Obj) :=
  (x, instObj 746 dx) :: (dx, dictOf (lexEs P kk vv io pb fs wc st tok tt) 19) :: (io, instObj 611 dio) :: (dio, dictOf (sioEs P kb buf pos tb tp tn) 3) :: (pb, dqObj) :: (fs, dqObj) :: ext
noncomputable def RtI (ext : List (Addr × Obj)) (P : Params) (g : Heap) (L x dx io dio pb fs : Addr) (kk vv kb : Nat → Tok) (buf wc : Str) (tb tn : Tok) (fin : LSt × Str × Bool × List Nat) (s₀ : Shared) (n : Nat) (s' : Shared) : Prop :=
  ∃ (h : Heap) (tk : Nat) (u : Str → Option Value) (st : LSt) (tok : Str) (q : Bool) (k : Nat) (ts tt tp : Tok), s' = { s₀ with heap := h, toks := tk } ∧
    Fr g L h (kstB u [(Str.ofString "self", .ref x), (Str.ofString "quoted", .bool q)]) ∧
    News g L h (rtLed ext P x dx io dio pb fs kk vv kb buf wc tb tn (st.val ts) tok tt (k : Int) tp) ∧
    lexRun st tok q (buf.cps.toList.drop k) = some fin ∧ tok.length ≤ k ∧ k ≤ buf.length ∧ st.ok ∧ n = (buf.cps.toList.drop k).length

noncomputable def stmtsOf : FuncBody → List Stmt
  | .stmts b => b
  | _ => []
noncomputable def whileOf : List Stmt → Option (Expr × List Stmt)
  | [] => none
  | .While t b _ _ :: _ => some (t, b)
  | _ :: r => whileOf r
theorem with_lookup {K : Frag} {f : Addr} {o : Obj} {C : Prop} (h : List.lookup f K = some o) (k : List.lookup f K = some o → C) : C := k h

end
end TG1
section TG2
section
variable {w : World} {p : Program} {loose : List Str} {mean : ExcName → Option Value} {mg mb : Str → Option Value}
  {dp un : Nat} {gd : Option (List Code)} {cn : Str} {cs : Scope} {a : Addr} {ccd : Value} {cl : List (Str × Addr)} {outer : List Env} {A₀ : Around} {base h₀ : Heap} {L : Addr} {m : Str → Option Value} {news ext : List (Addr × Obj)} {s : Shared} {Q E : Value → Shared → Prop}
local macro_rules | `(tactic| walk_at "call ref") => `(tactic| (k_here; k_dflt (first
  | (refine' c_read_charU ?r1 ?r2 ?r3 ?r4 ?r5 ?r6 ?r7 ?r8 _ ?r9 ?ra ?rb ?_; (case r1 => k_asm); (case r2 => k_asm); (case r3 => k_in); (case r4 => k_asm); (case r5 => first | assumption | exact rfl); (case r6 => k_asm); (case r7 => k_mem); (case r8 => (intro o9; k_upd)); (case r9 => assumption); (case ra => assumption); (case rb => k_room); k_whole; intro t9 h9 tk9 tp9 F9 N9; (try dsimp only at N9); (try dsimp only); (try k_sweep))
  | (refine' c_read_endU ?r1 ?r2 ?r3 ?r4 ?r5 ?r6 ?r7 ?r8 _ ?r9 ?ra ?rb ?_; (case r1 => k_asm); (case r2 => k_asm); (case r3 => k_in); (case r4 => k_asm); (case r5 => first | assumption | exact rfl); (case r6 => k_asm); (case r7 => k_mem); (case r8 => (intro o9; k_upd)); (case r9 => assumption); (case ra => assumption); (case rb => k_room); k_whole; intro t9 h9 tk9 F9 N9; (try dsimp only); (try k_sweep)))))
local macro_rules | `(tactic| walk_at "compareOp Eq str str") => `(tactic| (k_here; first | with_reducible refine eq_strF q_a_sp ?_ | with_reducible refine eq_strT q_sp_sp ?_ | with_reducible refine eq_strF q_a_c ?_ | with_reducible refine eq_strF q_em_nl ?_ | with_reducible refine eq_strF (by assumption) ?_ | with_reducible refine eq_strT (by assumption) ?_ | k_dflt (refine eq_strT (by decide +kernel) ?_) | k_dflt (refine eq_strF (by decide +kernel) ?_)))
local macro_rules | `(tactic| walk_at "compareOp In str str") => `(tactic| (k_here; first | with_reducible refine in_strF i_a_q ?_ | with_reducible refine in_strF i_a_e ?_ | with_reducible refine in_strF (by assumption) ?_ | with_reducible refine in_strT (by assumption) ?_ | (with_reducible refine in_strQ ?_ ?_ <;> intro _)))
local macro_rules | `(tactic| walk_at "compareOp NotIn str str") => `(tactic| (k_here; first | with_reducible refine notin_strT (by assumption) ?_ | with_reducible refine notin_strF (by assumption) ?_))
local macro_rules | `(tactic| walk_at "truthy str") => `(tactic| (k_here; first | with_reducible refine truthy_strF (beq_self_eq_true _) ?_ | with_reducible refine truthy_strT (by assumption) (by first | with_reducible assumption | exact one_len _ | omega) ?_ | with_reducible refine truthy_strF (by assumption) ?_ | k_dflt (refine truthy_strT (by decide +kernel) (by decide +kernel) ?_)))
local macro_rules | `(tactic| walk_at "exec While") => `(tactic| (k_dflt (refine wpAny_noRaise ?_; refine whl_start 1 ?_; refine MyStop.out ?_)))
local macro_rules | `(tactic| walk_at "WhlRest") => `(tactic| (k_dflt (refine MyStop.out ?_)))
local macro_rules | `(tactic| walk_at "exec If") => `(tactic| (k_dflt (refine wpAny_If ?_)))
local macro_rules | `(tactic| walk_at "execs cons") => `(tactic| (k_dflt (refine wpAny_execs_cons ?_)))
local macro_rules | `(tactic| walk_at "execs nil") => `(tactic| (k_dflt (refine wpAny_execs_nil ?_)))
local macro_rules | `(tactic| walk_at "ite") => `(tactic| (first | with_reducible refine ite_tt ?_ | with_reducible refine ite_ff ?_ | with_reducible refine ite_nt ?_ | with_reducible refine ite_nf ?_))

set_option maxRecDepth 100000 in
set_option maxHeartbeats 0 in
theorem turn_non_end {fd : FuncData} {test : Expr} {body : List Stmt} {g h : Heap} {L' : Addr} {u : Str → Option Value} {Qf : Flow → Shared → Prop} {tk : Nat}
  (hfd : List.lookup 714 (hd0.heap_1 w.params) = some ⟨.type "function", none, .func fd, #[]⟩) (hb : whileOf (stmtsOf fd.body) = some (test, body))
  (B : Below (ktrTop dp un gd cn cs L a ccd cl outer) base (envX cn cs L a ccd cl :: outer) g) (X : (hd0.heap_1 w.params).In g) (T : Top p loose mean mg mb g) (hk : cs.kind = .function)
  {x dx io dio pb fs : Addr} {kb kk vv : Nat → Tok} {tb tp tn : Tok} {buf wc tok : Str} {k : Nat} {tt ts : Tok} {q : Bool} 
  (F1 : Fr g L' h (kstB u [(Str.ofString "self", .ref x), (Str.ofString "quoted", .bool q)]))
  (N1 : News g L' h (rtLed ext w.params x dx io dio pb fs kk vv kb buf wc tb tn (LSt.non.val ts) tok tt (k : Int) tp))
  (n1 : @Ne Nat x dx) (n2 : @Ne Nat io dx) (n3 : @Ne Nat dio dx) (n4 : @Ne Nat pb dx) (n5 : @Ne Nat fs dx) (n6 : @Ne Nat x dio) (n7 : @Ne Nat io dio) (n8 : @Ne Nat pb dio) (n9 : @Ne Nat fs dio) (x1 : ∀ p ∈ ext, p.1 ≠ dx) (x2 : ∀ p ∈ ext, p.1 ≠ dio)
  (hx : buf.length ≤ 1000000) (htl : tok.length ≤ 1000000) (hdp : dp + 20 < recursionLimit) (hc : buf.length ≤ k) 
  (hnext : ∀ (h' : Heap) (tk' : Nat) (u' : Str → Option Value) (ts' tt' tp' : Tok), Fr g L' h' (kstB u' [(Str.ofString "self", .ref x), (Str.ofString "quoted", .bool q)]) →
    News g L' h' (rtLed ext w.params x dx io dio pb fs kk vv kb buf wc tb tn (LSt.non.val ts') (Str.ofString "") tt' ((k : Int)) tp') →
    Qf .next { s with heap := h', toks := tk' }) :
  WhlRest PR w ((ktrTop dp un gd cn cs L a ccd cl outer).deeper (envOf fd.qualname fd.scope L' 714 (.ref 713))) (fun _ _ => False) (envOf fd.qualname fd.scope L' 714 (.ref 713)) test body [] Qf 1 { s with heap := h, toks := tk } := by
  refine' with_lookup (f := 714) (K := Mine.hd0.heap_1 w.params) ?hlk ?_
  case hlk => k_is
  intro hlk
  rw [hlk] at hfd
  cases hfd
  cases hb
  clear hlk
  dsimp only [rtLed, lexEs, sioEs, LSt.val] at N1
  skip
  refine whl_turn (k := 0) PassesOwn.never ?_
  k_steps
  all_goals (
    rename Fr _ _ _ _ => FF
    rename News _ _ _ _ => NN
    exact (hnext _ _ _ ts _ _ (fr_kst FF (List.forall_mem_cons.mpr ⟨rfl, List.forall_mem_cons.mpr ⟨rfl, List.forall_mem_nil _⟩⟩)) (cb_drop NN (fun _ hp => by first | exact hp | exact .tail _ hp))))

set_option maxRecDepth 100000 in
set_option maxHeartbeats 0 in
theorem turn_sp_q {fd : FuncData} {test : Expr} {body : List Stmt} {g h : Heap} {L' : Addr} {u : Str → Option Value} {Qf : Flow → Shared → Prop} {tk : Nat}
  (hfd : List.lookup 714 (hd0.heap_1 w.params) = some ⟨.type "function", none, .func fd, #[]⟩) (hb : whileOf (stmtsOf fd.body) = some (test, body))
  (B : Below (ktrTop dp un gd cn cs L a ccd cl outer) base (envX cn cs L a ccd cl :: outer) g) (X : (hd0.heap_1 w.params).In g) (T : Top p loose mean mg mb g) (hk : cs.kind = .function)
  {x dx io dio pb fs : Addr} {kb kk vv : Nat → Tok} {tb tp tn : Tok} {buf wc tok : Str} {k : Nat} {tt ts : Tok} {q : Bool} {c : Nat} {r : List Nat} 
  (F1 : Fr g L' h (kstB u [(Str.ofString "self", .ref x), (Str.ofString "quoted", .bool q)]))
  (N1 : News g L' h (rtLed ext w.params x dx io dio pb fs kk vv kb buf wc tb tn (LSt.sp.val ts) tok tt (k : Int) tp))
  (n1 : @Ne Nat x dx) (n2 : @Ne Nat io dx) (n3 : @Ne Nat dio dx) (n4 : @Ne Nat pb dx) (n5 : @Ne Nat fs dx) (n6 : @Ne Nat x dio) (n7 : @Ne Nat io dio) (n8 : @Ne Nat pb dio) (n9 : @Ne Nat fs dio) (x1 : ∀ p ∈ ext, p.1 ≠ dx) (x2 : ∀ p ∈ ext, p.1 ≠ dio)
  (hx : buf.length ≤ 1000000) (htl : tok.length ≤ 1000000) (hdp : dp + 20 < recursionLimit) (hc : buf.cps.toList.drop k = c :: r) (hwc : inS wc ⟨#[c]⟩ = false) (hq : c = 39 ∨ c = 34)
  (hnext : ∀ (h' : Heap) (tk' : Nat) (u' : Str → Option Value) (ts' tt' tp' : Tok), Fr g L' h' (kstB u' [(Str.ofString "self", .ref x), (Str.ofString "quoted", .bool q)]) →
    News g L' h' (rtLed ext w.params x dx io dio pb fs kk vv kb buf wc tb tn ((LSt.q c).val ts') (tok) tt' (((k + 1 : Nat) : Int)) tp') →
    WhlRest PR w ((ktrTop dp un gd cn cs L a ccd cl outer).deeper (envOf fd.qualname fd.scope L' 714 (.ref 713))) (fun _ _ => False) (envOf fd.qualname fd.scope L' 714 (.ref 713)) test body [] Qf 0 { s with heap := h', toks := tk' }) :
  WhlRest PR w ((ktrTop dp un gd cn cs L a ccd cl outer).deeper (envOf fd.qualname fd.scope L' 714 (.ref 713))) (fun _ _ => False) (envOf fd.qualname fd.scope L' 714 (.ref 713)) test body [] Qf 1 { s with heap := h, toks := tk } := by
  refine' with_lookup (f := 714) (K := Mine.hd0.heap_1 w.params) ?hlk ?_
  case hlk => k_is
  intro hlk
  rw [hlk] at hfd
  cases hfd
  cases hb
  clear hlk
  dsimp only [rtLed, lexEs, sioEs, LSt.val] at N1
  obtain ⟨e1, e2, e3, e4, e5, e6, e7, e8⟩ := pf_quote hq
  refine whl_turn (k := 0) PassesOwn.never ?_
  k_steps
  all_goals (
    rename Fr _ _ _ _ => FF
    rename News _ _ _ _ => NN
    exact (MyStop.intro (hnext _ _ _ _ _ _ (fr_kst FF (List.forall_mem_cons.mpr ⟨rfl, List.forall_mem_cons.mpr ⟨rfl, List.forall_mem_nil _⟩⟩)) (cb_drop NN (fun _ hp => by first | exact hp | exact .tail _ hp)))))

set_option maxRecDepth 100000 in
set_option maxHeartbeats 0 in
theorem turn_sp_plain {fd : FuncData} {test : Expr} {body : List Stmt} {g h : Heap} {L' : Addr} {u : Str → Option Value} {Qf : Flow → Shared → Prop} {tk : Nat}
  (hfd : List.lookup 714 (hd0.heap_1 w.params) = some ⟨.type "function", none, .func fd, #[]⟩) (hb : whileOf (stmtsOf fd.body) = some (test, body))
  (B : Below (ktrTop dp un gd cn cs L a ccd cl outer) base (envX cn cs L a ccd cl :: outer) g) (X : (hd0.heap_1 w.params).In g) (T : Top p loose mean mg mb g) (hk : cs.kind = .function)
  {x dx io dio pb fs : Addr} {kb kk vv : Nat → Tok} {tb tp tn : Tok} {buf wc tok : Str} {k : Nat} {tt ts : Tok} {q : Bool} {c : Nat} {r : List Nat} 
  (F1 : Fr g L' h (kstB u [(Str.ofString "self", .ref x), (Str.ofString "quoted", .bool q)]))
  (N1 : News g L' h (rtLed ext w.params x dx io dio pb fs kk vv kb buf wc tb tn (LSt.sp.val ts) tok tt (k : Int) tp))
  (n1 : @Ne Nat x dx) (n2 : @Ne Nat io dx) (n3 : @Ne Nat dio dx) (n4 : @Ne Nat pb dx) (n5 : @Ne Nat fs dx) (n6 : @Ne Nat x dio) (n7 : @Ne Nat io dio) (n8 : @Ne Nat pb dio) (n9 : @Ne Nat fs dio) (x1 : ∀ p ∈ ext, p.1 ≠ dx) (x2 : ∀ p ∈ ext, p.1 ≠ dio)
  (hx : buf.length ≤ 1000000) (htl : tok.length ≤ 1000000) (hdp : dp + 20 < recursionLimit) (hc : buf.cps.toList.drop k = c :: r) (hp : plainC c = true)
  (hnext : ∀ (h' : Heap) (tk' : Nat) (u' : Str → Option Value) (ts' tt' tp' : Tok), Fr g L' h' (kstB u' [(Str.ofString "self", .ref x), (Str.ofString "quoted", .bool q)]) →
    News g L' h' (rtLed ext w.params x dx io dio pb fs kk vv kb buf wc tb tn (LSt.a.val ts') (⟨#[c]⟩) tt' (((k + 1 : Nat) : Int)) tp') →
    WhlRest PR w ((ktrTop dp un gd cn cs L a ccd cl outer).deeper (envOf fd.qualname fd.scope L' 714 (.ref 713))) (fun _ _ => False) (envOf fd.qualname fd.scope L' 714 (.ref 713)) test body [] Qf 0 { s with heap := h', toks := tk' }) :
  WhlRest PR w ((ktrTop dp un gd cn cs L a ccd cl outer).deeper (envOf fd.qualname fd.scope L' 714 (.ref 713))) (fun _ _ => False) (envOf fd.qualname fd.scope L' 714 (.ref 713)) test body [] Qf 1 { s with heap := h, toks := tk } := by
  refine' with_lookup (f := 714) (K := Mine.hd0.heap_1 w.params) ?hlk ?_
  case hlk => k_is
  intro hlk
  rw [hlk] at hfd
  cases hfd
  cases hb
  clear hlk
  dsimp only [rtLed, lexEs, sioEs, LSt.val] at N1
  obtain ⟨e1, e2, e3, e4, e5, e6⟩ := pf_plain hp
  refine whl_turn (k := 0) PassesOwn.never ?_
  k_steps
  all_goals (
    rename Fr _ _ _ _ => FF
    rename News _ _ _ _ => NN
    exact (MyStop.intro (hnext _ _ _ _ _ _ (fr_kst FF (List.forall_mem_cons.mpr ⟨rfl, List.forall_mem_cons.mpr ⟨rfl, List.forall_mem_nil _⟩⟩)) (cb_drop NN (fun _ hp => by first | exact hp | exact .tail _ hp)))))

set_option maxRecDepth 100000 in
set_option maxHeartbeats 0 in
theorem turn_a_end {fd : FuncData} {test : Expr} {body : List Stmt} {g h : Heap} {L' : Addr} {u : Str → Option Value} {Qf : Flow → Shared → Prop} {tk : Nat}
  (hfd : List.lookup 714 (hd0.heap_1 w.params) = some ⟨.type "function", none, .func fd, #[]⟩) (hb : whileOf (stmtsOf fd.body) = some (test, body))
  (B : Below (ktrTop dp un gd cn cs L a ccd cl outer) base (envX cn cs L a ccd cl :: outer) g) (X : (hd0.heap_1 w.params).In g) (T : Top p loose mean mg mb g) (hk : cs.kind = .function)
  {x dx io dio pb fs : Addr} {kb kk vv : Nat → Tok} {tb tp tn : Tok} {buf wc tok : Str} {k : Nat} {tt ts : Tok} {q : Bool} 
  (F1 : Fr g L' h (kstB u [(Str.ofString "self", .ref x), (Str.ofString "quoted", .bool q)]))
  (N1 : News g L' h (rtLed ext w.params x dx io dio pb fs kk vv kb buf wc tb tn (LSt.a.val ts) tok tt (k : Int) tp))
  (n1 : @Ne Nat x dx) (n2 : @Ne Nat io dx) (n3 : @Ne Nat dio dx) (n4 : @Ne Nat pb dx) (n5 : @Ne Nat fs dx) (n6 : @Ne Nat x dio) (n7 : @Ne Nat io dio) (n8 : @Ne Nat pb dio) (n9 : @Ne Nat fs dio) (x1 : ∀ p ∈ ext, p.1 ≠ dx) (x2 : ∀ p ∈ ext, p.1 ≠ dio)
  (hx : buf.length ≤ 1000000) (htl : tok.length ≤ 1000000) (hdp : dp + 20 < recursionLimit) (hc : buf.length ≤ k) 
  (hnext : ∀ (h' : Heap) (tk' : Nat) (u' : Str → Option Value) (ts' tt' tp' : Tok), Fr g L' h' (kstB u' [(Str.ofString "self", .ref x), (Str.ofString "quoted", .bool q)]) →
    News g L' h' (rtLed ext w.params x dx io dio pb fs kk vv kb buf wc tb tn (LSt.non.val ts') (tok) tt' ((k : Int)) tp') →
    Qf .next { s with heap := h', toks := tk' }) :
  WhlRest PR w ((ktrTop dp un gd cn cs L a ccd cl outer).deeper (envOf fd.qualname fd.scope L' 714 (.ref 713))) (fun _ _ => False) (envOf fd.qualname fd.scope L' 714 (.ref 713)) test body [] Qf 1 { s with heap := h, toks := tk } := by
  refine' with_lookup (f := 714) (K := Mine.hd0.heap_1 w.params) ?hlk ?_
  case hlk => k_is
  intro hlk
  rw [hlk] at hfd
  cases hfd
  cases hb
  clear hlk
  dsimp only [rtLed, lexEs, sioEs, LSt.val] at N1
  skip
  refine whl_turn (k := 0) PassesOwn.never ?_
  k_steps
  all_goals (
    rename Fr _ _ _ _ => FF
    rename News _ _ _ _ => NN
    exact (hnext _ _ _ ts _ _ (fr_kst FF (List.forall_mem_cons.mpr ⟨rfl, List.forall_mem_cons.mpr ⟨rfl, List.forall_mem_nil _⟩⟩)) (cb_drop NN (fun _ hp => by first | exact hp | exact .tail _ hp))))

set_option maxRecDepth 100000 in
set_option maxHeartbeats 0 in
theorem turn_a_sp1 {fd : FuncData} {test : Expr} {body : List Stmt} {g h : Heap} {L' : Addr} {u : Str → Option Value} {Qf : Flow → Shared → Prop} {tk : Nat}
  (hfd : List.lookup 714 (hd0.heap_1 w.params) = some ⟨.type "function", none, .func fd, #[]⟩) (hb : whileOf (stmtsOf fd.body) = some (test, body))
  (B : Below (ktrTop dp un gd cn cs L a ccd cl outer) base (envX cn cs L a ccd cl :: outer) g) (X : (hd0.heap_1 w.params).In g) (T : Top p loose mean mg mb g) (hk : cs.kind = .function)
  {x dx io dio pb fs : Addr} {kb kk vv : Nat → Tok} {tb tp tn : Tok} {buf wc tok : Str} {k : Nat} {tt ts : Tok} {q : Bool} {c : Nat} {r : List Nat} 
  (F1 : Fr g L' h (kstB u [(Str.ofString "self", .ref x), (Str.ofString "quoted", .bool q)]))
  (N1 : News g L' h (rtLed ext w.params x dx io dio pb fs kk vv kb buf wc tb tn (LSt.a.val ts) tok tt (k : Int) tp))
  (n1 : @Ne Nat x dx) (n2 : @Ne Nat io dx) (n3 : @Ne Nat dio dx) (n4 : @Ne Nat pb dx) (n5 : @Ne Nat fs dx) (n6 : @Ne Nat x dio) (n7 : @Ne Nat io dio) (n8 : @Ne Nat pb dio) (n9 : @Ne Nat fs dio) (x1 : ∀ p ∈ ext, p.1 ≠ dx) (x2 : ∀ p ∈ ext, p.1 ≠ dio)
  (hx : buf.length ≤ 1000000) (htl : tok.length ≤ 1000000) (hdp : dp + 20 < recursionLimit) (hc : buf.cps.toList.drop k = c :: r) (ht : (tok == Str.ofString "") = false) (h32 : c = 32)
  (hnext : ∀ (h' : Heap) (tk' : Nat) (u' : Str → Option Value) (ts' tt' tp' : Tok), Fr g L' h' (kstB u' [(Str.ofString "self", .ref x), (Str.ofString "quoted", .bool q)]) →
    News g L' h' (rtLed ext w.params x dx io dio pb fs kk vv kb buf wc tb tn (LSt.sp.val ts') (tok) tt' (((k + 1 : Nat) : Int)) tp') →
    Qf .next { s with heap := h', toks := tk' }) :
  WhlRest PR w ((ktrTop dp un gd cn cs L a ccd cl outer).deeper (envOf fd.qualname fd.scope L' 714 (.ref 713))) (fun _ _ => False) (envOf fd.qualname fd.scope L' 714 (.ref 713)) test body [] Qf 1 { s with heap := h, toks := tk } := by
  refine' with_lookup (f := 714) (K := Mine.hd0.heap_1 w.params) ?hlk ?_
  case hlk => k_is
  intro hlk
  rw [hlk] at hfd
  cases hfd
  cases hb
  clear hlk
  dsimp only [rtLed, lexEs, sioEs, LSt.val] at N1
  obtain ⟨e1, e2, e3⟩ := pf_space h32
  refine whl_turn (k := 0) PassesOwn.never ?_
  k_steps
  all_goals (
    rename Fr _ _ _ _ => FF
    rename News _ _ _ _ => NN
    exact (hnext _ _ _ _ _ _ (fr_kst FF (List.forall_mem_cons.mpr ⟨rfl, List.forall_mem_cons.mpr ⟨rfl, List.forall_mem_nil _⟩⟩)) (cb_drop NN (fun _ hp => by first | exact hp | exact .tail _ hp))))

set_option maxRecDepth 100000 in
set_option maxHeartbeats 0 in
theorem turn_a_sp2 {fd : FuncData} {test : Expr} {body : List Stmt} {g h : Heap} {L' : Addr} {u : Str → Option Value} {Qf : Flow → Shared → Prop} {tk : Nat}
  (hfd : List.lookup 714 (hd0.heap_1 w.params) = some ⟨.type "function", none, .func fd, #[]⟩) (hb : whileOf (stmtsOf fd.body) = some (test, body))
  (B : Below (ktrTop dp un gd cn cs L a ccd cl outer) base (envX cn cs L a ccd cl :: outer) g) (X : (hd0.heap_1 w.params).In g) (T : Top p loose mean mg mb g) (hk : cs.kind = .function)
  {x dx io dio pb fs : Addr} {kb kk vv : Nat → Tok} {tb tp tn : Tok} {buf wc tok : Str} {k : Nat} {tt ts : Tok} {c : Nat} {r : List Nat} 
  (F1 : Fr g L' h (kstB u [(Str.ofString "self", .ref x), (Str.ofString "quoted", .bool true)]))
  (N1 : News g L' h (rtLed ext w.params x dx io dio pb fs kk vv kb buf wc tb tn (LSt.a.val ts) tok tt (k : Int) tp))
  (n1 : @Ne Nat x dx) (n2 : @Ne Nat io dx) (n3 : @Ne Nat dio dx) (n4 : @Ne Nat pb dx) (n5 : @Ne Nat fs dx) (n6 : @Ne Nat x dio) (n7 : @Ne Nat io dio) (n8 : @Ne Nat pb dio) (n9 : @Ne Nat fs dio) (x1 : ∀ p ∈ ext, p.1 ≠ dx) (x2 : ∀ p ∈ ext, p.1 ≠ dio)
  (hx : buf.length ≤ 1000000) (htl : tok.length ≤ 1000000) (hdp : dp + 20 < recursionLimit) (hc : buf.cps.toList.drop k = c :: r) (ht : (tok == Str.ofString "") = true) (h32 : c = 32)
  (hnext : ∀ (h' : Heap) (tk' : Nat) (u' : Str → Option Value) (ts' tt' tp' : Tok), Fr g L' h' (kstB u' [(Str.ofString "self", .ref x), (Str.ofString "quoted", .bool true)]) →
    News g L' h' (rtLed ext w.params x dx io dio pb fs kk vv kb buf wc tb tn (LSt.sp.val ts') (tok) tt' (((k + 1 : Nat) : Int)) tp') →
    Qf .next { s with heap := h', toks := tk' }) :
  WhlRest PR w ((ktrTop dp un gd cn cs L a ccd cl outer).deeper (envOf fd.qualname fd.scope L' 714 (.ref 713))) (fun _ _ => False) (envOf fd.qualname fd.scope L' 714 (.ref 713)) test body [] Qf 1 { s with heap := h, toks := tk } := by
  refine' with_lookup (f := 714) (K := Mine.hd0.heap_1 w.params) ?hlk ?_
  case hlk => k_is
  intro hlk
  rw [hlk] at hfd
  cases hfd
  cases hb
  clear hlk
  dsimp only [rtLed, lexEs, sioEs, LSt.val] at N1
  obtain ⟨e1, e2, e3⟩ := pf_space h32
  refine whl_turn (k := 0) PassesOwn.never ?_
  k_steps
  all_goals (
    rename Fr _ _ _ _ => FF
    rename News _ _ _ _ => NN
    exact (hnext _ _ _ _ _ _ (fr_kst FF (List.forall_mem_cons.mpr ⟨rfl, List.forall_mem_cons.mpr ⟨rfl, List.forall_mem_nil _⟩⟩)) (cb_drop NN (fun _ hp => by first | exact hp | exact .tail _ hp))))

set_option maxRecDepth 100000 in
set_option maxHeartbeats 0 in
theorem turn_a_quote {fd : FuncData} {test : Expr} {body : List Stmt} {g h : Heap} {L' : Addr} {u : Str → Option Value} {Qf : Flow → Shared → Prop} {tk : Nat}
  (hfd : List.lookup 714 (hd0.heap_1 w.params) = some ⟨.type "function", none, .func fd, #[]⟩) (hb : whileOf (stmtsOf fd.body) = some (test, body))
  (B : Below (ktrTop dp un gd cn cs L a ccd cl outer) base (envX cn cs L a ccd cl :: outer) g) (X : (hd0.heap_1 w.params).In g) (T : Top p loose mean mg mb g) (hk : cs.kind = .function)
  {x dx io dio pb fs : Addr} {kb kk vv : Nat → Tok} {tb tp tn : Tok} {buf wc tok : Str} {k : Nat} {tt ts : Tok} {q : Bool} {c : Nat} {r : List Nat} 
  (F1 : Fr g L' h (kstB u [(Str.ofString "self", .ref x), (Str.ofString "quoted", .bool q)]))
  (N1 : News g L' h (rtLed ext w.params x dx io dio pb fs kk vv kb buf wc tb tn (LSt.a.val ts) tok tt (k : Int) tp))
  (n1 : @Ne Nat x dx) (n2 : @Ne Nat io dx) (n3 : @Ne Nat dio dx) (n4 : @Ne Nat pb dx) (n5 : @Ne Nat fs dx) (n6 : @Ne Nat x dio) (n7 : @Ne Nat io dio) (n8 : @Ne Nat pb dio) (n9 : @Ne Nat fs dio) (x1 : ∀ p ∈ ext, p.1 ≠ dx) (x2 : ∀ p ∈ ext, p.1 ≠ dio)
  (hx : buf.length ≤ 1000000) (htl : tok.length ≤ 1000000) (hdp : dp + 20 < recursionLimit) (hc : buf.cps.toList.drop k = c :: r) (hq : c = 39 ∨ c = 34)
  (hnext : ∀ (h' : Heap) (tk' : Nat) (u' : Str → Option Value) (ts' tt' tp' : Tok), Fr g L' h' (kstB u' [(Str.ofString "self", .ref x), (Str.ofString "quoted", .bool q)]) →
    News g L' h' (rtLed ext w.params x dx io dio pb fs kk vv kb buf wc tb tn ((LSt.q c).val ts') (tok) tt' (((k + 1 : Nat) : Int)) tp') →
    WhlRest PR w ((ktrTop dp un gd cn cs L a ccd cl outer).deeper (envOf fd.qualname fd.scope L' 714 (.ref 713))) (fun _ _ => False) (envOf fd.qualname fd.scope L' 714 (.ref 713)) test body [] Qf 0 { s with heap := h', toks := tk' }) :
  WhlRest PR w ((ktrTop dp un gd cn cs L a ccd cl outer).deeper (envOf fd.qualname fd.scope L' 714 (.ref 713))) (fun _ _ => False) (envOf fd.qualname fd.scope L' 714 (.ref 713)) test body [] Qf 1 { s with heap := h, toks := tk } := by
  refine' with_lookup (f := 714) (K := Mine.hd0.heap_1 w.params) ?hlk ?_
  case hlk => k_is
  intro hlk
  rw [hlk] at hfd
  cases hfd
  cases hb
  clear hlk
  dsimp only [rtLed, lexEs, sioEs, LSt.val] at N1
  obtain ⟨e1, e2, e3, e4, e5, e6, e7, e8⟩ := pf_quote hq
  refine whl_turn (k := 0) PassesOwn.never ?_
  k_steps
  all_goals (
    rename Fr _ _ _ _ => FF
    rename News _ _ _ _ => NN
    exact (MyStop.intro (hnext _ _ _ _ _ _ (fr_kst FF (List.forall_mem_cons.mpr ⟨rfl, List.forall_mem_cons.mpr ⟨rfl, List.forall_mem_nil _⟩⟩)) (cb_drop NN (fun _ hp => by first | exact hp | exact .tail _ hp)))))

set_option maxRecDepth 100000 in
set_option maxHeartbeats 0 in
theorem turn_a_plain {fd : FuncData} {test : Expr} {body : List Stmt} {g h : Heap} {L' : Addr} {u : Str → Option Value} {Qf : Flow → Shared → Prop} {tk : Nat}
  (hfd : List.lookup 714 (hd0.heap_1 w.params) = some ⟨.type "function", none, .func fd, #[]⟩) (hb : whileOf (stmtsOf fd.body) = some (test, body))
  (B : Below (ktrTop dp un gd cn cs L a ccd cl outer) base (envX cn cs L a ccd cl :: outer) g) (X : (hd0.heap_1 w.params).In g) (T : Top p loose mean mg mb g) (hk : cs.kind = .function)
  {x dx io dio pb fs : Addr} {kb kk vv : Nat → Tok} {tb tp tn : Tok} {buf wc tok : Str} {k : Nat} {tt ts : Tok} {q : Bool} {c : Nat} {r : List Nat} 
  (F1 : Fr g L' h (kstB u [(Str.ofString "self", .ref x), (Str.ofString "quoted", .bool q)]))
  (N1 : News g L' h (rtLed ext w.params x dx io dio pb fs kk vv kb buf wc tb tn (LSt.a.val ts) tok tt (k : Int) tp))
  (n1 : @Ne Nat x dx) (n2 : @Ne Nat io dx) (n3 : @Ne Nat dio dx) (n4 : @Ne Nat pb dx) (n5 : @Ne Nat fs dx) (n6 : @Ne Nat x dio) (n7 : @Ne Nat io dio) (n8 : @Ne Nat pb dio) (n9 : @Ne Nat fs dio) (x1 : ∀ p ∈ ext, p.1 ≠ dx) (x2 : ∀ p ∈ ext, p.1 ≠ dio)
  (hx : buf.length ≤ 1000000) (htl : tok.length ≤ 1000000) (hdp : dp + 20 < recursionLimit) (hc : buf.cps.toList.drop k = c :: r) (hp : plainC c = true)
  (hnext : ∀ (h' : Heap) (tk' : Nat) (u' : Str → Option Value) (ts' tt' tp' : Tok), Fr g L' h' (kstB u' [(Str.ofString "self", .ref x), (Str.ofString "quoted", .bool q)]) →
    News g L' h' (rtLed ext w.params x dx io dio pb fs kk vv kb buf wc tb tn (LSt.a.val ts') (tok ++ ⟨#[c]⟩) tt' (((k + 1 : Nat) : Int)) tp') →
    WhlRest PR w ((ktrTop dp un gd cn cs L a ccd cl outer).deeper (envOf fd.qualname fd.scope L' 714 (.ref 713))) (fun _ _ => False) (envOf fd.qualname fd.scope L' 714 (.ref 713)) test body [] Qf 0 { s with heap := h', toks := tk' }) :
  WhlRest PR w ((ktrTop dp un gd cn cs L a ccd cl outer).deeper (envOf fd.qualname fd.scope L' 714 (.ref 713))) (fun _ _ => False) (envOf fd.qualname fd.scope L' 714 (.ref 713)) test body [] Qf 1 { s with heap := h, toks := tk } := by
  refine' with_lookup (f := 714) (K := Mine.hd0.heap_1 w.params) ?hlk ?_
  case hlk => k_is
  intro hlk
  rw [hlk] at hfd
  cases hfd
  cases hb
  clear hlk
  dsimp only [rtLed, lexEs, sioEs, LSt.val] at N1
  obtain ⟨e1, e2, e3, e4, e5, e6⟩ := pf_plain hp
  refine whl_turn (k := 0) PassesOwn.never ?_
  k_steps
  all_goals (
    rename Fr _ _ _ _ => FF
    rename News _ _ _ _ => NN
    exact (MyStop.intro (hnext _ _ _ _ _ _ (fr_kst FF (List.forall_mem_cons.mpr ⟨rfl, List.forall_mem_cons.mpr ⟨rfl, List.forall_mem_nil _⟩⟩)) (cb_drop NN (fun _ hp => by first | exact hp | exact .tail _ hp)))))

set_option maxRecDepth 100000 in
set_option maxHeartbeats 0 in
theorem turn_q_close {fd : FuncData} {test : Expr} {body : List Stmt} {g h : Heap} {L' : Addr} {u : Str → Option Value} {Qf : Flow → Shared → Prop} {tk : Nat}
  (hfd : List.lookup 714 (hd0.heap_1 w.params) = some ⟨.type "function", none, .func fd, #[]⟩) (hb : whileOf (stmtsOf fd.body) = some (test, body))
  (B : Below (ktrTop dp un gd cn cs L a ccd cl outer) base (envX cn cs L a ccd cl :: outer) g) (X : (hd0.heap_1 w.params).In g) (T : Top p loose mean mg mb g) (hk : cs.kind = .function)
  {x dx io dio pb fs : Addr} {kb kk vv : Nat → Tok} {tb tp tn : Tok} {buf wc tok : Str} {k : Nat} {tt ts : Tok} {q : Bool} {c : Nat} {r : List Nat} 
  (F1 : Fr g L' h (kstB u [(Str.ofString "self", .ref x), (Str.ofString "quoted", .bool q)]))
  (N1 : News g L' h (rtLed ext w.params x dx io dio pb fs kk vv kb buf wc tb tn ((LSt.q c).val ts) tok tt (k : Int) tp))
  (n1 : @Ne Nat x dx) (n2 : @Ne Nat io dx) (n3 : @Ne Nat dio dx) (n4 : @Ne Nat pb dx) (n5 : @Ne Nat fs dx) (n6 : @Ne Nat x dio) (n7 : @Ne Nat io dio) (n8 : @Ne Nat pb dio) (n9 : @Ne Nat fs dio) (x1 : ∀ p ∈ ext, p.1 ≠ dx) (x2 : ∀ p ∈ ext, p.1 ≠ dio)
  (hx : buf.length ≤ 1000000) (htl : tok.length ≤ 1000000) (hdp : dp + 20 < recursionLimit) (hc : buf.cps.toList.drop k = c :: r) (hq : c = 39 ∨ c = 34)
  (hnext : ∀ (h' : Heap) (tk' : Nat) (u' : Str → Option Value) (ts' tt' tp' : Tok), Fr g L' h' (kstB u' [(Str.ofString "self", .ref x), (Str.ofString "quoted", .bool true)]) →
    News g L' h' (rtLed ext w.params x dx io dio pb fs kk vv kb buf wc tb tn (LSt.a.val ts') (tok) tt' (((k + 1 : Nat) : Int)) tp') →
    WhlRest PR w ((ktrTop dp un gd cn cs L a ccd cl outer).deeper (envOf fd.qualname fd.scope L' 714 (.ref 713))) (fun _ _ => False) (envOf fd.qualname fd.scope L' 714 (.ref 713)) test body [] Qf 0 { s with heap := h', toks := tk' }) :
  WhlRest PR w ((ktrTop dp un gd cn cs L a ccd cl outer).deeper (envOf fd.qualname fd.scope L' 714 (.ref 713))) (fun _ _ => False) (envOf fd.qualname fd.scope L' 714 (.ref 713)) test body [] Qf 1 { s with heap := h, toks := tk } := by
  refine' with_lookup (f := 714) (K := Mine.hd0.heap_1 w.params) ?hlk ?_
  case hlk => k_is
  intro hlk
  rw [hlk] at hfd
  cases hfd
  cases hb
  clear hlk
  dsimp only [rtLed, lexEs, sioEs, LSt.val] at N1
  obtain ⟨e1, e2, e3, e4, e5, e6, e7, e8⟩ := pf_quote hq
  have e9 := one_eq c
  refine whl_turn (k := 0) PassesOwn.never ?_
  k_steps
  all_goals (
    rename Fr _ _ _ _ => FF
    rename News _ _ _ _ => NN
    exact (MyStop.intro (hnext _ _ _ _ _ _ (fr_kst FF (List.forall_mem_cons.mpr ⟨rfl, List.forall_mem_cons.mpr ⟨rfl, List.forall_mem_nil _⟩⟩)) (cb_drop NN (fun _ hp => by first | exact hp | exact .tail _ hp)))))

set_option maxRecDepth 100000 in
set_option maxHeartbeats 0 in
theorem turn_q_other {fd : FuncData} {test : Expr} {body : List Stmt} {g h : Heap} {L' : Addr} {u : Str → Option Value} {Qf : Flow → Shared → Prop} {tk : Nat}
  (hfd : List.lookup 714 (hd0.heap_1 w.params) = some ⟨.type "function", none, .func fd, #[]⟩) (hb : whileOf (stmtsOf fd.body) = some (test, body))
  (B : Below (ktrTop dp un gd cn cs L a ccd cl outer) base (envX cn cs L a ccd cl :: outer) g) (X : (hd0.heap_1 w.params).In g) (T : Top p loose mean mg mb g) (hk : cs.kind = .function)
  {x dx io dio pb fs : Addr} {kb kk vv : Nat → Tok} {tb tp tn : Tok} {buf wc tok : Str} {k : Nat} {tt ts : Tok} {q : Bool} {c d : Nat} {r : List Nat} 
  (F1 : Fr g L' h (kstB u [(Str.ofString "self", .ref x), (Str.ofString "quoted", .bool q)]))
  (N1 : News g L' h (rtLed ext w.params x dx io dio pb fs kk vv kb buf wc tb tn ((LSt.q d).val ts) tok tt (k : Int) tp))
  (n1 : @Ne Nat x dx) (n2 : @Ne Nat io dx) (n3 : @Ne Nat dio dx) (n4 : @Ne Nat pb dx) (n5 : @Ne Nat fs dx) (n6 : @Ne Nat x dio) (n7 : @Ne Nat io dio) (n8 : @Ne Nat pb dio) (n9 : @Ne Nat fs dio) (x1 : ∀ p ∈ ext, p.1 ≠ dx) (x2 : ∀ p ∈ ext, p.1 ≠ dio)
  (hx : buf.length ≤ 1000000) (htl : tok.length ≤ 1000000) (hdp : dp + 20 < recursionLimit) (hc : buf.cps.toList.drop k = c :: r) (hq : d = 39 ∨ d = 34) (hcd : c ≠ d) (hp : okC c = true)
  (hnext : ∀ (h' : Heap) (tk' : Nat) (u' : Str → Option Value) (ts' tt' tp' : Tok), Fr g L' h' (kstB u' [(Str.ofString "self", .ref x), (Str.ofString "quoted", .bool true)]) →
    News g L' h' (rtLed ext w.params x dx io dio pb fs kk vv kb buf wc tb tn ((LSt.q d).val ts') (tok ++ ⟨#[c]⟩) tt' (((k + 1 : Nat) : Int)) tp') →
    WhlRest PR w ((ktrTop dp un gd cn cs L a ccd cl outer).deeper (envOf fd.qualname fd.scope L' 714 (.ref 713))) (fun _ _ => False) (envOf fd.qualname fd.scope L' 714 (.ref 713)) test body [] Qf 0 { s with heap := h', toks := tk' }) :
  WhlRest PR w ((ktrTop dp un gd cn cs L a ccd cl outer).deeper (envOf fd.qualname fd.scope L' 714 (.ref 713))) (fun _ _ => False) (envOf fd.qualname fd.scope L' 714 (.ref 713)) test body [] Qf 1 { s with heap := h, toks := tk } := by
  refine' with_lookup (f := 714) (K := Mine.hd0.heap_1 w.params) ?hlk ?_
  case hlk => k_is
  intro hlk
  rw [hlk] at hfd
  cases hfd
  cases hb
  clear hlk
  dsimp only [rtLed, lexEs, sioEs, LSt.val] at N1
  obtain ⟨e1, e2, e3, e4, e5, e6, e7, e8⟩ := pf_quote hq
  obtain ⟨f1, f2, f3⟩ := pf_ok hp
  have e9 := one_ne hcd
  refine whl_turn (k := 0) PassesOwn.never ?_
  k_steps
  all_goals (
    rename Fr _ _ _ _ => FF
    rename News _ _ _ _ => NN
    exact (MyStop.intro (hnext _ _ _ _ _ _ (fr_kst FF (List.forall_mem_cons.mpr ⟨rfl, List.forall_mem_cons.mpr ⟨rfl, List.forall_mem_nil _⟩⟩)) (cb_drop NN (fun _ hp => by first | exact hp | exact .tail _ hp)))))


end
end TG2
section TG3
section
variable {w : World} {p : Program} {loose : List Str} {mean : ExcName → Option Value} {mg mb : Str → Option Value}
  {dp un : Nat} {gd : Option (List Code)} {cn : Str} {cs : Scope} {a : Addr} {ccd : Value} {cl : List (Str × Addr)} {outer : List Env} {A₀ : Around} {base h₀ : Heap} {L : Addr} {m : Str → Option Value} {news ext : List (Addr × Obj)} {s : Shared} {Q E : Value → Shared → Prop}
local macro_rules | `(tactic| walk_at "call ref") => `(tactic| (k_here; k_dflt (first
  | (refine' c_read_charU ?r1 ?r2 ?r3 ?r4 ?r5 ?r6 ?r7 ?r8 _ ?r9 ?ra ?rb ?_; (case r1 => k_asm); (case r2 => k_asm); (case r3 => k_in); (case r4 => k_asm); (case r5 => first | assumption | exact rfl); (case r6 => k_asm); (case r7 => k_mem); (case r8 => (intro o9; k_upd)); (case r9 => assumption); (case ra => assumption); (case rb => k_room); k_whole; intro t9 h9 tk9 tp9 F9 N9; (try dsimp only at N9); (try dsimp only); (try k_sweep))
  | (refine' c_read_endU ?r1 ?r2 ?r3 ?r4 ?r5 ?r6 ?r7 ?r8 _ ?r9 ?ra ?rb ?_; (case r1 => k_asm); (case r2 => k_asm); (case r3 => k_in); (case r4 => k_asm); (case r5 => first | assumption | exact rfl); (case r6 => k_asm); (case r7 => k_mem); (case r8 => (intro o9; k_upd)); (case r9 => assumption); (case ra => assumption); (case rb => k_room); k_whole; intro t9 h9 tk9 F9 N9; (try dsimp only); (try k_sweep)))))
local macro_rules | `(tactic| walk_at "compareOp Eq str str") => `(tactic| (k_here; first | with_reducible refine eq_strF q_a_sp ?_ | with_reducible refine eq_strT q_sp_sp ?_ | with_reducible refine eq_strF q_a_c ?_ | with_reducible refine eq_strF q_em_nl ?_ | with_reducible refine eq_strF (by assumption) ?_ | with_reducible refine eq_strT (by assumption) ?_ | k_dflt (refine eq_strT (by decide +kernel) ?_) | k_dflt (refine eq_strF (by decide +kernel) ?_)))
local macro_rules | `(tactic| walk_at "compareOp In str str") => `(tactic| (k_here; first | with_reducible refine in_strF i_a_q ?_ | with_reducible refine in_strF i_a_e ?_ | with_reducible refine in_strF (by assumption) ?_ | with_reducible refine in_strT (by assumption) ?_ | (with_reducible refine in_strQ ?_ ?_ <;> intro _)))
local macro_rules | `(tactic| walk_at "compareOp NotIn str str") => `(tactic| (k_here; first | with_reducible refine notin_strT (by assumption) ?_ | with_reducible refine notin_strF (by assumption) ?_))
local macro_rules | `(tactic| walk_at "truthy str") => `(tactic| (k_here; first | with_reducible refine truthy_strF (beq_self_eq_true _) ?_ | with_reducible refine truthy_strT (by assumption) (by first | with_reducible assumption | exact one_len _ | omega) ?_ | with_reducible refine truthy_strF (by assumption) ?_ | k_dflt (refine truthy_strT (by decide +kernel) (by decide +kernel) ?_)))
local macro_rules | `(tactic| walk_at "exec While") => `(tactic| (k_dflt (refine wpAny_noRaise ?_; refine whl_start 1 ?_; refine MyStop.out ?_)))
local macro_rules | `(tactic| walk_at "WhlRest") => `(tactic| (k_dflt (refine MyStop.out ?_)))
local macro_rules | `(tactic| walk_at "exec If") => `(tactic| (k_dflt (refine wpAny_If ?_)))
local macro_rules | `(tactic| walk_at "execs cons") => `(tactic| (k_dflt (refine wpAny_execs_cons ?_)))
local macro_rules | `(tactic| walk_at "execs nil") => `(tactic| (k_dflt (refine wpAny_execs_nil ?_)))
local macro_rules | `(tactic| walk_at "ite") => `(tactic| (first | with_reducible refine ite_tt ?_ | with_reducible refine ite_ff ?_ | with_reducible refine ite_nt ?_ | with_reducible refine ite_nf ?_))

noncomputable def RtJ (ext : List (Addr × Obj)) (P : Params) (g : Heap) (L x dx io dio pb fs : Addr) (kk vv kb : Nat → Tok) (buf wc : Str) (tb tn : Tok) (fin : LSt × Str × Bool × List Nat) (s₀ : Shared) (s' : Shared) : Prop :=
  ∃ (h : Heap) (tk : Nat) (u : Str → Option Value) (k : Nat) (ts tt tp : Tok) (tok : Str), s' = { s₀ with heap := h, toks := tk } ∧
    Fr g L h (kstB u [(Str.ofString "self", .ref x), (Str.ofString "quoted", .bool fin.2.2.1)]) ∧
    News g L h (rtLed ext P x dx io dio pb fs kk vv kb buf wc tb tn (fin.1.val ts) tok tt (k : Int) tp) ∧ tok = fin.2.1 ∧ tok.length ≤ 1000000 ∧ buf.cps.toList.drop k = fin.2.2.2 ∧ k ≤ buf.length
theorem rt_loop2 {w : World} {A : Around} {env : Env} {test : Expr} {body orelse : List Stmt} {Qf : Flow → Shared → Prop} (I : Nat → Shared → Prop) (J : Shared → Prop)
    (turn : ∀ n s, (∀ n' s', n' < n → I n' s' → WhlRest PR w A (fun _ _ => False) env test body orelse Qf 0 s') → (∀ s', J s' → Qf .next s') → I n s → WhlRest PR w A (fun _ _ => False) env test body orelse Qf 1 s)
    (fin : ∀ s', J s' → Qf .next s') (n : Nat) (s : Shared) (h : I n s) : WhlRest PR w A (fun _ _ => False) env test body orelse Qf 1 s := by
  induction n using Nat.strongRecOn generalizing s with
  | ind n ih => exact turn n s (fun n' s' hn hi => ih n' hn s' hi) fin h
theorem turn_all {fd : FuncData} {test : Expr} {body : List Stmt} {g : Heap} {L' : Addr} {Qf : Flow → Shared → Prop}
  (hfd : List.lookup 714 (hd0.heap_1 w.params) = some ⟨.type "function", none, .func fd, #[]⟩) (hb : whileOf (stmtsOf fd.body) = some (test, body))
  (B : Below (ktrTop dp un gd cn cs L a ccd cl outer) base (envX cn cs L a ccd cl :: outer) g) (X : (hd0.heap_1 w.params).In g) (T : Top p loose mean mg mb g) (hk : cs.kind = .function)
  {x dx io dio pb fs : Addr} {kb kk vv : Nat → Tok} {tb tn : Tok} {buf wc : Str} {fin : LSt × Str × Bool × List Nat}
  (n1 : @Ne Nat x dx) (n2 : @Ne Nat io dx) (n3 : @Ne Nat dio dx) (n4 : @Ne Nat pb dx) (n5 : @Ne Nat fs dx) (n6 : @Ne Nat x dio) (n7 : @Ne Nat io dio) (n8 : @Ne Nat pb dio) (n9 : @Ne Nat fs dio) (x1 : ∀ p ∈ ext, p.1 ≠ dx) (x2 : ∀ p ∈ ext, p.1 ≠ dio)
  (hx : buf.length ≤ 1000000) (hdp : dp + 20 < recursionLimit) (hwc : inS wc ⟨#[39]⟩ = false) (n : Nat) (s1 : Shared)
  (ih : ∀ n' s', n' < n → RtI ext w.params g L' x dx io dio pb fs kk vv kb buf wc tb tn fin s n' s' → WhlRest PR w ((ktrTop dp un gd cn cs L a ccd cl outer).deeper (envOf fd.qualname fd.scope L' 714 (.ref 713))) (fun _ _ => False) (envOf fd.qualname fd.scope L' 714 (.ref 713)) test body [] Qf 0 s')
  (hfin : ∀ s', RtJ ext w.params g L' x dx io dio pb fs kk vv kb buf wc tb tn fin s s' → Qf .next s')
  (hI : RtI ext w.params g L' x dx io dio pb fs kk vv kb buf wc tb tn fin s n s1) :
  WhlRest PR w ((ktrTop dp un gd cn cs L a ccd cl outer).deeper (envOf fd.qualname fd.scope L' 714 (.ref 713))) (fun _ _ => False) (envOf fd.qualname fd.scope L' 714 (.ref 713)) test body [] Qf 1 s1 := by
  obtain ⟨h, tk, u, st, tok, q, k, ts, tt, tp, rfl, F1, N1, hrun, hlen, hk1, hok, rfl⟩ := hI
  have hsz : buf.cps.toList.length = buf.length := by simp [Str.length]
  have htl : tok.length ≤ 1000000 := by omega
  cases hc : buf.cps.toList.drop k with
  | nil =>
    rw [hc] at hrun
    have hend : buf.length ≤ k := by have := List.drop_eq_nil_iff.mp hc; omega
    cases st with
    | non =>
      simp only [lexRun, Option.some.injEq] at hrun
      subst hrun
      exact turn_non_end hfd hb B X T hk F1 N1 n1 n2 n3 n4 n5 n6 n7 n8 n9 x1 x2 hx htl hdp hend fun h' tk' u' ts' tt' tp' F' N' => hfin _ ⟨h', tk', u', k, ts', tt', tp', _, rfl, F', N', rfl, Nat.zero_le _, hc, hk1⟩
    | sp => simp [lexRun] at hrun
    | a =>
      simp only [lexRun, Option.some.injEq] at hrun
      subst hrun
      exact turn_a_end hfd hb B X T hk F1 N1 n1 n2 n3 n4 n5 n6 n7 n8 n9 x1 x2 hx htl hdp hend fun h' tk' u' ts' tt' tp' F' N' => hfin _ ⟨h', tk', u', k, ts', tt', tp', _, rfl, F', N', rfl, htl, hc, hk1⟩
    | q d => simp [lexRun] at hrun
  | cons c r =>
    have hlt := drop_lt hc
    have hdr : buf.cps.toList.drop (k + 1) = r := by rw [← List.drop_drop, hc]; rfl
    have hrl : (buf.cps.toList.drop (k + 1)).length < (buf.cps.toList.drop k).length := by rw [hdr, hc]; exact Nat.lt_succ_self _
    rw [hc] at hrun
    have hnx : ∀ (st₁ : LSt) (tok₁ : Str) (q₁ : Bool), lexRun st₁ tok₁ q₁ r = some fin → tok₁.length ≤ k + 1 → st₁.ok → ∀ (h' : Heap) (tk' : Nat) (u' : Str → Option Value) (ts' tt' tp' : Tok), Fr g L' h' (kstB u' [(Str.ofString "self", .ref x), (Str.ofString "quoted", .bool q₁)]) →
        News g L' h' (rtLed ext w.params x dx io dio pb fs kk vv kb buf wc tb tn (st₁.val ts') tok₁ tt' ((k + 1 : Nat) : Int) tp') → WhlRest PR w ((ktrTop dp un gd cn cs L a ccd cl outer).deeper (envOf fd.qualname fd.scope L' 714 (.ref 713))) (fun _ _ => False) (envOf fd.qualname fd.scope L' 714 (.ref 713)) test body [] Qf 0 { s with heap := h', toks := tk' } :=
      fun st₁ tok₁ q₁ hr hl ho h' tk' u' ts' tt' tp' F' N' => ih _ _ (hc ▸ hrl) ⟨h', tk', u', st₁, tok₁, q₁, k + 1, ts', tt', tp', rfl, F', N', hdr.symm ▸ hr, hl, by omega, ho, rfl⟩
    have hap : ∀ c : Nat, (tok ++ ⟨#[c]⟩ : Str).length ≤ k + 1 := fun c => by rw [Str.length_append, one_length]; omega
    cases st with
    | non => simp [lexRun] at hrun
    | sp =>
      simp only [lexRun] at hrun
      by_cases h39 : c = 39
      · rw [if_pos h39] at hrun
        subst h39
        exact turn_sp_q hfd hb B X T hk F1 N1 n1 n2 n3 n4 n5 n6 n7 n8 n9 x1 x2 hx htl hdp hc hwc (.inl rfl) (hnx (.q 39) tok q hrun (by omega) (.inl rfl))
      · rw [if_neg h39] at hrun
        by_cases hp : plainC c = true
        · rw [if_pos hp] at hrun
          exact turn_sp_plain hfd hb B X T hk F1 N1 n1 n2 n3 n4 n5 n6 n7 n8 n9 x1 x2 hx htl hdp hc hp (hnx .a _ q hrun (by rw [one_length]; omega) trivial)
        · rw [if_neg hp] at hrun; cases hrun
    | a =>
      simp only [lexRun] at hrun
      by_cases h32 : c = 32
      · rw [if_pos h32] at hrun
        cases ht : (tok == Str.ofString "") with
        | false =>
          rw [if_pos (.inl ht)] at hrun
          have hrun := Option.some.inj hrun
          subst hrun
          exact turn_a_sp1 hfd hb B X T hk F1 N1 n1 n2 n3 n4 n5 n6 n7 n8 n9 x1 x2 hx htl hdp hc ht h32 fun h' tk' u' ts' tt' tp' F' N' => hfin _ ⟨h', tk', u', k + 1, ts', tt', tp', _, rfl, F', N', rfl, htl, hdr, by omega⟩
        | true =>
          cases q with
          | false => rw [if_neg (by rw [ht]; simp)] at hrun; cases hrun
          | true =>
            rw [if_pos (.inr rfl)] at hrun
            have hrun := Option.some.inj hrun
            subst hrun
            exact turn_a_sp2 hfd hb B X T hk F1 N1 n1 n2 n3 n4 n5 n6 n7 n8 n9 x1 x2 hx htl hdp hc ht h32 fun h' tk' u' ts' tt' tp' F' N' => hfin _ ⟨h', tk', u', k + 1, ts', tt', tp', _, rfl, F', N', rfl, htl, hdr, by omega⟩
      · rw [if_neg h32] at hrun
        by_cases hq : c = 39 ∨ c = 34
        · rw [if_pos hq] at hrun
          exact turn_a_quote hfd hb B X T hk F1 N1 n1 n2 n3 n4 n5 n6 n7 n8 n9 x1 x2 hx htl hdp hc hq (hnx (.q c) tok q hrun (by omega) hq)
        · rw [if_neg hq] at hrun
          by_cases hp : plainC c = true
          · rw [if_pos hp] at hrun
            exact turn_a_plain hfd hb B X T hk F1 N1 n1 n2 n3 n4 n5 n6 n7 n8 n9 x1 x2 hx htl hdp hc hp (hnx .a _ q hrun (hap c) trivial)
          · rw [if_neg hp] at hrun; cases hrun
    | q d =>
      simp only [lexRun] at hrun
      by_cases hcd : c = d
      · rw [if_pos hcd] at hrun
        subst hcd
        exact turn_q_close hfd hb B X T hk F1 N1 n1 n2 n3 n4 n5 n6 n7 n8 n9 x1 x2 hx htl hdp hc hok (hnx .a tok true hrun (by omega) trivial)
      · rw [if_neg hcd] at hrun
        by_cases hp : okC c = true
        · rw [if_pos hp] at hrun
          exact turn_q_other hfd hb B X T hk F1 N1 n1 n2 n3 n4 n5 n6 n7 n8 n9 x1 x2 hx htl hdp hc hok hcd hp (hnx (.q d) _ true hrun (hap c) hok)
        · rw [if_neg hp] at hrun; cases hrun
set_option maxRecDepth 100000 in
set_option maxHeartbeats 0 in
theorem c_read_token
  (B : Below A₀ base outer h₀) (F : Fr h₀ L s.heap m) (X : (hd0.heap_1 w.params).In h₀) (T : Top p loose mean mg mb h₀) (hk : cs.kind = .function)
  {x dx io dio pb fs : Addr} {kb kk vv : Nat → Tok} {tb tp tn : Tok} {buf wc : Str} {k : Nat} {st : LSt} {tt : Tok} {ts : Tok} {st' : LSt} {tok' : Str} {q' : Bool} {cs' : List Nat}
  (N : News h₀ L s.heap (rtLed ext w.params x dx io dio pb fs kk vv kb buf wc tb tn (st.val ts) (Str.ofString "") tt (k : Int) tp))
  (n1 : @Ne Nat x dx) (n2 : @Ne Nat io dx) (n3 : @Ne Nat dio dx) (n4 : @Ne Nat pb dx) (n5 : @Ne Nat fs dx) (n6 : @Ne Nat x dio) (n7 : @Ne Nat io dio) (n8 : @Ne Nat pb dio) (n9 : @Ne Nat fs dio) (x1 : ∀ p ∈ ext, p.1 ≠ dx) (x2 : ∀ p ∈ ext, p.1 ≠ dio)
  (hx : buf.length ≤ 1000000) (hdp : dp + 21 < recursionLimit) (hst : st.ok) (hwc : inS wc ⟨#[39]⟩ = false) (hk0 : k ≤ buf.length)
  (hrun : lexRun st (Str.ofString "") false (buf.cps.toList.drop k) = some (st', tok', q', cs'))
  (hret : ∀ (v : Value) (h' : Heap) (tk' k' : Nat) (ts' tt' tp' : Tok), k' ≤ buf.length → buf.cps.toList.drop k' = cs' → (((tok' == Str.ofString "") = true ∧ q' = false ∧ v = .none) ∨ (((tok' == Str.ofString "") = false ∨ q' = true) ∧ ∃ u, v = .str tok' u)) →
    Fr h₀ L h' m → News h₀ L h' (rtLed ext w.params x dx io dio pb fs kk vv kb buf wc tb tn (st'.val ts') (Str.ofString "") tt' (k' : Int) tp') → Q v { s with heap := h', toks := tk' }) :
  wpAny (model PR w) (ktrTop dp un gd cn cs L a ccd cl outer) (call (.ref 714) [.ref x]) Q E s := by
  refine' with_lookup (f := 714) (K := Mine.hd0.heap_1 w.params) ?hlk ?_
  case hlk => k_is
  intro hlk
  refine wpAny_call ?_
  walk_at "my enter"
  k_steps
  refine MyStop.intro ?_
  rename Fr _ _ _ (fun _ => _) => FF
  rename News _ _ _ _ => NN
  rename Below _ _ _ _ => BB
  rename Frag.In _ _ => XX
  rename Top _ _ _ _ _ _ => TT
  refine' rt_loop2 (RtI ext w.params _ _ x dx io dio pb fs kk vv kb buf wc tb tn (st', tok', q', cs') s) (RtJ ext w.params _ _ x dx io dio pb fs kk vv kb buf wc tb tn (st', tok', q', cs') s) ?turn ?fin _ _ ⟨_, _, _, st, Str.ofString "", false, k, _, _, _, rfl, fr_kst FF ?hs, NN, hrun, ?hl, hk0, hst, rfl⟩
  case hs => exact List.forall_mem_cons.mpr ⟨rfl, List.forall_mem_cons.mpr ⟨rfl, List.forall_mem_nil _⟩⟩
  case hl => exact Nat.zero_le _
  case turn => exact turn_all hlk rfl BB XX TT hk n1 n2 n3 n4 n5 n6 n7 n8 n9 x1 x2 hx (by omega) hwc
  case fin =>
    clear FF NN
    intro s1 hJ
    obtain ⟨h, tk, u, k', ts', tt', tp', tok, rfl, F1, N1, htk, htl, hdrp, hk1⟩ := hJ
    dsimp only at F1 N1 htk hdrp
    subst htk
    dsimp only [rtLed, lexEs, sioEs] at N1
    cases q' with
    | true =>
      k_steps
      all_goals (
        rename Fr _ _ _ (fun _ => _) => FF
        rename News _ _ _ _ => NN
        exact hret _ _ _ k' ts' _ tp' hk1 hdrp (.inr ⟨.inr rfl, _, rfl⟩) FF (cb_drop NN (fun _ hp => by first | exact hp | exact .tail _ hp)))
    | false =>
      cases he : (tok == Str.ofString "") with
      | true =>
        k_steps
        all_goals (
          rename Fr _ _ _ (fun _ => _) => FF
          rename News _ _ _ _ => NN
          exact hret _ _ _ k' ts' _ tp' hk1 hdrp (.inl ⟨he, rfl, rfl⟩) FF (cb_drop NN (fun _ hp => by first | exact hp | exact .tail _ hp)))
      | false =>
        k_steps
        all_goals (
          rename Fr _ _ _ (fun _ => _) => FF
          rename News _ _ _ _ => NN
          exact hret _ _ _ k' ts' _ tp' hk1 hdrp (.inr ⟨.inl he, _, rfl⟩) FF (cb_drop NN (fun _ hp => by first | exact hp | exact .tail _ hp)))

end
end TG3
section TD1
section
variable {w : World} {p : Program} {loose : List Str} {mean : ExcName → Option Value} {mg mb : Str → Option Value}
  {dp un : Nat} {gd : Option (List Code)} {cn : Str} {cs : Scope} {a : Addr} {ccd : Value} {cl : List (Str × Addr)} {outer : List Env} {A₀ : Around} {base h₀ : Heap} {L : Addr} {m : Str → Option Value} {news : List (Addr × Obj)} {s : Shared} {Q E : Value → Shared → Prop}
theorem dq_noBool : typeLookup (.type "collections.deque") "__bool__" = pure none := by rw [typeLookup_type, builtinLookup_eq_fast]; kernel_rfl
theorem dq_slot_len : Slot "collections.deque" "__len__" "collections.deque.__len__" :=
  .of (owner := "collections.deque") (n := "__len__") (by rw [typeLookup_type, builtinLookup_eq_fast]; kernel_rfl) (by decide +kernel) (by decide +kernel) (by decide +kernel)
    (by first | exact .inl (by decide +kernel) | exact .inr (by decide +kernel)) (by rw [isSubtype_type]; kernel_rfl)
theorem dq_entry_len : entryFor table "collections.deque.__len__" = some Builtin.«collections.deque.__len__» := entryFor_of_fast (by kernel_rfl)
theorem dq_args_len (a : Value) : argsOk "collections.deque.__len__" ⟨[a], []⟩ := by unfold argsOk; kernel_rfl
section
variable {prog : Program} {A : Around}
theorem dq_truthy {l : Addr} {o : Obj} {u v : Value} {Q : Bool → Shared → Prop} (ho : s.heap.get? l = some o) (hc : o.cls = .type "collections.deque") (hd : o.data = .fields #[u, v])
    (h : Q false { s with toks := s.toks + 1 + 1 }) : wpAny (model prog w) A (truthy (.ref l)) Q E s := by
  have hT : s.TypeIs (.ref l) "collections.deque" := ⟨o, ho, hc⟩
  have key : wpAny (model prog w) A (runValue (.builtin "len" ⟨[.ref l], []⟩)) (fun r s' => r = .int 0 (s.toks + 1) ∧ Q false s') E s := by
    refine wpAny_runValue (codeAny_builtin entry_len ?_)
    rw [Around.under_plainId plain_len _]
    unfold Builtin.«len»
    refine wpAny_bind (m := oneArg "len" _) (wpAny_pure ?_)
    refine wpAny_bind (m := callSpecial? (.ref l) (Str.ofString "__len__")) (wpAny_callSpecial?_slot (name := Str.ofString "__len__") hT dq_slot_len
      (wpAny_call_entry dq_slot_len hT dq_entry_len ?_ (dq_args_len _)))
    show wpAny _ _ (do retInt (← Builtin.Deque.size (.ref l))) _ _ s
    unfold Builtin.Deque.size PySem.fieldsOf
    refine wpAny_bind (wpAny_bind (wpAny_bind (wpAny_load ho ?_)))
    rw [hd]
    refine wpAny_pure (wpAny_pure (wpAny_bind (wpAny_mkInt (wpAny_pure ⟨_, rfl, ?_⟩))))
    refine wpAny_bind (wpAny_holding (wpAny_pure ?_))
    refine wpAny_bind (wpAny_letGo ?_)
    show wpAny _ _ (if ((0 : Nat) : Int) < 0 then _ else _) _ _ _
    rw [if_neg (by omega)]
    show wpAny _ _ (if ((0 : Nat) : Int) ≥ 2 ^ 63 then _ else _) _ _ _
    rw [if_neg (by omega)]
    exact wpAny_bind (wpAny_mkInt (wpAny_pure ⟨rfl, h⟩))
  unfold truthy
  first
    | refine wpAny_bind (wpAny_callSpecial?_none (name := Str.ofString "__bool__") hT dq_noBool ?_)
    | refine wpAny_bind (wpAny_pure (wpAny_bind (wpAny_callSpecial?_none (name := Str.ofString "__bool__") hT dq_noBool ?_)))
  first
    | refine wpAny_bind (wpAny_specialOf (name := Str.ofString "__len__") hT dq_slot_len.lookup ?_)
    | refine wpAny_bind (wpAny_pure (wpAny_bind (wpAny_specialOf (name := Str.ofString "__len__") hT dq_slot_len.lookup ?_)))
  first
    | exact wpAny_bind (wpAny_mono key (fun r s' h' => by obtain ⟨rfl, hq⟩ := h'; exact wpAny_pure hq) fun _ _ e => e)
    | exact wpAny_bind (wpAny_pure (wpAny_bind (wpAny_mono key (fun r s' h' => by obtain ⟨rfl, hq⟩ := h'; exact wpAny_pure hq) fun _ _ e => e)))
theorem dq_truthyN {l : Addr} {Q : Bool → Shared → Prop} (N : News h₀ L s.heap news) (hm : (l, dqObj) ∈ news) (h : Q false { s with toks := s.toks + 1 + 1 }) : wpAny (model prog w) A (truthy (.ref l)) Q E s :=
  dq_truthy (N _ hm).1 rfl rfl h
end

end
end TD1
section TH1
section
variable {w : World} {p : Program} {loose : List Str} {mean : ExcName → Option Value} {mg mb : Str → Option Value}
  {dp un : Nat} {gd : Option (List Code)} {cn : Str} {cs : Scope} {a : Addr} {ccd : Value} {cl : List (Str × Addr)} {outer : List Env} {A₀ : Around} {base h₀ : Heap} {L : Addr} {m : Str → Option Value} {news ext : List (Addr × Obj)} {s : Shared} {Q E : Value → Shared → Prop}
section
variable {x dx io dio pb fs : Addr} {kb kk vv : Nat → Tok} {tb tp tn : Tok} {buf wc : Str} {k : Nat} {st : LSt} {tt : Tok} {ts : Tok} {st' : LSt} {tok' : Str} {q' : Bool} {cs' : List Nat}
theorem c_read_tokenN
  (B : Below A₀ base outer h₀) (F : Fr h₀ L s.heap m) (X : (hd0.heap_1 w.params).In h₀) (T : Top p loose mean mg mb h₀) (hk : cs.kind = .function)
  (N : News h₀ L s.heap (rtLed ext w.params x dx io dio pb fs kk vv kb buf wc tb tn (st.val ts) (Str.ofString "") tt (k : Int) tp))
  (n1 : @Ne Nat x dx) (n2 : @Ne Nat io dx) (n3 : @Ne Nat dio dx) (n4 : @Ne Nat pb dx) (n5 : @Ne Nat fs dx) (n6 : @Ne Nat x dio) (n7 : @Ne Nat io dio) (n8 : @Ne Nat pb dio) (n9 : @Ne Nat fs dio) (x1 : ∀ p ∈ ext, p.1 ≠ dx) (x2 : ∀ p ∈ ext, p.1 ≠ dio)
  (hx : buf.length ≤ 1000000) (hdp : dp + 21 < recursionLimit) (hst : st.ok) (hwc : inS wc ⟨#[39]⟩ = false) (hk0 : k ≤ buf.length)
  (hrun : lexRun st (Str.ofString "") false (buf.cps.toList.drop k) = some (st', tok', q', cs')) (hN : (tok' == Str.ofString "") = true ∧ q' = false)
  (hret : ∀ (h' : Heap) (tk' k' : Nat) (ts' tt' tp' : Tok), k' ≤ buf.length → buf.cps.toList.drop k' = cs' →
    Fr h₀ L h' m → News h₀ L h' (rtLed ext w.params x dx io dio pb fs kk vv kb buf wc tb tn (st'.val ts') (Str.ofString "") tt' (k' : Int) tp') → Q .none { s with heap := h', toks := tk' }) :
  wpAny (model PR w) (ktrTop dp un gd cn cs L a ccd cl outer) (call (.ref 714) [.ref x]) Q E s := by
  refine c_read_token B F X T hk N n1 n2 n3 n4 n5 n6 n7 n8 n9 x1 x2 hx hdp hst hwc hk0 hrun ?_
  intro v h' tk' k' ts' tt' tp' h1 h2 h3 F' N'
  obtain ⟨e1, e2⟩ := hN
  rcases h3 with ⟨_, _, rfl⟩ | ⟨h3, _⟩
  · exact hret h' tk' k' ts' tt' tp' h1 h2 F' N'
  · rw [e1, e2] at h3; rcases h3 with h3 | h3 <;> cases h3
theorem c_read_tokenS
  (B : Below A₀ base outer h₀) (F : Fr h₀ L s.heap m) (X : (hd0.heap_1 w.params).In h₀) (T : Top p loose mean mg mb h₀) (hk : cs.kind = .function)
  (N : News h₀ L s.heap (rtLed ext w.params x dx io dio pb fs kk vv kb buf wc tb tn (st.val ts) (Str.ofString "") tt (k : Int) tp))
  (n1 : @Ne Nat x dx) (n2 : @Ne Nat io dx) (n3 : @Ne Nat dio dx) (n4 : @Ne Nat pb dx) (n5 : @Ne Nat fs dx) (n6 : @Ne Nat x dio) (n7 : @Ne Nat io dio) (n8 : @Ne Nat pb dio) (n9 : @Ne Nat fs dio) (x1 : ∀ p ∈ ext, p.1 ≠ dx) (x2 : ∀ p ∈ ext, p.1 ≠ dio)
  (hx : buf.length ≤ 1000000) (hdp : dp + 21 < recursionLimit) (hst : st.ok) (hwc : inS wc ⟨#[39]⟩ = false) (hk0 : k ≤ buf.length)
  (hrun : lexRun st (Str.ofString "") false (buf.cps.toList.drop k) = some (st', tok', q', cs')) (hS : (tok' == Str.ofString "") = false ∨ q' = true)
  (hret : ∀ (u : Tok) (h' : Heap) (tk' k' : Nat) (ts' tt' tp' : Tok), k' ≤ buf.length → buf.cps.toList.drop k' = cs' →
    Fr h₀ L h' m → News h₀ L h' (rtLed ext w.params x dx io dio pb fs kk vv kb buf wc tb tn (st'.val ts') (Str.ofString "") tt' (k' : Int) tp') → Q (.str tok' u) { s with heap := h', toks := tk' }) :
  wpAny (model PR w) (ktrTop dp un gd cn cs L a ccd cl outer) (call (.ref 714) [.ref x]) Q E s := by
  refine c_read_token B F X T hk N n1 n2 n3 n4 n5 n6 n7 n8 n9 x1 x2 hx hdp hst hwc hk0 hrun ?_
  intro v h' tk' k' ts' tt' tp' h1 h2 h3 F' N'
  rcases h3 with ⟨e1, e2, rfl⟩ | ⟨_, u, rfl⟩
  · rw [e1, e2] at hS; rcases hS with hS | hS <;> cases hS
  · exact hret u h' tk' k' ts' tt' tp' h1 h2 F' N'
end
local macro_rules | `(tactic| walk_at "call ref") => `(tactic| (k_here; k_dflt (first
  | (refine' c_read_tokenN ?r1 ?r2 ?r3 ?r4 ?r5 ?r6 ?n1 ?n2 ?n3 ?n4 ?n5 ?n6 ?n7 ?n8 ?n9 ?nx1 ?nx2 ?rx ?rd ?rs ?rw ?rk ?rr ?rN ?_; (case r1 => k_asm); (case r2 => k_asm); (case r3 => k_in); (case r4 => k_asm); (case r5 => first | assumption | exact rfl); (case r6 => k_asm); (case rN => assumption); (case n1 => assumption); (case n2 => assumption); (case n3 => assumption); (case n4 => assumption); (case n5 => assumption); (case n6 => assumption); (case n7 => assumption); (case n8 => assumption); (case n9 => assumption); (case nx1 => assumption); (case nx2 => assumption); (case rx => assumption); (case rd => k_room); (case rs => assumption); (case rw => assumption); (case rk => assumption); (case rr => assumption); k_whole; intro h9 tk9 k9 ts9 tt9 tp9 hk9 hd9 F9 N9; (try dsimp only [rtLed, lexEs, sioEs] at N9); (try dsimp only); (try k_sweep))
  | (refine' c_read_tokenS ?r1 ?r2 ?r3 ?r4 ?r5 ?r6 ?n1 ?n2 ?n3 ?n4 ?n5 ?n6 ?n7 ?n8 ?n9 ?nx1 ?nx2 ?rx ?rd ?rs ?rw ?rk ?rr ?rN ?_; (case r1 => k_asm); (case r2 => k_asm); (case r3 => k_in); (case r4 => k_asm); (case r5 => first | assumption | exact rfl); (case r6 => k_asm); (case rN => assumption); (case n1 => assumption); (case n2 => assumption); (case n3 => assumption); (case n4 => assumption); (case n5 => assumption); (case n6 => assumption); (case n7 => assumption); (case n8 => assumption); (case n9 => assumption); (case nx1 => assumption); (case nx2 => assumption); (case rx => assumption); (case rd => k_room); (case rs => assumption); (case rw => assumption); (case rk => assumption); (case rr => assumption); k_whole; intro u9 h9 tk9 k9 ts9 tt9 tp9 hk9 hd9 F9 N9; (try dsimp only [rtLed, lexEs, sioEs] at N9); (try dsimp only); (try k_sweep)))))
local macro_rules | `(tactic| walk_at "truthy ref") => `(tactic| (k_here; k_dflt (refine' dq_truthyN ?N ?m ?_; (case N => k_asm); (case m => k_mem); k_whole)))
local macro_rules | `(tactic| walk_at "exec While") => `(tactic| (k_dflt (refine wpAny_noRaise ?_; refine whl_start 1 ?_)))
local macro_rules | `(tactic| walk_at "WhlRest") => `(tactic| (k_dflt (refine whl_turn (k := 0) PassesOwn.never ?_)))
local macro_rules | `(tactic| walk_at "ite") => `(tactic| (first | with_reducible refine ite_tt ?_ | with_reducible refine ite_ff ?_ | with_reducible refine ite_nt ?_ | with_reducible refine ite_nf ?_))
section
variable {x dx io dio pb fs : Addr} {kb kk vv : Nat → Tok} {tb tp tn : Tok} {buf wc : Str} {k : Nat} {st : LSt} {tt : Tok} {ts : Tok} {st' : LSt} {tok' : Str} {q' : Bool} {cs' : List Nat}
set_option maxRecDepth 100000 in
set_option maxHeartbeats 0 in
theorem c_get_tokenN
  (B : Below A₀ base outer h₀) (F : Fr h₀ L s.heap m) (X : (hd0.heap_1 w.params).In h₀) (T : Top p loose mean mg mb h₀) (hk : cs.kind = .function)
  (N : News h₀ L s.heap (rtLed ext w.params x dx io dio pb fs kk vv kb buf wc tb tn (st.val ts) (Str.ofString "") tt (k : Int) tp))
  (n1 : @Ne Nat x dx) (n2 : @Ne Nat io dx) (n3 : @Ne Nat dio dx) (n4 : @Ne Nat pb dx) (n5 : @Ne Nat fs dx) (n6 : @Ne Nat x dio) (n7 : @Ne Nat io dio) (n8 : @Ne Nat pb dio) (n9 : @Ne Nat fs dio) (x1 : ∀ p ∈ ext, p.1 ≠ dx) (x2 : ∀ p ∈ ext, p.1 ≠ dio)
  (hx : buf.length ≤ 1000000) (hdp : dp + 22 < recursionLimit) (hst : st.ok) (hwc : inS wc ⟨#[39]⟩ = false) (hk0 : k ≤ buf.length)
  (hrun : lexRun st (Str.ofString "") false (buf.cps.toList.drop k) = some (st', tok', q', cs')) (hN : (tok' == Str.ofString "") = true ∧ q' = false)
  (hret : ∀ (h' : Heap) (tk' k' : Nat) (ts' tt' tp' : Tok), k' ≤ buf.length → buf.cps.toList.drop k' = cs' →
    Fr h₀ L h' m → News h₀ L h' (rtLed ext w.params x dx io dio pb fs kk vv kb buf wc tb tn (st'.val ts') (Str.ofString "") tt' (k' : Int) tp') → Q .none { s with heap := h', toks := tk' }) :
  wpAny (model PR w) (ktrTop dp un gd cn cs L a ccd cl outer) (call (.ref 707) [.ref x]) Q E s := by
  dsimp only [rtLed, lexEs, sioEs] at N
  refine wpAny_call ?_
  walk_at "my enter"
  k_steps
  all_goals (
    rename Fr _ _ _ m => FF
    rename News _ _ _ _ => NN
    exact hret _ _ _ _ _ _ (by assumption) (by assumption) FF (cb_drop NN (fun _ hp => by first | exact hp | exact .tail _ hp)))
set_option maxRecDepth 100000 in
set_option maxHeartbeats 0 in
theorem c_get_tokenS
  (B : Below A₀ base outer h₀) (F : Fr h₀ L s.heap m) (X : (hd0.heap_1 w.params).In h₀) (T : Top p loose mean mg mb h₀) (hk : cs.kind = .function)
  (N : News h₀ L s.heap (rtLed ext w.params x dx io dio pb fs kk vv kb buf wc tb tn (st.val ts) (Str.ofString "") tt (k : Int) tp))
  (n1 : @Ne Nat x dx) (n2 : @Ne Nat io dx) (n3 : @Ne Nat dio dx) (n4 : @Ne Nat pb dx) (n5 : @Ne Nat fs dx) (n6 : @Ne Nat x dio) (n7 : @Ne Nat io dio) (n8 : @Ne Nat pb dio) (n9 : @Ne Nat fs dio) (x1 : ∀ p ∈ ext, p.1 ≠ dx) (x2 : ∀ p ∈ ext, p.1 ≠ dio)
  (hx : buf.length ≤ 1000000) (hdp : dp + 22 < recursionLimit) (hst : st.ok) (hwc : inS wc ⟨#[39]⟩ = false) (hk0 : k ≤ buf.length)
  (hrun : lexRun st (Str.ofString "") false (buf.cps.toList.drop k) = some (st', tok', q', cs')) (hS : (tok' == Str.ofString "") = false ∨ q' = true)
  (hret : ∀ (u : Tok) (h' : Heap) (tk' k' : Nat) (ts' tt' tp' : Tok), k' ≤ buf.length → buf.cps.toList.drop k' = cs' →
    Fr h₀ L h' m → News h₀ L h' (rtLed ext w.params x dx io dio pb fs kk vv kb buf wc tb tn (st'.val ts') (Str.ofString "") tt' (k' : Int) tp') → Q (.str tok' u) { s with heap := h', toks := tk' }) :
  wpAny (model PR w) (ktrTop dp un gd cn cs L a ccd cl outer) (call (.ref 707) [.ref x]) Q E s := by
  dsimp only [rtLed, lexEs, sioEs] at N
  refine wpAny_call ?_
  walk_at "my enter"
  k_steps
  all_goals (
    rename Fr _ _ _ m => FF
    rename News _ _ _ _ => NN
    exact hret _ _ _ _ _ _ _ (by assumption) (by assumption) FF (cb_drop NN (fun _ hp => by first | exact hp | exact .tail _ hp)))
end

end
end TH1
section TH2
section
variable {w : World} {p : Program} {loose : List Str} {mean : ExcName → Option Value} {mg mb : Str → Option Value}
  {dp un : Nat} {gd : Option (List Code)} {cn : Str} {cs : Scope} {a : Addr} {ccd : Value} {cl : List (Str × Addr)} {outer : List Env} {A₀ : Around} {base h₀ : Heap} {L : Addr} {m : Str → Option Value} {news ext : List (Addr × Obj)} {s : Shared} {Q E : Value → Shared → Prop}
theorem rs_drop {base G : Heap} {l : List Env} {e t : Addr} {cls : Value} {vs : List Value} {news news' : List (Addr × Obj)} {h : Heap} (R : RaisedS base G l e cls t vs news h) (k : ∀ q ∈ news', q ∈ news) : RaisedS base G l e cls t vs news' h := by
  obtain ⟨⟨B, hB, hG, hl, hfl, hnew⟩, htup⟩ := R
  exact ⟨⟨B, hB, hG, fun q hq => hl q (k q hq), hfl, hnew⟩, htup⟩
local macro_rules | `(tactic| walk_at "leaving ref") => `(tactic| (k_dflt (refine' leave_raiseS ?k1 (Heap.MadeExc.of (by assumption)) ?k2 ?k3 ?_; (case k1 => assumption); (case k2 => assumption); (case k3 => k_asm); k_whole; intro h' t' R' RK' U'; (try dsimp only at R' RK' U' ⊢))))
local macro_rules | `(tactic| walk_at "ite") => `(tactic| (first | with_reducible refine ite_tt ?_ | with_reducible refine ite_ff ?_ | with_reducible refine ite_nt ?_ | with_reducible refine ite_nf ?_))

local macro_rules | `(tactic| walk_at "call ref") => `(tactic| (k_here; k_dflt (first
  | (refine' c_get_tokenN ?r1 ?r2 ?r3 ?r4 ?r5 ?r6 ?n1 ?n2 ?n3 ?n4 ?n5 ?n6 ?n7 ?n8 ?n9 ?nx1 ?nx2 ?rx ?rd ?rs ?rw ?rk ?rr ?rN ?_; (case r1 => k_asm); (case r2 => k_asm); (case r3 => k_in); (case r4 => k_asm); (case r5 => first | assumption | exact rfl); (case r6 => k_asm); (case rN => assumption); (case n1 => assumption); (case n2 => assumption); (case n3 => assumption); (case n4 => assumption); (case n5 => assumption); (case n6 => assumption); (case n7 => assumption); (case n8 => assumption); (case n9 => assumption); (case nx1 => assumption); (case nx2 => assumption); (case rx => assumption); (case rd => k_room); (case rs => assumption); (case rw => assumption); (case rk => assumption); (case rr => assumption); k_whole; intro h9 tk9 k9 ts9 tt9 tp9 hk9 hd9 F9 N9; (try dsimp only [rtLed, lexEs, sioEs] at N9); (try dsimp only); (try k_sweep))
  | (refine' c_get_tokenS ?r1 ?r2 ?r3 ?r4 ?r5 ?r6 ?n1 ?n2 ?n3 ?n4 ?n5 ?n6 ?n7 ?n8 ?n9 ?nx1 ?nx2 ?rx ?rd ?rs ?rw ?rk ?rr ?rN ?_; (case r1 => k_asm); (case r2 => k_asm); (case r3 => k_in); (case r4 => k_asm); (case r5 => first | assumption | exact rfl); (case r6 => k_asm); (case rN => assumption); (case n1 => assumption); (case n2 => assumption); (case n3 => assumption); (case n4 => assumption); (case n5 => assumption); (case n6 => assumption); (case n7 => assumption); (case n8 => assumption); (case n9 => assumption); (case nx1 => assumption); (case nx2 => assumption); (case rx => assumption); (case rd => k_room); (case rs => assumption); (case rw => assumption); (case rk => assumption); (case rr => assumption); k_whole; intro u9 h9 tk9 k9 ts9 tt9 tp9 hk9 hd9 F9 N9; (try dsimp only [rtLed, lexEs, sioEs] at N9); (try dsimp only); (try k_sweep)))))
section
variable {x dx io dio pb fs : Addr} {kb kk vv : Nat → Tok} {tb tp tn : Tok} {buf wc : Str} {k : Nat} {st : LSt} {tt : Tok} {ts : Tok} {st' : LSt} {tok' : Str} {q' : Bool} {cs' : List Nat}
set_option maxRecDepth 100000 in
set_option maxHeartbeats 0 in
theorem c_nextN
  (B : Below A₀ base outer h₀) (F : Fr h₀ L s.heap m) (X : (hd0.heap_1 w.params).In h₀) (T : Top p loose mean mg mb h₀) (hk : cs.kind = .function)
  (N : News h₀ L s.heap (rtLed ext w.params x dx io dio pb fs kk vv kb buf wc tb tn (st.val ts) (Str.ofString "") tt (k : Int) tp))
  (n1 : @Ne Nat x dx) (n2 : @Ne Nat io dx) (n3 : @Ne Nat dio dx) (n4 : @Ne Nat pb dx) (n5 : @Ne Nat fs dx) (n6 : @Ne Nat x dio) (n7 : @Ne Nat io dio) (n8 : @Ne Nat pb dio) (n9 : @Ne Nat fs dio) (x1 : ∀ p ∈ ext, p.1 ≠ dx) (x2 : ∀ p ∈ ext, p.1 ≠ dio)
  (hx : buf.length ≤ 1000000) (hdp : dp + 23 < recursionLimit) (hst : st.ok) (hwc : inS wc ⟨#[39]⟩ = false) (hk0 : k ≤ buf.length)
  (hrun : lexRun st (Str.ofString "") false (buf.cps.toList.drop k) = some (st', tok', q', cs')) (hN : (tok' == Str.ofString "") = true ∧ q' = false)
  (hE : ∀ (e t : Addr) (g' h' : Heap) (tk' k' : Nat) (ts' tt' tp' : Tok), k' ≤ buf.length → buf.cps.toList.drop k' = cs' → Fr h₀ L g' m →
    RaisedS base g' (envX cn cs L a ccd cl :: outer) e (.type "StopIteration") t [] (rtLed ext w.params x dx io dio pb fs kk vv kb buf wc tb tn (st'.val ts') (Str.ofString "") tt' (k' : Int) tp') h' → g'.UpToSlots h' → E (.ref e) { s with heap := h', toks := tk' }) :
  wpAny (model PR w) (ktrTop dp un gd cn cs L a ccd cl outer) (call (.ref 743) [.ref x]) Q E s := by
  dsimp only [rtLed, lexEs, sioEs] at N
  refine wpAny_call ?_
  walk_at "my enter"
  k_steps
  all_goals (
    rename RaisedS _ _ _ _ _ _ _ _ _ => rkX
    rename Heap.UpToSlots _ _ => UU
    exact hE _ _ _ _ _ _ _ _ _ (by assumption) (by assumption) (by assumption) rkX UU)
set_option maxRecDepth 100000 in
set_option maxHeartbeats 0 in
theorem c_nextS
  (B : Below A₀ base outer h₀) (F : Fr h₀ L s.heap m) (X : (hd0.heap_1 w.params).In h₀) (T : Top p loose mean mg mb h₀) (hk : cs.kind = .function)
  (N : News h₀ L s.heap (rtLed ext w.params x dx io dio pb fs kk vv kb buf wc tb tn (st.val ts) (Str.ofString "") tt (k : Int) tp))
  (n1 : @Ne Nat x dx) (n2 : @Ne Nat io dx) (n3 : @Ne Nat dio dx) (n4 : @Ne Nat pb dx) (n5 : @Ne Nat fs dx) (n6 : @Ne Nat x dio) (n7 : @Ne Nat io dio) (n8 : @Ne Nat pb dio) (n9 : @Ne Nat fs dio) (x1 : ∀ p ∈ ext, p.1 ≠ dx) (x2 : ∀ p ∈ ext, p.1 ≠ dio)
  (hx : buf.length ≤ 1000000) (hdp : dp + 23 < recursionLimit) (hst : st.ok) (hwc : inS wc ⟨#[39]⟩ = false) (hk0 : k ≤ buf.length)
  (hrun : lexRun st (Str.ofString "") false (buf.cps.toList.drop k) = some (st', tok', q', cs')) (hS : (tok' == Str.ofString "") = false ∨ q' = true)
  (hret : ∀ (u : Tok) (h' : Heap) (tk' k' : Nat) (ts' tt' tp' : Tok), k' ≤ buf.length → buf.cps.toList.drop k' = cs' →
    Fr h₀ L h' m → News h₀ L h' (rtLed ext w.params x dx io dio pb fs kk vv kb buf wc tb tn (st'.val ts') (Str.ofString "") tt' (k' : Int) tp') → Q (.str tok' u) { s with heap := h', toks := tk' }) :
  wpAny (model PR w) (ktrTop dp un gd cn cs L a ccd cl outer) (call (.ref 743) [.ref x]) Q E s := by
  dsimp only [rtLed, lexEs, sioEs] at N
  refine wpAny_call ?_
  walk_at "my enter"
  k_steps
  all_goals (
    rename Fr _ _ _ m => FF
    rename News _ _ _ _ => NN
    exact hret _ _ _ _ _ _ _ (by assumption) (by assumption) FF (cb_drop NN (fun _ hp => by first | exact hp | exact .tail _ hp)))
end

end
end TH2
section TI1
section
variable {w : World} {p : Program} {loose : List Str} {mean : ExcName → Option Value} {mg mb : Str → Option Value}
  {dp un : Nat} {gd : Option (List Code)} {cn : Str} {cs : Scope} {a : Addr} {ccd : Value} {cl : List (Str × Addr)} {outer : List Env} {A₀ : Around} {base h₀ : Heap} {L : Addr} {m : Str → Option Value} {news : List (Addr × Obj)} {s : Shared} {Q E : Value → Shared → Prop}
section
variable {prog : Program} {A : Around} {R : Result → Shared → Prop} {I S : Addr} {res : Value}
theorem ext_loop_own (St : Nat → Array Value → Shared → Prop) (Fin : Array Value → Shared → Prop)
    (step : ∀ k acc s, St k acc s → wpAny (model prog w) A.in1 (pyNext (.ref I)) (fun r s' => match r with
      | none => Fin acc s'
      | some v => ∃ j c, j < k ∧ acc.size ≤ 1000000 ∧ s'.heap.get? S = some (listOf acc c) ∧ St j (acc.push v) { s' with heap := s'.heap.update S (Obj.mapSeq (·.push v)) }) (fun e s' => R (.error e) s') s)
    (fin : ∀ acc s, Fin acc s → R (.ok (.ret res)) s) : ∀ k acc s, St k acc s → codeAny (model prog w) A (.builtin "list.extend.loop" ⟨[.ref S, .ref I, res], []⟩) R s := by
  intro k
  induction k using Nat.strongRecOn with
  | ind k ih =>
    intro acc s hst
    refine codeAny_builtin PySem.F.entry_extend_loop ?_
    rw [Around.under_plainId PySem.F.plain_extend_loop _]
    show wpAny _ A.in1 (pyNext (.ref I) >>= _) _ _ s
    refine wpAny_bind (wpAny_mono (step k acc s hst) (fun r s' hr => ?_) fun _ _ e => e)
    cases r with
    | none => exact wpAny_pure (fin _ _ hr)
    | some v =>
      obtain ⟨j, c, hj, hz, hS, hst'⟩ := hr
      show wpAny _ A.in1 (updateSeq S (·.push v) >>= _) _ _ _
      have hl : (1000000 : Nat) ≤ sizeLine := by decide
      refine wpAny_bind (wpAny_updateSeq hS rfl (wpAny_pure ⟨plainId_quiet PySem.F.plain_extend_loop _, ih j hj _ _ hst'⟩) (by omega) (by show (acc.push v).size ≤ sizeLine + 1; rw [Array.size_push]; omega))
end
section
variable {prog : Program} {A : Around} {K : Frag} {x C : Addr} {ox : Obj} {od : Option Obj}
theorem spec_none {M : Model} {name : Str} {Q : Option Value → Shared → Prop} (X : K.In h₀) (F : Fr h₀ L s.heap m) (I : InstAt s.heap x ox C od) (hs : findIn K (.ref C) name = some none) (h : Q none s) : wpAny M A (specialOf (.ref x) name) Q E s := by
  unfold specialOf
  exact wpAny_bind (I.type.here ((looks_findIn (X.keeps F.keep) hs).here h))
theorem list_push_news {S : Addr} {acc : Array Value} {n : Nat} {h : Heap} {v : Value} (F : Fr h₀ L h m) (N : News h₀ L h ((S, listOf acc n) :: news)) (hne : ∀ p ∈ news, p.1 ≠ S) :
    Fr h₀ L (h.update S (Obj.mapSeq (·.push v))) m ∧ News h₀ L (h.update S (Obj.mapSeq (·.push v))) ((S, listOf (acc.push v) (n + 1)) :: news) := by
  have z := N _ (.head _)
  refine ⟨F.change (Heap.SameBut.update ..) z.2.1 z.2.2, ?_⟩
  exact kl_turn (pre := []) (post := news) _ N (fun _ hp => nomatch hp) hne rfl (by rw [Array.size_push]; omega)
theorem list_touch_news {S : Addr} {n : Nat} {h : Heap} {f : Array Value → Array Value} {acc acc' : Array Value} (F : Fr h₀ L h m) (N : News h₀ L h ((S, listOf acc n) :: news)) (hne : ∀ p ∈ news, p.1 ≠ S) (he : f acc = acc') :
    ∃ n', Fr h₀ L (h.update S (Obj.mapSeq f)) m ∧ News h₀ L (h.update S (Obj.mapSeq f)) ((S, listOf acc' n') :: news) := by
  have z := N _ (.head _)
  by_cases hs : acc'.size = acc.size
  · exact ⟨n, F.change (Heap.SameBut.update ..) z.2.1 z.2.2, kl_turn0 (pre := []) (post := news) _ N (fun _ hp => nomatch hp) hne he hs⟩
  · exact ⟨n + 1, F.change (Heap.SameBut.update ..) z.2.1 z.2.2, kl_turn (pre := []) (post := news) _ N (fun _ hp => nomatch hp) hne he hs⟩
theorem call_list_own (F : Fr h₀ L s.heap m) (N : News h₀ L s.heap news) (X : K.In h₀) (hI : ∀ h, News h₀ L h news → InstAt h x ox C od)
    (hlen : findIn K (.ref C) "__len__" = some none) (hhint : findIn K (.ref C) "__length_hint__" = some none)
    (hit : ∀ news' h' tk', Fr h₀ L h' m → News h₀ L h' (news' ++ news) → wpAny (model prog w) A.in1.in1 (pyIter (.ref x)) (fun it s₁ => it = .ref x ∧ ∃ h₁ tk₁, s₁ = { s with heap := h₁, toks := tk₁ } ∧ Fr h₀ L h₁ m ∧ News h₀ L h₁ (news' ++ news)) E { s with heap := h', toks := tk' })
    (St : Addr → Nat → Array Value → Shared → Prop) (Fin : Addr → Array Value → Shared → Prop)
    (step : ∀ S k acc s, St S k acc s → wpAny (model prog w) A.in1.in1 (pyNext (.ref x)) (fun r s' => match r with
      | none => Fin S acc s'
      | some v => ∃ j c, j < k ∧ acc.size ≤ 1000000 ∧ s'.heap.get? S = some (listOf acc c) ∧ St S j (acc.push v) { s' with heap := s'.heap.update S (Obj.mapSeq (·.push v)) }) E s)
    (start : ∀ S h' tk' c, Fr h₀ L h' m → News h₀ L h' ((S, listOf #[] c) :: news) → (∀ p ∈ news, p.1 < S) → ∃ k, St S k #[] { s with heap := h', toks := tk' })
    (hQ : ∀ S acc s', Fin S acc s' → Q (.ref S) s') :
    wpAny (model prog w) A (call (.type "list") [.ref x]) Q E s := by
  have N0 : News h₀ L (s.heap.push { cls := .type "list", data := .seq #[] }) ((s.heap.objs.size, listOf #[] 0) :: news) := N.push F _
  have F0 := F.push { cls := .type "list", data := .seq #[] }
  have hlt : ∀ p ∈ news, p.1 < s.heap.objs.size := fun p hp => Heap.lt_size (N p hp).1
  have hne : ∀ p ∈ news, p.1 ≠ s.heap.objs.size := fun p hp => Nat.ne_of_lt (hlt p hp)
  have hxn : x ≠ s.heap.objs.size := fun e => absurd (Heap.lt_size (hI _ N).at_) (by rw [e]; exact Nat.lt_irrefl _)
  refine callType_codes (Q₁ := fun obj s₁ => obj = .ref s.heap.objs.size ∧ s₁ = { s with heap := s.heap.push { cls := .type "list", data := .seq #[] } }) PySem.F.called_list (PySem.F.typeCall_list_1 _) PySem.F.entry_list_init
    (code_list_new _ ⟨rfl, rfl⟩) fun obj s₁ h₁ => ?_
  obtain ⟨rfl, rfl⟩ := h₁
  have hS : (s.heap.push { cls := .type "list", data := .seq #[] }).get? s.heap.objs.size = some { cls := .type "list", data := .seq #[] } := Heap.get?_push_size _ rfl
  refine ⟨⟨_, hS, rfl⟩, PySem.F.args_list_init_2 _ _, ?_⟩
  show wpAny _ A.in1.in1 (do let old ← Builtin.List.listItems (.ref s.heap.objs.size); Builtin.List.listUpdate (.ref s.heap.objs.size) (fun _ => #[]); letGo old.toList.reverse; Builtin.List.listExtendWith (.ref s.heap.objs.size) (.ref x) .none) _ _ _
  refine wpAny_bind ?_
  unfold Builtin.List.listItems
  refine wpAny_bind (wpAny_seqItems hS rfl (wpAny_pure ?_))
  show wpAny _ A.in1.in1 (updateSeq s.heap.objs.size (fun _ => #[]) >>= fun _ => letGo (#[] : Array Value).toList.reverse >>= fun _ => Builtin.List.listExtendWith (.ref s.heap.objs.size) (.ref x) .none) _ _ _
  refine wpAny_bind (wpAny_updateSeq hS rfl ?_)
  obtain ⟨n1, F1, N1⟩ := list_touch_news (f := fun _ => #[]) (acc' := #[]) F0 N0 hne rfl
  refine wpAny_bind (wpAny_letGo ?_)
  unfold Builtin.List.listExtendWith
  refine wpAny_bind ((hI _ fun p hp => N1 p (.tail _ hp)).type.here ?_)
  have h1 : Builtin.List.listSameRef (.ref s.heap.objs.size) (.ref x) = false := by simp [Builtin.List.listSameRef]; exact fun e => hxn e.symm
  have h2 : (Value.ref C == Value.type "list") = false := rfl
  have h3 : (Value.ref C == Value.type "tuple") = false := rfl
  simp only [h1, h2, h3, Bool.or_false, Bool.false_eq_true, if_false]
  refine wpAny_bind (wpAny_mono (hit [(s.heap.objs.size, listOf #[] n1)] _ s.toks F1 N1) (fun it s₁ hit' => ?_) fun _ _ e => e)
  obtain ⟨rfl, h₁, tk₁, rfl, F2, N2⟩ := hit'
  have hI2 := hI _ fun p hp => N2 p (.tail _ hp)
  refine wpAny_bind (wpAny_holding ?_)
  unfold Builtin.List.listLengthHint
  refine wpAny_bind (spec_none X F2 hI2 hlen ?_)
  show wpAny _ A.in1.in1 (specialOf (Value.ref x) (Str.ofString "__length_hint__") >>= _) _ _ _
  refine wpAny_bind (spec_none X F2 hI2 hhint ?_)
  refine wpAny_pure ?_
  show wpAny _ A.in1.in1 (rule "list.extend.makes-room" >>= fun _ => Builtin.List.listTouch (.ref s.heap.objs.size) >>= fun _ =>
    again (.builtin "list.extend.loop" ⟨[.ref s.heap.objs.size, .ref x, .none], []⟩)) _ _ _
  refine wpAny_bind (wpAny_rule ?_)
  refine wpAny_bind ?_
  show wpAny _ A.in1.in1 (updateSeq s.heap.objs.size (·.push .none) >>= fun _ => updateSeq s.heap.objs.size (·.pop)) _ _ _
  have hS2 : h₁.get? s.heap.objs.size = some (listOf #[] n1) := (N2 _ (.head _)).1
  refine wpAny_bind (wpAny_updateSeq hS2 rfl ?_)
  obtain ⟨n3, F3, N3⟩ := list_touch_news (f := (·.push Value.none)) (acc' := #[Value.none]) F2 N2 hne rfl
  refine wpAny_updateSeq (N3 _ (.head _)).1 rfl ?_
  obtain ⟨n4, F4, N4⟩ := list_touch_news (f := (·.pop)) (acc' := #[]) F3 N3 hne rfl
  obtain ⟨k, hk⟩ := start _ _ tk₁ _ F4 N4 hlt
  exact wpAny_pure ⟨plainId_quiet PySem.F.plain_extend_loop _, ext_loop_own (St s.heap.objs.size) (Fin s.heap.objs.size) (step s.heap.objs.size) (fun acc s' hf => ⟨rfl, hQ _ _ _ hf⟩) k #[] _ hk⟩
end

end
end TI1
section TI2
section
variable {w : World} {p : Program} {loose : List Str} {mean : ExcName → Option Value} {mg mb : Str → Option Value}
  {dp un : Nat} {gd : Option (List Code)} {cn : Str} {cs : Scope} {a : Addr} {ccd : Value} {cl : List (Str × Addr)} {outer : List Env} {A₀ : Around} {base h₀ : Heap} {L : Addr} {m : Str → Option Value} {news ext : List (Addr × Obj)} {s : Shared} {Q E : Value → Shared → Prop}
noncomputable def lexAll : Nat → LSt → List Nat → Option (List Str)
  | 0, _, _ => none
  | n + 1, st, cs => match lexRun st (Str.ofString "") false cs with
    | none => none
    | some (st', tok, q, cs') => if (tok == Str.ofString "") = true ∧ q = false then some [] else (lexAll n st' cs').map (tok :: ·)
theorem lexRun_ok : ∀ (st : LSt) (tok : Str) (q : Bool) (cs : List Nat) {r : LSt × Str × Bool × List Nat}, lexRun st tok q cs = some r → r.1.ok := by
  intro st tok q cs
  induction cs generalizing st tok q with
  | nil =>
    intro r h
    cases st <;> simp only [lexRun] at h <;> first | (have h := Option.some.inj h; subst h; exact True.intro) | cases h
  | cons c cs ih =>
    intro r h
    cases st with
    | non => simp only [lexRun] at h; cases h
    | sp =>
      simp only [lexRun] at h
      split at h
      · exact ih _ _ _ h
      · split at h
        · exact ih _ _ _ h
        · cases h
    | a =>
      simp only [lexRun] at h
      split at h
      · split at h
        · have h := Option.some.inj h; subst h; exact True.intro
        · cases h
      · split at h
        · exact ih _ _ _ h
        · split at h
          · exact ih _ _ _ h
          · cases h
    | q d =>
      simp only [lexRun] at h
      split at h
      · exact ih _ _ _ h
      · split at h
        · exact ih _ _ _ h
        · cases h
section
variable {M : Model} {A : Around}
theorem my_stop {g' : Heap} {e t : Addr} {vs : List Value} {Q2 : Option Value → Shared → Prop} (B : Below A₀ base outer h₀) (F : Fr h₀ L g' m) (R : RaisedS base g' (envX cn cs L a ccd cl :: outer) e (.type "StopIteration") t vs news s.heap)
    (hsm : g'.UpToSlots s.heap) (k : ∀ g'', KtsTurn (outer.filterMap (·.frame)) h₀ g'' → Fr g'' L s.heap m → Below A₀ base outer g'' → News g'' L s.heap news → Q2 none s) : OwitStop M A Q2 E (.ref e) s := by
  obtain ⟨⟨B', hB, hBG, hl, hfl, hnew⟩, htup⟩ := R
  have hL : B'.get? L = none := by
    obtain ⟨_, ⟨L', _, hf, hn', _⟩, _⟩ := hfl.2.2.1
    obtain rfl : L = L' := Option.some.inj hf
    exact hn'
  obtain ⟨ob, hob, hobc⟩ := hfl.there
  have hT : s.TypeIs (.ref e) "StopIteration" := (show ∃ o, s.heap.get? e = some o ∧ o.cls = .type "StopIteration" from ⟨ob, hob, hobc⟩)
  have hsub : isSubtype (.type "StopIteration") (.type "StopIteration") = pure true := by rw [isSubtype_type]; kernel_rfl
  obtain ⟨g'', T, F'', B''⟩ := kts_ground (name := cn) (scope := cs) (a := a) (cd := ccd) B F hBG hfl.1 hsm
  unfold OwitStop
  refine wpAny_isInstance hT hsub ?_
  show (if true = true then Q2 none s else E (.ref e) s)
  rw [if_pos rfl]
  refine k g'' T F'' B'' fun q hq => ⟨hfl.1 _ _ (hl q hq).1, (fun z => by have := (hl q hq).1; rw [z, hL] at this; cases this), T.none_ _ (kts_none F.keep (hl q hq).2.1)⟩
end
set_option maxRecDepth 100000 in
set_option maxHeartbeats 0 in
theorem c_iter736 {x : Addr} (B : Below A₀ base outer h₀) (F : Fr h₀ L s.heap m) (X : (hd0.heap_1 w.params).In h₀) (N : News h₀ L s.heap news) (T : Top p loose mean mg mb h₀) (hk : cs.kind = .function) (hdp : dp + 10 < recursionLimit)
  (hret : ∀ (h' : Heap) (tk' : Nat), Fr h₀ L h' m → News h₀ L h' news → Q (.ref x) { s with heap := h', toks := tk' }) :
  wpAny (model PR w) (ktrTop dp un gd cn cs L a ccd cl outer) (call (.ref 736) [.ref x]) Q E s := by
  refine wpAny_call ?_
  walk_at "my enter"
  k_steps
  all_goals (
    rename Fr _ _ _ m => FF
    rename News _ _ _ news => NN
    exact hret _ _ FF NN)

theorem strs_push {acc : Array Value} {xs : List Str} (h : StrsAre acc.toList xs) (y : Str) (u : Tok) : StrsAre (acc.push (.str y u)).toList (xs ++ [y]) := by
  rw [Array.toList_push]
  generalize acc.toList = l at h
  induction h with
  | nil => exact .cons y u .nil
  | cons z t _ ih => exact .cons z t ih
noncomputable def LxSt (ext : List (Addr × Obj)) (P : Params) (g : Heap) (L : Addr) (m : Str → Option Value) (x dx io dio pb fs : Addr) (kk vv kb : Nat → Tok) (buf wc : Str) (tb tn : Tok) (all : List Str) (s₀ : Shared) (S : Addr) (n : Nat) (acc : Array Value) (s' : Shared) : Prop :=
  ∃ (h : Heap) (tk c k : Nat) (st : LSt) (ts tt tp : Tok) (don rest : List Str), s' = { s₀ with heap := h, toks := tk } ∧ Fr g L h m ∧
    News g L h ((S, listOf acc c) :: rtLed ext P x dx io dio pb fs kk vv kb buf wc tb tn (st.val ts) (Str.ofString "") tt (k : Int) tp) ∧ (∀ p ∈ rtLed ext P x dx io dio pb fs kk vv kb buf wc tb tn (st.val ts) (Str.ofString "") tt (k : Int) tp, p.1 ≠ S) ∧
    k ≤ buf.length ∧ st.ok ∧ lexAll n st (buf.cps.toList.drop k) = some rest ∧ StrsAre acc.toList don ∧ don ++ rest = all
set_option maxRecDepth 100000 in
set_option maxHeartbeats 0 in
theorem c_list_lex
  (B : Below A₀ base outer h₀) (F : Fr h₀ L s.heap m) (X : (hd0.heap_1 w.params).In h₀) (T : Top p loose mean mg mb h₀) (hk : cs.kind = .function)
  {x dx io dio pb fs : Addr} {kb kk vv : Nat → Tok} {tb tp tn : Tok} {buf wc : Str} {tt ts : Tok} {n : Nat} {all : List Str}
  (N : News h₀ L s.heap (rtLed ext w.params x dx io dio pb fs kk vv kb buf wc tb tn (LSt.sp.val ts) (Str.ofString "") tt ((0 : Nat) : Int) tp))
  (n1 : @Ne Nat x dx) (n2 : @Ne Nat io dx) (n3 : @Ne Nat dio dx) (n4 : @Ne Nat pb dx) (n5 : @Ne Nat fs dx) (n6 : @Ne Nat x dio) (n7 : @Ne Nat io dio) (n8 : @Ne Nat pb dio) (n9 : @Ne Nat fs dio) (x1 : ∀ p ∈ ext, p.1 ≠ dx) (x2 : ∀ p ∈ ext, p.1 ≠ dio) 
  (hx : buf.length ≤ 1000000) (hdp : dp + 30 < recursionLimit) (hwc : inS wc ⟨#[39]⟩ = false)
  (hall : lexAll n .sp buf.cps.toList = some all) (hlen : all.length ≤ 1000000)
  (hret : ∀ (S : Addr) (acc : Array Value) (c : Nat) (g'' h' : Heap) (tk' : Nat), KtsTurn (outer.filterMap (·.frame)) h₀ g'' → Fr g'' L h' m → Below A₀ base outer g'' → News g'' L h' ((S, listOf acc c) :: ext) → StrsAre acc.toList all → Q (.ref S) { s with heap := h', toks := tk' }) :
  wpAny (model PR w) (ktrTop dp un gd cn cs L a ccd cl outer) (call (.type "list") [.ref x]) Q E s := by
  refine' call_list_own (K := Mine.hd0.heap_1 w.params) (C := 746) F N X (fun h N => InstAt.of_news N (.head _) (.tail _ (.head _))) ?hlen ?hhint ?hit (LxSt ext w.params h₀ L m x dx io dio pb fs kk vv kb buf wc tb tn all s)
    (fun S acc s' => ∃ g'' h' tk' c, s' = { s with heap := h', toks := tk' } ∧ KtsTurn (outer.filterMap (·.frame)) h₀ g'' ∧ Fr g'' L h' m ∧ Below A₀ base outer g'' ∧ News g'' L h' ((S, listOf acc c) :: ext) ∧ StrsAre acc.toList all) ?step ?start ?hQ
  case hlen => k_is
  case hhint => k_is
  case hit =>
    intro news' h' tk' F' N'
    refine' owit_iter (K := Mine.hd0.heap_1 w.params) (C := 746) (f := 736) F' X (InstAt.of_news N' (List.mem_append_right _ (.head _)) (List.mem_append_right _ (.tail _ (.head _)))) ?hs ?hf ?_
    case hs => k_is
    case hf => k_is
    refine c_iter736 B F' X N' T hk (by k_room) ?_
    intro h2 tk2 F2 N2
    refine' owit_it (K := Mine.hd0.heap_1 w.params) (C := 746) (g := .ref 743) F2 X (InstAt.of_news N2 (List.mem_append_right _ (.head _)) (List.mem_append_right _ (.tail _ (.head _)))) ?hs2 ?_
    case hs2 => k_is
    exact ⟨rfl, h2, tk2, rfl, F2, N2⟩
  case start =>
    intro S h' tk' c F' N' hlt
    refine ⟨n, h', tk', c, 0, .sp, ts, tt, tp, [], all, rfl, F', N', fun p hp => Nat.ne_of_lt (hlt p hp), Nat.zero_le _, True.intro, ?_, .nil, rfl⟩
    rw [List.drop_zero]
    exact hall
  case hQ =>
    intro S acc s' hf
    obtain ⟨g'', h', tk', c, rfl, T', F', B', N', hs⟩ := hf
    exact hret S acc c g'' h' tk' T' F' B' N' hs
  case step =>
    intro S k acc s' hst
    obtain ⟨h, tk, c, pos, st, ts', tt', tp', don, rest, rfl, F1, N1, hne, hpos, hok, hrest, hdon, heq⟩ := hst
    cases k with
    | zero => cases hrest
    | succ k =>
      have hdx : dx ≠ S := hne _ (.tail _ (.head _))
      have hdio : dio ≠ S := hne _ (.tail _ (.tail _ (.tail _ (.head _))))
      have hS1 : ∀ p ∈ ((S, listOf acc c) :: ext), p.1 ≠ dx := List.forall_mem_cons.mpr ⟨fun e => hdx e.symm, x1⟩
      have hS2 : ∀ p ∈ ((S, listOf acc c) :: ext), p.1 ≠ dio := List.forall_mem_cons.mpr ⟨fun e => hdio e.symm, x2⟩
      have N1r : News h₀ L h (rtLed ((S, listOf acc c) :: ext) w.params x dx io dio pb fs kk vv kb buf wc tb tn (st.val ts') (Str.ofString "") tt' (pos : Int) tp') := fun p hp => by
        simp only [rtLed, List.mem_cons] at hp
        refine N1 p ?_
        simp only [rtLed, List.mem_cons]
        rcases hp with h | h | h | h | h | h | h | h
        · exact .inr (.inl h)
        · exact .inr (.inr (.inl h))
        · exact .inr (.inr (.inr (.inl h)))
        · exact .inr (.inr (.inr (.inr (.inl h))))
        · exact .inr (.inr (.inr (.inr (.inr (.inl h)))))
        · exact .inr (.inr (.inr (.inr (.inr (.inr (.inl h))))))
        · exact .inl h
        · exact .inr (.inr (.inr (.inr (.inr (.inr (.inr h))))))
      refine' owit_next (K := Mine.hd0.heap_1 w.params) (C := 746) (f := 743) F1 X (InstAt.of_news N1r (.head _) (.tail _ (.head _))) ?hs3 ?hf3 ?_
      case hs3 => k_is
      case hf3 => k_is
      rw [lexAll] at hrest
      cases hrun : lexRun st (Str.ofString "") false (buf.cps.toList.drop pos) with
      | none => rw [hrun] at hrest; cases hrest
      | some r =>
        obtain ⟨st', tok', q', cs'⟩ := r
        rw [hrun] at hrest
        dsimp only at hrest
        by_cases hend : (tok' == Str.ofString "") = true ∧ q' = false
        · rw [if_pos hend] at hrest
          have hrest := Option.some.inj hrest
          subst hrest
          rw [List.append_nil] at heq
          subst heq
          refine c_nextN B F1 X T hk N1r n1 n2 n3 n4 n5 n6 n7 n8 n9 hS1 hS2 hx (by k_room) hok hwc hpos hrun hend ?_
          intro e t g' h' tk' k' ts2 tt2 tp2 hk1 hk2 F2 R2 U2
          refine my_stop B F2 R2 U2 fun g'' T'' F'' B'' N'' => ?_
          exact ⟨g'', h', tk', c, rfl, T'', F'', B'', fun p hp => N'' p (.tail _ (.tail _ (.tail _ (.tail _ (.tail _ (.tail _ hp)))))), hdon⟩
        · rw [if_neg hend] at hrest
          have hS : (tok' == Str.ofString "") = false ∨ q' = true := by
            cases h1 : (tok' == Str.ofString "") with
            | false => exact .inl rfl
            | true => cases q' with
              | true => exact .inr rfl
              | false => exact (hend ⟨h1, rfl⟩).elim
          obtain ⟨rest', hr', rfl⟩ := Option.map_eq_some_iff.mp hrest
          refine c_nextS B F1 X T hk N1r n1 n2 n3 n4 n5 n6 n7 n8 n9 hS1 hS2 hx (by k_room) hok hwc hpos hrun hS ?_
          intro u h' tk' k' ts2 tt2 tp2 hk1 hk2 F2 N2
          have N3 : News h₀ L h' ((S, listOf acc c) :: rtLed ext w.params x dx io dio pb fs kk vv kb buf wc tb tn (st'.val ts2) (Str.ofString "") tt2 (k' : Int) tp2) := fun p hp => by
            simp only [rtLed, List.mem_cons] at hp
            refine N2 p ?_
            simp only [rtLed, List.mem_cons]
            rcases hp with h | h | h | h | h | h | h | h
            · exact .inr (.inr (.inr (.inr (.inr (.inr (.inl h))))))
            · exact .inl h
            · exact .inr (.inl h)
            · exact .inr (.inr (.inl h))
            · exact .inr (.inr (.inr (.inl h)))
            · exact .inr (.inr (.inr (.inr (.inl h))))
            · exact .inr (.inr (.inr (.inr (.inr (.inl h)))))
            · exact .inr (.inr (.inr (.inr (.inr (.inr (.inr h))))))
          have hne2 : ∀ p ∈ rtLed ext w.params x dx io dio pb fs kk vv kb buf wc tb tn (st'.val ts2) (Str.ofString "") tt2 (k' : Int) tp2, p.1 ≠ S := fun p hp => by
            simp only [rtLed, List.mem_cons] at hp
            rcases hp with rfl | rfl | rfl | rfl | rfl | rfl | h
            · exact hne _ (.head _)
            · exact hdx
            · exact hne _ (.tail _ (.tail _ (.head _)))
            · exact hdio
            · exact hne _ (.tail _ (.tail _ (.tail _ (.tail _ (.head _)))))
            · exact hne _ (.tail _ (.tail _ (.tail _ (.tail _ (.tail _ (.head _))))))
            · exact hne _ (.tail _ (.tail _ (.tail _ (.tail _ (.tail _ (.tail _ h))))))
          obtain ⟨F4, N4⟩ := list_push_news (v := .str tok' u) F2 N3 hne2
          have hsz : acc.size ≤ 1000000 := by
            have h1 := StrsAre.length hdon
            rw [← heq, List.length_append] at hlen
            rw [Array.length_toList] at h1
            omega
          refine ⟨k, c, Nat.lt_succ_self k, hsz, (N3 _ (.head _)).1, _, tk', c + 1, k', st', ts2, tt2, tp2, don ++ [tok'], rest', rfl, F4, N4, hne2, hk1, lexRun_ok _ _ _ _ hrun, ?_, strs_push hdon tok' u, ?_⟩
          · rw [hk2]; exact hr'
          · rw [List.append_assoc]; exact heq

end
end TI2
section TJ1
section
variable {w : World} {p : Program} {loose : List Str} {mean : ExcName → Option Value} {mg mb : Str → Option Value}
  {dp un : Nat} {gd : Option (List Code)} {cn : Str} {cs : Scope} {a : Addr} {ccd : Value} {cl : List (Str × Addr)} {outer : List Env} {A₀ : Around} {base h₀ : Heap} {L : Addr} {m : Str → Option Value} {news ext : List (Addr × Obj)} {s : Shared} {Q E : Value → Shared → Prop}
theorem mh1 (S : Setting) (P : Params) : peek (hd0.heap_1 P) S (Bind.madeBy (.ref 611)) = some none := by kernel_rfl
theorem mh2 (S : Setting) (P : Params) : peek (hd0.heap_1 P) S (Bind.staticBase (.ref 611)) = some (.type "object") := by kernel_rfl

end
end TJ1
section TJ2
section
variable {w : World} {p : Program} {loose : List Str} {mean : ExcName → Option Value} {mg mb : Str → Option Value}
  {dp un : Nat} {gd : Option (List Code)} {cn : Str} {cs : Scope} {a : Addr} {ccd : Value} {cl : List (Str × Addr)} {outer : List Env} {A₀ : Around} {base h₀ : Heap} {L : Addr} {m : Str → Option Value} {news ext : List (Addr × Obj)} {s : Shared} {Q E : Value → Shared → Prop}
theorem mem_skip2 {α : Type} {a b c d : α} {l : List α} : ∀ q ∈ a :: b :: l, q ∈ a :: b :: c :: d :: l := by
  intro q h
  rcases List.mem_cons.mp h with h | h
  · exact List.mem_cons.mpr (.inl h)
  · rcases List.mem_cons.mp h with h | h
    · exact .tail _ (List.mem_cons.mpr (.inl h))
    · exact .tail _ (.tail _ (.tail _ (.tail _ h)))
section
variable {A : Around} {R : Result → Shared → Prop} {h : Heap} {g : Array GenState} {d : Drawn} {t : Nat} {os : OsState}
theorem mh_here (P : Params) (S : Setting) : peek (hd0.heap_1 P) S (Bind.madeHere "object.__new__" (.ref 611)) = some () := by kernel_rfl
theorem mh_base (P : Params) (S : Setting) : peek (hd0.heap_1 P) S (Bind.staticBase (.ref 611)) = some (.type "object") := by kernel_rfl
theorem mh_made (P : Params) (S : Setting) : peek (hd0.heap_1 P) S (Bind.madeBy (.type "object")) = some (some "object.__new__") := by kernel_rfl
set_option maxRecDepth 100000 in
set_option maxHeartbeats 4000000 in
theorem new611 (X : (hd0.heap_1 w.params).In h)
    (hq : R (.ok (.ret (.ref (h.objs.size + 1)))) ⟨(h.push emptyDict).push (instObj 611 h.objs.size), g, d, t, os⟩) :
    codeAny (model PR w) A (.call (.builtin "object.__new__") ⟨[.ref 611], []⟩) R ⟨h, g, d, t, os⟩ := by
  have here : Looks (model PR w) h (Bind.madeHere "object.__new__" (.ref 611)) () := Looks.of_peek X (mh_here w.params _)
  have base : Looks (model PR w) h (Bind.staticBase (.ref 611)) (.type "object") := Looks.of_peek X (mh_base w.params _)
  have made : Looks (model PR w) h (Bind.madeBy (.type "object")) (some "object.__new__") := Looks.of_peek X (mh_made w.params _)
  have typ : Looks (model PR w) h (isInstance (.ref 611) (.type "type")) true := looks_instIn X (by k_is)
  have top : Looks (model PR w) h (isSubtype (.ref 611) (.type "object")) true := looks_mroIn X (by k_is)
  have F := PySem.F.objNew
  obtain ⟨oc, od, cd, sl, hC0, e1, e2⟩ : ∃ oc od cd sl, (hd0.heap_1 w.params).lookup 611 = some ⟨oc, od, .cls cd, sl⟩ ∧ cd.abstract = false ∧ cd.hasDel = false := ⟨_, _, _, _, rfl, rfl, rfl⟩
  have hC := X _ _ hC0
  refine codeAny_call_builtin_code (Code.quiet_builtin _ F.quiet) ?_
  simp only [checkBuiltinCall, F.kind, F.split, F.row]
  have args : Bind.checkArgs "object.__new__" ⟨.hand, "object.__new__", "__new__", .cls, []⟩ ⟨[.ref 611], []⟩ = pure () := by kernel_rfl
  rw [args]
  repeat (first | simp only [Option.map_some, bne_self_eq_false, Bool.false_eq_true, if_false] | lk)
  refine codeAny_builtin F.entry ?_
  unfold Builtin.«object.__new__»
  have hC' := Heap.get?_push_of_some (instObj 611 (h.push emptyDict).objs.size.pred) (Heap.get?_push_of_some emptyDict hC)
  have fin : ∀ A', wpAny (model PR w) A' (do
      let d ← if typeHasDict (.ref 611) then some <$> alloc { cls := .type "dict", data := .dict #[] } else pure none
      ret (← newObj (.ref 611) .plain d)) (fun fin s' => match fin with | .done f => R (.ok f) s' | .again c' => c'.quiet = true ∧ codeAny (model PR w) A c' R s') (fun e s' => R (.error e) s') ⟨h, g, d, t, os⟩ := by
    intro A'
    show wpAny _ _ ((alloc emptyDict >>= fun x => pure (some x)) >>= _) _ _ _
    refine wpAny_bind (wpAny_bind (wpAny_alloc (wpAny_pure (wpAny_bind ?_))))
    show wpAny _ _ (newObjAsIs _ _ _) _ _ _
    unfold newObjAsIs classHasDel
    refine wpAny_bind (wpAny_alloc (wpAny_bind (wpAny_bind (wpAny_load (Heap.get?_push_of_some _ (Heap.get?_push_of_some _ hC)) (wpAny_pure ?_)))))
    rw [e2]
    refine wpAny_pure (wpAny_pure ?_)
    show R _ _
    rw [Heap.size_push]
    exact hq
  repeat (first | simp only [e1, Bool.false_eq_true, if_false] | exact fin _ | lk)
end
theorem call_new611 {A : Around} (F : Fr h₀ L s.heap m) (N : News h₀ L s.heap news) (X : (hd0.heap_1 w.params).In h₀)
    (h : ∀ x dx h', Fr h₀ L h' m → News h₀ L h' ((x, instObj 611 dx) :: (dx, emptyDict) :: news) → (∀ p ∈ news, p.1 < dx) → dx < x → Q (.ref x) { s with heap := h' }) :
    wpAny (model PR w) A (call (.builtin "object.__new__") [.ref 611]) Q E s := by
  obtain ⟨hh, g, d, t, os⟩ := s
  refine wpAny_call (new611 (X.keeps F.keep) ?_)
  have := (N.push F emptyDict).push (F.push _) (instObj 611 hh.objs.size)
  rw [Heap.size_push] at this
  exact h _ hh.objs.size _ ((F.push _).push _) this (fun p hp => Heap.lt_size (N p hp).1) (Nat.lt_succ_self _)
local macro_rules | `(tactic| walk_at "call builtin:object.__new__") => `(tactic| (k_dflt (refine' call_new611 ?F ?N ?X ?_; (case F => k_asm); (case N => k_asm); (case X => k_asm); k_whole); intro x' dx' h' F' N' l1 l2; (have l9 := MyStop.intro l1); (try k_lt l1); (try k_sweep)))
local macro_rules | `(tactic| walk_at "my enterB") => `(tactic| (k_dflt (refine' kp_both ?k1 ?k2 ?k3 ?k4 ?k5 ?kA ?kF ?kK ?k6 ?k7 ?k8 ?kV ?kX ?kQ ?kM ?kN ?kD ?kR ?kP ?kS ?kT ?kB ?_ ?c2 ?c3 ?c4 ?c5; (case kA => exact rfl); (case kF => exact rfl); (case kK => first | assumption | exact rfl); (case k1 => k_asm); (case k2 => k_asm); (case k3 => k_asm); (case k4 => k_asm); (case k5 => k_asm); (case k6 => k_is); (case k7 => k_is); (case k8 => k_room); (case kV => kp_lit); (case kX => kp_lit); (case kQ => exact rfl); (case kM => exact rfl); (case kN => exact rfl); (case kD => kp_flats); (case kR => exact rfl); (case kP => exact rfl); (case kS => exact fun _ => rfl); (case kT => exact fun _ _ => rfl); (case kB => exact fun _ _ => locs rfl); (case c5 => decide); (case c2 => exact rfl); (case c3 => exact rfl); (case c4 => exact rfl); k_whole; intro C' D' o' g' L' h' tk' l1 l2 lo' hs' fs' FG' F' N' B' X' T'; (try k_lt l1); (try k_lt2 l2); (try dsimp only); (try k_lift B'); (try k_fold))))
set_option maxRecDepth 100000 in
set_option maxHeartbeats 0 in
theorem c_new104 (B : Below A₀ base outer h₀) (F : Fr h₀ L s.heap m) (X : (hd0.heap_1 w.params).In h₀) (N : News h₀ L s.heap news) (T : Top p loose mean mg mb h₀) (hk : cs.kind = .function) {buf : Str} {tb : Tok} (hdp : dp + 10 < recursionLimit)
  (hret : ∀ (x dx : Addr) (h' : Heap) (tk' : Nat), Fr h₀ L h' m → News h₀ L h' ((x, instObj 611 dx) :: (dx, emptyDict) :: news) → (∀ p ∈ news, p.1 < dx) → dx < x → Q (.ref x) { s with heap := h', toks := tk' }) :
  wpAny (model PR w) (ktrTop dp un gd cn cs L a ccd cl outer) (call (.ref 104) [.ref 611, .str buf tb]) Q E s := by
  refine wpAny_call ?_
  walk_at "my enterB"
  k_steps
  all_goals (
    rename Fr _ _ _ m => FF
    rename News _ _ _ _ => NN
    rename MyStop _ => LL
    exact hret _ _ _ _ FF (cb_drop NN mem_skip2) (fun p hp => LL.out p (.tail _ (.tail _ hp))) (by assumption))

end
end TJ2
section TJ3
section
variable {w : World} {p : Program} {loose : List Str} {mean : ExcName → Option Value} {mg mb : Str → Option Value}
  {dp un : Nat} {gd : Option (List Code)} {cn : Str} {cs : Scope} {a : Addr} {ccd : Value} {cl : List (Str × Addr)} {outer : List Env} {A₀ : Around} {base h₀ : Heap} {L : Addr} {m : Str → Option Value} {news ext : List (Addr × Obj)} {s : Shared} {Q E : Value → Shared → Prop}
local macro_rules | `(tactic| walk_at "exec If") => `(tactic| (k_dflt (refine wpAny_If ?_)))
local macro_rules | `(tactic| walk_at "ite") => `(tactic| (first | with_reducible refine ite_tt ?_ | with_reducible refine ite_ff ?_ | with_reducible refine ite_nt ?_ | with_reducible refine ite_nf ?_))
set_option maxRecDepth 100000 in
set_option maxHeartbeats 0 in
theorem c_init381 (B : Below A₀ base outer h₀) (F : Fr h₀ L s.heap m) (X : (hd0.heap_1 w.params).In h₀) {x dx : Addr} (N : News h₀ L s.heap ((x, instObj 611 dx) :: (dx, emptyDict) :: news)) (T : Top p loose mean mg mb h₀) (hk : cs.kind = .function) {buf : Str} {tb : Tok} (hdp : dp + 10 < recursionLimit)
  (n1 : @Ne Nat x dx) (n2 : ∀ p ∈ news, p.1 ≠ dx)
  (hret : ∀ (h' : Heap) (tk' : Nat) (kk : Nat → Tok) (tb tp tn : Tok), Fr h₀ L h' m → News h₀ L h' ((x, instObj 611 dx) :: (dx, dictOf (sioEs w.params kk buf ((0 : Nat) : Int) tb tp tn) 3) :: news) → Q .none { s with heap := h', toks := tk' }) :
  wpAny (model PR w) (ktrTop dp un gd cn cs L a ccd cl outer) (call (.ref 381) [.ref x, .str buf tb]) Q E s := by
  refine wpAny_call ?_
  walk_at "my enter"
  have hret' : ∀ (h' : Heap) (tk' : Nat) (a b c tb tp tn : Tok), Fr h₀ L h' m → News h₀ L h' ((x, instObj 611 dx) :: (dx, dictOf [⟨PyData.keyHash w.params "_StringIO__newline", .str "_StringIO__newline" a, .str "\n" tn⟩,
     ⟨PyData.keyHash w.params "_StringIO__buf", .str "_StringIO__buf" b, .str buf tb⟩, ⟨PyData.keyHash w.params "_StringIO__pos", .str "_StringIO__pos" c, .int 0 tp⟩] 3) :: news) → Q .none { s with heap := h', toks := tk' } :=
    fun h' tk' a b c tb tp tn F N => hret h' tk' (fun i => match i with | 0 => a | 1 => b | _ => c) tb tp tn F N
  clear hret
  k_steps
  all_goals (
    rename Fr _ _ _ m => FF
    rename News _ _ _ _ => NN
    exact hret' _ _ _ _ _ _ _ _ FF NN)

end
end TJ3
section TJ4
section
variable {w : World} {p : Program} {loose : List Str} {mean : ExcName → Option Value} {mg mb : Str → Option Value}
  {dp un : Nat} {gd : Option (List Code)} {cn : Str} {cs : Scope} {a : Addr} {ccd : Value} {cl : List (Str × Addr)} {outer : List Env} {A₀ : Around} {base h₀ : Heap} {L : Addr} {m : Str → Option Value} {news ext : List (Addr × Obj)} {s : Shared} {Q E : Value → Shared → Prop}
set_option maxRecDepth 100000 in
set_option maxHeartbeats 4000000 in
theorem c_make611 (B : Below A₀ base outer h₀) (F : Fr h₀ L s.heap m) (X : (hd0.heap_1 w.params).In h₀) (N : News h₀ L s.heap news) (T : Top p loose mean mg mb h₀) (hk : cs.kind = .function) {buf : Str} {tb : Tok} (hdp : dp + 20 < recursionLimit)
  (hret : ∀ (x dx : Addr) (h' : Heap) (tk' : Nat) (kk : Nat → Tok) (tb tp tn : Tok), Fr h₀ L h' m → News h₀ L h' ((x, instObj 611 dx) :: (dx, dictOf (sioEs w.params kk buf ((0 : Nat) : Int) tb tp tn) 3) :: news) → (∀ p ∈ news, p.1 < dx) → dx < x → Q (.ref x) { s with heap := h', toks := tk' }) :
  wpAny (model PR w) (ktrTop dp un gd cn cs L a ccd cl outer) (call (.ref 611) [.str buf tb]) Q E s := by
  have X1 := X.keeps F.keep
  obtain ⟨oc, od, cd, sl, hC0, e1, e2, e4⟩ : ∃ oc od cd sl, (hd0.heap_1 w.params).lookup 611 = some ⟨oc, od, .cls cd, sl⟩ ∧ cd.abstract = false ∧ cd.hasDel = false ∧ cd.mro.isEmpty = false := ⟨_, _, _, _, rfl, rfl, rfl, rfl⟩
  have hC := X1 _ _ hC0
  have call : Looks (model PR w) s.heap (specialOf (.ref 611) "__call__") (some (.builtin "type.__call__")) := looks_specialIn X1 (by k_is)
  have typ : Looks (model PR w) s.heap (isInstance (.ref 611) (.type "type")) true := looks_instIn X1 (by k_is)
  have made : Looks (model PR w) s.heap (Bind.madeBy (.ref 611)) none := Looks.of_peek X1 (mh1 _ w.params)
  refine wpAny_call ?_
  refine codeAny_of_tree ?_
  show wpAny _ _ (callAny (.ref 611) _) _ _ _
  refine nd_load hC ?_
  show wpAny _ _ (callAny.viaDunder (.ref 611) _) _ _ _
  unfold callAny.viaDunder
  refine wpAny_bind (call.at ?_)
  dsimp only
  rw [tc_bind]
  refine wpAny_bind (wpAny_pure (wpAny_bind (wpAny_pure ?_)))
  refine wpAny_pure (a := Fin.again (.call (.builtin "type.__call__") ⟨.ref 611 :: [.str buf tb], []⟩)) (And.intro rfl ?_)
  refine codeAny_call_builtin_at (Code.quiet_builtin _ (by decide +kernel)) entry_typeCall (check_slot tc_kind tc_split typ (tc_args _ _ _) ?_)
  have eA : (ktrTop dp un gd cn cs L a ccd cl outer).under (.builtin "type.__call__" ⟨.ref 611 :: [.str buf tb], []⟩) = ktrTop (dp + 1) (un + (Code.builtin "type.__call__" ⟨.ref 611 :: [.str buf tb], []⟩).cUnits) gd cn cs L a ccd cl outer := rfl
  rw [eA]
  unfold Builtin.«type.__call__»
  have hm : Looks (model PR w) s.heap (mroOf (.ref 611)) cd.mro := ((Looks.ld (part := none) hC).andThen .now).andThen .now
  dsimp only
  rw [if_neg (show ¬ ((Value.ref 611 == Value.type "type") = true) from Bool.false_ne_true)]
  refine wpAny_bind (hm.at ?_)
  simp only [e4, Bool.false_eq_true, if_false]
  refine wpAny_bind (made.at ?_)
  dsimp only
  refine wpAny_bind ?_
  refine' cls_sm (K := Mine.hd0.heap_1 w.params) (C := 611) (p := 108) (f := .ref 104) F X ?hm ?hr ?he ?hp ?hv ?_
  case hm => k_is
  case hr => k_is
  case he => k_is
  case hp => exact rfl
  case hv => exact rfl
  refine wpAny_bind (wpAny_holding ?_)
  refine c_new104 (s := { s with toks := s.toks + 1 }) (dp := dp + 1) B F X N T hk (by omega) ?_
  intro x dx h' tk' F' N' l1 l2
  have I : InstAt h' x (instObj 611 dx) 611 (some emptyDict) := InstAt.of_news N' (.head _) (.tail _ (.head _))
  have X2 := X.keeps F'.keep
  have inst : Looks (model PR w) h' (isInstance (.ref x) (.ref 611)) true := I.type.andThen (looks_mroIn X2 (by k_is))
  refine wpAny_bind (inst.at ?_)
  rw [if_neg (show ¬ ((!true) = true) from Bool.false_ne_true)]
  refine wpAny_bind (wpAny_holding ?_)
  refine special_fn X2 I (f := 381) (by k_is) (by k_is) ?_
  refine c_init381 (base := base) (outer := outer) B F' X N' T hk (by omega) (Nat.ne_of_gt l2) (fun p hp => Nat.ne_of_lt (l1 p hp)) ?_
  intro h2 tk2 kk tb2 tp2 tn2 F2 N2
  exact wpAny_pure (hret x dx h2 tk2 kk tb2 tp2 tn2 F2 N2 l1 l2)

end
end TJ4
section TD2
section
variable {w : World} {p : Program} {loose : List Str} {mean : ExcName → Option Value} {mg mb : Str → Option Value}
  {dp un : Nat} {gd : Option (List Code)} {cn : Str} {cs : Scope} {a : Addr} {ccd : Value} {cl : List (Str × Addr)} {outer : List Env} {A₀ : Around} {base h₀ : Heap} {L : Addr} {m : Str → Option Value} {news ext : List (Addr × Obj)} {s : Shared} {Q E : Value → Shared → Prop}
theorem dq_mro : mroOf (.type "collections.deque") = pure [.type "collections.deque", .type "object"] := by rw [mroOf_type]; kernel_rfl
theorem dq_lookup_new : typeLookup (.type "collections.deque") "__new__" = pure (some (.builtin "collections.deque.__new__")) := by rw [typeLookup_type, builtinLookup_eq_fast]; kernel_rfl
theorem dq_slot_init : Slot "collections.deque" "__init__" "collections.deque.__init__" :=
  .of (owner := "collections.deque") (n := "__init__") (by rw [typeLookup_type, builtinLookup_eq_fast]; kernel_rfl) (by decide +kernel) (by decide +kernel) (by decide +kernel)
    (by first | exact .inl (by decide +kernel) | exact .inr (by decide +kernel)) (by rw [isSubtype_type]; kernel_rfl)
theorem dq_called : TypeCalled "collections.deque" "collections.deque.__new__" "collections.deque.__init__" :=
  ⟨by decide +kernel, by decide +kernel, ⟨_, _, dq_mro⟩, madeBy_type dq_mro dq_lookup_new (by decide +kernel), by decide +kernel, by rw [isSubtype_type]; kernel_rfl, dq_slot_init⟩
theorem dq_typeCall : checkTypeCall "collections.deque" ⟨[], []⟩ = pure () := by kernel_rfl
theorem dq_newCall : checkBuiltinCall "collections.deque.__new__" ⟨[.type "collections.deque"], []⟩ = pure () := by kernel_rfl
theorem dq_entry_new : entryFor table "collections.deque.__new__" = some Builtin.«collections.deque.__new__» := entryFor_of_tree (by kernel_rfl)
theorem dq_entry_init : entryFor table "collections.deque.__init__" = some Builtin.«collections.deque.__init__» := entryFor_of_tree (by kernel_rfl)
theorem dq_args_init (a : Value) : argsOk "collections.deque.__init__" ⟨[a], []⟩ := by unfold argsOk; kernel_rfl
theorem dq_new_eq : Builtin.«collections.deque.__new__» ⟨[.type "collections.deque"], []⟩ = (newObj (.type "collections.deque") (.fields #[.none, .int 0 0]) none >>= fun v => pure (.done (.ret v))) := by kernel_rfl
theorem dq_init_eq (D : Addr) : Builtin.«collections.deque.__init__» ⟨[.ref D], []⟩ = (updateField D 0 .none >>= fun _ => Builtin.Deque.clear (.ref D) >>= fun _ => pure (.done (.ret .none))) := by kernel_rfl

theorem dq_new {prog : Program} {A : Around} (F : Fr h₀ L s.heap m) (N : News h₀ L s.heap news)
    (hret : ∀ D h', Fr h₀ L h' m → News h₀ L h' ((D, dqObj) :: news) → (∀ p ∈ news, p.1 < D) → Q (.ref D) { s with heap := h' }) :
    wpAny (model prog w) A (call (.type "collections.deque") []) Q E s := by
  refine callType_codes (Q₁ := fun obj s₁ => obj = .ref s.heap.objs.size ∧ s₁ = { s with heap := s.heap.push dqObj }) dq_called dq_typeCall dq_entry_init ?_ fun obj s₁ h₁ => ?_
  · refine codeAny_call_builtin (by decide +kernel) dq_entry_new (wpAny_of_eq dq_newCall ?_)
    rw [dq_new_eq]
    refine wpAny_bind (wpAny_newObj_type ?_)
    exact wpAny_pure ⟨rfl, rfl⟩
  · obtain ⟨rfl, rfl⟩ := h₁
    have N1 : News h₀ L (s.heap.push dqObj) ((s.heap.objs.size, dqObj) :: news) := N.push F _
    have F1 := F.push dqObj
    have hD := (N1 _ (.head _)).1
    refine ⟨⟨_, hD, rfl⟩, dq_args_init _, ?_⟩
    rw [dq_init_eq]
    refine wpAny_bind ?_
    unfold updateField
    refine wpAny_bind (wpAny_load hD ?_)
    dsimp only
    rw [if_pos (by decide)]
    refine wpAny_update hD ?_
    have hlt : ∀ p ∈ news, p.1 < s.heap.objs.size := fun p hp => Heap.lt_size (N p hp).1
    have N2 : News h₀ L ((s.heap.push dqObj).update s.heap.objs.size (Obj.mapFields (·.setIfInBounds 0 .none))) ((s.heap.objs.size, dqObj) :: news) := by
      refine news_set (pre := []) (post := news) N1 (fun _ hp => nomatch hp) (fun p hp => Nat.ne_of_lt (hlt p hp)) (Heap.SameBut.update ..) ?_
      exact Heap.get?_update_self _ hD rfl
    have F2 := F1.change (Heap.SameBut.update (h := s.heap.push dqObj) (a := s.heap.objs.size) (f := Obj.mapFields (·.setIfInBounds 0 .none))) (N1 _ (.head _)).2.1 (N1 _ (.head _)).2.2
    have hD2 := (N2 _ (.head _)).1
    refine wpAny_bind ?_
    unfold Builtin.Deque.clear Builtin.Deque.items PySem.fieldsOf
    refine wpAny_bind (wpAny_bind (wpAny_bind (wpAny_load hD2 ?_)))
    refine wpAny_pure (wpAny_pure ?_)
    rw [if_neg (by decide)]
    exact wpAny_pure (wpAny_pure ⟨rfl, hret _ _ F2 N2 hlt⟩)

end
end TD2
section TK1
section
variable {w : World} {p : Program} {loose : List Str} {mean : ExcName → Option Value} {mg mb : Str → Option Value}
  {dp un : Nat} {gd : Option (List Code)} {cn : Str} {cs : Scope} {a : Addr} {ccd : Value} {cl : List (Str × Addr)} {outer : List Env} {A₀ : Around} {base h₀ : Heap} {L : Addr} {m : Str → Option Value} {news ext : List (Addr × Obj)} {s : Shared} {Q E : Value → Shared → Prop}
noncomputable def LeaveT (fs : List Addr) (h₀ : Heap) (L : Addr) (m : Str → Option Value) (g : Heap) (R : Result → Shared → Prop) (v : Value) (s' : Shared) : Prop :=
  ∃ g' L' m' news', KtsTurn fs g g' ∧ Fr g' L' s'.heap m' ∧ News g' L' s'.heap news' ∧ (Fr h₀ L s'.heap m → News h₀ L s'.heap news' → R (.ok (.ret v)) s')
theorem leaveT_ {fs : List Addr} {g g' : Heap} {L' : Addr} {m' : Str → Option Value} {news' : List (Addr × Obj)} {R : Result → Shared → Prop} {v : Value} {s' : Shared} (T : KtsTurn fs g g') (F' : Fr g' L' s'.heap m') (N' : News g' L' s'.heap news')
    (k : Fr h₀ L s'.heap m → News h₀ L s'.heap news' → R (.ok (.ret v)) s') : LeaveT fs h₀ L m g R v s' := ⟨g', L', m', news', T, F', N', k⟩
theorem kts_up {fs : List Addr} {g g' : Heap} (T : KtsTurn fs g g') {b : Addr} {o : Obj} (e : g.get? b = some o) : ∃ sl, g'.get? b = some { o with slots := sl } := by
  by_cases hm : b ∈ fs
  · exact T.frame b o e hm
  · exact ⟨o.slots, T.other b o e hm⟩
theorem leaveT_end {fs : List Addr} {g : Heap} {R : Result → Shared → Prop} {v : Value} {s' : Shared} (hb : ∀ b ∈ fs, h₀.get? b = none) (FG : Fr h₀ L g m) (st : h₀.StaysIn g) (hl : LeaveT fs h₀ L m g R v s') : R (.ok (.ret v)) s' := by
  obtain ⟨g', L', m', news', T, F', N', k⟩ := hl
  have sm : g.UpToSlots s'.heap := fun b o e _ => by
    obtain ⟨sl, hs⟩ := kts_up T e
    exact ⟨sl, F'.keep b _ hs⟩
  have st' : h₀.StaysIn g' := fun b o e => T.other b o (st b o e) (fun hm => by rw [hb b hm] at e; cases e)
  have nn : ∀ b, g'.get? b = none → g.get? b = none := fun b e => by
    cases q : g.get? b with
    | none => rfl
    | some o => obtain ⟨sl, hs⟩ := kts_up T q; rw [e] at hs; cases hs
  refine k ⟨sm.ns FG.ns, fun b o e => F'.keep b o (st' b o e), FG.above⟩ fun p hp => ⟨(N' p hp).1, fun q => ?_, ?_⟩
  · obtain ⟨oL, _, _, hL, _⟩ := FG.ns
    have := nn _ (N' p hp).2.2
    rw [q, hL] at this; cases this
  · cases q : h₀.get? p.1 with
    | none => rfl
    | some o => have := st' _ o q; rw [(N' p hp).2.2] at this; cases this
section
variable {prog : Program} {A : Around} {K : Frag} {env : Env} {R : Result → Shared → Prop} {name qual : Str} {params : Arguments} {body : List Stmt} {scope : Scope} {dV kV doc pm cdv ct oc : Value} {an od : Option Addr} {osl : Array (Option Value)} {f : Addr} {args : Args} {binds : List (Str × Value)}
theorem code_defT (B : Below A₀ h₀ outer h₀) (F : Fr h₀ L s.heap m) (X₀ : K.In h₀) (N : News h₀ L s.heap news) (T : Top p loose mean mg mb h₀) (hA : A.frames = some (env :: outer)) (hf : env.frame = some L) (hke : env.scope.kind = .function)
    (ho : K.lookup f = some ⟨oc, od, .func (fnOf name qual params body scope dV kV doc pm an cdv ct), osl⟩) (hcd : codeIn K cdv qual = true) (hroom : A.depth < recursionLimit)
    (hbind : BindsTo s (fnOf name qual params body scope dV kV doc pm an cdv ct) args binds) (hloc : ∀ y ∈ binds, scope.names.lookup y.1 = some .local)
    (h : ∀ g L' h₁, Fr h₀ L g m → Fr g L' h₁ (fun y => binds.reverse.lookup y) → News g L' h₁ news → Below A h₀ (env :: outer) g → K.In g → Top p loose mean mg mb g →
      wpAny (model prog w) (A.deeper (envOf qual scope L' f cdv)) (execs body (envOf qual scope L' f cdv))
        (fun fl s' => LeaveT ((env :: outer).filterMap (·.frame)) h₀ L m g R (match fl with | .ret v => v | _ => .none) s')
        (fun e s' => wpAny (model prog w) (A.deeper (envOf qual scope L' f cdv)) (leaving (envOf qual scope L' f cdv) e) (fun _ s'' => R (.error e) s'') (fun e' s'' => R (.error e') s'') s')
        { s with heap := h₁, toks := s.toks + binds.length })
    (hco : scope.isCoroutine = false) (hgen : scope.isGenerator = false) (hk : scope.kind = .function)
    (hcell : ∀ x ∈ scope.names, x.2 ≠ .cell) : codeAny (model prog w) A (.call (.ref f) args) R s := by
  obtain ⟨FG, BG, st, lv⟩ := groundX (R := R) B F N hA hf hke
  refine codeAny_call_def (fd := fnX name qual params body scope [] dV kV doc pm an cdv ct) (body := body) (binds := binds) hroom ((X₀.keeps F.keep) _ _ ho) rfl (T.nolimit.keeps F.keep) (codeRec_of (X₀.keeps F.keep) hcd) rfl hbind hcell hloc (fun h₁ hns hk₁ => ?_) hco hgen hk
  exact wpAny_mono (h _ s.heap.objs.size h₁ FG ⟨hns, fun b o e => hk₁ b o (of_hideAll _ e), Nat.le_of_eq (hideAll_size _ _)⟩
    (fun p hp => ⟨hk₁ _ _ (N p hp).1, Nat.ne_of_lt (Heap.lt_size (N p hp).1), hideAll_none _ (List.mem_map_of_mem hp)⟩) BG (X₀.keeps st) (T.keeps st)) (fun fl s' hl => leaveT_end (fun b hm => (BG.frames.mem hm).1) FG st hl) fun _ _ y => y
end

end
end TK1
section TJ5
section
variable {w : World} {p : Program} {loose : List Str} {mean : ExcName → Option Value} {mg mb : Str → Option Value}
  {dp un : Nat} {gd : Option (List Code)} {cn : Str} {cs : Scope} {a : Addr} {ccd : Value} {cl : List (Str × Addr)} {outer : List Env} {A₀ : Around} {base h₀ : Heap} {L : Addr} {m : Str → Option Value} {news ext : List (Addr × Obj)} {s : Shared} {Q E : Value → Shared → Prop}
theorem allLt_ne {d : Addr} : ∀ {l : List (Addr × Obj)}, AllLt d l → ∀ p ∈ l, p.1 ≠ d
  | [], _ => fun _ h => nomatch h
  | q :: r, h => fun p hp => by
    have h' : q.1 < d ∧ AllLt d r := h
    rcases List.mem_cons.mp hp with rfl | hp
    · exact Nat.ne_of_lt h'.1
    · exact allLt_ne h'.2 p hp
theorem lt_ne {d : Addr} {l : List (Addr × Obj)} (h : ∀ p ∈ l, p.1 < d) : ∀ p ∈ l, p.1 ≠ d := fun p hp => Nat.ne_of_lt (h p hp)
theorem lt_ne2 {d : Addr} {a b : Addr × Obj} {l : List (Addr × Obj)} (h : MyStop (∀ p ∈ a :: b :: l, p.1 < d)) : ∀ p ∈ l, p.1 ≠ d := fun p hp => Nat.ne_of_lt (h.out p (.tail _ (.tail _ hp)))
local macro_rules | `(tactic| k_all) => `(tactic| exact lt_ne (by assumption))
local macro_rules | `(tactic| walk_at "call ref") => `(tactic| (k_here; k_dflt (refine' c_make611 ?r1 ?r2 ?r3 ?r4 ?r5 ?r6 ?r7 ?_; (case r1 => k_asm); (case r2 => k_asm); (case r3 => k_in); (case r4 => k_asm); (case r5 => k_asm); (case r6 => first | assumption | exact rfl); (case r7 => k_room); k_whole); intro x9 dx9 h9 tk9 kk9 tb9 tp9 tn9 F9 N9 l9 l9'; (have l7 : @LT.lt Nat _ dx9 x9 := l9'); (have l8 := MyStop.intro l9); (try dsimp only [sioEs] at N9); (try k_lt l9); (try dsimp only); (try k_sweep)))
local macro_rules | `(tactic| walk_at "call type:collections.deque") => `(tactic| (k_here; k_dflt (refine' dq_new ?r2 ?r4 ?_; (case r2 => k_asm); (case r4 => k_asm); k_whole); intro D9 h9 F9 N9 l9; (have l8 := MyStop.intro l9); (try k_lt l9); (try dsimp only); (try k_sweep)))
local macro_rules | `(tactic| walk_at "call type:list") => `(tactic| (k_dflt (refine MyStop.out ?_)))
local macro_rules | `(tactic| walk_at "exec If") => `(tactic| (k_dflt (refine wpAny_If ?_)))
local macro_rules | `(tactic| walk_at "ite") => `(tactic| (first | with_reducible refine ite_tt ?_ | with_reducible refine ite_ff ?_ | with_reducible refine ite_nt ?_ | with_reducible refine ite_nf ?_))
theorem led_of {P : Params} {h : Heap} {x dx io dio pb fs : Addr} {kb : Nat → Tok} {buf wc : Str} {tb tp tn ts tt a0 a1 a2 a3 a4 a5 a6 a7 a8 a9 a10 a11 a12 a13 a14 a15 a16 a17 a18 v0 v1 v2 v3 v4 v5 v6 v7 v8 : Tok}
  (N : News h₀ L h ((fs, dqObj) :: (pb, dqObj) :: (io, instObj 611 dio) :: (dio, dictOf (sioEs P kb buf ((0 : Nat) : Int) tb tp tn) 3) :: (x, instObj 746 dx) :: (dx, dictOf
  [⟨PyData.keyHash P "instream", .str "instream" a0, .ref io⟩,
   ⟨PyData.keyHash P "infile", .str "infile" a1, .none⟩,
   ⟨PyData.keyHash P "posix", .str "posix" a2, .bool true⟩,
   ⟨PyData.keyHash P "eof", .str "eof" a3, .none⟩,
   ⟨PyData.keyHash P "commenters", .str "commenters" a4, .str "" v0⟩,
   ⟨PyData.keyHash P "wordchars", .str "wordchars" a5, .str wc v1⟩,
   ⟨PyData.keyHash P "whitespace", .str "whitespace" a6, .str " \t\r\n" v2⟩,
   ⟨PyData.keyHash P "whitespace_split", .str "whitespace_split" a7, .bool true⟩,
   ⟨PyData.keyHash P "quotes", .str "quotes" a8, .str "'\"" v3⟩,
   ⟨PyData.keyHash P "escape", .str "escape" a9, .str "\\" v4⟩,
   ⟨PyData.keyHash P "escapedquotes", .str "escapedquotes" a10, .str "\"" v5⟩,
   ⟨PyData.keyHash P "state", .str "state" a11, .str " " ts⟩,
   ⟨PyData.keyHash P "pushback", .str "pushback" a12, .ref pb⟩,
   ⟨PyData.keyHash P "lineno", .str "lineno" a13, .int 1 v6⟩,
   ⟨PyData.keyHash P "debug", .str "debug" a14, .int 0 v7⟩,
   ⟨PyData.keyHash P "token", .str "token" a15, .str "" tt⟩,
   ⟨PyData.keyHash P "filestack", .str "filestack" a16, .ref fs⟩,
   ⟨PyData.keyHash P "source", .str "source" a17, .none⟩,
   ⟨PyData.keyHash P "_punctuation_chars", .str "_punctuation_chars" a18, .str "" v8⟩] 19) :: ext)) :
  ∃ kk vv, News h₀ L h (rtLed ext P x dx io dio pb fs kk vv kb buf wc tb tn (LSt.sp.val ts) (Str.ofString "") tt ((0 : Nat) : Int) tp) := by
  refine ⟨fun i => match i with | 0 => a0 | 1 => a1 | 2 => a2 | 3 => a3 | 4 => a4 | 5 => a5 | 6 => a6 | 7 => a7 | 8 => a8 | 9 => a9 | 10 => a10 | 11 => a11 | 12 => a12 | 13 => a13 | 14 => a14 | 15 => a15 | 16 => a16 | 17 => a17 | _ => a18, fun i => match i with | 0 => v0 | 1 => v1 | 2 => v2 | 3 => v3 | 4 => v4 | 5 => v5 | 6 => v6 | 7 => v7 | _ => v8, ?_⟩
  intro q hq
  refine N q ?_
  simp only [rtLed, List.mem_cons] at hq
  simp only [List.mem_cons]
  rcases hq with h | h | h | h | h | h | h
  · exact .inr (.inr (.inr (.inr (.inl h))))
  · exact .inr (.inr (.inr (.inr (.inr (.inl h)))))
  · exact .inr (.inr (.inl h))
  · exact .inr (.inr (.inr (.inl h)))
  · exact .inr (.inl h)
  · exact .inl h
  · exact .inr (.inr (.inr (.inr (.inr (.inr h)))))
local macro_rules | `(tactic| walk_at "my enterT") => `(tactic| (k_dflt (refine' code_defT ?k1 ?k2 ?k3 ?k4 ?k5 ?kA ?kF ?kK ?k6 ?k7 ?k8 ?k9 ?kB ?_ ?c2 ?c3 ?c4 ?c5; (case kA => exact rfl); (case kF => exact rfl); (case kK => first | assumption | exact rfl); (case k1 => k_asm); (case k2 => k_asm); (case k3 => k_asm); (case k4 => k_asm); (case k5 => k_asm); (case k6 => k_is); (case k7 => k_is); (case k8 => k_room); (case k9 => first | exact BindsTo.of_eq rfl | exact binds_K (by k_in) rfl (by k_is) rfl rfl rfl | fail "my enter: no rule for these arguments"); (case c5 => decide); (case kB => exact locs rfl); (case c2 => exact rfl); (case c3 => exact rfl); (case c4 => exact rfl); k_whole; intro g' L' h' FG' F' N' B' X' T'; (try dsimp only); (try k_lift B'); (try k_fold))))
set_option maxRecDepth 100000 in
set_option maxHeartbeats 0 in
theorem c_split (B : Below A₀ h₀ outer h₀) (F : Fr h₀ L s.heap m) (X : (hd0.heap_1 w.params).In h₀) (N : News h₀ L s.heap news) (T : Top p loose mean mg mb h₀) (hk : cs.kind = .function) {buf : Str} {tb : Tok} {n : Nat} {all : List Str} (hx : buf.length ≤ 1000000) (hdp : dp + 60 < recursionLimit)
  (hall : lexAll n .sp buf.cps.toList = some all) (hlen : all.length ≤ 1000000)
  (hret : ∀ (S : Addr) (acc : Array Value) (c : Nat) (h' : Heap) (tk' : Nat), Fr h₀ L h' m → News h₀ L h' ((S, listOf acc c) :: news) → StrsAre acc.toList all → Q (.ref S) { s with heap := h', toks := tk' }) :
  wpAny (model PR w) (ktrTop dp un gd cn cs L a ccd cl outer) (call (.ref 758) [.str buf tb]) Q E s := by
  refine wpAny_call ?_
  walk_at "my enterT"
  k_steps
  refine MyStop.intro ?_
  rename Fr _ _ _ (fun _ => _) => FF
  rename News _ _ _ _ => NN
  obtain ⟨kk, vv, NL⟩ := led_of NN
  refine' c_list_lex ?B FF ?X ?T ?hkk NL ?n1 ?n2 ?n3 ?n4 ?n5 ?n6 ?n7 ?n8 ?n9 ?x1 ?x2 hx ?rd ?hwc hall hlen ?_
  case B => assumption
  case X => assumption
  case T => assumption
  case hkk => exact rfl
  case rd => k_room
  case hwc => decide +kernel
  case n1 => show @Ne Nat _ _; omega
  case n2 => show @Ne Nat _ _; omega
  case n3 => show @Ne Nat _ _; omega
  case n4 => show @Ne Nat _ _; omega
  case n5 => show @Ne Nat _ _; omega
  case n6 => show @Ne Nat _ _; omega
  case n7 => show @Ne Nat _ _; omega
  case n8 => show @Ne Nat _ _; omega
  case n9 => show @Ne Nat _ _; omega
  case x1 => exact lt_ne (by assumption)
  case x2 => exact lt_ne2 (by assumption)
  intro S acc c g'' h2 tk2 T2 F2 B2 N2 hs
  exact leaveT_ T2 F2 N2 fun F3 N3 => hret S acc c h2 tk2 F3 N3 hs

end
end TJ5
section TR1
section
variable {w : World} {p : Program} {loose : List Str} {mean : ExcName → Option Value} {mg mb : Str → Option Value}
  {dp un : Nat} {gd : Option (List Code)} {cn : Str} {cs : Scope} {a : Addr} {ccd : Value} {cl : List (Str × Addr)} {outer : List Env} {A₀ : Around} {base h₀ : Heap} {L : Addr} {m : Str → Option Value} {news ext : List (Addr × Obj)} {s : Shared} {Q E : Value → Shared → Prop}
noncomputable def reCode : Array Nat := #[14, 17, 4, 1, 1, 21, 9, 0, 604043296, 1, 0, 0, 0, 0, 0, 8, 4, 0, 13, 14, 21, 9, 0, 604043296, 1, 0, 0, 0, 0, 0, 8, 4, 0, 1]
noncomputable def safeC (c : Nat) : Bool := (decide (c < 256) && (reCode.getD (7 + c / 32) 0).testBit (c % 32)) || Sre.isWord c
theorem cat4 (c : Nat) : Sre.category 4 c = .ok (Sre.isWord c) := by
  show Except.ok (Sre.isWord c != false) = _
  cases Sre.isWord c <;> rfl
theorem inSet_at (base : Nat) (h0 : reCode.getD base 0 = 21) (h1 : reCode.getD (base + 1) 0 = 9) (h2 : reCode.getD (base + 10) 0 = 8) (h3 : reCode.getD (base + 11) 0 = 4) (h4 : reCode.getD (base + 12) 0 = 0)
    (hs : ∀ k, k < 8 → reCode.getD (base + 2 + k) 0 = reCode.getD (7 + k) 0) (c fuel : Nat) (seen : Sre.Seen) :
    ∃ seen', Sre.inSet reCode c (fuel + 4) base true seen = .ok (!safeC c, seen') := by
  rw [Sre.inSet]
  simp only [Nat.add_zero, h0]
  show ∃ seen', Sre.inSet reCode c (fuel + 3) (base + 1) (!true) _ = _
  rw [Sre.inSet]
  simp only [Nat.add_zero, h1]
  show ∃ seen', (if (decide (c < 256) && (reCode.getD (base + 1 + (1 + c / 32)) 0).testBit (c % 32)) = true then Except.ok (!true, _) else Sre.inSet reCode c (fuel + 2) (base + 1 + 9) (!true) _) = _
  by_cases hc : (decide (c < 256) && (reCode.getD (7 + c / 32) 0).testBit (c % 32)) = true
  · have h256 : c < 256 := by
      rw [Bool.and_eq_true] at hc
      exact of_decide_eq_true hc.1
    have e : reCode.getD (base + 1 + (1 + c / 32)) 0 = reCode.getD (7 + c / 32) 0 := by
      rw [show base + 1 + (1 + c / 32) = base + 2 + c / 32 by omega]
      exact hs _ (by omega)
    have es : safeC c = true := by unfold safeC; rw [hc]; rfl
    rw [e, if_pos hc, es]
    exact ⟨_, rfl⟩
  · have hn : ¬ (decide (c < 256) && (reCode.getD (base + 1 + (1 + c / 32)) 0).testBit (c % 32)) = true := by
      intro q
      have h256 : c < 256 := by
        rw [Bool.and_eq_true] at q
        exact of_decide_eq_true q.1
      rw [show base + 1 + (1 + c / 32) = base + 2 + c / 32 by omega, hs _ (by omega)] at q
      exact hc q
    rw [if_neg hn]
    rw [Sre.inSet]
    rw [show base + 1 + 9 = base + 10 by omega]
    simp only [Nat.add_zero, h2]
    have h3' : reCode.getD (base + 10 + 1) 0 = 4 := h3
    have h4' : reCode.getD (base + 10 + 2) 0 = 0 := h4
    simp only [h3', cat4]
    have es : safeC c = Sre.isWord c := by unfold safeC; rw [Bool.eq_false_iff.mpr hc, Bool.false_or]
    rw [es]
    cases hw : Sre.isWord c with
    | true => exact ⟨_, rfl⟩
    | false =>
      show ∃ seen', Sre.inSet reCode c (fuel + 1) (base + 10 + 2) (!true) _ = _
      rw [Sre.inSet]
      simp only [Nat.add_zero, h4']
      exact ⟨_, rfl⟩
theorem inSet5 (c : Nat) (seen : Sre.Seen) : ∃ seen', Sre.inSet reCode c reCode.size 5 true seen = .ok (!safeC c, seen') :=
  inSet_at 5 rfl rfl rfl rfl rfl (fun k hk => by rcases k with _ | _ | _ | _ | _ | _ | _ | _ | k <;> first | rfl | omega) c 30 seen
theorem inSet20 (c : Nat) (seen : Sre.Seen) : ∃ seen', Sre.inSet reCode c reCode.size 20 true seen = .ok (!safeC c, seen') :=
  inSet_at 20 rfl rfl rfl rfl rfl (fun k hk => by rcases k with _ | _ | _ | _ | _ | _ | _ | _ | k <;> first | rfl | omega) c 30 seen
theorem adm_none (m : Sre.M) (hm : m.code = reCode) : ∀ (fuel s : Nat) (seen : Sre.Seen), (∀ k, s ≤ k → k < m.lim → safeC (m.text.getD k 0) = true) → ∃ seen', m.admitted fuel s seen = .ok (none, seen')
  | 0, s, seen, _ => ⟨seen, rfl⟩
  | fuel + 1, s, seen, h => by
    rw [Sre.M.admitted]
    by_cases hs : s ≥ m.lim
    · rw [if_pos hs]; exact ⟨_, rfl⟩
    · rw [if_neg hs, hm]
      obtain ⟨seen', e⟩ := inSet5 (m.text.getD s 0) seen
      rw [e, h s (Nat.le_refl _) (by omega)]
      exact adm_none m hm fuel (s + 1) seen' fun k h1 h2 => h k (by omega) h2
theorem adm_some (m : Sre.M) (hm : m.code = reCode) : ∀ (fuel s : Nat) (seen : Sre.Seen) (k : Nat), s ≤ k → k < m.lim → k < s + fuel → safeC (m.text.getD k 0) = false → ∃ s' seen', m.admitted fuel s seen = .ok (some s', seen') ∧ s' < m.lim ∧ safeC (m.text.getD s' 0) = false
  | 0, s, seen, k, h1, _, h3, _ => by omega
  | fuel + 1, s, seen, k, h1, h2, h3, h4 => by
    rw [Sre.M.admitted]
    rw [if_neg (by omega), hm]
    obtain ⟨seen', e⟩ := inSet5 (m.text.getD s 0) seen
    rw [e]
    cases hc : safeC (m.text.getD s 0) with
    | false => exact ⟨s, seen', rfl, by omega, hc⟩
    | true =>
      have hne : s ≠ k := fun q => by rw [q, h4] at hc; cases hc
      exact adm_some m hm fuel (s + 1) seen' k (by omega) h2 (by omega) h4

end
end TR1
section TR2
section
variable {w : World} {p : Program} {loose : List Str} {mean : ExcName → Option Value} {mg mb : Str → Option Value}
  {dp un : Nat} {gd : Option (List Code)} {cn : Str} {cs : Scope} {a : Addr} {ccd : Value} {cl : List (Str × Addr)} {outer : List Env} {A₀ : Around} {base h₀ : Heap} {L : Addr} {m : Str → Option Value} {news ext : List (Addr × Obj)} {s : Shared} {Q E : Value → Shared → Prop}
noncomputable def reM0 (text : Array Nat) (n : Nat) : Sre.M := { code := reCode, text := text, lim := n, start := 0, pc := 18, pos := 0, handed := 0, marks := #[], mustAdvance := false, seen := ({} : Sre.Seen).add 14 }
theorem fs_eq (text : Array Nat) (n : Nat) : Sre.forSearch reCode text 0 0 n false = if (decide (0 > n) || decide (n - 0 < 1)) = true then (reM0 text n).say false else Sre.M.attemptFrom { reM0 text n with lastStart := n } 0 true := by rfl
theorem run_say (m : Sre.M) (h1 : m.outcome = none) (h2 : m.frames = []) : ((m.say false).runFor 4).outcome = some .failed := by
  have e : (m.say false).step.outcome = some .failed := by
    unfold Sre.M.step
    rw [if_neg (by show ¬ (m.outcome.isSome = true); rw [h1]; decide)]
    show (match some false, m.frames with | some yes, [] => _ | some yes, f :: rest => _ | none, _ => _ : Sre.M).outcome = _
    rw [h2]
    rfl
  rw [Sre.M.runFor, if_neg (by show ¬ (m.outcome.isSome = true); rw [h1]; decide), Sre.M.runFor, if_pos (by rw [e]; rfl)]
  exact e
theorem fs_none (text : Array Nat) (h : ∀ k, k < text.size → safeC (text.getD k 0) = true) : ((Sre.forSearch reCode text 0 0 text.size false).runFor 4).outcome = some .failed := by
  rw [fs_eq]
  split
  · exact run_say _ rfl rfl
  · unfold Sre.M.attemptFrom
    rw [if_neg (by show ¬ ((!true) = true); decide)]
    obtain ⟨seen', e⟩ := adm_none { reM0 text text.size with lastStart := text.size } rfl (text.size + 1 - 0) 0 (reM0 text text.size).seen (fun k _ hk => h k hk)
    have e' : Sre.M.admitted { reM0 text text.size with lastStart := text.size } (({ reM0 text text.size with lastStart := text.size } : Sre.M).lim + 1 - 0) 0 ({ reM0 text text.size with lastStart := text.size } : Sre.M).seen = .ok (none, seen') := e
    rw [e']
    exact run_say _ rfl rfl
noncomputable def reM1 (text : Array Nat) (n s : Nat) (seen : Sre.Seen) (pc pos : Nat) : Sre.M := { code := reCode, text := text, lim := n, start := s, lastStart := n, pc := pc, pos := pos, handed := s, marks := #[], mustAdvance := false, seen := seen, frames := [{ wait := .nextStart, pc := 18, pos := s, outermost := true }], weight := 1 }
theorem fs_some (text : Array Nat) (k : Nat) (hk : k < text.size) (h : safeC (text.getD k 0) = false) : ((Sre.forSearch reCode text 0 0 text.size false).runFor 4).outcome = some .matched := by
  rw [fs_eq]
  rw [if_neg (by intro q; rw [Bool.or_eq_true] at q; rcases q with q | q <;> have := of_decide_eq_true q <;> omega)]
  unfold Sre.M.attemptFrom
  rw [if_neg (by show ¬ ((!true) = true); decide)]
  obtain ⟨s', seen', e, hs, hu⟩ := adm_some { reM0 text text.size with lastStart := text.size } rfl (text.size + 1 - 0) 0 (reM0 text text.size).seen k (Nat.zero_le _) hk (by omega) h
  have e' : Sre.M.admitted { reM0 text text.size with lastStart := text.size } (({ reM0 text text.size with lastStart := text.size } : Sre.M).lim + 1 - 0) 0 ({ reM0 text text.size with lastStart := text.size } : Sre.M).seen = .ok (some s', seen') := e
  rw [e']
  have hs' : ¬ s' ≥ text.size := Nat.not_le_of_lt hs
  obtain ⟨seen2, e2⟩ := inSet20 (text.getD s' 0) (seen'.add 13)
  have hu' : safeC (text.getD s' 0) = false := hu
  rw [hu'] at e2
  show ((reM1 text text.size s' seen' 18 s').runFor 4).outcome = some .matched
  have st1 : (reM1 text text.size s' seen' 18 s').step = (if s' ≥ text.size then (reM1 text text.size s' (seen'.add 13) 18 s').say false else
      match Sre.inSet reCode (text.getD s' 0) reCode.size 20 true (seen'.add 13) with
      | .error why => (reM1 text text.size s' (seen'.add 13) 18 s').stick why
      | .ok (false, seen) => (reM1 text text.size s' seen 18 s').say false
      | .ok (true, seen) => reM1 text text.size s' seen 33 (s' + 1)) := by rfl
  rw [if_neg hs', e2] at st1
  have st1' : (reM1 text text.size s' seen' 18 s').step = reM1 text text.size s' seen2 33 (s' + 1) := st1
  show ((reM1 text text.size s' seen' 18 s').step.runFor 3).outcome = some .matched
  rw [st1']
  rfl

end
end TR2
section TR3
section
variable {w : World} {p : Program} {loose : List Str} {mean : ExcName → Option Value} {mg mb : Str → Option Value}
  {dp un : Nat} {gd : Option (List Code)} {cn : Str} {cs : Scope} {a : Addr} {ccd : Value} {cl : List (Str × Addr)} {outer : List Env} {A₀ : Around} {base h₀ : Heap} {L : Addr} {m : Str → Option Value} {news ext : List (Addr × Obj)} {s : Shared} {Q E : Value → Shared → Prop}
theorem re_tgt (P : Params) (S : Setting) (x : Str) (t : Tok) : peek (hd0.heap_1 P) S (Builtin.Re.reTarget "re.Pattern.search" "search" ⟨[.ref 63, .str x t], []⟩) = some ⟨.ref 63, .str x t, reCode, x.cps, 0, 0, min 0 x.cps.size, min 9223372036854775807 x.cps.size⟩ := by kernel_rfl
theorem re_chk (P : Params) (S : Setting) (x : Str) (t : Tok) : peek (hd0.heap_1 P) S (checkBoundCall "re.Pattern.search" ⟨[.ref 63, .str x t], []⟩) = some () := by kernel_rfl
theorem re_entry : entryFor table "re.Pattern.search" = some Builtin.«re.Pattern.search» := entryFor_of_tree (by kernel_rfl)
theorem re_quiet {as : Args} : (Code.builtin "re.Pattern.search" as).quiet = true := Code.quiet_builtin _ (by decide +kernel)
theorem re_drive (m : Sre.M) {o : Sre.Outcome} (h : (m.runFor 4).outcome = some o) : Builtin.Re.reDrive (2 ^ 64) m = pure (m.runFor 4) := by
  rw [show (2 ^ 64 : Nat) = 18446744073709551615 + 1 from rfl, Builtin.Re.reDrive]
  show (if (m.runFor 4).outcome.isSome = true then pure (m.runFor 4) else _) = _
  rw [if_pos (by rw [h]; rfl)]
section
variable {M : Model} {A : Around}
theorem re_rules {c : Nat → Bool} {g : Nat → String} {Q : PUnit → Shared → Prop} : ∀ (l : List Nat), Q ⟨⟩ s → wpAny M A (forIn l PUnit.unit (fun i _ => (if c i = true then (rule (g i) >>= fun _ => pure (ForInStep.yield PUnit.unit)) else pure (ForInStep.yield PUnit.unit) : Sem (ForInStep PUnit)))) Q E s
  | [], h => wpAny_pure h
  | i :: l, h => by
    rw [List.forIn_cons]
    refine wpAny_bind ?_
    by_cases hc : c i = true
    · rw [if_pos hc]
      exact wpAny_bind (wpAny_rule (wpAny_pure (re_rules l h)))
    · rw [if_neg hc]
      exact wpAny_pure (re_rules l h)
theorem re_end_none (m : Sre.M) (h : (m.runFor 4).outcome = some .failed) {Q : Option Sre.M → Shared → Prop} (q : Q none s) : wpAny M A (Builtin.Re.reRunToEnd m) Q E s := by
  unfold Builtin.Re.reRunToEnd
  rw [re_drive m h]
  refine wpAny_bind (wpAny_pure ?_)
  refine wpAny_bind (re_rules _ ?_)
  rw [h]
  exact wpAny_pure q
theorem re_end_some (m : Sre.M) (h : (m.runFor 4).outcome = some .matched) {Q : Option Sre.M → Shared → Prop} (q : Q (some (m.runFor 4)) s) : wpAny M A (Builtin.Re.reRunToEnd m) Q E s := by
  unfold Builtin.Re.reRunToEnd
  rw [re_drive m h]
  refine wpAny_bind (wpAny_pure ?_)
  refine wpAny_bind (re_rules _ ?_)
  rw [h]
  exact wpAny_pure q
end
set_option maxRecDepth 100000 in
theorem c_search {A : Around} (F : Fr h₀ L s.heap m) (N : News h₀ L s.heap news) (X : (hd0.heap_1 w.params).In h₀) {x : Str} {t : Tok} (hx : x.length ≤ 1000000)
    (hn : (∀ k, k < x.cps.size → safeC (x.cps.getD k 0) = true) → Q .none s)
    (hs : ∀ k, k < x.cps.size → safeC (x.cps.getD k 0) = false → ∀ D h', Fr h₀ L h' m → News h₀ L h' news → Q (.ref D) { s with heap := h' }) :
    wpAny (model PR w) A (call (.ref 766) [.str x t]) Q E s := by
  have X1 := X.keeps F.keep
  have ho : s.heap.get? 766 = some { cls := .type "builtin_function_or_method", data := .fields #[.builtin "re.Pattern.search", .ref 63] } := X1 766 _ rfl
  refine wpAny_call (codeAny_of_tree ?_)
  show wpAny _ A.in1 (callAny (.ref 766) ⟨[.str x t], []⟩) _ _ s
  simp only [callAny]
  refine wpAny_bind (wpAny_load ho ?_)
  simp only [show (Value.type "builtin_function_or_method" == Value.type "method" || Value.type "builtin_function_or_method" == Value.type "builtin_function_or_method" || Value.type "builtin_function_or_method" == Value.type "method-wrapper") = true by decide, if_true]
  refine KFB.if_so (by decide) ?_
  refine wpAny_bind ((Looks.of_peek (M := model PR w) X1 (re_chk w.params _ x t)).here ?_)
  refine wpAny_bind (wpAny_pure (wpAny_pure ?_))
  refine ⟨re_quiet, codeAny_builtin re_entry ?_⟩
  unfold Builtin.«re.Pattern.search»
  refine wpAny_bind ((Looks.of_peek (M := model PR w) X1 (re_tgt w.params _ x t)).here ?_)
  have hl : min 9223372036854775807 x.cps.size = x.cps.size := Nat.min_eq_right (by have : x.cps.size = x.length := rfl; omega)
  have h0 : min 0 x.cps.size = 0 := Nat.min_eq_left (Nat.zero_le _)
  dsimp only
  rw [hl, h0]
  unfold Builtin.Re.reAnswer
  by_cases hall : ∀ k, k < x.cps.size → safeC (x.cps.getD k 0) = true
  · refine wpAny_bind (re_end_none _ (fs_none x.cps hall) ?_)
    exact wpAny_pure (hn hall)
  · obtain ⟨k, hk⟩ := Classical.not_forall.mp hall
    obtain ⟨hk1, hk2⟩ := Classical.not_imp.mp hk
    refine wpAny_bind (re_end_some _ (fs_some x.cps k hk1 (Bool.eq_false_iff.mpr hk2)) ?_)
    unfold Builtin.Re.reNewMatch
    simp only [List.range_zero, List.flatMap_nil, List.any_nil, Bool.false_eq_true, if_false]
    refine wpAny_bind (wpAny_bind (kup_newTuple F N (fun D h' F' N' _ => ?_) (Nat.le_of_ble_eq_true rfl)))
    refine wpAny_newObj_type ?_
    refine wpAny_pure (hs k hk1 (Bool.eq_false_iff.mpr hk2) _ _ (F'.push _) ?_)
    exact cb_drop (N'.push F' _) (fun q hq => .tail _ (.tail _ hq))

end
end TR3
section TQ1
section
variable {w : World} {p : Program} {loose : List Str} {mean : ExcName → Option Value} {mg mb : Str → Option Value}
  {dp un : Nat} {gd : Option (List Code)} {cn : Str} {cs : Scope} {a : Addr} {ccd : Value} {cl : List (Str × Addr)} {outer : List Env} {A₀ : Around} {base h₀ : Heap} {L : Addr} {m : Str → Option Value} {news ext : List (Addr × Obj)} {s : Shared} {Q E : Value → Shared → Prop}
noncomputable def Leave0 (R : Result → Shared → Prop) (v : Value) (s' : Shared) : Prop := R (.ok (.ret v)) s'
section
variable {prog : Program} {A : Around} {K : Frag} {R : Result → Shared → Prop} {name qual : Str} {params : Arguments} {body : List Stmt} {scope : Scope} {dV kV doc pm cdv ct oc : Value} {an od : Option Addr} {osl : Array (Option Value)} {f : Addr} {args : Args} {binds : List (Str × Value)}
theorem code_def0 (X₀ : K.In s.heap) (T : Top p loose mean mg mb s.heap)
    (ho : K.lookup f = some ⟨oc, od, .func (fnOf name qual params body scope dV kV doc pm an cdv ct), osl⟩) (hcd : codeIn K cdv qual = true) (hroom : A.depth < recursionLimit)
    (hbind : BindsTo s (fnOf name qual params body scope dV kV doc pm an cdv ct) args binds) (hloc : ∀ y ∈ binds, scope.names.lookup y.1 = some .local)
    (h : ∀ g L' h₁, s.heap = g → Fr g L' h₁ (fun y => binds.reverse.lookup y) → News g L' h₁ [] → K.In g → Top p loose mean mg mb g →
      wpAny (model prog w) (A.deeper (envOf qual scope L' f cdv)) (execs body (envOf qual scope L' f cdv))
        (fun fl s' => Leave0 R (match fl with | .ret v => v | _ => .none) s')
        (fun e s' => wpAny (model prog w) (A.deeper (envOf qual scope L' f cdv)) (leaving (envOf qual scope L' f cdv) e) (fun _ s'' => R (.error e) s'') (fun e' s'' => R (.error e') s'') s')
        { s with heap := h₁, toks := s.toks + binds.length })
    (hco : scope.isCoroutine = false) (hgen : scope.isGenerator = false) (hk : scope.kind = .function)
    (hcell : ∀ x ∈ scope.names, x.2 ≠ .cell) : codeAny (model prog w) A (.call (.ref f) args) R s := by
  refine codeAny_call_def (fd := fnX name qual params body scope [] dV kV doc pm an cdv ct) (body := body) (binds := binds) hroom (X₀ _ _ ho) rfl T.nolimit (codeRec_of X₀ hcd) rfl hbind hcell hloc (fun h₁ hns hk₁ => ?_) hco hgen hk
  exact wpAny_mono (h _ s.heap.objs.size h₁ rfl ⟨hns, hk₁, Nat.le_refl _⟩ News.nil X₀ T) (fun fl s' hl => hl) fun _ _ y => y
end

end
end TQ1
section TQ2
section
variable {w : World} {p : Program} {loose : List Str} {mean : ExcName → Option Value} {mg mb : Str → Option Value}
  {dp un : Nat} {gd : Option (List Code)} {cn : Str} {cs : Scope} {a : Addr} {ccd : Value} {cl : List (Str × Addr)} {outer : List Env} {A₀ : Around} {base h₀ : Heap} {L : Addr} {m : Str → Option Value} {news ext : List (Addr × Obj)} {s : Shared} {Q E : Value → Shared → Prop}
noncomputable def safeS (x : Str) : Bool := x.cps.toList.all safeC
theorem safeS_get {x : Str} (h : safeS x = true) : ∀ k, k < x.cps.size → safeC (x.cps.getD k 0) = true := by
  intro k hk
  have := List.all_eq_true.mp h (x.cps.getD k 0) (by rw [Array.getD_eq_getD_getElem?, Array.getElem?_eq_getElem hk]; exact Array.getElem_mem_toList hk)
  exact this
theorem safeS_of {x : Str} (h : ∀ k, k < x.cps.size → safeC (x.cps.getD k 0) = true) : safeS x = true := by
  refine List.all_eq_true.mpr fun c hc => ?_
  obtain ⟨k, hk, rfl⟩ := List.getElem_of_mem hc
  have hk' : k < x.cps.size := by rw [Array.length_toList] at hk; exact hk
  have := h k hk'
  rw [Array.getD_eq_getD_getElem?, Array.getElem?_eq_getElem hk'] at this
  rw [Array.getElem_toList]
  exact this
theorem c_search_none {A : Around} (F : Fr h₀ L s.heap m) (N : News h₀ L s.heap news) (X : (hd0.heap_1 w.params).In h₀) {x : Str} {t : Tok} (hx : x.length ≤ 1000000) (hs : safeS x = true) (h : Q .none s) :
    wpAny (model PR w) A (call (.ref 766) [.str x t]) Q E s :=
  c_search F N X hx (fun _ => h) (fun k hk hu => by rw [safeS_get hs k hk] at hu; cases hu)
theorem c_search_some {A : Around} (F : Fr h₀ L s.heap m) (N : News h₀ L s.heap news) (X : (hd0.heap_1 w.params).In h₀) {x : Str} {t : Tok} (hx : x.length ≤ 1000000) (hs : safeS x = false)
    (h : ∀ D h', Fr h₀ L h' m → News h₀ L h' news → Q (.ref D) { s with heap := h' }) :
    wpAny (model PR w) A (call (.ref 766) [.str x t]) Q E s :=
  c_search F N X hx (fun ha => by rw [safeS_of ha] at hs; cases hs) (fun _ _ _ => h)
noncomputable def Stands766 (h : Heap) : Prop := h.get? 766 = some { cls := .type "builtin_function_or_method", data := .fields #[.builtin "re.Pattern.search", .ref 63] }
set_option maxRecDepth 100000 in
theorem stands766 {P : Params} {h : Heap} (X : (hd0.heap_1 P).In h) : Stands766 h := X 766 _ rfl
section
variable {M : Model} {A : Around}
theorem callWith_766f {pos : Pos} {first : List Value} {args : List (Bool × Sem Value)} (hplain : args.any (·.1) = false)
    (h : wpAny M A (evalArgs (.ref 766) true args []) (fun x s₁ => Stands766 s₁.heap ∧ wpAny M A (call (.ref 766) (first ++ x.pos) x.kw) Q E s₁) E s) : wpAny M A (callWith pos (.ref 766) first args []) Q E s := by
  unfold callWith
  refine wpAny_bind (wpAny_holding (wpAny_mono h (fun x s₁ h₁ => wpAny_bind (wpAny_standAt ?_)) fun _ _ x => x))
  obtain ⟨ho, hcall⟩ := h₁
  simp only [hplain, List.any_nil, Bool.or_false]
  refine wpAny_bind (m := keeperOf (.ref 766)) ?_
  unfold keeperOf
  refine wpAny_bind (wpAny_load ho ?_)
  simp only [show (Value.type "builtin_function_or_method" != Value.type "method") = true by decide, show (Value.type "builtin_function_or_method" == Value.type "builtin_function_or_method" || Value.type "builtin_function_or_method" == Value.type "method-wrapper") = true by decide, if_true]
  refine wpAny_pure ?_
  exact wpAny_bind (wpAny_mono hcall (fun r s₂ hr => wpAny_bind (wpAny_holding (wpAny_point (wpAny_pure hr)))) fun _ _ x => x)
theorem callWith_766 {pos : Pos} {first : List Value} {env : Env} {e : Expr} {rest : List Expr}
    (h : wpAny M A (spliced (backTo pos (starEach (e :: rest) env))) (fun vs s₁ => Stands766 s₁.heap ∧ wpAny M A (call (.ref 766) (first ++ vs)) Q E s₁) E s)
    (he : starEach (e :: rest) env = (false, eval e env) :: starEach rest env := by rfl) (hplain : (backTo pos (starEach rest env)).any (·.1) = false := by rfl) :
    wpAny M A (callWith pos (.ref 766) first (backTo pos (starEach (e :: rest) env)) []) Q E s := by
  rw [he] at h ⊢
  refine callWith_766f (by show (false || (backTo pos (starEach rest env)).any (·.1)) = false; rw [hplain]; rfl) ?_
  exact evalArgs_plain h
end
local macro_rules | `(tactic| walk_at "callWith ref") => `(tactic| (k_dflt (refine' callWith_766 ?_; k_whole)))
local macro_rules | `(tactic| walk_at "And") => `(tactic| ((with_reducible show Stands766 _ ∧ _); k_dflt (refine ⟨stands766 (by k_in), ?_⟩); (try dsimp only [List.nil_append, List.cons_append])))
local macro_rules | `(tactic| walk_at "call ref") => `(tactic| (k_here; k_dflt (first
  | (refine' c_search_none ?r2 ?r4 ?r3 ?r6 ?r7 ?_; (case r2 => k_asm); (case r4 => k_asm); (case r3 => k_asm); (case r6 => assumption); (case r7 => assumption); k_whole)
  | (refine' c_search_some ?r2 ?r4 ?r3 ?r6 ?r7 ?_; (case r2 => k_asm); (case r4 => k_asm); (case r3 => k_asm); (case r6 => assumption); (case r7 => assumption); k_whole; intro D9 h9 F9 N9; (try dsimp only); (try k_sweep)))))
local macro_rules | `(tactic| walk_at "my enter0") => `(tactic| (k_dflt (refine' code_def0 ?k3 ?k5 ?k6 ?k7 ?k8 ?k9 ?kB ?_ ?c2 ?c3 ?c4 ?c5; (case k3 => assumption); (case k5 => assumption); (case k6 => k_is); (case k7 => k_is); (case k8 => assumption); (case k9 => exact BindsTo.of_eq rfl); (case c5 => decide); (case kB => exact locs rfl); (case c2 => exact rfl); (case c3 => exact rfl); (case c4 => exact rfl); k_whole; intro g' L' h' eg F' N' X' T'; (try dsimp only))))
local macro_rules | `(tactic| walk_at "Leave0") => `(tactic| (k_dflt (refine MyStop.out ?_)))
local macro_rules | `(tactic| walk_at "exec If") => `(tactic| (k_dflt (refine wpAny_If ?_)))
local macro_rules | `(tactic| walk_at "execs cons") => `(tactic| (k_dflt (refine wpAny_execs_cons ?_)))
local macro_rules | `(tactic| walk_at "execs nil") => `(tactic| (k_dflt (refine wpAny_execs_nil ?_)))
local macro_rules | `(tactic| walk_at "ite") => `(tactic| (first | with_reducible refine ite_tt ?_ | with_reducible refine ite_ff ?_ | with_reducible refine ite_nt ?_ | with_reducible refine ite_nf ?_))
local macro_rules | `(tactic| walk_at "truthy str") => `(tactic| (k_here; first | with_reducible refine truthy_strT (by assumption) (by first | with_reducible assumption | omega) ?_ | with_reducible refine truthy_strF (by assumption) ?_))
set_option maxRecDepth 100000 in
set_option maxHeartbeats 0 in
theorem c_quote_empty {A : Around} (hA : A.handled = none) (X : (hd0.heap_1 w.params).In s.heap) (T : Top p loose mean mg mb s.heap) (hroom : A.depth < recursionLimit) {x : Str} {t : Tok} (hx : (x == Str.ofString "") = true)
  (hret : ∀ (h' : Heap) (tk' : Nat) (t' : Tok), (∀ b o, s.heap.get? b = some o → h'.get? b = some o) → Q (.str "''" t') { s with heap := h', toks := tk' }) :
  wpAny (model PR w) A (call (.ref 773) [.str x t]) Q E s := by
  refine wpAny_call ?_
  walk_at "my enter0"
  k_steps
  all_goals (
    refine MyStop.intro ?_
    rename Fr _ _ _ (fun _ => _) => FF
    rename _ = _ => eg
    subst eg
    exact hret _ _ _ FF.keep)
set_option maxRecDepth 100000 in
set_option maxHeartbeats 0 in
theorem c_quote_safe {A : Around} (hA : A.handled = none) (X : (hd0.heap_1 w.params).In s.heap) (T : Top p loose mean mg mb s.heap) (hroom : A.depth < recursionLimit) {x : Str} {t : Tok} (hx : (x == Str.ofString "") = false) (hl : x.length ≤ 1000000) (hs : safeS x = true)
  (hret : ∀ (h' : Heap) (tk' : Nat) (t' : Tok), (∀ b o, s.heap.get? b = some o → h'.get? b = some o) → Q (.str x t') { s with heap := h', toks := tk' }) :
  wpAny (model PR w) A (call (.ref 773) [.str x t]) Q E s := by
  refine wpAny_call ?_
  walk_at "my enter0"
  k_steps
  all_goals (
    refine MyStop.intro ?_
    rename Fr _ _ _ (fun _ => _) => FF
    rename _ = _ => eg
    subst eg
    exact hret _ _ _ FF.keep)
theorem one_q : (Str.ofString "'").length = 1 := by decide +kernel
theorem add_b {A : Around} {x y : Str} {t u : Tok} (hz : x.length + y.length ≤ 16000000) (h : ∀ t' k, Q (.str (x ++ y) t') { s with toks := k }) : wpAny (model PR w) A (binaryOp .Add (.str x t) (.str y u)) Q E s :=
  SBL.add (fun t' k _ => h t' k) (Nat.le_trans hz (by decide))
local macro_rules | `(tactic| walk_at "binaryOp Add str str") => `(tactic| (k_dflt (refine' add_b ?z ?_; (case z => (simp only [Str.length_append, one_q]; omega)); k_whole); intro t9 k9; (try dsimp only)))
noncomputable abbrev repQ (x : Str) : Str := Txt.replace x (Str.ofString "'") (Str.ofString "'\"'\"'")
set_option maxRecDepth 100000 in
set_option maxHeartbeats 0 in
theorem c_quote_uns {A : Around} (hA : A.handled = none) (X : (hd0.heap_1 w.params).In s.heap) (T : Top p loose mean mg mb s.heap) (hroom : A.depth < recursionLimit) {x : Str} {t : Tok} (hx : (x == Str.ofString "") = false) (hl : x.length ≤ 1000000) (hs : safeS x = false)
  (hrep : (Txt.replace x (Str.ofString "'") (Str.ofString "'\"'\"'")).length ≤ 15000000)
  (hret : ∀ (h' : Heap) (tk' : Nat) (t' : Tok), (∀ b o, s.heap.get? b = some o → h'.get? b = some o) → Q (.str (Str.ofString "'" ++ repQ x ++ Str.ofString "'") t') { s with heap := h', toks := tk' }) :
  wpAny (model PR w) A (call (.ref 773) [.str x t]) Q E s := by
  refine wpAny_call ?_
  walk_at "my enter0"
  k_steps
  all_goals (
    refine MyStop.intro ?_
    rename Fr _ _ _ (fun _ => _) => FF
    rename _ = _ => eg
    subst eg
    exact hret _ _ _ FF.keep)

end
end TQ2
section TN1
section
variable {w : World} {p : Program} {loose : List Str} {mean : ExcName → Option Value} {mg mb : Str → Option Value}
  {dp un : Nat} {gd : Option (List Code)} {cn : Str} {cs : Scope} {a : Addr} {ccd : Value} {cl : List (Str × Addr)} {outer : List Env} {A₀ : Around} {base h₀ : Heap} {L : Addr} {m : Str → Option Value} {news ext : List (Addr × Obj)} {s : Shared} {Q E : Value → Shared → Prop}
noncomputable abbrev partVs (i : Nat) (mid : Str) (k : Nat) (t u v : Tok) : Array Value := #[.int (i : Int) t, .str mid u, .int (k : Int) v]
set_option maxRecDepth 100000 in
set_option maxHeartbeats 0 in
theorem c_word (B : Below A₀ base outer h₀) (F : Fr h₀ L s.heap m) (X : (hd0.heap_1 w.params).In h₀) (N : News h₀ L s.heap news) (T : Top p loose mean mg mb h₀) (hk : cs.kind = .function)
  {l : Addr} {i k n : Nat} {mid : Str} {t u v : Tok} (hl : (l, listOf (partVs i mid k t u v) n) ∈ news) (hi : i < 4) (hk4 : k < 4) (hm : mid.length ≤ 10) (hdp : dp + 10 < recursionLimit)
  (hret : CbRet h₀ L m news s Q (fun t => .str (Txt.mul (Str.ofString "_") (i : Int) ++ mid ++ Txt.mul (Str.ofString "_") (k : Int)) t)) :
  wpAny (model PR w) (ktrTop dp un gd cn cs L a ccd cl outer) (call (.ref 787) [.ref l]) Q E s := by
  refine wpAny_call ?_
  walk_at "my enter"
  k_steps
  all_goals exact cb_retS hret rfl (by k_asm) (by k_asm)

noncomputable abbrev midL : List Str := [Str.ofString "", Str.ofString "a", Str.ofString "a b", Str.ofString "$", Str.ofString "-", Str.ofString "it's"]
noncomputable def dueW0 (i : Nat) (mid : Str) (k : Nat) : Bool := !(mid == Str.ofString "") && (decide (i = 2) && decide (k = 2))
noncomputable def dueW1 (i : Nat) (mid : Str) (k : Nat) : Bool := !(mid == Str.ofString "") && (decide (i = 1) && decide (k = 1))
theorem c_due_end {Q : Value → Shared → Prop} {i k : Nat} {mid : Str} {D : Addr} {c : Nat} {b0 b1 : Bool} {h' : Heap} {tk' : Nat}
  (hret : ∀ (D : Addr) (c : Nat) (h' : Heap) (tk' : Nat), Fr h₀ L h' m → News h₀ L h' ((D, listOf #[.bool (dueW0 i mid k), .bool (dueW1 i mid k)] c) :: news) → (∀ p ∈ news, p.1 < D) → Q (.ref D) { s with heap := h', toks := tk' })
  (F : Fr h₀ L h' m) (N : News h₀ L h' ((D, listOf #[.bool b0, .bool b1] c) :: news)) (l : ∀ p ∈ news, p.1 < D) (e0 : b0 = dueW0 i mid k) (e1 : b1 = dueW1 i mid k) : Q (.ref D) { s with heap := h', toks := tk' } := by
  subst e0 e1
  exact hret D c h' tk' F N l
set_option maxRecDepth 100000 in
set_option maxHeartbeats 0 in
theorem c_due_word (B : Below A₀ base outer h₀) (F : Fr h₀ L s.heap m) (X : (hd0.heap_1 w.params).In h₀) (N : News h₀ L s.heap news) (T : Top p loose mean mg mb h₀) (hk : cs.kind = .function)
  {l : Addr} {i k n : Nat} {mid : Str} {t u v : Tok} (hl : (l, listOf (partVs i mid k t u v) n) ∈ news) (hi : i < 4) (hk4 : k < 4) (hm : mid.length ≤ 10) (hdp : dp + 10 < recursionLimit)
  (hret : ∀ (D : Addr) (c : Nat) (h' : Heap) (tk' : Nat), Fr h₀ L h' m → News h₀ L h' ((D, listOf #[.bool (dueW0 i mid k), .bool (dueW1 i mid k)] c) :: news) → (∀ p ∈ news, p.1 < D) → Q (.ref D) { s with heap := h', toks := tk' }) :
  wpAny (model PR w) (ktrTop dp un gd cn cs L a ccd cl outer) (call (.ref 801) [.ref l]) Q E s := by
  refine wpAny_call ?_
  walk_at "my enter"
  k_steps
  all_goals (
    refine c_due_end hret (by k_asm) (by k_asm) (by assumption) ?_ ?_
    all_goals (first | unfold dueW0 | unfold dueW1) <;> (simp only [*, Bool.not_true, Bool.not_false, Bool.false_and, Bool.true_and]; try (rw [Bool.eq_iff_iff]; simp only [beq_iff_eq, Bool.and_eq_true, decide_eq_true_eq, Bool.false_eq_true]; omega)))

end
end TN1
section TN2
section
variable {w : World} {p : Program} {loose : List Str} {mean : ExcName → Option Value} {mg mb : Str → Option Value}
  {dp un : Nat} {gd : Option (List Code)} {cn : Str} {cs : Scope} {a : Addr} {ccd : Value} {cl : List (Str × Addr)} {outer : List Env} {A₀ : Around} {base h₀ : Heap} {L : Addr} {m : Str → Option Value} {news ext : List (Addr × Obj)} {s : Shared} {Q E : Value → Shared → Prop}
theorem allLt_lt {d : Addr} : ∀ {l : List (Addr × Obj)}, AllLt d l → ∀ p ∈ l, p.1 < d
  | [], _ => fun _ h => nomatch h
  | q :: r, h => fun p hp => by
    have h' : q.1 < d ∧ AllLt d r := h
    rcases List.mem_cons.mp hp with rfl | hp
    · exact h'.1
    · exact allLt_lt h'.2 p hp
theorem mem_skip1 {α : Type} {a b : α} {l : List α} : ∀ q ∈ a :: l, q ∈ a :: b :: l := by
  intro q h
  rcases List.mem_cons.mp h with h | h
  · exact List.mem_cons.mpr (.inl h)
  · exact .tail _ (.tail _ h)
noncomputable def idxOf (x : Int) : Nat := ((x.fdiv 16).fmod 6).toNat
noncomputable def midOf (x : Int) : Str := midL.getD (idxOf x) (Str.ofString "")
theorem part_idx (x : Int) : (x.fdiv 16).fmod 6 = ((idxOf x : Nat) : Int) ∧ idxOf x < 6 := by
  have h0 := fmod_lo (x.fdiv 16) (n := 6) (by decide)
  have h1 := fmod_hi (x.fdiv 16) (n := 6) (by decide)
  unfold idxOf
  omega
local macro_rules | `(tactic| walk_at "subscriptTail") => `(tactic| (rename Int.fmod _ 6 = _ => hj9; rw [hj9]))
theorem c_part_end {Q : Value → Shared → Prop} {x : Int} {D : Addr} {c : Nat} {a0 a2 : Int} {t u v : Tok} {mid : Str} {h' : Heap} {tk' : Nat}
  (hret : ∀ (D : Addr) (c : Nat) (t u v : Tok) (h' : Heap) (tk' : Nat), Fr h₀ L h' m → News h₀ L h' ((D, listOf #[.int (x.fmod 4) t, .str (midOf x) u, .int ((x.fdiv 4).fmod 4) v] c) :: news) → (∀ p ∈ news, p.1 < D) → Q (.ref D) { s with heap := h', toks := tk' })
  (F : Fr h₀ L h' m) (N : News h₀ L h' ((D, listOf #[.int a0 t, .str mid u, .int a2 v] c) :: news)) (l : ∀ p ∈ news, p.1 < D) (e0 : a0 = x.fmod 4) (e1 : mid = midOf x) (e2 : a2 = ((x.fdiv 4).fmod 4)) : Q (.ref D) { s with heap := h', toks := tk' } := by
  subst e0 e1 e2
  exact hret D c t u v h' tk' F N l
set_option maxRecDepth 100000 in
set_option maxHeartbeats 0 in
theorem c_part (B : Below A₀ base outer h₀) (F : Fr h₀ L s.heap m) (X : (hd0.heap_1 w.params).In h₀) (N : News h₀ L s.heap news) (T : Top p loose mean mg mb h₀) (hk : cs.kind = .function)
  {x : Int} {t : Tok} (hdp : dp + 10 < recursionLimit)
  (hret : ∀ (D : Addr) (c : Nat) (t u v : Tok) (h' : Heap) (tk' : Nat), Fr h₀ L h' m → News h₀ L h' ((D, listOf #[.int (x.fmod 4) t, .str (midOf x) u, .int ((x.fdiv 4).fmod 4) v] c) :: news) → (∀ p ∈ news, p.1 < D) → Q (.ref D) { s with heap := h', toks := tk' }) :
  wpAny (model PR w) (ktrTop dp un gd cn cs L a ccd cl outer) (call (.ref 780) [.int x t]) Q E s := by
  have hidx := (part_idx x).1
  have hlt6 := (part_idx x).2
  have hc : idxOf x = 0 ∨ idxOf x = 1 ∨ idxOf x = 2 ∨ idxOf x = 3 ∨ idxOf x = 4 ∨ idxOf x = 5 := by omega
  have hmid : midOf x = midL.getD (idxOf x) (Str.ofString "") := rfl
  rcases hc with hc | hc | hc | hc | hc | hc
  all_goals (
    rw [hc] at hidx hmid
    refine wpAny_call ?_
    walk_at "my enter"
    k_steps)
  all_goals (
    rename Fr _ _ _ m => FF
    rename News _ _ _ ((_, listOf #[_, _, _] _) :: _) => NN
    refine c_part_end hret FF (cb_drop NN mem_skip1) (by first | assumption | exact allLt_lt (by assumption) | exact allLt_lt (And.right (by assumption))) ?_ ?_ ?_
    · rfl
    · rw [hmid]; rfl
    · rfl)
noncomputable def prtOf (x : Int) : Nat × Str × Nat := ((x.fmod 4).toNat, midOf x, ((x.fdiv 4).fmod 4).toNat)
theorem prt_c0 (x : Int) : (((prtOf x).1 : Nat) : Int) = x.fmod 4 := Int.toNat_of_nonneg (fmod_lo x (by decide))
theorem prt_c2 (x : Int) : (((prtOf x).2.2 : Nat) : Int) = (x.fdiv 4).fmod 4 := Int.toNat_of_nonneg (fmod_lo (x.fdiv 4) (by decide))
theorem prt_lt (x : Int) : (prtOf x).1 < 4 ∧ (prtOf x).2.2 < 4 := by
  have h0 := fmod_hi x (n := 4) (by decide)
  have h1 := fmod_hi (x.fdiv 4) (n := 4) (by decide)
  have e0 := prt_c0 x
  have e1 := prt_c2 x
  omega
theorem c_prt (B : Below A₀ base outer h₀) (F : Fr h₀ L s.heap m) (X : (hd0.heap_1 w.params).In h₀) (N : News h₀ L s.heap news) (T : Top p loose mean mg mb h₀) (hk : cs.kind = .function)
  {x : Int} {t : Tok} (hdp : dp + 10 < recursionLimit)
  (hret : ∀ (D : Addr) (c : Nat) (t u v : Tok) (h' : Heap) (tk' : Nat), Fr h₀ L h' m → News h₀ L h' ((D, listOf (partVs (prtOf x).1 (prtOf x).2.1 (prtOf x).2.2 t u v) c) :: news) → (∀ p ∈ news, p.1 < D) → Q (.ref D) { s with heap := h', toks := tk' }) :
  wpAny (model PR w) (ktrTop dp un gd cn cs L a ccd cl outer) (call (.ref 780) [.int x t]) Q E s := by
  unfold partVs at hret
  rw [prt_c0, prt_c2] at hret
  exact c_part B F X N T hk hdp hret

end
end TN2
section TN3
section
variable {w : World} {p : Program} {loose : List Str} {mean : ExcName → Option Value} {mg mb : Str → Option Value}
  {dp un : Nat} {gd : Option (List Code)} {cn : Str} {cs : Scope} {a : Addr} {ccd : Value} {cl : List (Str × Addr)} {outer : List Env} {A₀ : Around} {base h₀ : Heap} {L : Addr} {m : Str → Option Value} {news ext : List (Addr × Obj)} {s : Shared} {Q E : Value → Shared → Prop}
noncomputable abbrev oddL : List Str := [Str.ofString "a b", Str.ofString "$", Str.ofString "it's"]
noncomputable def endsV (i : Nat) (mid : Str) (k : Nat) : Nat × Nat := if (mid == Str.ofString "") = true then (i + k, i + k) else if oddL.any (· == mid) = true then (0, 0) else (i, k)
theorem in_odd {prog : Program} {A : Around} {D : Addr} {mid : Str} {u t0 t1 t2 : Tok} {n : Nat} {b : Bool} {Q : Value → Shared → Prop} (N : News h₀ L s.heap news) (hm : (D, listOf #[.str (Str.ofString "a b") t0, .str (Str.ofString "$") t1, .str (Str.ofString "it's") t2] n) ∈ news) (e : oddL.any (· == mid) = b) (h : Q (.bool b) s) :
    wpAny (model prog w) A (compareOp .In (.str mid u) (.ref D)) Q E s := by
  subst e
  exact in_list_strs (News.isList N hm) (.cons _ _ (.cons _ _ (.cons _ _ .nil))) h
local macro_rules | `(tactic| walk_at "compareOp In str ref") => `(tactic| (k_here; k_dflt (refine' in_odd ?k1 ?k2 ?k3 ?_; (case k1 => k_asm); (case k2 => k_mem); (case k3 => assumption); k_whole)))
local macro_rules | `(tactic| walk_at "subscriptTail") => `(tactic| (rename News _ _ _ (_ :: _) => NN9; replace NN9 := cb_drop NN9 (fun _ hp => List.Mem.tail _ hp)))
theorem c_ends_end {Q : Value → Shared → Prop} {i k : Nat} {mid : Str} {D : Addr} {c : Nat} {a0 a1 : Int} {t u : Tok} {h' : Heap} {tk' : Nat}
  (hret : ∀ (D : Addr) (c : Nat) (t u : Tok) (h' : Heap) (tk' : Nat), Fr h₀ L h' m → News h₀ L h' ((D, listOf #[.int ((endsV i mid k).1 : Int) t, .int ((endsV i mid k).2 : Int) u] c) :: news) → (∀ p ∈ news, p.1 < D) → Q (.ref D) { s with heap := h', toks := tk' })
  (F : Fr h₀ L h' m) (N : News h₀ L h' ((D, listOf #[.int a0 t, .int a1 u] c) :: news)) (l : ∀ p ∈ news, p.1 < D) (e0 : a0 = ((endsV i mid k).1 : Int)) (e1 : a1 = ((endsV i mid k).2 : Int)) : Q (.ref D) { s with heap := h', toks := tk' } := by
  subst e0 e1
  exact hret D c t u h' tk' F N l
theorem mem_any {α : Type} {a : α} {l l' : List α} (h : ∀ q ∈ l, q ∈ l') : ∀ q ∈ a :: l, q ∈ a :: l' := by
  intro q hq
  rcases List.mem_cons.mp hq with h1 | h1
  · exact List.mem_cons.mpr (.inl h1)
  · exact .tail _ (h q h1)
set_option maxRecDepth 100000 in
set_option maxHeartbeats 0 in
theorem c_ends (B : Below A₀ base outer h₀) (F : Fr h₀ L s.heap m) (X : (hd0.heap_1 w.params).In h₀) (N : News h₀ L s.heap news) (T : Top p loose mean mg mb h₀) (hk : cs.kind = .function)
  {l : Addr} {i k n : Nat} {mid : Str} {t u v : Tok} (hl : (l, listOf (partVs i mid k t u v) n) ∈ news) (hi : i < 4) (hk4 : k < 4) (hm : mid.length ≤ 10) (hdp : dp + 10 < recursionLimit)
  (hret : ∀ (D : Addr) (c : Nat) (t u : Tok) (h' : Heap) (tk' : Nat), Fr h₀ L h' m → News h₀ L h' ((D, listOf #[.int ((endsV i mid k).1 : Int) t, .int ((endsV i mid k).2 : Int) u] c) :: news) → (∀ p ∈ news, p.1 < D) → Q (.ref D) { s with heap := h', toks := tk' }) :
  wpAny (model PR w) (ktrTop dp un gd cn cs L a ccd cl outer) (call (.ref 808) [.ref l]) Q E s := by
  cases hb : oddL.any (· == mid)
  all_goals (
    refine wpAny_call ?_
    walk_at "my enter"
    k_steps)
  all_goals (
    rename Fr _ _ _ m => FF
    rename News _ _ _ ((_, listOf #[_, _] _) :: _) => NN
    refine c_ends_end hret FF (by first | exact NN | exact cb_drop NN mem_skip1) (by first | assumption | exact allLt_lt (by assumption) | exact allLt_lt (And.right (by assumption))) ?_ ?_)
  all_goals (simp only [endsV, *, if_true, if_false, Bool.false_eq_true]; try omega)

end
end TN3
section TL1
section
variable {w : World} {p : Program} {loose : List Str} {mean : ExcName → Option Value} {mg mb : Str → Option Value}
  {dp un : Nat} {gd : Option (List Code)} {cn : Str} {cs : Scope} {a : Addr} {ccd : Value} {cl : List (Str × Addr)} {outer : List Env} {A₀ : Around} {base h₀ : Heap} {L : Addr} {m : Str → Option Value} {news ext : List (Addr × Obj)} {s : Shared} {Q E : Value → Shared → Prop}
noncomputable def strOf (l : List Nat) : Str := ⟨l.toArray⟩
theorem strOf_snoc (l : List Nat) (c : Nat) : strOf l ++ (⟨#[c]⟩ : Str) = strOf (l ++ [c]) := by
  show (⟨l.toArray ++ #[c]⟩ : Str) = ⟨(l ++ [c]).toArray⟩
  congr 1
  simp
theorem strOf_nil : strOf [] = Str.ofString "" := by decide
theorem strOf_ne {l : List Nat} (h : l ≠ []) : (strOf l == Str.ofString "") = false := by
  rw [← strOf_nil]
  refine beq_eq_false_iff_ne.mpr fun e => h ?_
  have : l.toArray = ([] : List Nat).toArray := congrArg Str.cps e
  simpa using this
noncomputable def repL (w : List Nat) : List Nat := w.flatMap fun c => if c = 39 then [39, 34, 39, 34, 39] else [c]
noncomputable def quoteL (w : List Nat) : List Nat := if w = [] then [39, 39] else if w.all safeC = true then w else 39 :: (repL w ++ [39])
theorem plain_ne {c : Nat} (h : plainC c = true) : c ≠ 32 ∧ c ≠ 39 ∧ c ≠ 34 := by
  have := plain_cases h
  omega
theorem safe_plain {c : Nat} (h : okC c = true) (hs : safeC c = true) : plainC c = true := by
  have e32 : safeC 32 = false := by decide
  have e39 : safeC 39 = false := by decide
  have e34 : safeC 34 = false := by decide
  simp only [okC, Bool.or_eq_true, beq_iff_eq] at h
  rcases h with ((h | h) | h) | h
  · exact h
  · rw [h, e32] at hs; cases hs
  · rw [h, e39] at hs; cases hs
  · rw [h, e34] at hs; cases hs
theorem run_a : ∀ (w t r : List Nat) (q : Bool), (∀ c ∈ w, plainC c = true) → lexRun .a (strOf t) q (w ++ r) = lexRun .a (strOf (t ++ w)) q r
  | [], t, r, q, _ => by rw [List.append_nil]; rfl
  | c :: w, t, r, q, h => by
    have hc := h c (.head _)
    obtain ⟨h1, h2, h3⟩ := plain_ne hc
    rw [List.cons_append, lexRun, if_neg h1, if_neg (by rintro (h | h) <;> omega), if_pos hc, strOf_snoc, run_a w (t ++ [c]) r q fun d hd => h d (.tail _ hd), List.append_assoc]
    rfl
theorem run_q : ∀ (w t r : List Nat), (∀ c ∈ w, okC c = true) → lexRun (.q 39) (strOf t) true (repL w ++ r) = lexRun (.q 39) (strOf (t ++ w)) true r
  | [], t, r, _ => by rw [List.append_nil]; rfl
  | c :: w, t, r, h => by
    have ih := run_q w (t ++ [c]) r fun d hd => h d (.tail _ hd)
    rw [List.append_assoc] at ih
    have e : repL (c :: w) = (if c = 39 then [39, 34, 39, 34, 39] else [c]) ++ repL w := rfl
    rw [e, List.append_assoc]
    by_cases hc : c = 39
    · subst hc
      rw [if_pos rfl]
      have ok39 : okC 39 = true := by decide
      show lexRun (.q 39) (strOf t) true (39 :: 34 :: 39 :: 34 :: 39 :: (repL w ++ r)) = _
      rw [lexRun, if_pos rfl, lexRun, if_neg (by decide), if_pos (.inr rfl), lexRun, if_neg (by decide), if_pos ok39, lexRun, if_pos rfl, lexRun, if_neg (by decide), if_pos (.inl rfl), strOf_snoc]
      exact ih
    · rw [if_neg hc]
      show lexRun (.q 39) (strOf t) true (c :: (repL w ++ r)) = _
      rw [lexRun, if_neg hc, if_pos (h c (.head _)), strOf_snoc]
      exact ih
theorem q_irrel (d : Nat) (tok : Str) (q : Bool) (c : Nat) (r : List Nat) : lexRun (.q d) tok q (c :: r) = lexRun (.q d) tok true (c :: r) := by
  rw [lexRun, lexRun]
theorem repL_cons (c : Nat) (w : List Nat) : ∃ d r, repL (c :: w) = d :: r := by
  have e : repL (c :: w) = (if c = 39 then [39, 34, 39, 34, 39] else [c]) ++ repL w := rfl
  rw [e]
  split
  · exact ⟨_, _, rfl⟩
  · exact ⟨_, _, rfl⟩
theorem run_word (w : List Nat) (h : ∀ c ∈ w, okC c = true) (r : List Nat) : ∃ q, (w = [] → q = true) ∧ lexRun .sp (Str.ofString "") false (quoteL w ++ r) = lexRun .a (strOf w) q r := by
  unfold quoteL
  by_cases h0 : w = []
  · subst h0
    rw [if_pos rfl]
    refine ⟨true, fun _ => rfl, ?_⟩
    show lexRun .sp (Str.ofString "") false (39 :: 39 :: r) = _
    rw [lexRun, if_pos rfl, lexRun, if_pos rfl, strOf_nil]
  · rw [if_neg h0]
    obtain ⟨c, w', rfl⟩ : ∃ c w', w = c :: w' := by cases w with | nil => exact (h0 rfl).elim | cons c w' => exact ⟨c, w', rfl⟩
    by_cases hs : (c :: w').all safeC = true
    · rw [if_pos hs]
      refine ⟨false, (fun e => absurd e (by simp)), ?_⟩
      have hp : ∀ d ∈ c :: w', plainC d = true := fun d hd => safe_plain (h d hd) (List.all_eq_true.mp hs d hd)
      have hc := hp c (.head _)
      obtain ⟨h1, h2, h3⟩ := plain_ne hc
      rw [List.cons_append, lexRun, if_neg h2, if_pos hc]
      exact run_a w' [c] r false fun d hd => hp d (.tail _ hd)
    · rw [if_neg hs]
      refine ⟨true, (fun e => absurd e (by simp)), ?_⟩
      obtain ⟨d, r', e⟩ := repL_cons c w'
      have e1 := run_q (c :: w') [] (39 :: r) h
      rw [strOf_nil, List.nil_append] at e1
      rw [List.cons_append, lexRun, if_pos rfl, List.append_assoc]
      show lexRun (.q 39) (Str.ofString "") false (repL (c :: w') ++ (39 :: r)) = _
      rw [e, List.cons_append, q_irrel, ← List.cons_append, ← e, e1, lexRun, if_pos rfl]
theorem run_word_end (w : List Nat) (h : ∀ c ∈ w, okC c = true) : ∃ q, (w = [] → q = true) ∧ lexRun .sp (Str.ofString "") false (quoteL w) = some (.non, strOf w, q, []) := by
  obtain ⟨q, h1, h2⟩ := run_word w h []
  rw [List.append_nil] at h2
  exact ⟨q, h1, h2.trans rfl⟩
theorem run_word_sp (w : List Nat) (h : ∀ c ∈ w, okC c = true) (r : List Nat) : ∃ q, (w = [] → q = true) ∧ lexRun .sp (Str.ofString "") false (quoteL w ++ 32 :: r) = some (.sp, strOf w, q, r) := by
  obtain ⟨q, h1, h2⟩ := run_word w h (32 :: r)
  refine ⟨q, h1, h2.trans ?_⟩
  rw [lexRun, if_pos rfl]
  refine if_pos ?_
  by_cases h0 : w = []
  · exact .inr (h1 h0)
  · exact .inl (strOf_ne h0)
noncomputable def joinL : List (List Nat) → List Nat
  | [] => []
  | [w] => quoteL w
  | w :: r => quoteL w ++ 32 :: joinL r
theorem not_end {w : List Nat} {q : Bool} (h : w = [] → q = true) : ¬ ((strOf w == Str.ofString "") = true ∧ q = false) := by
  rintro ⟨h1, h2⟩
  by_cases h0 : w = []
  · rw [h h0] at h2; cases h2
  · rw [strOf_ne h0] at h1; cases h1
theorem lex_join : ∀ (ws : List (List Nat)), ws ≠ [] → (∀ w ∈ ws, ∀ c ∈ w, okC c = true) → lexAll (ws.length + 1) .sp (joinL ws) = some (ws.map strOf)
  | [], h, _ => (h rfl).elim
  | [w], _, h => by
    obtain ⟨q, h1, h2⟩ := run_word_end w (h w (.head _))
    show lexAll 2 .sp (quoteL w) = _
    rw [lexAll, h2]
    dsimp only
    rw [if_neg (not_end h1)]
    rfl
  | w :: w2 :: r, _, h => by
    obtain ⟨q, h1, h2⟩ := run_word_sp w (h w (.head _)) (joinL (w2 :: r))
    have ih := lex_join (w2 :: r) (by simp) fun x hx => h x (.tail _ hx)
    show lexAll ((w2 :: r).length + 1 + 1) .sp (quoteL w ++ 32 :: joinL (w2 :: r)) = _
    rw [lexAll, h2]
    dsimp only
    rw [if_neg (not_end h1), ih]
    rfl

end
end TL1
section TL2
section
variable {w : World} {p : Program} {loose : List Str} {mean : ExcName → Option Value} {mg mb : Str → Option Value}
  {dp un : Nat} {gd : Option (List Code)} {cn : Str} {cs : Scope} {a : Addr} {ccd : Value} {cl : List (Str × Addr)} {outer : List Env} {A₀ : Around} {base h₀ : Heap} {L : Addr} {m : Str → Option Value} {news ext : List (Addr × Obj)} {s : Shared} {Q E : Value → Shared → Prop}
theorem repL_app (a b : List Nat) : repL (a ++ b) = repL a ++ repL b := List.flatMap_append
theorem repL_free : ∀ l : List Nat, 39 ∉ l → repL l = l
  | [], _ => rfl
  | k :: r, h => by
    have h1 : k ≠ 39 := fun e => h (e ▸ List.mem_cons_self)
    have e : repL (k :: r) = (if k = 39 then [39, 34, 39, 34, 39] else [k]) ++ repL r := rfl
    rw [e, if_neg h1, repL_free r fun m => h (List.mem_cons_of_mem _ m)]
    rfl
noncomputable abbrev longQ : Str := ⟨#[39, 34, 39, 34, 39]⟩
theorem repL_join : ∀ parts : List Str, (∀ p ∈ parts, 39 ∉ p.cps.toList) → repL (Str.join ⟨#[39]⟩ parts).cps.toList = (Str.join longQ parts).cps.toList
  | [], _ => rfl
  | [p], h => repL_free _ (h p (List.mem_singleton.mpr rfl))
  | p :: q :: r, h => by
    have ih := repL_join (q :: r) fun a ha => h a (List.mem_cons_of_mem _ ha)
    show repL (p ++ ⟨#[39]⟩ ++ Str.join ⟨#[39]⟩ (q :: r)).cps.toList = (p ++ longQ ++ Str.join longQ (q :: r)).cps.toList
    simp only [Str.cps_append, Array.toList_append]
    rw [repL_app, repL_app, ih, repL_free _ (h p List.mem_cons_self)]
    rfl
theorem rep_eq (x : Str) : (Txt.replace x (Str.ofString "'") (Str.ofString "'\"'\"'")).cps.toList = repL x.cps.toList := by
  have e1 : Str.ofString "'" = ⟨#[39]⟩ := by decide +kernel
  have e2 : Str.ofString "'\"'\"'" = longQ := by decide +kernel
  rw [e1, e2, StrLaws.replace_one, ← repL_join _ (StrLaws.split_free x 39), StrLaws.join_split]
theorem repL_len : ∀ l : List Nat, (repL l).length ≤ 5 * l.length
  | [] => Nat.le_refl _
  | k :: r => by
    have e : repL (k :: r) = (if k = 39 then [39, 34, 39, 34, 39] else [k]) ++ repL r := rfl
    have ih := repL_len r
    rw [e, List.length_append, List.length_cons]
    split
    · simp only [List.length_cons, List.length_nil]; omega
    · simp only [List.length_cons, List.length_nil]; omega
theorem quoteL_len (l : List Nat) : (quoteL l).length ≤ 5 * l.length + 2 := by
  unfold quoteL
  have := repL_len l
  split
  · simp
  · split
    · omega
    · simp only [List.length_cons, List.length_append, List.length_nil]; omega
theorem quoteL_ok (l : List Nat) (h : ∀ c ∈ l, okC c = true) : ∀ c ∈ quoteL l, okC c = true := by
  have ok39 : okC 39 = true := by decide
  have ok34 : okC 34 = true := by decide
  have hr : ∀ c ∈ repL l, okC c = true := fun c hc => by
    obtain ⟨d, hd, hm⟩ := List.mem_flatMap.mp hc
    by_cases he : d = 39
    · rw [if_pos he] at hm
      simp only [List.mem_cons, List.not_mem_nil, or_false] at hm
      rcases hm with rfl | rfl | rfl | rfl | rfl <;> assumption
    · rw [if_neg he] at hm
      rw [List.mem_singleton.mp hm]
      exact h d hd
  intro c hc
  unfold quoteL at hc
  split at hc
  · simp only [List.mem_cons, List.not_mem_nil, or_false] at hc
    rcases hc with rfl | rfl <;> exact ok39
  · split at hc
    · exact h c hc
    · rcases List.mem_cons.mp hc with rfl | hc
      · exact ok39
      · rcases List.mem_append.mp hc with hc | hc
        · exact hr c hc
        · rw [List.mem_singleton.mp hc]; exact ok39
theorem joinL_ok : ∀ (ws : List (List Nat)), (∀ w ∈ ws, ∀ c ∈ w, okC c = true) → ∀ c ∈ joinL ws, okC c = true
  | [], _, c, hc => nomatch hc
  | [w], h, c, hc => quoteL_ok w (h w (.head _)) c hc
  | w :: w2 :: r, h, c, hc => by
    rcases List.mem_append.mp (show c ∈ quoteL w ++ 32 :: joinL (w2 :: r) from hc) with hc | hc
    · exact quoteL_ok w (h w (.head _)) c hc
    · rcases List.mem_cons.mp hc with rfl | hc
      · decide
      · exact joinL_ok (w2 :: r) (fun x hx => h x (.tail _ hx)) c hc
theorem join_eq : ∀ (ws : List (List Nat)), (Str.join (Str.ofString " ") (ws.map fun w => strOf (quoteL w))).cps.toList = joinL ws
  | [] => rfl
  | [w] => rfl
  | w :: w2 :: r => by
    have ih := join_eq (w2 :: r)
    have e : Str.ofString " " = ⟨#[32]⟩ := by decide +kernel
    show (strOf (quoteL w) ++ Str.ofString " " ++ Str.join (Str.ofString " ") ((w2 :: r).map fun w => strOf (quoteL w))).cps.toList = quoteL w ++ 32 :: joinL (w2 :: r)
    simp only [Str.cps_append, Array.toList_append]
    rw [ih, e]
    show quoteL w ++ [32] ++ joinL (w2 :: r) = _
    rw [List.append_assoc]
    rfl

end
end TL2
section TL3
section
variable {w : World} {p : Program} {loose : List Str} {mean : ExcName → Option Value} {mg mb : Str → Option Value}
  {dp un : Nat} {gd : Option (List Code)} {cn : Str} {cs : Scope} {a : Addr} {ccd : Value} {cl : List (Str × Addr)} {outer : List Env} {A₀ : Around} {base h₀ : Heap} {L : Addr} {m : Str → Option Value} {news ext : List (Addr × Obj)} {s : Shared} {Q E : Value → Shared → Prop}
noncomputable abbrev mids7 : List Str := [Str.ofString "", Str.ofString "a", Str.ofString "a b", Str.ofString "$", Str.ofString "-", Str.ofString "it's", Str.ofString "b"]
noncomputable abbrev wordV (i : Nat) (mid : Str) (k : Nat) : Str := Txt.mul (Str.ofString "_") (i : Int) ++ mid ++ Txt.mul (Str.ofString "_") (k : Int)
theorem word_due_all : (List.range 4).all (fun i => mids7.all fun mid => (List.range 4).all fun k => (dunderV (wordV i mid k) == dueW0 i mid k) && (sunderV (wordV i mid k) == dueW1 i mid k)) = true := by decide +kernel
theorem word_due {i k : Nat} {mid : Str} (hi : i < 4) (hk : k < 4) (hm : mid ∈ mids7) : dunderV (wordV i mid k) = dueW0 i mid k ∧ sunderV (wordV i mid k) = dueW1 i mid k := by
  have h := List.all_eq_true.mp (List.all_eq_true.mp (List.all_eq_true.mp word_due_all i (List.mem_range.mpr hi)) mid hm) k (List.mem_range.mpr hk)
  rw [Bool.and_eq_true] at h
  exact ⟨eq_of_beq h.1, eq_of_beq h.2⟩

end
end TL3
section TL4
section
variable {w : World} {p : Program} {loose : List Str} {mean : ExcName → Option Value} {mg mb : Str → Option Value}
  {dp un : Nat} {gd : Option (List Code)} {cn : Str} {cs : Scope} {a : Addr} {ccd : Value} {cl : List (Str × Addr)} {outer : List Env} {A₀ : Around} {base h₀ : Heap} {L : Addr} {m : Str → Option Value} {news ext : List (Addr × Obj)} {s : Shared} {Q E : Value → Shared → Prop}
theorem item_nat (x : Str) (k : Nat) (h : k < x.length) : Txt.item x (k : Int) = ⟨#[x.cps.getD k 0]⟩ := by
  unfold Txt.item Txt.charAt seqIndex?
  have e : (if (k : Int) < 0 then (k : Int) + x.length else (k : Int)) = (k : Int) := if_neg (by omega)
  simp only [e]
  have hc : (decide (0 ≤ (k : Int)) && decide ((k : Int) < (x.length : Int))) = true := by
    rw [Bool.and_eq_true]; exact ⟨decide_eq_true (by omega), decide_eq_true (by omega)⟩
  rw [if_pos hc]
  simp [Array.getD_eq_getD_getElem?]
theorem item_neg (x : Str) (k : Nat) (h0 : 0 < k) (h : k ≤ x.length) : Txt.item x (-(k : Int)) = ⟨#[x.cps.getD (x.length - k) 0]⟩ := by
  unfold Txt.item Txt.charAt seqIndex?
  have e : (if -(k : Int) < 0 then -(k : Int) + x.length else -(k : Int)) = ((x.length - k : Nat) : Int) := by rw [if_pos (by omega)]; omega
  simp only [e]
  have hc : (decide (0 ≤ ((x.length - k : Nat) : Int)) && decide (((x.length - k : Nat) : Int) < (x.length : Int))) = true := by
    rw [Bool.and_eq_true]; exact ⟨decide_eq_true (by omega), decide_eq_true (by omega)⟩
  rw [if_pos hc]
  simp [Array.getD_eq_getD_getElem?]
theorem idx_front {n : Nat} (h : 4 < n) : Builtin.Str.strSliceIndices none (some 2) 1 n = [0, 1] := by
  unfold Builtin.Str.strSliceIndices sliceRange
  have e : (max 0 (min (if (2 : Int) < 0 then 2 + (n : Int) else 2) (n : Int))) = 2 := by rw [if_neg (by omega)]; omega
  simp only [show (1 : Int) > 0 by decide, if_true, e]
  rfl
theorem idx_back {n : Nat} (h : 4 < n) : Builtin.Str.strSliceIndices (some (-2)) none 1 n = [n - 2, n - 1] := by
  have e : (max 0 (min (-2 + (n : Int)) (n : Int))) = ((n - 2 : Nat) : Int) := by omega
  have e0 : Builtin.Str.strSliceIndices (some (-2)) none 1 n = sliceRange (max 0 (min (-2 + (n : Int)) (n : Int))) (n : Int) 1 := rfl
  rw [e0, e]
  unfold sliceRange
  simp only [show (1 : Int) > 0 by decide, if_true]
  rw [if_pos (by omega)]
  have c : (((n : Int) - ((n - 2 : Nat) : Int) + 1 - 1) / 1).toNat = 2 := by rw [Int.ediv_one]; omega
  rw [c]
  show [(((n - 2 : Nat) : Int) + 1 * ((0 : Nat) : Int)).toNat, (((n - 2 : Nat) : Int) + 1 * ((1 : Nat) : Int)).toNat] = _
  have a0 : (((n - 2 : Nat) : Int) + 1 * ((0 : Nat) : Int)).toNat = n - 2 := by omega
  have a1 : (((n - 2 : Nat) : Int) + 1 * ((1 : Nat) : Int)).toNat = n - 1 := by omega
  rw [a0, a1]
theorem slice_front (x : Str) (h : 4 < x.length) : Txt.slice x none (some 2) = ⟨#[x.cps.getD 0 0, x.cps.getD 1 0]⟩ := by
  have hs : x.cps.size = x.length := rfl
  unfold Txt.slice
  rw [idx_front h, if_neg (by simp; omega)]
  have h0 : x.cps[0]? = some (x.cps.getD 0 0) := by rw [Array.getD_eq_getD_getElem?, Array.getElem?_eq_getElem (show 0 < x.cps.size by omega)]; rfl
  have h1 : x.cps[1]? = some (x.cps.getD 1 0) := by rw [Array.getD_eq_getD_getElem?, Array.getElem?_eq_getElem (show 1 < x.cps.size by omega)]; rfl
  simp only [List.filterMap_cons, h0, h1, List.filterMap_nil]
theorem slice_back (x : Str) (h : 4 < x.length) : Txt.slice x (some (-2)) none = ⟨#[x.cps.getD (x.length - 2) 0, x.cps.getD (x.length - 1) 0]⟩ := by
  have hs : x.cps.size = x.length := rfl
  unfold Txt.slice
  rw [idx_back h, if_neg (by simp; omega)]
  have h0 : x.cps[x.length - 2]? = some (x.cps.getD (x.length - 2) 0) := by rw [Array.getD_eq_getD_getElem?, Array.getElem?_eq_getElem (show x.length - 2 < x.cps.size by omega)]; rfl
  have h1 : x.cps[x.length - 1]? = some (x.cps.getD (x.length - 1) 0) := by rw [Array.getD_eq_getD_getElem?, Array.getElem?_eq_getElem (show x.length - 1 < x.cps.size by omega)]; rfl
  simp only [List.filterMap_cons, h0, h1, List.filterMap_nil]

end
end TL4
section TL5
section
variable {w : World} {p : Program} {loose : List Str} {mean : ExcName → Option Value} {mg mb : Str → Option Value}
  {dp un : Nat} {gd : Option (List Code)} {cn : Str} {cs : Scope} {a : Addr} {ccd : Value} {cl : List (Str × Addr)} {outer : List Env} {A₀ : Around} {base h₀ : Heap} {L : Addr} {m : Str → Option Value} {news ext : List (Addr × Obj)} {s : Shared} {Q E : Value → Shared → Prop}
noncomputable def dunL (l : List Nat) : Bool := decide (4 < l.length) && (l.getD 0 0 == 95 && (l.getD 1 0 == 95 && (l.getD (l.length - 2) 0 == 95 && (l.getD (l.length - 1) 0 == 95 && (l.getD 2 0 != 95 && l.getD (l.length - 3) 0 != 95)))))
noncomputable def sunL (l : List Nat) : Bool := decide (2 < l.length) && (l.getD 0 0 == 95 && (l.getD (l.length - 1) 0 == 95 && (l.getD 1 0 != 95 && l.getD (l.length - 2) 0 != 95)))
theorem str1_beq (a b : Nat) : ((⟨#[a]⟩ : Str) == ⟨#[b]⟩) = (a == b) := by
  by_cases h : a = b
  · subst h; simp
  · rw [beq_eq_false_iff_ne.mpr h]
    refine beq_eq_false_iff_ne.mpr fun e => h ?_
    have : (#[a] : Array Nat) = #[b] := congrArg Str.cps e
    simpa using this
theorem str2_beq (a b c d : Nat) : ((⟨#[a, b]⟩ : Str) == ⟨#[c, d]⟩) = (a == c && b == d) := by
  by_cases h : a = c ∧ b = d
  · obtain ⟨rfl, rfl⟩ := h; simp
  · have e : (a == c && b == d) = false := by
      rw [Bool.eq_false_iff]; intro q; rw [Bool.and_eq_true, beq_iff_eq, beq_iff_eq] at q; exact h q
    rw [e]
    refine beq_eq_false_iff_ne.mpr fun e => h ?_
    have : (#[a, b] : Array Nat) = #[c, d] := congrArg Str.cps e
    simpa using this
theorem getD_list (x : Str) (k : Nat) : x.cps.getD k 0 = x.cps.toList.getD k 0 := by
  rw [Array.getD_eq_getD_getElem?, List.getD_eq_getElem?_getD, Array.getElem?_toList]
theorem sun_list (x : Str) : sunderV x = sunL x.cps.toList := by
  unfold sunderV sunL
  have hl : x.cps.toList.length = x.length := by simp [Str.length]
  have e95 : Str.ofString "_" = ⟨#[95]⟩ := by decide +kernel
  rw [hl]
  by_cases h : 2 < x.length
  · have c1 : decide (2 < (x.length : Int)) = true := decide_eq_true (by omega)
    have c2 : decide (2 < x.length) = true := decide_eq_true h
    have i0 := item_nat x 0 (by omega)
    have i1 := item_nat x 1 (by omega)
    have m1 := item_neg x 1 (by omega) (by omega)
    have m2 := item_neg x 2 (by omega) (by omega)
    rw [c1, c2, show Txt.item x 0 = _ from i0, show Txt.item x 1 = _ from i1, show Txt.item x (-1) = _ from m1, show Txt.item x (-2) = _ from m2, e95]
    simp only [bne, str1_beq, getD_list, Bool.true_and]
    generalize x.cps.toList.getD 0 0 = a
    generalize x.cps.toList.getD (x.length - 1) 0 = b
    generalize (!(x.cps.toList.getD 1 0 == 95) && !(x.cps.toList.getD (x.length - 2) 0 == 95)) = r
    by_cases hb : b = 95
    · subst hb; simp
    · have : (b == 95) = false := beq_eq_false_iff_ne.mpr hb
      rw [this]; simp
  · have c1 : decide (2 < (x.length : Int)) = false := decide_eq_false (by omega)
    have c2 : decide (2 < x.length) = false := decide_eq_false h
    rw [c1, c2]; simp
theorem dun_list (x : Str) : dunderV x = dunL x.cps.toList := by
  unfold dunderV dunL
  have hl : x.cps.toList.length = x.length := by simp [Str.length]
  have e95 : Str.ofString "_" = ⟨#[95]⟩ := by decide +kernel
  have e9 : Str.ofString "__" = ⟨#[95, 95]⟩ := by decide +kernel
  rw [hl]
  by_cases h : 4 < x.length
  · have c1 : decide (4 < (x.length : Int)) = true := decide_eq_true (by omega)
    have c2 : decide (4 < x.length) = true := decide_eq_true h
    have i2 := item_nat x 2 (by omega)
    have m3 := item_neg x 3 (by omega) (by omega)
    rw [c1, c2, slice_front x h, slice_back x h, show Txt.item x 2 = _ from i2, show Txt.item x (-3) = _ from m3, e95, e9]
    simp only [bne, str1_beq, str2_beq, getD_list, Bool.true_and]
    generalize x.cps.toList.getD 0 0 = a
    generalize x.cps.toList.getD 1 0 = a'
    generalize x.cps.toList.getD (x.length - 2) 0 = b
    generalize x.cps.toList.getD (x.length - 1) 0 = b'
    generalize (!(x.cps.toList.getD 2 0 == 95) && !(x.cps.toList.getD (x.length - 3) 0 == 95)) = r
    by_cases hb : b = 95
    · by_cases hb' : b' = 95
      · subst hb hb'; simp [Bool.and_assoc]
      · have : (b' == 95) = false := beq_eq_false_iff_ne.mpr hb'
        rw [this]; simp
    · have : (b == 95) = false := beq_eq_false_iff_ne.mpr hb
      rw [this]; simp
  · have c1 : decide (4 < (x.length : Int)) = false := decide_eq_false (by omega)
    have c2 : decide (4 < x.length) = false := decide_eq_false h
    rw [c1, c2]; simp

end
end TL5
section TL6
section
variable {w : World} {p : Program} {loose : List Str} {mean : ExcName → Option Value} {mg mb : Str → Option Value}
  {dp un : Nat} {gd : Option (List Code)} {cn : Str} {cs : Scope} {a : Addr} {ccd : Value} {cl : List (Str × Addr)} {outer : List Env} {A₀ : Around} {base h₀ : Heap} {L : Addr} {m : Str → Option Value} {news ext : List (Addr × Obj)} {s : Shared} {Q E : Value → Shared → Prop}
theorem front_get {n c : Nat} {r l : List Nat} (e : l = List.replicate n 95 ++ c :: r) : (∀ k, k < n → l.getD k 0 = 95) ∧ l.getD n 0 = c ∧ n < l.length := by
  subst e
  refine ⟨fun k hk => ?_, ?_, ?_⟩
  · rw [List.getD_eq_getElem?_getD, List.getElem?_append_left (by simpa using hk), List.getElem?_replicate, if_pos hk]; rfl
  · rw [List.getD_eq_getElem?_getD, List.getElem?_append_right (by simp)]; simp
  · simp
theorem back_get {n d : Nat} {r l : List Nat} (e : l = r ++ d :: List.replicate n 95) : (∀ k, 0 < k → k ≤ n → l.getD (l.length - k) 0 = 95) ∧ l.getD (l.length - (n + 1)) 0 = d ∧ n < l.length := by
  subst e
  have hlen : (r ++ d :: List.replicate n 95).length = r.length + (n + 1) := by simp
  refine ⟨fun k h0 hk => ?_, ?_, by rw [hlen]; omega⟩
  · rw [hlen, List.getD_eq_getElem?_getD, List.getElem?_append_right (by omega)]
    obtain ⟨j, hj⟩ : ∃ j, r.length + (n + 1) - k - r.length = j + 1 := ⟨n - k, by omega⟩
    rw [hj, List.getElem?_cons_succ, List.getElem?_replicate, if_pos (by omega)]; rfl
  · rw [hlen, List.getD_eq_getElem?_getD, show r.length + (n + 1) - (n + 1) = r.length by omega, List.getElem?_append_right (by omega)]; simp
theorem dun_shape {n k c d : Nat} {r r' l : List Nat} (e : l = List.replicate n 95 ++ c :: r) (hc : c ≠ 95) (e' : l = r' ++ d :: List.replicate k 95) (hd : d ≠ 95) : dunL l = (decide (n = 2) && decide (k = 2)) := by
  obtain ⟨f1, f2, f3⟩ := front_get e
  obtain ⟨b1, b2, b3⟩ := back_get e'
  rw [Bool.eq_iff_iff]
  unfold dunL
  simp only [Bool.and_eq_true, decide_eq_true_eq, beq_iff_eq, bne_iff_ne, ne_eq]
  constructor
  · rintro ⟨h4, g0, g1, g2, g3, g4, g5⟩
    have n2 : n = 2 := by
      rcases Nat.lt_trichotomy n 2 with h | h | h
      · have : n = 0 ∨ n = 1 := by omega
        rcases this with rfl | rfl
        · rw [g0] at f2; exact absurd f2.symm hc
        · rw [g1] at f2; exact absurd f2.symm hc
      · exact h
      · exact absurd (f1 2 h) g4
    have k2 : k = 2 := by
      rcases Nat.lt_trichotomy k 2 with h | h | h
      · have : k = 0 ∨ k = 1 := by omega
        rcases this with rfl | rfl
        · rw [g3] at b2; exact absurd b2.symm hd
        · rw [g2] at b2; exact absurd b2.symm hd
      · exact h
      · exact absurd (b1 3 (by omega) h) g5
    exact ⟨n2, k2⟩
  · rintro ⟨rfl, rfl⟩
    have hne : l.getD (l.length - 3) 0 ≠ 95 := by rw [b2]; exact hd
    have h4 : 4 < l.length := by
      rcases Nat.lt_or_ge 4 l.length with h | h
      · exact h
      · exfalso
        have : l.length - 3 < 2 := by omega
        exact hne (f1 _ this)
    exact ⟨h4, f1 0 (by omega), f1 1 (by omega), b1 2 (by omega) (by omega), b1 1 (by omega) (by omega), by rw [f2]; exact hc, hne⟩
theorem sun_shape {n k c d : Nat} {r r' l : List Nat} (e : l = List.replicate n 95 ++ c :: r) (hc : c ≠ 95) (e' : l = r' ++ d :: List.replicate k 95) (hd : d ≠ 95) : sunL l = (decide (n = 1) && decide (k = 1)) := by
  obtain ⟨f1, f2, f3⟩ := front_get e
  obtain ⟨b1, b2, b3⟩ := back_get e'
  rw [Bool.eq_iff_iff]
  unfold sunL
  simp only [Bool.and_eq_true, decide_eq_true_eq, beq_iff_eq, bne_iff_ne, ne_eq]
  constructor
  · rintro ⟨h4, g0, g1, g2, g3⟩
    have n2 : n = 1 := by
      rcases Nat.lt_trichotomy n 1 with h | h | h
      · have : n = 0 := by omega
        subst this
        rw [g0] at f2; exact absurd f2.symm hc
      · exact h
      · exact absurd (f1 1 h) g2
    have k2 : k = 1 := by
      rcases Nat.lt_trichotomy k 1 with h | h | h
      · have : k = 0 := by omega
        subst this
        rw [g1] at b2; exact absurd b2.symm hd
      · exact h
      · exact absurd (b1 2 (by omega) h) g3
    exact ⟨n2, k2⟩
  · rintro ⟨rfl, rfl⟩
    have hne : l.getD (l.length - 2) 0 ≠ 95 := by rw [b2]; exact hd
    have h4 : 2 < l.length := by
      rcases Nat.lt_or_ge 2 l.length with h | h
      · exact h
      · exfalso
        have : l.length - 2 < 1 := by omega
        exact hne (f1 _ this)
    exact ⟨h4, f1 0 (by omega), b1 1 (by omega) (by omega), by rw [f2]; exact hc, hne⟩

end
end TL6
section TL7
section
variable {w : World} {p : Program} {loose : List Str} {mean : ExcName → Option Value} {mg mb : Str → Option Value}
  {dp un : Nat} {gd : Option (List Code)} {cn : Str} {cs : Scope} {a : Addr} {ccd : Value} {cl : List (Str × Addr)} {outer : List Env} {A₀ : Around} {base h₀ : Heap} {L : Addr} {m : Str → Option Value} {news ext : List (Addr × Obj)} {s : Shared} {Q E : Value → Shared → Prop}
noncomputable def lead : List Nat → Nat
  | [] => 0
  | c :: r => if c = 95 then lead r + 1 else 0
noncomputable def trail (l : List Nat) : Nat := lead l.reverse
theorem lead_split : ∀ l : List Nat, (∃ c ∈ l, c ≠ 95) → ∃ c r, c ≠ 95 ∧ l = List.replicate (lead l) 95 ++ c :: r
  | [], h => by obtain ⟨c, hc, _⟩ := h; cases hc
  | c :: r, h => by
    by_cases e : c = 95
    · subst e
      obtain ⟨d, r', hd, e'⟩ := lead_split r (by
        obtain ⟨d, hd, hn⟩ := h
        rcases List.mem_cons.mp hd with rfl | hd
        · exact absurd rfl hn
        · exact ⟨d, hd, hn⟩)
      refine ⟨d, r', hd, ?_⟩
      show 95 :: r = List.replicate (if 95 = 95 then lead r + 1 else 0) 95 ++ d :: r'
      rw [if_pos rfl, List.replicate_succ, List.cons_append, ← e']
    · refine ⟨c, r, e, ?_⟩
      show c :: r = List.replicate (if c = 95 then lead r + 1 else 0) 95 ++ c :: r
      rw [if_neg e]; rfl
theorem lead_app : ∀ (a b : List Nat), lead (a ++ 32 :: b) = lead a
  | [], _ => rfl
  | c :: a, b => by
    show (if c = 95 then lead (a ++ 32 :: b) + 1 else 0) = if c = 95 then lead a + 1 else 0
    rw [lead_app a b]
theorem trail_app (a b : List Nat) : trail (a ++ 32 :: b) = trail b := by
  unfold trail
  rw [List.reverse_append, List.reverse_cons, List.append_assoc]
  exact lead_app _ _
theorem dun_lead {l : List Nat} (h : ∃ c ∈ l, c ≠ 95) : dunL l = (decide (lead l = 2) && decide (trail l = 2)) ∧ sunL l = (decide (lead l = 1) && decide (trail l = 1)) := by
  obtain ⟨c, r, hc, e⟩ := lead_split l h
  obtain ⟨d, r', hd, e'⟩ := lead_split l.reverse (by obtain ⟨c, hm, hn⟩ := h; exact ⟨c, List.mem_reverse.mpr hm, hn⟩)
  have e2 : l = r'.reverse ++ d :: List.replicate (trail l) 95 := by
    have := congrArg List.reverse e'
    rw [List.reverse_reverse, List.reverse_append, List.reverse_cons, List.reverse_replicate, List.append_assoc] at this
    exact this
  exact ⟨dun_shape e hc e2 hd, sun_shape e hc e2 hd⟩
noncomputable abbrev Prt := Nat × Str × Nat
noncomputable abbrev wordP (p : Prt) : Str := wordV p.1 p.2.1 p.2.2
noncomputable abbrev wordL (p : Prt) : List Nat := (wordP p).cps.toList
noncomputable def PrtOk (p : Prt) : Prop := p.1 < 4 ∧ p.2.1 ∈ mids7 ∧ p.2.2 < 4
noncomputable def dueL : List Prt → Bool × Bool
  | [] => (false, false)
  | [p] => if (p.2.1 == Str.ofString "") = true then (false, false) else
      (decide ((endsV p.1 p.2.1 p.2.2).1 = 2) && decide ((endsV p.1 p.2.1 p.2.2).2 = 2), decide ((endsV p.1 p.2.1 p.2.2).1 = 1) && decide ((endsV p.1 p.2.1 p.2.2).2 = 1))
  | p :: q :: r => (decide ((endsV p.1 p.2.1 p.2.2).1 = 2) && decide ((endsV ((q :: r).getLastD p).1 ((q :: r).getLastD p).2.1 ((q :: r).getLastD p).2.2).2 = 2),
      decide ((endsV p.1 p.2.1 p.2.2).1 = 1) && decide ((endsV ((q :: r).getLastD p).1 ((q :: r).getLastD p).2.1 ((q :: r).getLastD p).2.2).2 = 1))
noncomputable def prtTest (p : Prt) : Bool :=
  (wordL p).all okC && lead (quoteL (wordL p)) == (endsV p.1 p.2.1 p.2.2).1 && trail (quoteL (wordL p)) == (endsV p.1 p.2.1 p.2.2).2 &&
  dunL (quoteL (wordL p)) == (dueL [p]).1 && sunL (quoteL (wordL p)) == (dueL [p]).2 &&
  dunL (quoteL (quoteL (wordL p))) == (dueL [p]).1 && sunL (quoteL (quoteL (wordL p))) == (dueL [p]).2 && decide ((wordL p).length ≤ 10)
theorem prt_all : (List.range 4).all (fun i => mids7.all fun mid => (List.range 4).all fun k => prtTest (i, mid, k)) = true := by decide +kernel
theorem prt_test {p : Prt} (h : PrtOk p) : prtTest p = true := by
  obtain ⟨i, mid, k⟩ := p
  obtain ⟨hi, hm, hk⟩ := h
  exact List.all_eq_true.mp (List.all_eq_true.mp (List.all_eq_true.mp prt_all i (List.mem_range.mpr hi)) mid hm) k (List.mem_range.mpr hk)
structure PrtFacts (p : Prt) : Prop where
  ok : ∀ c ∈ wordL p, okC c = true
  ld : lead (quoteL (wordL p)) = (endsV p.1 p.2.1 p.2.2).1
  tr : trail (quoteL (wordL p)) = (endsV p.1 p.2.1 p.2.2).2
  d1 : dunL (quoteL (wordL p)) = (dueL [p]).1
  s1 : sunL (quoteL (wordL p)) = (dueL [p]).2
  d2 : dunL (quoteL (quoteL (wordL p))) = (dueL [p]).1
  s2 : sunL (quoteL (quoteL (wordL p))) = (dueL [p]).2
  len : (wordL p).length ≤ 10
theorem prt_facts {p : Prt} (h : PrtOk p) : PrtFacts p := by
  have := prt_test h
  simp only [prtTest, Bool.and_eq_true, beq_iff_eq, decide_eq_true_eq] at this
  obtain ⟨⟨⟨⟨⟨⟨⟨h1, h2⟩, h3⟩, h4⟩, h5⟩, h6⟩, h7⟩, h8⟩ := this
  exact ⟨List.all_eq_true.mp h1, h2, h3, h4, h5, h6, h7, h8⟩
noncomputable def lineL (ps : List Prt) : List Nat := joinL (ps.map wordL)
theorem line_trail : ∀ (ps : List Prt) (p : Prt), PrtOk p → (∀ q ∈ ps, PrtOk q) → trail (lineL (p :: ps)) = (endsV (ps.getLastD p).1 (ps.getLastD p).2.1 (ps.getLastD p).2.2).2
  | [], p, hp, _ => (prt_facts hp).tr
  | q :: r, p, _, h => by
    show trail (quoteL (wordL p) ++ 32 :: lineL (q :: r)) = _
    rw [trail_app, line_trail r q (h q (.head _)) fun x hx => h x (.tail _ hx)]
    cases r <;> rfl
theorem line_due (ps : List Prt) (h : ∀ p ∈ ps, PrtOk p) : dunL (lineL ps) = (dueL ps).1 ∧ sunL (lineL ps) = (dueL ps).2 := by
  match ps, h with
  | [], _ => exact ⟨rfl, rfl⟩
  | [p], h => exact ⟨(prt_facts (h p (.head _))).d1, (prt_facts (h p (.head _))).s1⟩
  | p :: q :: r, h =>
    have hl : lead (lineL (p :: q :: r)) = (endsV p.1 p.2.1 p.2.2).1 := by
      show lead (quoteL (wordL p) ++ 32 :: lineL (q :: r)) = _
      rw [lead_app]
      exact (prt_facts (h p (.head _))).ld
    have ht := line_trail (q :: r) p (h p (.head _)) fun x hx => h x (.tail _ hx)
    have hm : ∃ c ∈ lineL (p :: q :: r), c ≠ 95 := ⟨32, by
      show 32 ∈ quoteL (wordL p) ++ 32 :: lineL (q :: r)
      exact List.mem_append_right _ (.head _), by decide⟩
    obtain ⟨h1, h2⟩ := dun_lead hm
    rw [h1, h2, hl, ht]
    exact ⟨rfl, rfl⟩
theorem line_quoted (ps : List Prt) (h : ∀ p ∈ ps, PrtOk p) : dunL (quoteL (lineL ps)) = (if ps.length = 1 then (dueL ps).1 else false) ∧ sunL (quoteL (lineL ps)) = (if ps.length = 1 then (dueL ps).2 else false) := by
  match ps, h with
  | [], _ => exact ⟨by decide, by decide⟩
  | [p], h => exact ⟨(prt_facts (h p (.head _))).d2, (prt_facts (h p (.head _))).s2⟩
  | p :: q :: r, h =>
    have hne : ¬ (p :: q :: r).length = 1 := by simp
    rw [if_neg hne, if_neg hne]
    have hm : 32 ∈ lineL (p :: q :: r) := by
      show 32 ∈ quoteL (wordL p) ++ 32 :: lineL (q :: r)
      exact List.mem_append_right _ (.head _)
    have e : quoteL (lineL (p :: q :: r)) = 39 :: (repL (lineL (p :: q :: r)) ++ [39]) := by
      unfold quoteL
      rw [if_neg (fun e => by rw [e] at hm; cases hm), if_neg (fun e => by
        have := List.all_eq_true.mp e 32 hm
        revert this; decide)]
    rw [e]
    obtain ⟨h1, h2⟩ := dun_lead (l := 39 :: (repL (lineL (p :: q :: r)) ++ [39])) ⟨39, .head _, by decide⟩
    rw [h1, h2]
    exact ⟨rfl, rfl⟩

end
end TL7
section TX1
section
variable {w : World} {p : Program} {loose : List Str} {mean : ExcName → Option Value} {mg mb : Str → Option Value}
  {dp un : Nat} {gd : Option (List Code)} {cn : Str} {cs : Scope} {a : Addr} {ccd : Value} {cl : List (Str × Addr)} {outer : List Env} {A₀ : Around} {base h₀ : Heap} {L : Addr} {m : Str → Option Value} {news ext : List (Addr × Obj)} {s : Shared} {Q E : Value → Shared → Prop}
section
variable {prog : Program} {A : Around}
theorem gen_list {env : Env} {elt iter : Expr} {x : Str} {px pos : Pos} {scope : Scope} {l : Addr} {items : Array Value} {F : Nat → Value → Prop} {Z : Heap → Prop} {P : Addr} {s₁ : Shared}
    (hh : A.handled = none) (hco : scope.isCoroutine = false) (hclos : closureFor scope env = pure []) (hcell : ∀ y ∈ scope.names, y.2 ≠ .cell) (h0 : scope.names.lookup (".0" : Str) = some NameKind.local)
    (hx : scope.names.lookup x = some .local) (hkind : scope.kind = .function) (hroom : A.depth < recursionLimit) (hs : ∀ x, genFold iter env x = pure x)
    (hl : s₁.heap.IsList l items) (hlP : l ≠ P) (hlim : s₁.heap.NoLimit) (hcP : cStatics ≠ P) (hP : P < s₁.heap.objs.size)
    (hcode : ∀ Q', (∀ code h₃ tk₃, (∀ b o, b ≠ P → (s₁.heap.push { cls := .type "list_iterator", data := .fields #[.ref l, .int 0 0] }).get? b = some o → h₃.get? b = some o) → (s₁.heap.push { cls := .type "list_iterator", data := .fields #[.ref l, .int 0 0] }).objs.size ≤ h₃.objs.size → Z h₃ → Q' code { s₁ with heap := h₃, toks := tk₃ }) →
      wpAny (model prog w) A (genexprCode env pos (env.qual ++ "<genexpr>") scope) Q' E { s₁ with heap := s₁.heap.push { cls := .type "list_iterator", data := .fields #[.ref l, .int 0 0] } })
    (hbi : ∀ h₃ tk₃ Q', (∀ b o, b ≠ P → (s₁.heap.push { cls := .type "list_iterator", data := .fields #[.ref l, .int 0 0] }).get? b = some o → h₃.get? b = some o) → Q' builtinsNs { s₁ with heap := h₃, toks := tk₃ } → wpAny (model prog w) A (builtinsFor env.globals env.builtins) Q' E { s₁ with heap := h₃, toks := tk₃ })
    (helt : ∀ (C : Addr) (code : Value) (h₃ : Heap) (A' : Around) E' i v (t : Shared) m₂, s₁.heap.objs.size ≤ C → A'.handled = none → A'.depth ≤ A.depth + 1 → items[i]? = some v → Z h₃ → (∀ b o, b ≠ P → s₁.heap.get? b = some o → h₃.get? b = some o) →
      (∀ b o, b ≠ s₁.heap.objs.size → h₃.get? b = some o → t.heap.get? b = some o) → t.heap.Ns C m₂ → m₂ x = some v →
      wpAny (model prog w) A' (eval elt (genEnv scope [] C code builtinsNs env)) (fun y s₃ => F i y ∧ Keeps t s₃) E' t)
    (hQ : ∀ a s₅ fp wr g St h₃, Z h₃ → (∀ b o, b ≠ P → s₁.heap.get? b = some o → h₃.get? b = some o) → (∀ b o, h₃.get? b = some o → s₅.heap.get? b = some o) → (∃ h tk gs, s₅ = { s₁ with heap := h, toks := tk, gens := s₁.gens.push gs } ∧ gs.bare = true) →
      WalksS prog w A.in4 a fp wr (GenOnlyQ g) (passing (fun _ => true) items.size 0).length (fun j y => ∃ i, (passing (fun _ => true) items.size 0)[j]? = some i ∧ F i y) St → St 0 s₅ → (∀ i s', St i s' → s'.TypeIs (.ref a) "generator") → a ∈ fp → (∀ b ∈ fp, b < s₅.heap.objs.size) → (∀ b ∈ wr, s₁.heap.objs.size ≤ b) → g = s₁.gens.size → Q (.ref a) s₅)
    (h : wpAny (model prog w) A (eval iter env) (fun xv s' => xv = .ref l ∧ s' = s₁) E s) :
    wpAny (model prog w) A (eval (.GeneratorExp elt [⟨.Name x px, iter, [], 0⟩] scope pos) env) Q E s := by
  have hlt : l < s₁.heap.objs.size := by obtain ⟨_, e, _⟩ := hl; exact Heap.lt_size e
  refine wpAny_GeneratorExp_walksQD hh hco hclos hcell h0 hx hkind hroom (wpAny_mono h (fun xv s' h₁' => ?_) fun _ _ e => e) hs
  obtain ⟨rfl, rfl⟩ := h₁'
  refine wpAny_pyIter_list hl ⟨hlim.push _, hcode _ fun code h₃ tk₃ hk₃ hsz₃ hz => hbi h₃ tk₃ _ hk₃ ?_⟩
  have hk1 : ∀ b o, b ≠ P → s'.heap.get? b = some o → h₃.get? b = some o := fun b o hb e => hk₃ b o hb (Heap.get?_push_of_some _ e)
  have hszlt : s'.heap.objs.size < h₃.objs.size := by rw [Heap.size_push] at hsz₃; exact hsz₃
  refine ⟨s'.heap.objs.size, [s'.heap.objs.size, l], [s'.heap.objs.size], items.size, _, _, (fun _ => true), F, rfl, (fun A' hA => Walks.list hA _ _ (Nat.ne_of_lt hlt) items), ?_, ?_, ?_, ?_, ?_, ?_⟩
  · obtain ⟨o, e1, e2⟩ := hl
    exact ⟨⟨_, hk₃ _ _ (Nat.ne_of_gt hP) (Heap.get?_push_size _ rfl), rfl, rfl⟩, ⟨o, hk1 _ _ hlP e1, e2⟩⟩
  · intro b hb
    rcases List.mem_cons.mp hb with rfl | hb
    · exact hszlt
    · rw [List.mem_singleton.mp hb]; exact Nat.lt_trans hlt hszlt
  · exact hlim.at fun o e => hk1 _ _ hcP e
  · intro hm
    have e := List.mem_singleton.mp hm
    have : cStatics < s'.heap.objs.size := let ⟨_, hn, _⟩ := hlim; hn.lt
    rw [e] at this
    exact Nat.lt_irrefl _ this
  · intro href hhref
    refine ⟨fun A' E' i v t m₂ _ _ _ _ _ _ _ => wpAny_pure ⟨rfl, _, _, rfl, fun _ _ e => e⟩, fun A' E' i v t m₂ hA hD _ hP' _ hn hm hkp => ?_⟩
    exact helt _ code h₃ A' E' i v t m₂ (Nat.le_of_lt hszlt) hA hD hP' hz hk1 (fun b o hb e => hkp b (List.mem_range.mpr (Heap.lt_size e)) (fun hm => hb (List.mem_singleton.mp hm)) o (hhref b o e)) hn hm
  · intro a h₅ tk gs hgb hag hsz₅ hk₅ W hat
    refine hQ a _ _ _ _ _ h₃ hz hk1 hk₅ ⟨h₅, tk, gs, rfl, hgb⟩ W hat (fun i s' st => st.1.typeIs) (.head _) ?_ ?_ rfl
    · intro b hb
      show b < h₅.objs.size
      rw [hsz₅]
      rcases List.mem_cons.mp hb with rfl | hb
      · exact Nat.lt_succ_self _
      · rcases List.mem_cons.mp hb with rfl | hb
        · exact Nat.lt_succ_of_lt hag
        · exact Nat.lt_succ_of_lt (Nat.lt_trans (List.mem_range.mp hb) hag)
    · intro b hb
      rcases List.mem_cons.mp hb with rfl | hb
      · exact Nat.le_of_lt hszlt
      · rw [List.mem_singleton.mp hb]; exact Nat.le_refl _
end

end
end TX1
section TX2
section
variable {w : World} {p : Program} {loose : List Str} {mean : ExcName → Option Value} {mg mb : Str → Option Value}
  {dp un : Nat} {gd : Option (List Code)} {cn : Str} {cs : Scope} {a : Addr} {ccd : Value} {cl : List (Str × Addr)} {outer : List Env} {A₀ : Around} {base h₀ : Heap} {L : Addr} {m : Str → Option Value} {news ext : List (Addr × Obj)} {s : Shared} {Q E : Value → Shared → Prop}
theorem passing_all (n : Nat) : passing (fun _ => true) n 0 = List.range n := by
  unfold passing
  simp
section
variable {prog : Program} {A : Around}
theorem join_of {sep : Str} {t : Tok} {a : Addr} {fp wr : List Addr} {g n : Nat} {F : Nat → Value → Prop} {St : Nat → Shared → Prop} {tx : Nat → Str}
    (W : WalksS prog w A.in4 a fp wr (GenOnlyQ g) (passing (fun _ => true) n 0).length (fun j y => ∃ i, (passing (fun _ => true) n 0)[j]? = some i ∧ F i y) St) (hst : St 0 s) (hT : ∀ i s', St i s' → s'.TypeIs (.ref a) "generator") (ha : a ∈ fp) (hfp : ∀ b ∈ fp, b < s.heap.objs.size)
    (htx : ∀ j v, F j v → ∃ u, v = .str (tx j) u) (hok : JoinOk sep ((List.range n).map tx) = true) (hn : n ≤ sizeLine)
    (hQ : ∀ s' t' k, Moved wr (GenOnlyQ g) s s' → Q (.str (Txt.join sep ((List.range n).map tx)) t') { s' with toks := k }) :
    wpAny (model prog w) A (call (.builtin "str.join") [.str sep t, .ref a]) Q E s := by
  have hp := passing_all n
  have hlen : (passing (fun _ => true) n 0).length = n := by rw [hp]; simp
  have W := W.in4_2
  refine SC.joinGen W hT hst hfp ha (fun j v hv => let ⟨i, _, hf⟩ := hv; let ⟨u, e⟩ := htx i v hf; ⟨_, u, e⟩) (fun s' lt hm hacc => ?_) (by rw [hlen]; exact hn)
  have hl : lt.map (·.1) = (List.range n).map tx := by
    apply List.ext_getElem?
    intro j
    have hsz : lt.length = n := by
      have := hacc.1
      rw [hlen] at this
      simpa [strValues] using this
    by_cases hj : j < n
    · have hj' : j < lt.length := hsz ▸ hj
      obtain ⟨i, hi, hf⟩ := hacc.2 j (.str lt[j].1 lt[j].2) (by simp [strValues, List.getElem?_eq_getElem hj'])
      rw [hp, List.getElem?_range hj] at hi
      obtain rfl := Option.some.inj hi
      obtain ⟨u, hv⟩ := htx _ _ hf
      injection hv with h1 _
      simp [List.getElem?_eq_getElem hj', hj, h1]
    · rw [List.getElem?_eq_none (by simpa [hsz] using Nat.le_of_not_lt hj), List.getElem?_eq_none (by simpa using Nat.le_of_not_lt hj)]
  rw [hl]
  exact ⟨hok, fun t' k => hQ s' t' k hm⟩
end

end
end TX2
section TX4
section
variable {w : World} {p : Program} {loose : List Str} {mean : ExcName → Option Value} {mg mb : Str → Option Value}
  {dp un : Nat} {gd : Option (List Code)} {cn : Str} {cs : Scope} {a : Addr} {ccd : Value} {cl : List (Str × Addr)} {outer : List Env} {A₀ : Around} {base h₀ : Heap} {L : Addr} {m : Str → Option Value} {news ext : List (Addr × Obj)} {s : Shared} {Q E : Value → Shared → Prop}
noncomputable def quoteV (x : Str) : Str := if (x == Str.ofString "") = true then Str.ofString "''" else if safeS x = true then x else Str.ofString "'" ++ repQ x ++ Str.ofString "'"
theorem c_quote {A : Around} (hA : A.handled = none) (X : (hd0.heap_1 w.params).In s.heap) (T : Top p loose mean mg mb s.heap) (hroom : A.depth < recursionLimit) {x : Str} {t : Tok} (hl : x.length ≤ 1000000) (hrep : (Txt.replace x (Str.ofString "'") (Str.ofString "'\"'\"'")).length ≤ 15000000)
  (hret : ∀ (h' : Heap) (tk' : Nat) (t' : Tok), (∀ b o, s.heap.get? b = some o → h'.get? b = some o) → Q (.str (quoteV x) t') { s with heap := h', toks := tk' }) :
  wpAny (model PR w) A (call (.ref 773) [.str x t]) Q E s := by
  unfold quoteV at hret
  cases hx : (x == Str.ofString "") with
  | true =>
    rw [if_pos hx] at hret
    exact c_quote_empty hA X T hroom hx hret
  | false =>
    rw [if_neg (by rw [hx]; decide)] at hret
    cases hs : safeS x with
    | true =>
      rw [if_pos hs] at hret
      exact c_quote_safe hA X T hroom hx hl hs hret
    | false =>
      rw [if_neg (by rw [hs]; decide)] at hret
      exact c_quote_uns hA X T hroom hx hl hs hrep hret

end
end TX4
section TX5
section
variable {w : World} {p : Program} {loose : List Str} {mean : ExcName → Option Value} {mg mb : Str → Option Value}
  {dp un : Nat} {gd : Option (List Code)} {cn : Str} {cs : Scope} {a : Addr} {ccd : Value} {cl : List (Str × Addr)} {outer : List Env} {A₀ : Around} {base h₀ : Heap} {L : Addr} {m : Str → Option Value} {news ext : List (Addr × Obj)} {s : Shared} {Q E : Value → Shared → Prop}
theorem name_gen {M : Model} {A : Around} {K : Frag} {env : Env} {x : Str} {pos : Pos} {v : Value} {Q : Value → Shared → Prop} (X : K.In s.heap) (T : Top p loose mean mg mb s.heap)
    (e : nsIn K mainGlobals x = some (some v)) (h : Q v s) (hg : env.globals = mainGlobals) (hk : env.scope.kind = .function) (hx : env.kindOf x = some .globalImplicit) (hd : (x == ("__debug__" : Str)) = false) :
    wpAny M A (eval (.Name x pos) env) Q E s :=
  Calls.Name_function_global hk hx (Calls.loadGlobal_global (env := env) (by rw [hg]; exact T.g) (mg_of X T.g e) h) hd
theorem quoteV_eq (x : Str) : (quoteV x).cps.toList = quoteL x.cps.toList := by
  have hn : ∀ y : Str, (y == Str.ofString "") = true ↔ y.cps.toList = [] := fun y => by
    rw [beq_iff_eq]
    constructor
    · rintro rfl; rfl
    · intro h
      have : y.cps = #[] := by rw [← Array.toArray_toList (xs := y.cps), h]
      cases y; cases this; rfl
  unfold quoteV quoteL
  by_cases h : (x == Str.ofString "") = true
  · rw [if_pos h, if_pos ((hn x).mp h)]; decide +kernel
  · rw [if_neg h, if_neg (fun e => h ((hn x).mpr e))]
    by_cases hs : safeS x = true
    · rw [if_pos hs, if_pos (show x.cps.toList.all safeC = true from hs)]
    · rw [if_neg hs, if_neg (show ¬ x.cps.toList.all safeC = true from hs)]
      simp only [Str.cps_append, Array.toList_append, rep_eq]
      rfl
theorem joinOk_of {xs : List Str} (hl : xs.length ≤ 1000) (hb : ∀ x ∈ xs, x.length ≤ 15000) : JoinOk (Str.ofString " ") xs = true := by
  have e1 : (Str.ofString " ").length = 1 := by decide +kernel
  unfold JoinOk
  rw [StrLaws.joinFits hb (by rw [e1]; omega)]
  rfl
theorem strs_get {vs : List Value} {xs : List Str} (h : StrsAre vs xs) : vs.length = xs.length ∧ ∀ (i : Nat) (v : Value), vs[i]? = some v → ∃ x u, xs[i]? = some x ∧ v = Value.str x u := by
  induction h with
  | nil => exact ⟨rfl, fun i v h => by simp at h⟩
  | cons y t h ih =>
    obtain ⟨h1, h2⟩ := ih
    refine ⟨by rw [List.length_cons, List.length_cons, h1], fun i v e => ?_⟩
    cases i with
    | zero => exact ⟨y, t, rfl, by simpa using e.symm⟩
    | succ i => simpa using h2 i v (by simpa using e)
noncomputable def joinS (xs : List Str) : Str := Str.join (Str.ofString " ") (xs.map quoteV)
theorem quoteV_len {x : Str} (h : x.length ≤ 2000) : (quoteV x).length ≤ 15000 := by
  have h1 := quoteL_len x.cps.toList
  rw [← quoteV_eq] at h1
  have e : ∀ y : Str, y.cps.toList.length = y.length := fun y => by simp [Str.length]
  rw [e, e] at h1
  omega
theorem rep_len {x : Str} (h : x.length ≤ 2000) : (repQ x).length ≤ 15000000 := by
  have h1 := repL_len x.cps.toList
  rw [← rep_eq] at h1
  have e : ∀ y : Str, y.cps.toList.length = y.length := fun y => by simp [Str.length]
  rw [e, e] at h1
  show (Txt.replace x _ _).length ≤ _
  omega
local macro_rules | `(tactic| walk_at "eval GeneratorExp") => `(tactic| (k_dflt (refine MyStop.out ?_)))
local macro_rules | `(tactic| walk_at "my enter0") => `(tactic| (k_dflt (refine' code_def0 ?k3 ?k5 ?k6 ?k7 ?k8 ?k9 ?kB ?_ ?c2 ?c3 ?c4 ?c5; (case k3 => assumption); (case k5 => assumption); (case k6 => k_is); (case k7 => k_is); (case k8 => assumption); (case k9 => exact BindsTo.of_eq rfl); (case c5 => decide); (case kB => exact locs rfl); (case c2 => exact rfl); (case c3 => exact rfl); (case c4 => exact rfl); k_whole; intro g' L' h' eg F' N' X' T'; (try dsimp only))))
theorem with_fr {α : Type} {M : Model} {A : Around} {t : Sem α} {Q : α → Shared → Prop} {E : Value → Shared → Prop} {s : Shared} {g : Heap} {L : Addr} {m : Str → Option Value} (F : Fr g L s.heap m) (h : ∀ S, Fr g L S.heap m → S.gens = s.gens → S.drawn = s.drawn → S.os = s.os → wpAny M A t Q E S) : wpAny M A t Q E s := h s F rfl rfl rfl
theorem range_map {n : Nat} {xs : List Str} (hn : n = xs.length) : (List.range n).map (fun i => quoteV (xs.getD i (Str.ofString ""))) = xs.map quoteV := by
  subst hn
  apply List.ext_getElem?
  intro j
  by_cases hj : j < xs.length
  · simp [hj]
  · rw [List.getElem?_eq_none (by simpa using Nat.le_of_not_lt hj), List.getElem?_eq_none (by simpa using Nat.le_of_not_lt hj)]
set_option maxRecDepth 100000 in
theorem quote_elt {A' : Around} {E' : Value → Shared → Prop} {env : Env} {scope : Scope} {C : Addr} {code : Value} {t : Shared} {m₂ : Str → Option Value} {x : Str} {u : Tok} {p1 p2 p3 : Pos} {Q' : Value → Shared → Prop} (hA : A'.handled = none) (hroom : A'.depth < recursionLimit)
  (X : (hd0.heap_1 w.params).In t.heap) (T : Top p loose mean mg mb t.heap) (hn : t.heap.Ns C m₂) (hm : m₂ (Str.ofString "arg") = some (.str x u)) (hg : env.globals = mainGlobals) (hk : scope.kind = .function)
  (hx1 : scope.names.lookup (Str.ofString "quote") = some .globalImplicit) (hx2 : scope.names.lookup (Str.ofString "arg") = some .local) (hl : x.length ≤ 2000)
  (h : ∀ (h' : Heap) (tk' : Nat) (t' : Tok), (∀ b o, t.heap.get? b = some o → h'.get? b = some o) → Q' (.str (quoteV x) t') { t with heap := h', toks := tk' }) :
  wpAny (model PR w) A' (eval (.Call (.Name (Str.ofString "quote") p1) [.Name (Str.ofString "arg") p2] [] p3) (genEnv scope [] C code builtinsNs env)) Q' E' t := by
  refine wpAny_Call_NameR (name_gen (K := hd0.heap_1 w.params) (v := .ref 773) X T (by k_is) ?_ hg hk hx1 (by decide))
  obtain ⟨o, fd, ho, hd⟩ : ∃ o fd, t.heap.get? 773 = some o ∧ o.data = .func fd := ⟨_, _, X 773 _ rfl, rfl⟩
  refine callWith_def (o := o) (fd := fd) hd ?_
  refine args_cons (wpAny_Name ?_ (by decide))
  refine wpAny_loadName_local (env := genEnv scope [] C code builtinsNs env) hk hx2 hn hm ?_
  refine args_nil ⟨ho, ?_⟩
  exact c_quote hA X T hroom (by omega) (rep_len hl) h
set_option maxRecDepth 100000 in
set_option maxHeartbeats 0 in
theorem c_join_raw {A : Around} (hA : A.handled = none) (X : (hd0.heap_1 w.params).In s.heap) (T : Top p loose mean mg mb s.heap) (hroom : A.depth + 5 < recursionLimit)
  (hX9 : ∀ h, (∀ b o, b ≠ 760 → s.heap.get? b = some o → h.get? b = some o) → (hd0.heap_1 w.params).In h) (hT9 : ∀ h, (∀ b o, b ≠ 760 → s.heap.get? b = some o → h.get? b = some o) → Top p loose mean mg mb h)
  {l : Addr} {items : Array Value} {xs : List Str} (hl : s.heap.IsList l items) (hs : StrsAre items.toList xs) (hlP : l ≠ 760) (hP : 760 < s.heap.objs.size) (hxl : xs.length ≤ 1000) (hxb : ∀ x ∈ xs, x.length ≤ 2000)
  {Z : Heap → Prop}
  (hcode : ∀ (A' : Around) (env : Env) (pos : Pos) (qual : Str) (scope : Scope) (s₃ : Shared) (E' Q' : Value → Shared → Prop), pos.line = 739 → pos.col = 20 → env.code = .ref 764 → (∀ b o, s.heap.get? b = some o → s₃.heap.get? b = some o) →
    (∀ code h₃ tk₃, (∀ b o, b ≠ 760 → s₃.heap.get? b = some o → h₃.get? b = some o) → s₃.heap.objs.size ≤ h₃.objs.size → Z h₃ → Q' code { s₃ with heap := h₃, toks := tk₃ }) → wpAny (model PR w) A' (genexprCode env pos qual scope) Q' E' s₃)
  (hret : ∀ h' tk gs t' h₃, Z h₃ → (∀ b o, b ≠ 760 → s.heap.get? b = some o → h'.get? b = some o) → (∀ b o, b < s.heap.objs.size → h₃.get? b = some o → h'.get? b = some o) → (AllBare s.gens → AllBare gs) → Q (.str (joinS xs) t') { s with heap := h', toks := tk, gens := gs }) :
  wpAny (model PR w) A (call (.ref 765) [.ref l]) Q E s := by
  have hroom9 : A.depth < recursionLimit := by omega
  obtain ⟨hlen, hget⟩ := strs_get hs
  have hlen : items.size = xs.length := by simpa using hlen
  refine wpAny_call ?_
  walk_at "my enter0"
  k_steps
  all_goals (
    refine MyStop.intro ?_
    rename Fr _ _ _ (fun _ => _) => FF
    rename _ = _ => eg
    subst eg)
  generalize hm0 : (fun y => List.lookup y _ : Str → Option Value) = m0 at FF
  have hsc : m0 (Str.ofString "split_command") = some (.ref l) := by rw [← hm0]; rfl
  clear hm0
  refine with_fr FF fun S FS eg ed eo => ?_
  replace eg : S.gens = s.gens := eg
  replace ed : S.drawn = s.drawn := ed
  replace eo : S.os = s.os := eo
  clear FF
  have hszS : s.heap.objs.size ≤ S.heap.objs.size := Nat.le_of_lt (Nat.lt_of_le_of_lt FS.above FS.ns.lt)
  refine' gen_list (prog := PR) (s₁ := S) (P := 760) (F := fun i v => ∃ u, v = .str (quoteV (xs.getD i (Str.ofString ""))) u) (Z := Z) (items := items) (l := l) ?hh rfl rfl ?hcell rfl rfl rfl ?hroom (fun _ => rfl) ?hl hlP ?hlim (by decide) ?hP ?hcode ?hbi ?helt ?hQ ?h
  case h => exact ld FS hsc ⟨rfl, rfl⟩
  case hh => exact hA
  case hcell => decide
  case hroom => simp only [depth_deeper]; omega
  case hl => exact hl.at fun o e => FS.keep _ o e
  case hlim => exact T.nolimit.keeps FS.keep
  case hP => exact Nat.lt_of_lt_of_le hP hszS
  case hcode =>
    intro Q' hq
    refine hcode _ _ _ _ _ _ _ _ rfl rfl rfl (fun b o e => Heap.get?_push_of_some _ (FS.keep b o e)) hq
  case hbi =>
    intro h₃ tk₃ Q' hk hq
    have T3 := hT9 h₃ fun b o hb e => hk b o hb (Heap.get?_push_of_some _ (FS.keep b o e))
    obtain ⟨bm, ob, b1, b2, b3, b4, b5, b6⟩ := T3.bmain
    exact wpAny_builtinsFor T3.g b1 b2 b3 b4 b5 b6 hq
  case helt =>
    intro C code h₃ A' E' i v t m₂ hC hA' hD hv hz hk hk2 hn hm
    have hkt : ∀ b o, b ≠ 760 → s.heap.get? b = some o → t.heap.get? b = some o := fun b o hb e => hk2 b o (Nat.ne_of_lt (Nat.lt_of_lt_of_le (Heap.lt_size e) hszS)) (hk b o hb (FS.keep b o e))
    obtain ⟨x, u, hx, rfl⟩ := hget i v (by simpa using hv)
    have hgd : xs.getD i (Str.ofString "") = x := by rw [List.getD_eq_getElem?_getD, hx]; rfl
    refine quote_elt hA' ?_ (hX9 _ hkt) (hT9 _ hkt) hn hm rfl rfl rfl rfl (hxb x (List.mem_of_getElem? hx)) fun h' tk' t' hk' => ⟨⟨t', by rw [hgd]⟩, h', tk', rfl, hk'⟩
    have : A'.depth ≤ A.depth + 1 + 1 := hD
    omega
  case hQ =>
    intro a s₅ fp wr g St h₃ hz hk hk3 hs5 W hst hT ha hfp hwr hg
    obtain ⟨h5, tk5, gs5, rfl, hb5⟩ := hs5
    refine args_nil ?_
    refine join_of W hst hT ha hfp (fun j v hv => hv) ?_ ?_ fun s' t' k hm => ?_
    · rw [range_map hlen]
      exact joinOk_of (by simpa using hxl) fun y hy => by
        obtain ⟨x, hx, rfl⟩ := List.mem_map.mp hy
        exact quoteV_len (hxb x hx)
    · rw [hlen]; exact Nat.le_trans hxl (by decide)
    · rw [range_map hlen, show Txt.join (Str.ofString " ") (xs.map quoteV) = joinS xs from StrLaws.glued_eq_join _ _]
      obtain ⟨h9, g9, d9, k9, o9⟩ := s'
      have e1 : d9 = S.drawn := hm.drawn
      have e2 : o9 = S.os := hm.os
      subst e1 e2
      have hkk : ∀ b o, b < s.heap.objs.size → h₃.get? b = some o → h9.get? b = some o := fun b o hb e => hm.heap b o (fun hw => Nat.lt_irrefl _ (Nat.lt_of_lt_of_le (Nat.lt_of_lt_of_le hb hszS) (hwr b hw))) (hk3 b o e)
      have fin := hret h9 k g9 t' h₃ hz (fun b o hb e => hkk b o (Heap.lt_size e) (hk b o hb (FS.keep b o e))) hkk (fun hbare => (AllBare.push (eg ▸ hbare) hb5).moved (by rw [hg] at hm; exact hm.gens))
      rw [← ed, ← eo] at fin
      exact fin

end
end TX5
section TY1
section
variable {w : World} {p : Program} {loose : List Str} {mean : ExcName → Option Value} {mg mb : Str → Option Value}
  {dp un : Nat} {gd : Option (List Code)} {cn : Str} {cs : Scope} {a : Addr} {ccd : Value} {cl : List (Str × Addr)} {outer : List Env} {A₀ : Around} {base h₀ : Heap} {L : Addr} {m : Str → Option Value} {news ext : List (Addr × Obj)} {s : Shared} {Q E : Value → Shared → Prop}
noncomputable abbrev bareP : Program := { PR with main := { PR.main with body := [.ImportFrom (some "sys") [] none default] } }
noncomputable abbrev moreL (p : Program) (loose : List Str) : List Str := loose ++ (recsOf p).map (·.name) ++ (litsOf p).map (·.1) ++ (clssOf p loose).map (·.name)
theorem bare_start {h : Heap} (T : Top p loose mean mg mb h) : Top bareP (moreL p loose) mean mg mb h where
  g := T.g
  b := T.b
  nolimit := T.nolimit
  nodigits := T.nodigits
  fn := fun d hd => nomatch hd
  own := fun o ho => nomatch ho
  const := fun x d hv => nomatch hv
  free := fun x h1 h2 _ _ _ => T.free x h1 (fun e => h2 (by simp [moreL, e])) (fun e => h2 (by rw [moreL]; simp only [List.mem_append]; exact .inl (.inl (.inr e)))) (fun e => h2 (by rw [moreL]; simp only [List.mem_append]; exact .inl (.inr e))) (fun e => h2 (by rw [moreL]; simp only [List.mem_append]; exact .inr e))
  builtins := T.builtins
  tab := fun d hd => nomatch hd
  bmain := T.bmain
  seer := fun hi => by cases (show false = true from hi)
noncomputable def ButK (P : Addr) (h h' : Heap) : Prop := ∀ b o, b ≠ P → h.get? b = some o → h'.get? b = some o
theorem ns_but {h h' : Heap} {P a : Addr} {m : Str → Option Value} (hk : ButK P h h') (ha : a ≠ P) (x : h.Ns a m) : h'.Ns a m := x.at' fun o e => hk a o ha e
theorem bare_but {h h' : Heap} {ps : Array Value} (T : Top bareP loose mean mg mb h) (hp : h.get? 760 = some { cls := .none, data := .fields ps }) (hk : ButK 760 h h') : Top bareP loose mean mg mb h' where
  g := ns_but hk (by decide) T.g
  b := ns_but hk (by decide) T.b
  nolimit := let ⟨mc, h1, h2⟩ := T.nolimit; ⟨mc, ns_but hk (by decide) h1, h2⟩
  nodigits := let ⟨mc, h1, h2⟩ := T.nodigits; ⟨mc, ns_but hk (by decide) h1, h2⟩
  fn := fun d hd => nomatch hd
  own := fun o ho => nomatch ho
  const := fun x d hv => nomatch hv
  free := T.free
  builtins := T.builtins
  tab := fun d hd => nomatch hd
  bmain := let ⟨bm, ob, h1, h2, h3, h4, r⟩ := T.bmain; ⟨bm, ob, h1, h2, hk _ _ (fun e => by subst e; rw [hp] at h3; cases h3; cases h4) h3, h4, r⟩
  seer := fun hi => by cases (show false = true from hi)
set_option maxRecDepth 100000 in
theorem no760 (P : Params) : (hd0.heap_1 P).lookup 760 = none := by rfl
theorem in_but {P : Params} {h h' : Heap} (X : (hd0.heap_1 P).In h) (hk : ButK 760 h h') : (hd0.heap_1 P).In h' := fun a o e => hk a o (fun q => by rw [q, no760] at e; cases e) (X a o e)
theorem code_some {h : Heap} {c P : Addr} {ps : Array Value} (x : h.IsCode c P ps) : ∃ o, h.get? c = some o := let ⟨o, _, _, _, _, _, _, _, _, _, e, _⟩ := x; ⟨o, e⟩
theorem code_move {h h' : Heap} {c P : Addr} {ps : Array Value} (hc : ∀ o, h.get? c = some o → h'.get? c = some o) (hP : ∀ o, h.get? P = some o → h'.get? P = some o) (x : h.IsCode c P ps) : h'.IsCode c P ps :=
  let ⟨o, vs, file, tf, flags, tg, inF, text, tt, op, a, r1, r2, r3, r4, r5, r6, b, r⟩ := x
  ⟨o, vs, file, tf, flags, tg, inF, text, tt, op, hc _ a, r1, r2, r3, r4, r5, r6, hP _ b, r⟩
theorem tab_move {h h' : Heap} {c P : Addr} {ps : Array Value} (hc : ∀ o, h.get? c = some o → h'.get? c = some o) (hP : ∀ o, h.get? P = some o → h'.get? P = some o) (x : h.TableAt c P ps) : h'.TableAt c P ps :=
  let ⟨⟨o, vs, a, r⟩, t⟩ := x; ⟨⟨o, vs, hc _ a, r⟩, hP _ t⟩
noncomputable def Coded (h : Heap) : Prop := ∃ ps c', h.IsCode 764 760 ps ∧ h.TableAt 764 760 ps ∧ ∀ pos : Pos, pos.line = 739 → pos.col = 20 → codeAmong pos ps.toList = some c'
theorem strs_list {h₀ : Heap} {l : Addr} {vs : Array Value} {n : Nat} (N : News h₀ L s.heap news) (hl : (l, listOf vs n) ∈ news) : s.heap.IsList l vs := ⟨_, (N _ hl).1, rfl, n, rfl⟩
theorem c_join_hit {A : Around} (hA : A.handled = none) (F : Fr h₀ L s.heap m) (X : (hd0.heap_1 w.params).In h₀) (N : News h₀ L s.heap news) (T : Top bareP loose mean mg mb h₀) (C : Coded h₀) (hroom : A.depth + 5 < recursionLimit)
  {l : Addr} {vs : Array Value} {n : Nat} {xs : List Str} (hl : (l, listOf vs n) ∈ news) (hs : StrsAre vs.toList xs) (hxl : xs.length ≤ 1000) (hxb : ∀ x ∈ xs, x.length ≤ 2000)
  (hret : ∀ h' tk gs t', Fr h₀ L h' m → News h₀ L h' news → (AllBare s.gens → AllBare gs) → Q (.str (joinS xs) t') { s with heap := h', toks := tk, gens := gs }) :
  wpAny (model PR w) A (call (.ref 765) [.ref l]) Q E s := by
  obtain ⟨ps, c', hc, ht, hf⟩ := C
  have hc1 := hc.keeps F.keep
  have ht1 := ht.keeps F.keep
  have hl760 : l ≠ 760 := fun e => by
    have := (N _ hl).2.2
    rw [show (l, listOf vs n).1 = 760 from e, ht.2] at this; cases this
  refine c_join_raw hA (X.keeps F.keep) (T.keeps F.keep) hroom (fun h hk => in_but (X.keeps F.keep) hk) (fun h hk => bare_but (T.keeps F.keep) ht1.2 hk) (strs_list N hl) hs hl760 (Heap.lt_size ht1.2) hxl hxb
    (Z := fun h₃ => ∀ b o, s.heap.get? b = some o → h₃.get? b = some o) ?_ ?_
  · intro A' env pos qual scope s₃ E' Q' h1 h2 he hk hq
    exact wpAny_genexprCode_hit he (hc1.keeps hk) (hf pos h1 h2) (hq _ s₃.heap s₃.toks (fun b o _ e => e) (Nat.le_refl _) hk)
  · intro h' tk gs t' h₃ hz _ hk hg
    have hk' : ∀ b o, s.heap.get? b = some o → h'.get? b = some o := fun b o e => hk b o (Heap.lt_size e) (hz b o e)
    exact hret h' tk gs t' (F.keeps hk') (N.grown hk') hg
theorem c_join_miss {A : Around} (hA : A.handled = none) (F : Fr h₀ L s.heap m) (X : (hd0.heap_1 w.params).In h₀) (N : News h₀ L s.heap news) (T : Top bareP loose mean mg mb h₀) {h₁ : Heap} (B : Based h₁ h₀ 764 760 #[]) (hroom : A.depth + 5 < recursionLimit)
  {l : Addr} {vs : Array Value} {n : Nat} {xs : List Str} (hl : (l, listOf vs n) ∈ news) (hs : StrsAre vs.toList xs) (hxl : xs.length ≤ 1000) (hxb : ∀ x ∈ xs, x.length ≤ 2000)
  (hret : ∀ h₂ ps h' tk gs t', Fr h₂ L h' m → News h₂ L h' news → (hd0.heap_1 w.params).In h₂ → Top bareP loose mean mg mb h₂ → Based h₁ h₂ 764 760 ps → Coded h₂ → (AllBare s.gens → AllBare gs) → Q (.str (joinS xs) t') { s with heap := h', toks := tk, gens := gs }) :
  wpAny (model PR w) A (call (.ref 765) [.ref l]) Q E s := by
  have hc1 := B.code.keeps F.keep
  have ht1 := B.tab.keeps F.keep
  have hl760 : l ≠ 760 := fun e => by
    have := (N _ hl).2.2
    rw [show (l, listOf vs n).1 = 760 from e, B.tab.2] at this; cases this
  have lt764 : 764 < s.heap.objs.size := by obtain ⟨o, e⟩ := code_some hc1; exact Heap.lt_size e
  have lt760 : 760 < s.heap.objs.size := Heap.lt_size ht1.2
  refine c_join_raw hA (X.keeps F.keep) (T.keeps F.keep) hroom (fun h hk => in_but (X.keeps F.keep) hk) (fun h hk => bare_but (T.keeps F.keep) ht1.2 hk) (strs_list N hl) hs hl760 lt760 hxl hxb
    (Z := fun h₃ => ∃ c', h₃.IsCode 764 760 (#[] ++ #[rawInt 739, rawInt 20, .ref c']) ∧ h₃.TableAt 764 760 (#[] ++ #[rawInt 739, rawInt 20, .ref c'])) ?_ ?_
  · intro A' env pos qual scope s₃ E' Q' h1 h2 he hk hq
    refine wpAny_genexprCodeX he (hc1.keeps hk) (ht1.keeps hk) rfl fun c' h' tk hx hge hlt hcode _ htab _ => ?_
    rw [h1, h2] at hcode htab
    exact hq _ h' tk (fun b o hb e => hx b o hb e) (Nat.le_trans hge (Nat.le_of_lt hlt)) ⟨c', hcode, htab⟩
  · intro h' tk gs t' h₃ hz hb hk hg
    obtain ⟨c', hcode, htab⟩ := hz
    have hcode' := code_move (fun o e => hk _ o lt764 e) (fun o e => hk _ o lt760 e) hcode
    have htab' := tab_move (fun o e => hk _ o lt764 e) (fun o e => hk _ o lt760 e) htab
    obtain ⟨B2, F2⟩ := B.grow F (fun b o hb' e => hb b o hb' e) hcode' htab'
    have hup : ButK 760 h₀ (regrown h₀ 760 (#[] ++ #[rawInt 739, rawInt 20, .ref c'])) := fun b o hb' e => (Heap.get?_update_other _ _ (Ne.symm hb')).trans e
    refine hret _ _ h' tk gs t' F2 (fun q hq => ?_) (in_but X hup) (bare_but T B.tab.2 hup) B2 ⟨_, .ref c', B2.code, B2.tab, fun pos h1 h2 => ?_⟩ hg
    · obtain ⟨q1, q2, q3⟩ := N q hq
      have hne : q.1 ≠ 760 := fun e => by rw [e, B.tab.2] at q3; cases q3
      exact ⟨hb _ _ hne q1, q2, (Heap.get?_update_other _ _ (Ne.symm hne)).trans q3⟩
    · show codeAmong pos [.int 739 _, .int 20 _, .ref c'] = some (.ref c')
      unfold codeAmong
      rw [h1, h2]
      rfl

end
end TY1
section TY2
section
variable {w : World} {p : Program} {loose : List Str} {mean : ExcName → Option Value} {mg mb : Str → Option Value}
  {dp un : Nat} {gd : Option (List Code)} {cn : Str} {cs : Scope} {a : Addr} {ccd : Value} {cl : List (Str × Addr)} {outer : List Env} {A₀ : Around} {base h₀ : Heap} {L : Addr} {m : Str → Option Value} {news ext : List (Addr × Obj)} {s : Shared} {Q E : Value → Shared → Prop}
inductive PartsAre (news : List (Addr × Obj)) : List Value → List Prt → Prop
  | nil : PartsAre news [] []
  | cons {a : Addr} {i k n : Nat} {mid : Str} {t u v : Tok} {vs : List Value} {ps : List Prt} (h : (a, listOf (partVs i mid k t u v) n) ∈ news) (r : PartsAre news vs ps) : PartsAre news (.ref a :: vs) ((i, mid, k) :: ps)
theorem eq_nil_t {A : Around} {l D : Addr} {n n' : Nat} {Q : Value → Shared → Prop} (N : News h₀ L s.heap news) (hl : (l, listOf #[] n) ∈ news) (hD : (D, listOf #[] n') ∈ news) (hu : A.units < cLine) (h : Q (.bool true) s) :
    wpAny (model PR w) A (compareOp .Eq (.ref l) (.ref D)) Q E s :=
  SeqAt.eq_listAt (e := fun _ => true) (News.isList N hl) (News.isList N hD) rfl hu (fun j h1 _ => by cases h1) h
theorem eq_nil_f {A : Around} {l D : Addr} {n n' : Nat} {vs : Array Value} {Q : Value → Shared → Prop} (N : News h₀ L s.heap news) (hl : (l, listOf vs n) ∈ news) (hD : (D, listOf #[] n') ∈ news) (hv : 0 < vs.size) (hu : A.units < cLine) (h : Q (.bool false) s) :
    wpAny (model PR w) A (compareOp .Eq (.ref l) (.ref D)) Q E s :=
  SeqAt.eq_list_lengthsAt (News.isList N hl) (News.isList N hD) (by simp; intro e; simp [e] at hv) hu h
theorem mem_hd {α : Type} {x : α} {l : List α} : x ∈ x :: l := .head _
theorem mem_tl {α : Type} {x y : α} {l : List α} (h : x ∈ l) : x ∈ y :: l := .tail _ h
local macro_rules | `(tactic| k_mem) => `(tactic| (first | with_reducible exact mem_hd | with_reducible assumption | (with_reducible refine mem_tl ?_; k_mem)))
local macro_rules | `(tactic| is_list) => `(tactic| exact News.isList (by k_asm) (by k_mem))
local macro_rules | `(tactic| walk_at "compareOp Eq ref ref") => `(tactic| (k_here; k_dflt (first
  | (refine' eq_nil_t ?k1 ?k2 ?k3 ?k4 ?_; (case k1 => k_asm); (case k2 => k_mem); (case k3 => k_mem); (case k4 => (simp only [units_deeper]; (try dsimp only [ktrTop]); omega)); k_whole)
  | (refine' eq_nil_f ?k1 ?k2 ?k3 ?k5 ?k4 ?_; (case k1 => k_asm); (case k2 => k_mem); (case k3 => k_mem); (case k4 => (simp only [units_deeper]; (try dsimp only [ktrTop]); omega)); (case k5 => first | assumption | decide); k_whole))))
local macro_rules | `(tactic| walk_at "exec If") => `(tactic| (k_dflt (refine wpAny_If ?_)))
local macro_rules | `(tactic| walk_at "ite") => `(tactic| (first | with_reducible refine ite_tt ?_ | with_reducible refine ite_ff ?_ | with_reducible refine ite_nt ?_ | with_reducible refine ite_nf ?_))
set_option maxRecDepth 100000 in
set_option maxHeartbeats 0 in
theorem c_due_line0 (B : Below A₀ base outer h₀) (F : Fr h₀ L s.heap m) (X : (hd0.heap_1 w.params).In h₀) (N : News h₀ L s.heap news) (T : Top p loose mean mg mb h₀) (hk : cs.kind = .function)
  {l : Addr} {n : Nat} (hl : (l, listOf #[] n) ∈ news) (hdp : dp + 20 < recursionLimit) (hun : un + 100 < cLine)
  (hret : ∀ (D : Addr) (c : Nat) (h' : Heap) (tk' : Nat), Fr h₀ L h' m → News h₀ L h' ((D, listOf #[.bool false, .bool false] c) :: news) → (∀ p ∈ news, p.1 < D) → Q (.ref D) { s with heap := h', toks := tk' }) :
  wpAny (model PR w) (ktrTop dp un gd cn cs L a ccd cl outer) (call (.ref 815) [.ref l]) Q E s := by
  refine wpAny_call ?_
  walk_at "my enter"
  k_steps
  rename Fr _ _ _ m => FF
  rename News _ _ _ ((_, listOf #[_, _] _) :: _) => NN
  exact hret _ _ _ _ FF (cb_drop NN mem_skip1) (by first | assumption | exact allLt_lt (by assumption) | exact allLt_lt (And.right (by assumption)))

end
end TY2
section TY3
section
variable {w : World} {p : Program} {loose : List Str} {mean : ExcName → Option Value} {mg mb : Str → Option Value}
  {dp un : Nat} {gd : Option (List Code)} {cn : Str} {cs : Scope} {a : Addr} {ccd : Value} {cl : List (Str × Addr)} {outer : List Env} {A₀ : Around} {base h₀ : Heap} {L : Addr} {m : Str → Option Value} {news ext : List (Addr × Obj)} {s : Shared} {Q E : Value → Shared → Prop}
local macro_rules | `(tactic| k_mem) => `(tactic| (first | with_reducible exact mem_hd | with_reducible assumption | (with_reducible refine mem_tl ?_; k_mem)))
local macro_rules | `(tactic| is_list) => `(tactic| exact News.isList (by k_asm) (by k_mem))
local macro_rules | `(tactic| walk_at "compareOp Eq ref ref") => `(tactic| (k_here; k_dflt (first
  | (refine' eq_nil_t ?k1 ?k2 ?k3 ?k4 ?_; (case k1 => k_asm); (case k2 => k_mem); (case k3 => k_mem); (case k4 => (simp only [units_deeper]; (try dsimp only [ktrTop]); omega)); k_whole)
  | (refine' eq_nil_f ?k1 ?k2 ?k3 ?k5 ?k4 ?_; (case k1 => k_asm); (case k2 => k_mem); (case k3 => k_mem); (case k4 => (simp only [units_deeper]; (try dsimp only [ktrTop]); omega)); (case k5 => first | assumption | decide); k_whole))))
local macro_rules | `(tactic| walk_at "exec If") => `(tactic| (k_dflt (refine wpAny_If ?_)))
local macro_rules | `(tactic| walk_at "ite") => `(tactic| (first | with_reducible refine ite_tt ?_ | with_reducible refine ite_ff ?_ | with_reducible refine ite_nt ?_ | with_reducible refine ite_nf ?_))
theorem it_pos {A : Around} {value slice : Expr} {l : Addr} {n : Nat} {vs : Array Value} {k : Int} {u : Tok} {x : Value} {Q : Value → Shared → Prop} (N : News h₀ L s.heap news) (hl : (l, listOf vs n) ∈ news)
    (hx : vs[k.toNat]? = some x) (h0 : 0 ≤ k) (hfit : k < 2 ^ 63) (h : Q x s)
    (hs : subscripted slice false (.ref l) (.int k u) = operate [.ref l, .int k u] (getItem (.ref l) (.int k u))) :
    wpAny (model PR w) A (subscriptTail value slice (.ref l) (.int k u)) Q E s := item_listR (News.isList N hl) h0 hfit hx h hs
theorem it_last {A : Around} {value slice : Expr} {l : Addr} {n : Nat} {vs : Array Value} {u : Tok} {x : Value} {Q : Value → Shared → Prop} (N : News h₀ L s.heap news) (hl : (l, listOf vs n) ∈ news)
    (hx : vs[vs.size - 1]? = some x) (h : Q x s)
    (hs : subscripted slice false (.ref l) (.int (-1) u) = operate [.ref l, .int (-1) u] (getItem (.ref l) (.int (-1) u))) :
    wpAny (model PR w) A (subscriptTail value slice (.ref l) (.int (-1) u)) Q E s := by
  have hlt : vs.size - 1 < vs.size := by
    rcases Nat.lt_or_ge (vs.size - 1) vs.size with h | h
    · exact h
    · rw [Array.getElem?_eq_none h] at hx; cases hx
  have hn : ((-1 : Int) + vs.size).toNat = vs.size - 1 := by omega
  exact tail_any (News.isList N hl).typeIs slot_list_getitem.lookup (wpAny_getItem_list_neg (News.isList N hl) (by decide) (by omega) (by decide) (by rw [hn]; exact hx) h) hs
theorem pick20 {x y : Value} : (#[x, y] : Array Value)[(0 : Int).toNat]? = some x := rfl
theorem pick21 {x y : Value} : (#[x, y] : Array Value)[(1 : Int).toNat]? = some y := rfl
theorem pick30 {x y z : Value} : (#[x, y, z] : Array Value)[(0 : Int).toNat]? = some x := rfl
theorem pick31 {x y z : Value} : (#[x, y, z] : Array Value)[(1 : Int).toNat]? = some y := rfl
theorem pick32 {x y z : Value} : (#[x, y, z] : Array Value)[(2 : Int).toNat]? = some z := rfl
theorem len_gen {A : Around} {l : Addr} {n : Nat} {vs : Array Value} {Q : Value → Shared → Prop} (N : News h₀ L s.heap news) (hl : (l, listOf vs n) ∈ news) (hsz : vs.size ≤ 1000) (h : ∀ t k, Q (.int (vs.size : Int) t) { s with toks := k }) :
    wpAny (model PR w) A (call (.builtin "len") [.ref l]) Q E s := call_len_list (News.isList N hl) (by omega) (h _ _)
theorem eq_int_known {A : Around} {x y : Int} {t u : Tok} {b : Bool} {Q : Value → Shared → Prop} (e : (x == y) = b) (h : Q (.bool b) s) : wpAny (model PR w) A (compareOp .Eq (.int x t) (.int y u)) Q E s := wpAny_eq_int (by rw [e]; exact h)
theorem eq_str_known {A : Around} {x y : Str} {t u : Tok} {b : Bool} {Q : Value → Shared → Prop} (e : (x == y) = b) (h : Q (.bool b) s) : wpAny (model PR w) A (compareOp .Eq (.str x t) (.str y u)) Q E s := P.eq_str (by rw [eq_meets, e]; exact h)
local macro_rules | `(tactic| walk_at "compareOp Eq str str") => `(tactic| (k_here; k_dflt (refine' eq_str_known ?k1 ?_; (case k1 => with_reducible assumption); k_whole)))
local macro_rules | `(tactic| walk_at "compareOp Eq int int") => `(tactic| (k_here; k_dflt (refine' eq_int_known ?k1 ?_; (case k1 => with_reducible assumption); k_whole)))
local macro_rules | `(tactic| walk_at "call builtin:len") => `(tactic| (k_here; k_dflt (refine' len_gen ?k1 ?k2 ?k3 ?_; (case k1 => k_asm); (case k2 => k_mem); (case k3 => first | assumption | decide); k_whole); intro t9 k9; (try dsimp only)))
local macro_rules | `(tactic| walk_at "subscriptTail") => `(tactic| (k_here; k_dflt (refine' it_pos ?k1 ?k2 ?k3 ?k4 ?k5 ?_ ?k6; (case k1 => k_asm); (case k2 => k_mem); (case k3 => with_reducible (first | exact pick20 | exact pick21 | exact pick30 | exact pick31 | exact pick32 | assumption)); (case k4 => decide); (case k5 => decide); (case k6 => with_unfolding_all rfl); k_whole)))
local macro_rules | `(tactic| walk_at "subscriptTail Name UnaryOp ref int") => `(tactic| (k_here; k_dflt (refine' it_last ?k1 ?k2 ?k3 ?_ ?k6; (case k1 => k_asm); (case k2 => k_mem); (case k3 => with_reducible assumption); (case k6 => with_unfolding_all rfl); k_whole)))
local macro_rules | `(tactic| walk_at "call ref") => `(tactic| (k_here; k_dflt (refine' c_ends ?r1 ?r2 ?r3 ?r4 ?r5 ?r6 ?r7 ?r8 ?r9 ?r10 ?r11 ?_; (case r1 => k_asm); (case r2 => k_asm); (case r3 => k_in); (case r4 => k_asm); (case r5 => k_asm); (case r6 => first | assumption | exact rfl); (case r7 => k_mem); (case r8 => assumption); (case r9 => assumption); (case r10 => assumption); (case r11 => k_room); k_whole); intro D9 c9 t9 u9 h9 tk9 F9 N9 l9; (have l8 := MyStop.intro l9); (try k_lt l9); (try dsimp only); (try k_sweep)))
theorem c_dueE {Q : Value → Shared → Prop} {D : Addr} {c : Nat} {b0 b1 d0 d1 : Bool} {h' : Heap} {tk' : Nat} {all : List (Addr × Obj)}
  (hret : ∀ (D : Addr) (c : Nat) (h' : Heap) (tk' : Nat), Fr h₀ L h' m → News h₀ L h' ((D, listOf #[.bool d0, .bool d1] c) :: news) → (∀ p ∈ news, p.1 < D) → Q (.ref D) { s with heap := h', toks := tk' })
  (F : Fr h₀ L h' m) (N : News h₀ L h' ((D, listOf #[.bool b0, .bool b1] c) :: all)) (sub : ∀ q ∈ news, q ∈ all) (l : ∀ p ∈ all, p.1 < D) (e0 : b0 = d0) (e1 : b1 = d1) : Q (.ref D) { s with heap := h', toks := tk' } := by
  subst e0 e1
  exact hret D c h' tk' F (cb_drop N (mem_any sub)) fun q hq => l q (sub q hq)
set_option maxRecDepth 100000 in
set_option maxHeartbeats 0 in
theorem c_due_line1 (B : Below A₀ base outer h₀) (F : Fr h₀ L s.heap m) (X : (hd0.heap_1 w.params).In h₀) (N : News h₀ L s.heap news) (T : Top p loose mean mg mb h₀) (hk : cs.kind = .function)
  {l a1 a2 : Addr} {n n1 n2 i1 i2 k1 k2 : Nat} {mid1 mid2 : Str} {t1 t2 t3 t4 t5 t6 : Tok} {vs : Array Value} (hl : (l, listOf vs n) ∈ news) (ha1 : (a1, listOf (partVs i1 mid1 k1 t1 t2 t3) n1) ∈ news) (ha2 : (a2, listOf (partVs i2 mid2 k2 t4 t5 t6) n2) ∈ news)
  (h1 : vs[(0 : Int).toNat]? = some (.ref a1)) (h2 : vs[vs.size - 1]? = some (.ref a2)) (hsz : vs.size ≤ 1000) (hsz0 : 0 < vs.size) (hsz2 : ((vs.size : Int) == 1) = false)
  (hi1 : i1 < 4) (hi2 : i2 < 4) (hk1 : k1 < 4) (hk2 : k2 < 4) (hm1 : mid1.length ≤ 10) (hm2 : mid2.length ≤ 10)
  (hdp : dp + 20 < recursionLimit) (hun : un + 100 < cLine)
  (hret : ∀ (D : Addr) (c : Nat) (h' : Heap) (tk' : Nat), Fr h₀ L h' m → News h₀ L h' ((D, listOf #[.bool (decide ((endsV i1 mid1 k1).1 = 2) && decide ((endsV i2 mid2 k2).2 = 2)), .bool (decide ((endsV i1 mid1 k1).1 = 1) && decide ((endsV i2 mid2 k2).2 = 1))] c) :: news) → (∀ p ∈ news, p.1 < D) → Q (.ref D) { s with heap := h', toks := tk' }) :
  wpAny (model PR w) (ktrTop dp un gd cn cs L a ccd cl outer) (call (.ref 815) [.ref l]) Q E s := by
  refine wpAny_call ?_
  walk_at "my enter"
  k_steps
  all_goals (
    rename Fr _ _ _ m => FF
    rename News _ _ _ ((_, listOf #[_, _] _) :: _) => NN
    refine c_dueE hret FF NN (fun q hq => by repeat (first | exact hq | apply List.Mem.tail)) (by first | assumption | exact allLt_lt (by assumption) | exact allLt_lt (And.right (by assumption))) ?_ ?_)
  all_goals (rw [Bool.eq_iff_iff]; simp only [beq_iff_eq, Bool.and_eq_true, decide_eq_true_eq]; omega)
set_option maxRecDepth 100000 in
set_option maxHeartbeats 0 in
theorem c_due_line2 (B : Below A₀ base outer h₀) (F : Fr h₀ L s.heap m) (X : (hd0.heap_1 w.params).In h₀) (N : News h₀ L s.heap news) (T : Top p loose mean mg mb h₀) (hk : cs.kind = .function)
  {l a1 a2 : Addr} {n n1 n2 i1 i2 k1 k2 : Nat} {mid1 mid2 : Str} {t1 t2 t3 t4 t5 t6 : Tok} {vs : Array Value} (hl : (l, listOf vs n) ∈ news) (ha1 : (a1, listOf (partVs i1 mid1 k1 t1 t2 t3) n1) ∈ news) (ha2 : (a2, listOf (partVs i2 mid2 k2 t4 t5 t6) n2) ∈ news)
  (h1 : vs[(0 : Int).toNat]? = some (.ref a1)) (h2 : vs[vs.size - 1]? = some (.ref a2)) (hsz : vs.size ≤ 1000) (hsz0 : 0 < vs.size) (hsz2 : ((vs.size : Int) == 1) = true) (hmid : (mid1 == Str.ofString "") = false)
  (hi1 : i1 < 4) (hi2 : i2 < 4) (hk1 : k1 < 4) (hk2 : k2 < 4) (hm1 : mid1.length ≤ 10) (hm2 : mid2.length ≤ 10)
  (hdp : dp + 20 < recursionLimit) (hun : un + 100 < cLine)
  (hret : ∀ (D : Addr) (c : Nat) (h' : Heap) (tk' : Nat), Fr h₀ L h' m → News h₀ L h' ((D, listOf #[.bool (decide ((endsV i1 mid1 k1).1 = 2) && decide ((endsV i2 mid2 k2).2 = 2)), .bool (decide ((endsV i1 mid1 k1).1 = 1) && decide ((endsV i2 mid2 k2).2 = 1))] c) :: news) → (∀ p ∈ news, p.1 < D) → Q (.ref D) { s with heap := h', toks := tk' }) :
  wpAny (model PR w) (ktrTop dp un gd cn cs L a ccd cl outer) (call (.ref 815) [.ref l]) Q E s := by
  refine wpAny_call ?_
  walk_at "my enter"
  k_steps
  all_goals (
    rename Fr _ _ _ m => FF
    rename News _ _ _ ((_, listOf #[_, _] _) :: _) => NN
    refine c_dueE hret FF NN (fun q hq => by repeat (first | exact hq | apply List.Mem.tail)) (by first | assumption | exact allLt_lt (by assumption) | exact allLt_lt (And.right (by assumption))) ?_ ?_)
  all_goals (rw [Bool.eq_iff_iff]; simp only [beq_iff_eq, Bool.and_eq_true, decide_eq_true_eq]; omega)
set_option maxRecDepth 100000 in
set_option maxHeartbeats 0 in
theorem c_due_line3 (B : Below A₀ base outer h₀) (F : Fr h₀ L s.heap m) (X : (hd0.heap_1 w.params).In h₀) (N : News h₀ L s.heap news) (T : Top p loose mean mg mb h₀) (hk : cs.kind = .function)
  {l a1 : Addr} {n n1 i1 k1 : Nat} {mid1 : Str} {t1 t2 t3 : Tok} {vs : Array Value} (hl : (l, listOf vs n) ∈ news) (ha1 : (a1, listOf (partVs i1 mid1 k1 t1 t2 t3) n1) ∈ news)
  (h1 : vs[(0 : Int).toNat]? = some (.ref a1)) (hsz : vs.size ≤ 1000) (hsz0 : 0 < vs.size) (hsz2 : ((vs.size : Int) == 1) = true) (hmid : (mid1 == Str.ofString "") = true)
  (hdp : dp + 20 < recursionLimit) (hun : un + 100 < cLine)
  (hret : ∀ (D : Addr) (c : Nat) (h' : Heap) (tk' : Nat), Fr h₀ L h' m → News h₀ L h' ((D, listOf #[.bool false, .bool false] c) :: news) → (∀ p ∈ news, p.1 < D) → Q (.ref D) { s with heap := h', toks := tk' }) :
  wpAny (model PR w) (ktrTop dp un gd cn cs L a ccd cl outer) (call (.ref 815) [.ref l]) Q E s := by
  refine wpAny_call ?_
  walk_at "my enter"
  k_steps
  all_goals (
    rename Fr _ _ _ m => FF
    rename News _ _ _ ((_, listOf #[_, _] _) :: _) => NN
    exact c_dueE hret FF NN (fun q hq => by repeat (first | exact hq | apply List.Mem.tail)) (by first | assumption | exact allLt_lt (by assumption) | exact allLt_lt (And.right (by assumption))) rfl rfl)

end
end TY3
section TY4
section
variable {w : World} {p : Program} {loose : List Str} {mean : ExcName → Option Value} {mg mb : Str → Option Value}
  {dp un : Nat} {gd : Option (List Code)} {cn : Str} {cs : Scope} {a : Addr} {ccd : Value} {cl : List (Str × Addr)} {outer : List Env} {A₀ : Around} {base h₀ : Heap} {L : Addr} {m : Str → Option Value} {news ext : List (Addr × Obj)} {s : Shared} {Q E : Value → Shared → Prop}
theorem parts_last {news : List (Addr × Obj)} : ∀ (vs : List Value) (v : Value) (ps : List Prt) (p : Prt), PartsAre news (v :: vs) (p :: ps) →
    ∃ a n t u w, (v :: vs)[vs.length]? = some (.ref a) ∧ (a, listOf (partVs (ps.getLastD p).1 (ps.getLastD p).2.1 (ps.getLastD p).2.2 t u w) n) ∈ news := by
  intro vs
  induction vs with
  | nil =>
    intro v ps p h
    cases h with
    | cons h r => cases r; exact ⟨_, _, _, _, _, rfl, h⟩
  | cons v2 vs ih =>
    intro v ps p h
    cases h with
    | cons h r =>
      cases r with
      | cons h2 r2 =>
        obtain ⟨a, n, t, u, w, e, hm⟩ := ih _ _ _ (.cons h2 r2)
        refine ⟨a, n, t, u, w, by simpa using e, ?_⟩
        rename_i ps2
        cases ps2 <;> exact hm
theorem parts_len {news : List (Addr × Obj)} {vs : List Value} {ps : List Prt} (h : PartsAre news vs ps) : vs.length = ps.length := by
  induction h with
  | nil => rfl
  | cons _ _ ih => simp [ih]
theorem mid_len {mid : Str} (h : mid ∈ mids7) : mid.length ≤ 10 := by
  have : mids7.all (fun x => decide (x.length ≤ 10)) = true := by decide +kernel
  exact of_decide_eq_true (List.all_eq_true.mp this mid h)
theorem getLastD_mem {α : Type} (p : α) : ∀ l : List α, l.getLastD p ∈ p :: l
  | [] => .head _
  | [x] => .tail _ (.head _)
  | x :: y :: r => .tail _ (getLastD_mem x (y :: r))
theorem c_due_line (B : Below A₀ base outer h₀) (F : Fr h₀ L s.heap m) (X : (hd0.heap_1 w.params).In h₀) (N : News h₀ L s.heap news) (T : Top p loose mean mg mb h₀) (hk : cs.kind = .function)
  {l : Addr} {n : Nat} {vs : Array Value} {ps : List Prt} (hl : (l, listOf vs n) ∈ news) (hp : PartsAre news vs.toList ps) (hok : ∀ q ∈ ps, PrtOk q) (hlen : ps.length ≤ 1000) (hdp : dp + 20 < recursionLimit) (hun : un + 100 < cLine)
  (hret : ∀ (D : Addr) (c : Nat) (h' : Heap) (tk' : Nat), Fr h₀ L h' m → News h₀ L h' ((D, listOf #[.bool (dueL ps).1, .bool (dueL ps).2] c) :: news) → (∀ p ∈ news, p.1 < D) → Q (.ref D) { s with heap := h', toks := tk' }) :
  wpAny (model PR w) (ktrTop dp un gd cn cs L a ccd cl outer) (call (.ref 815) [.ref l]) Q E s := by
  have hsz := parts_len hp
  rw [Array.length_toList] at hsz
  have hget : ∀ k : Nat, vs[k]? = vs.toList[k]? := fun k => Array.getElem?_toList.symm
  generalize hvl : vs.toList = vl at hp hget
  match hp with
  | .nil =>
    have e : vs = #[] := by rw [← Array.toArray_toList (xs := vs), hvl]
    subst e
    exact c_due_line0 B F X N T hk hl hdp hun hret
  | .cons (a := a7) (i := i) (k := k) (mid := mid) h .nil =>
    have hp1 := hok _ (.head _)
    have h1 : vs[(0 : Int).toNat]? = some (.ref a7) := hget 0
    have h2 : vs[vs.size - 1]? = some (.ref a7) := by rw [hsz]; exact hget 0
    have hs0 : 0 < vs.size := by rw [hsz]; exact Nat.one_pos
    have hs1 : ((vs.size : Int) == 1) = true := by rw [hsz]; rfl
    cases hm : (mid == Str.ofString "") with
    | true =>
      refine c_due_line3 B F X N T hk hl h h1 (by omega) hs0 hs1 hm hdp hun ?_
      have e : dueL [(i, mid, k)] = (false, false) := if_pos hm
      rw [e] at hret
      exact hret
    | false =>
      refine c_due_line2 B F X N T hk hl h h h1 h2 (by omega) hs0 hs1 hm hp1.1 hp1.1 hp1.2.2 hp1.2.2 (mid_len hp1.2.1) (mid_len hp1.2.1) hdp hun ?_
      have e : dueL [(i, mid, k)] = (decide ((endsV i mid k).1 = 2) && decide ((endsV i mid k).2 = 2), decide ((endsV i mid k).1 = 1) && decide ((endsV i mid k).2 = 1)) := if_neg (by rw [hm]; decide)
      rw [e] at hret
      exact hret
  | .cons (a := a7) (i := i) (k := k) (mid := mid) h (.cons (vs := vs2) (ps := ps2) (i := i2) (k := k2) (mid := mid2) h2 r) =>
    have hp1 := hok _ (.head _)
    obtain ⟨a9, n9, t9, u9, w9, e9, m9⟩ := parts_last _ _ _ _ (.cons h2 r)
    have hp9 := hok _ (.tail _ (getLastD_mem (i2, mid2, k2) ps2))
    have h1 : vs[(0 : Int).toNat]? = some (.ref a7) := hget 0
    have hl2 : vs2.length = ps2.length := parts_len r
    have hsz' : vs.size = ps2.length + 2 := hsz
    have h9 : vs[vs.size - 1]? = some (.ref a9) := by
      rw [hget, hsz', show ps2.length + 2 - 1 = vs2.length + 1 by omega, List.getElem?_cons_succ]
      exact e9
    refine c_due_line1 B F X N T hk hl h m9 h1 h9 (by omega) (by omega) (by rw [beq_eq_false_iff_ne]; omega) hp1.1 hp9.1 hp1.2.2 hp9.2.2 (mid_len hp1.2.1) (mid_len hp9.2.1) hdp hun ?_
    have e : ((i2, mid2, k2) :: ps2).getLastD (i, mid, k) = ps2.getLastD (i2, mid2, k2) := by cases ps2 <;> rfl
    rw [show dueL ((i, mid, k) :: (i2, mid2, k2) :: ps2) = (decide ((endsV i mid k).1 = 2) && decide ((endsV (((i2, mid2, k2) :: ps2).getLastD (i, mid, k)).1 (((i2, mid2, k2) :: ps2).getLastD (i, mid, k)).2.1 (((i2, mid2, k2) :: ps2).getLastD (i, mid, k)).2.2).2 = 2), decide ((endsV i mid k).1 = 1) && decide ((endsV (((i2, mid2, k2) :: ps2).getLastD (i, mid, k)).1 (((i2, mid2, k2) :: ps2).getLastD (i, mid, k)).2.1 (((i2, mid2, k2) :: ps2).getLastD (i, mid, k)).2.2).2 = 1)) from rfl, e] at hret
    exact hret

end
end TY4
section TZ0
section
variable {w : World} {p : Program} {loose : List Str} {mean : ExcName → Option Value} {mg mb : Str → Option Value}
  {dp un : Nat} {gd : Option (List Code)} {cn : Str} {cs : Scope} {a : Addr} {ccd : Value} {cl : List (Str × Addr)} {outer : List Env} {A₀ : Around} {base h₀ : Heap} {L : Addr} {m : Str → Option Value} {news ext : List (Addr × Obj)} {s : Shared} {Q E : Value → Shared → Prop}
theorem call_elt {A : Around} {K : Frag} {f C : Addr} {nm xn : Str} {oC o : Obj} {fd : FuncData} {m₂ : Str → Option Value} {v : Value} {led : List (Addr × Obj)} {scope : Scope} {env : Env} {p1 p2 p3 : Pos} {Q : Value → Shared → Prop}
  (F : Fr h₀ L s.heap m) (X : K.In h₀) (T : Top p loose mean mg mb h₀) (N : News h₀ L s.heap led) (hC : (C, oC) ∈ led) (hoC : LCg.NsObj oC m₂) (hx : m₂ xn = some v)
  (hnm : nsIn K mainGlobals nm = some (some (.ref f))) (ho : K.lookup f = some o) (hd : o.data = .func fd) (hg : env.globals = mainGlobals) (hk : (compEnvC scope [] C env).scope.kind = .function)
  (hk1 : (compEnvC scope [] C env).kindOf nm = some .globalImplicit) (hk2 : (compEnvC scope [] C env).kindOf xn = some .local) (hn1 : (nm == ("__debug__" : Str)) = false) (hn2 : (xn == ("__debug__" : Str)) = false)
  (h : wpAny (model PR w) A (call (.ref f) [v]) Q E s) : wpAny (model PR w) A (eval (.Call (.Name nm p1) [.Name xn p2] [] p3) (compEnvC scope [] C env)) Q E s := by
  refine wpAny_Call_NameR (nameG_K F X (topRead_of T) hnm ?_ hg hk hk1 hn1)
  refine callWith_def (o := o) (fd := fd) hd ?_
  refine args_cons (wpAny_Name ?_ hn2)
  refine wpAny_loadName_local (env := compEnvC scope [] C env) hk hk2 (hoC.ns (N _ hC).1) hx ?_
  exact args_nil ⟨F.keep _ _ (X _ _ ho), h⟩
theorem parts_weak {l l' : List (Addr × Obj)} (sub : ∀ q ∈ l, q ∈ l') {vs : List Value} {ps : List Prt} (h : PartsAre l vs ps) : PartsAre l' vs ps := by
  induction h with
  | nil => exact .nil
  | cons h _ ih => exact .cons (sub _ h) ih
theorem parts_app {l : List (Addr × Obj)} {vs ws : List Value} {ps qs : List Prt} (h : PartsAre l vs ps) (h2 : PartsAre l ws qs) : PartsAre l (vs ++ ws) (ps ++ qs) := by
  induction h with
  | nil => exact h2
  | cons h _ ih => exact .cons h ih
theorem strs_app {vs ws : List Value} {xs ys : List Str} (h : StrsAre vs xs) (h2 : StrsAre ws ys) : StrsAre (vs ++ ws) (xs ++ ys) := by
  induction h with
  | nil => exact h2
  | cons y t _ ih => exact .cons y t ih
theorem ints_get {vs : List Value} {ns : List Int} (h : IntsAre vs ns) : ∀ (i : Nat) (v : Value), vs[i]? = some v → ∃ x u, ns[i]? = some x ∧ v = Value.int x u := by
  induction h with
  | nil => exact fun i v h => by simp at h
  | cons y t h ih =>
    intro i v e
    cases i with
    | zero => exact ⟨y, t, rfl, by simpa using e.symm⟩
    | succ i => simpa using ih i v (by simpa using e)
theorem parts_get {l : List (Addr × Obj)} {vs : List Value} {ps : List Prt} (h : PartsAre l vs ps) : ∀ (i : Nat) (v : Value), vs[i]? = some v → ∃ a n q t u w, ps[i]? = some q ∧ v = Value.ref a ∧ (a, listOf (partVs q.1 q.2.1 q.2.2 t u w) n) ∈ l := by
  induction h with
  | nil => exact fun i v h => by simp at h
  | cons hm h ih =>
    intro j v e
    cases j with
    | zero => exact ⟨_, _, _, _, _, _, rfl, by simpa using e.symm, hm⟩
    | succ j => simpa using ih j v (by simpa using e)
theorem take_succ_map {α β : Type} {f : α → β} {l : List α} {i : Nat} {x : α} (h : l[i]? = some x) : (l.take (i + 1)).map f = (l.take i).map f ++ [f x] := by
  rw [List.take_add_one, h]; simp
theorem off3_new {I C D T : Addr} {oT : Obj} {l : List (Addr × Obj)} (h : LCg.Off3 I C D l) (h1 : I < T) (h2 : C < T) (h3 : D < T) : LCg.Off3 I C D ((T, oT) :: l) :=
  ⟨⟨Nat.ne_of_gt h1, Nat.ne_of_gt h2, Nat.ne_of_gt h3⟩, h⟩
set_option maxRecDepth 100000 in
theorem rest_parts (B : Below A₀ base outer h₀) (X : (hd0.heap_1 w.params).In h₀) (T : Top p loose mean mg mb h₀) (hk : cs.kind = .function) (hdp : dp + 20 < recursionLimit)
  {scope : Scope} {p1 p2 p3 : Pos} {ns : List Int} {its : Array Value} {ax : Addr} {n0 : Nat}
  (hks : ∀ C, (compEnvC scope [] C (envX cn cs L a ccd cl)).scope.kind = .function) (hk1 : ∀ C, (compEnvC scope [] C (envX cn cs L a ccd cl)).kindOf (Str.ofString "_law_part") = some .globalImplicit) (hk2 : ∀ C, (compEnvC scope [] C (envX cn cs L a ccd cl)).kindOf (Str.ofString "x") = some .local)
  (hi : IntsAre its.toList ns) (hax : (ax, listOf its n0) ∈ news) {Fin : List Value → List (Addr × Obj) → Prop}
  (fin : ∀ ys news', (∀ q ∈ news, q ∈ news') → PartsAre news' ys (ns.map prtOf) → Fin ys news') :
  ∀ k i ys news₁, i + k = its.size → (∀ q ∈ news, q ∈ news₁) → PartsAre news₁ ys ((ns.take i).map prtOf) →
    LCg.CompRest PR w (ktrTop dp un gd cn cs L a ccd cl outer) h₀ L m (envX cn cs L a ccd cl) (.Call (.Name (Str.ofString "_law_part") p1) [.Name (Str.ofString "x") p2] [] p3) (Str.ofString "x") scope [] s (LCg.SrcAt h₀ ax its) (fun i v => its[i]? = some v) Fin k i ys news₁ := by
  have hsz : its.size = ns.length := by have := hi.length; simpa using this
  intro k
  induction k with
  | zero =>
    intro i ys news₁ e sub hp
    rw [List.take_of_length_le (by omega)] at hp
    exact LCg.CompRest.zero (fin ys news₁ sub hp)
  | succ k ih =>
    intro i ys news₁ e sub hp
    refine LCg.CompRest.succ fun v I oI C oC D m₂ h tk E' hv hoC hx F N off hne => ?_
    obtain ⟨x, u, hxi, rfl⟩ := ints_get hi i v (by rw [Array.getElem?_toList]; exact hv)
    refine call_elt (K := hd0.heap_1 w.params) (f := 780) F X T N (.tail _ (.head _)) hoC hx (by k_is) (by rfl) (by rfl) rfl (hks C) (hk1 C) (hk2 C) (by decide) (by decide) ?_
    refine c_prt B F X N T hk (by omega) fun Tn c t u' v' h' tk' F' N' lt => ?_
    refine LCg.CompEnd.intro F' N' ((Tn, listOf (partVs (prtOf x).1 (prtOf x).2.1 (prtOf x).2.2 t u' v') c) :: news₁) ?_ (off3_new off (lt _ (.head _)) (lt _ (.tail _ (.head _))) (lt _ (.tail _ (.tail _ (.head _))))) (.inr ⟨_, .tail _ (sub _ hax), rfl, _, rfl⟩) ?_
    · intro q hq
      simp only [List.mem_cons] at hq ⊢
      rcases hq with h | h | h | h | h
      · exact .inr (.inl h)
      · exact .inr (.inr (.inl h))
      · exact .inr (.inr (.inr (.inl h)))
      · exact .inl h
      · exact .inr (.inr (.inr (.inr h)))
    · refine ih (i + 1) _ _ (by omega) (fun q hq => .tail _ (sub q hq)) ?_
      rw [take_succ_map hxi]
      exact parts_app (parts_weak (fun q hq => .tail _ hq) hp) (.cons (.head _) .nil)
set_option maxRecDepth 100000 in
theorem rest_row (B : Below A₀ base outer h₀) (X : (hd0.heap_1 w.params).In h₀) (T : Top p loose mean mg mb h₀) (hk : cs.kind = .function) (hdp : dp + 20 < recursionLimit)
  {scope : Scope} {p1 p2 p3 : Pos} {ps : List Prt} {its : Array Value} {ax : Addr} {n0 : Nat}
  (hks : ∀ C, (compEnvC scope [] C (envX cn cs L a ccd cl)).scope.kind = .function) (hk1 : ∀ C, (compEnvC scope [] C (envX cn cs L a ccd cl)).kindOf (Str.ofString "_law_word") = some .globalImplicit) (hk2 : ∀ C, (compEnvC scope [] C (envX cn cs L a ccd cl)).kindOf (Str.ofString "part") = some .local)
  (hi : PartsAre news its.toList ps) (hok : ∀ q ∈ ps, PrtOk q) (hax : (ax, listOf its n0) ∈ news) {Fin : List Value → List (Addr × Obj) → Prop}
  (fin : ∀ ys, StrsAre ys (ps.map wordP) → Fin ys news) :
  ∀ k i ys, i + k = its.size → StrsAre ys ((ps.take i).map wordP) →
    LCg.CompRest PR w (ktrTop dp un gd cn cs L a ccd cl outer) h₀ L m (envX cn cs L a ccd cl) (.Call (.Name (Str.ofString "_law_word") p1) [.Name (Str.ofString "part") p2] [] p3) (Str.ofString "part") scope [] s (LCg.SrcAt h₀ ax its) (fun i v => its[i]? = some v) Fin k i ys news := by
  have hsz : its.size = ps.length := by have := parts_len hi; simpa using this
  intro k
  induction k with
  | zero =>
    intro i ys e hp
    rw [List.take_of_length_le (by omega)] at hp
    exact LCg.CompRest.zero (fin ys hp)
  | succ k ih =>
    intro i ys e hp
    refine LCg.CompRest.succ fun v I oI C oC D m₂ h tk E' hv hoC hx F N off hne => ?_
    obtain ⟨b, n, q, t, u, w', hqi, rfl, hm⟩ := parts_get hi i v (by rw [Array.getElem?_toList]; exact hv)
    have hq := hok q (List.mem_of_getElem? hqi)
    refine call_elt (K := hd0.heap_1 w.params) (f := 787) F X T N (.tail _ (.head _)) hoC hx (by k_is) (by rfl) (by rfl) rfl (hks C) (hk1 C) (hk2 C) (by decide) (by decide) ?_
    refine c_word B F X N T hk (.tail _ (.tail _ (.tail _ hm))) hq.1 hq.2.2 (mid_len hq.2.1) (by omega) fun t' h' tk' F' N' => ?_
    refine LCg.CompEnd.intro F' N' news (fun q hq => hq) off (.inr ⟨_, hax, rfl, _, rfl⟩) ?_
    refine ih (i + 1) _ (by omega) ?_
    rw [take_succ_map hqi]
    exact strs_app hp (.cons _ _ .nil)

end
end TZ0
section TZ2
section
variable {w : World} {p : Program} {loose : List Str} {mean : ExcName → Option Value} {mg mb : Str → Option Value}
  {dp un : Nat} {gd : Option (List Code)} {cn : Str} {cs : Scope} {a : Addr} {ccd : Value} {cl : List (Str × Addr)} {outer : List Env} {A₀ : Around} {base h₀ : Heap} {L : Addr} {m : Str → Option Value} {news ext : List (Addr × Obj)} {s : Shared} {Q E : Value → Shared → Prop}
noncomputable abbrev rngObj (a b : Int) (t u v : Tok) : Obj := { cls := .type "range", data := .fields #[.int a t, .int b u, .int 1 v] }
theorem my_range1 {A : Around} {n : Int} {t : Tok} {Q : Value → Shared → Prop} (F : Fr h₀ L s.heap m) (N : News h₀ L s.heap news)
    (h : ∀ r t u v h' k, Fr h₀ L h' m → News h₀ L h' ((r, rngObj 0 n t u v) :: news) → (∀ p ∈ news, p.1 < r) → Q (.ref r) { s with heap := h', toks := k }) : wpAny (model PR w) A (call (.type "range") [.int n t]) Q E s :=
  call_range_1 (h _ _ _ _ _ _ (F.push _) (N.push F _) fun p hp => Heap.lt_size (N p hp).1)
theorem my_range2 {A : Around} {a b : Int} {t u : Tok} {Q : Value → Shared → Prop} (F : Fr h₀ L s.heap m) (N : News h₀ L s.heap news)
    (h : ∀ r t u v h' k, Fr h₀ L h' m → News h₀ L h' ((r, rngObj a b t u v) :: news) → (∀ p ∈ news, p.1 < r) → Q (.ref r) { s with heap := h', toks := k }) : wpAny (model PR w) A (call (.type "range") [.int a t, .int b u]) Q E s :=
  call_range_2 (h _ _ _ _ _ _ (F.push _) (N.push F _) fun p hp => Heap.lt_size (N p hp).1)
theorem fr_kst2 {g h : Heap} {L : Addr} {m' : Str → Option Value} {ps : List (Str × Value)} (F : Fr g L h m') (hs : ∀ p ∈ ps, m' p.1 = some p.2) : Fr g L h (kstB m' ps) := by
  have e : kstB m' ps = m' := funext fun z => kstB_eq hs fun _ => rfl
  rwa [e]
theorem kst_get {u : Str → Option Value} : ∀ {ps : List (Str × Value)}, (ps.map (·.1)).Nodup → ∀ p ∈ ps, kstB u ps p.1 = some p.2
  | [], _, p, hp => nomatch hp
  | q :: r, hn, p, hp => by
    rw [List.map_cons, List.nodup_cons] at hn
    show (if p.1 = q.1 then some q.2 else kstB u r p.1) = some p.2
    rcases List.mem_cons.mp hp with rfl | hp
    · rw [if_pos rfl]
    · rw [if_neg (fun e => hn.1 (by rw [← e]; exact List.mem_map_of_mem hp)), kst_get hn.2 p hp]
noncomputable def TurnEnd (h₀ : Heap) (L : Addr) (ps : List (Str × Value)) (led : List (Addr × Obj)) (s₁ : Shared) (Q : Flow → Shared → Prop) (f : Flow) (s₂ : Shared) : Prop :=
  match f with
  | .ret v => Q (.ret v) s₂
  | .brk => Q .next s₂
  | _ => ∃ h' tk' g' m', s₂ = { s₁ with heap := h', toks := tk', gens := g' } ∧ AllBare g' ∧ Fr h₀ L h' m' ∧ News h₀ L h' led ∧ ∀ p ∈ ps, m' p.1 = some p.2
noncomputable abbrev itObj (x l : Int) : Obj := { cls := .type "range_iterator", dict := none, data := .fields #[rawInt x, rawInt l, rawInt 1], slots := #[] }
theorem range_loop {A : Around} {env : Env} {x : Str} {px : Pos} {body : List Stmt} {Q : Flow → Shared → Prop} {r : Addr} {a b : Int} {n : Nat} {t u v : Tok} {m₀ : Str → Option Value} {ps : List (Str × Value)}
    (hh : A.handled = none) (F : Fr h₀ env.locals s.heap m₀) (N : News h₀ env.locals s.heap news) (hr : (r, rngObj a b t u v) ∈ news) (hab : b = a + (n : Int)) (ha : 0 ≤ a) (ha2 : a ≤ 1000) (hn : n ≤ 1000) (hg : AllBare s.gens)
    (hx : env.kindOf x = some .local) (hp : (env.scope.kind == .class || (env.scope.kind == .module && env.locals != env.globals)) = false) (hE : PassesOwn (model PR w) A env E)
    (hxp : ∀ p ∈ ps, p.1 ≠ x) (hj : ∀ p ∈ ps, m₀ p.1 = some p.2)
    (turn : ∀ (i : Nat) I oI t u h tk g, i < n → AllBare g → Fr h₀ env.locals h (kstB u ((x, .int (a + (i : Int)) t) :: ps)) → News h₀ env.locals h ((I, oI) :: news) →
      wpAny (model PR w) A (execs body env) (TurnEnd h₀ env.locals ps ((I, oI) :: news) s Q) E { s with heap := h, toks := tk, gens := g })
    (done : ∀ u h tk g, AllBare g → Fr h₀ env.locals h (kstB u ps) → News h₀ env.locals h news → Q .next { s with heap := h, toks := tk, gens := g }) :
    wpAny (model PR w) A (pyIter (.ref r)) (fun it s₂ => codeAny (model PR w) A (.forLoop (.Name x px) it body [] env) (fun r s' => match r with | .ok f => Q f s' | .error e => cameBackBy (model PR w) A env E e s') s₂) E s := by
  subst hab
  have hrn : Builtin.Range.rangeSize a (a + (n : Int)) 1 = ((n : Nat) : Int) := by rw [rangeSize_one]; split <;> omega
  refine wpAny_pyIter_range (show IsRange s.heap r a (a + (n : Int)) 1 t u v from (N _ hr).1) (small_one (by omega) (by omega) (by omega) (by omega)) ?_
  have W := LCg.range_walks (prog := PR) (w := w) (A := A) (I := s.heap.objs.size) hh a n
  have hI0 : h₀.get? s.heap.objs.size = none := next_is_new F
  have hLI : env.locals ≠ s.heap.objs.size := Nat.ne_of_lt F.ns.lt
  have hNI : ∀ p ∈ news, p.1 ≠ s.heap.objs.size := fun p hp => Nat.ne_of_lt (Heap.lt_size (N p hp).1)
  refine codeAny_forLoop
    (fun k s' => ∃ h' tk g m' i, s' = { s with heap := h', toks := tk, gens := g } ∧ AllBare g ∧ IsRangeIter h' s.heap.objs.size (a + (i : Nat) * 1) ((n : Int) - (i : Nat)) 1 ∧ Fr h₀ env.locals h' m' ∧ News h₀ env.locals h' news ∧ (∀ p ∈ ps, m' p.1 = some p.2) ∧ i ≤ n ∧ k = n + 1 - i) ?_ (n + 1)
    ⟨_, s.toks, s.gens, m₀, 0, rfl, hg, ?_, F.push _, N.grown fun _ _ e => Heap.get?_push_of_some _ e, hj, Nat.zero_le _, rfl⟩
  · rintro k s' ⟨h', tk, g, m', i, rfl, hbg, hst, F', N', hJ, hi, rfl⟩
    have next : ∀ h₁ : Heap, (∀ b o, b ∉ [s.heap.objs.size] → h'.get? b = some o → h₁.get? b = some o) → Fr h₀ env.locals h₁ m' ∧ News h₀ env.locals h₁ news := fun h₁ hk₁ =>
      ⟨LCg.fr_but F' hk₁ hLI hI0, LCg.news_but N' hk₁ hNI⟩
    by_cases hlt : i < n
    · refine W.item i { s with heap := h', toks := tk, gens := g } _ _ hlt hst fun v h₁ tk₁ hP hst₁ hk₁ => ?_
      obtain ⟨F₁, N₁⟩ := next h₁ hk₁
      obtain ⟨tv, rfl⟩ := hP
      refine wpAny_assign_Name (wpAny_storeName_local hx F₁.ns (fun h₂ hn₂ hs₂ => ?_) hp)
      have F₂ := F₁.set hn₂ hs₂
      have hst₂ : h₂.get? s.heap.objs.size = h₁.get? s.heap.objs.size := hs₂.2 _ (fun q => hLI q.symm)
      have hst₁' : h₁.get? s.heap.objs.size = some (itObj (a + ((i + 1 : Nat) : Int) * 1) ((n : Int) - ((i + 1 : Nat) : Int))) := hst₁
      refine wpAny_mono (wpAny_passesOwn hE (turn i s.heap.objs.size (itObj (a + ((i + 1 : Nat) : Int) * 1) ((n : Int) - ((i + 1 : Nat) : Int))) tv _ h₂ _ g hlt hbg (fr_kst2 F₂ ?_) ?_)) (fun f s₃ h₃ => ?_) fun _ _ e => e
      · intro p hp
        rcases List.mem_cons.mp hp with rfl | hp
        · exact if_pos rfl
        · show (if p.1 = x then _ else m' p.1) = _
          rw [if_neg (hxp p hp), hJ p hp]
      · intro q hq
        rcases List.mem_cons.mp hq with rfl | hq
        · exact ⟨hst₂.trans hst₁', fun q => hLI q.symm, hI0⟩
        · exact (N₁.set hs₂) q hq
      · have fin : (∃ h' tk' g' m', s₃ = { s with heap := h', toks := tk', gens := g' } ∧ AllBare g' ∧ Fr h₀ env.locals h' m' ∧ News h₀ env.locals h' ((s.heap.objs.size, itObj (a + ((i + 1 : Nat) : Int) * 1) ((n : Int) - ((i + 1 : Nat) : Int))) :: news) ∧ ∀ p ∈ ps, m' p.1 = some p.2) → _ := fun ⟨h4, tk4, g4, m4, e4, b4, F4, N4, J4⟩ =>
          (⟨n + 1 - (i + 1), by omega, h4, tk4, g4, m4, i + 1, e4, b4, (N4 _ (.head _)).1, F4, fun q hq => N4 q (.tail _ hq), J4, hlt, rfl⟩ : ∃ m, m < n + 1 - i ∧ ∃ h' tk g m' i, s₃ = { s with heap := h', toks := tk, gens := g } ∧ AllBare g ∧ IsRangeIter h' s.heap.objs.size (a + (i : Nat) * 1) ((n : Int) - (i : Nat)) 1 ∧ Fr h₀ env.locals h' m' ∧ News h₀ env.locals h' news ∧ (∀ p ∈ ps, m' p.1 = some p.2) ∧ i ≤ n ∧ m = n + 1 - i)
        cases f with
        | ret v => exact h₃
        | brk => exact h₃
        | cont => exact fin h₃
        | next => exact fin h₃
    · have hin : i = n := by omega
      subst hin
      refine W.done { s with heap := h', toks := tk, gens := g } _ _ hst fun h₁ tk₁ hk₁ => wpAny_execs_nil ?_
      obtain ⟨F₁, N₁⟩ := next h₁ hk₁
      exact done _ h₁ tk₁ g hbg (fr_kst2 F₁ hJ) N₁
  · show IsRangeIter _ _ _ _ _
    rw [hrn]
    simpa using Heap.get?_push_size _ rfl

end
end TZ2
section TZ3
section
variable {w : World} {p : Program} {loose : List Str} {mean : ExcName → Option Value} {mg mb : Str → Option Value}
  {dp un : Nat} {gd : Option (List Code)} {cn : Str} {cs : Scope} {a : Addr} {ccd : Value} {cl : List (Str × Addr)} {outer : List Env} {A₀ : Around} {base h₀ : Heap} {L : Addr} {m : Str → Option Value} {news ext : List (Addr × Obj)} {s : Shared} {Q E : Value → Shared → Prop}
theorem my_slice {A : Around} {value slice : Expr} {l : Addr} {items : Array Value} {vl vu : Value} {lo hi : Option Int} {us : List Value} {Q : Value → Shared → Prop}
    (F : Fr h₀ L s.heap m) (N : News h₀ L s.heap news) (hl : s.heap.IsList l items) (pl : IsPart vl lo) (pu : IsPart vu hi) (e : slicePick items lo hi none = us.toArray)
    (h : ∀ D n h', Fr h₀ L h' m → News h₀ L h' ((D, listOf us.toArray n) :: news) → (∀ p ∈ news, p.1 < D) → Q (.ref D) { s with heap := h' })
    (hs : subscripted slice false (.ref l) (.ref s.heap.objs.size) = operate [.ref s.heap.objs.size, .ref l] (getItem (.ref l) (.ref s.heap.objs.size)))
    (ht : ∀ r, letTemporaryGo value (.ref l) r = pure ())
    (hsz : items.size ≤ 1000) :
    wpAny (model PR w) A (subscriptTail value slice (.ref l) (.ref s.heap.objs.size)) Q E { s with heap := s.heap.push { cls := .type "slice", data := .fields #[vl, vu, .none] } } := by
  refine slice_list F N hl pl pu (fun h' F' N' => ?_) hs ht (Nat.le_trans hsz (by decide))
  rw [e] at N'
  exact h _ _ h' F' N' fun p hp => Nat.lt_succ_of_lt (Heap.lt_size (N p hp).1)
theorem upto5 (vs : List Value) : slicePick vs.toArray none (some 5) none = (vs.take 5).toArray := slicePick_upto' vs.toArray 5
theorem from1 (vs : List Value) : slicePick vs.toArray (some 1) none none = (vs.drop 1).toArray := slicePick_from' vs.toArray 1
theorem my_add {A : Around} {l b : Addr} {vs ws : List Value} {n k : Nat} {Q : Value → Shared → Prop} (F : Fr h₀ L s.heap m) (N : News h₀ L s.heap news) (hl : (l, listOf vs.toArray n) ∈ news) (hb : (b, listOf ws.toArray k) ∈ news)
    (hsz : vs.length + ws.length ≤ 1000)
    (h : ∀ D c h', Fr h₀ L h' m → News h₀ L h' ((D, listOf (vs ++ ws).toArray c) :: news) → (∀ p ∈ news, p.1 < D) → Q (.ref D) { s with heap := h' }) :
    wpAny (model PR w) A (binaryOp .Add (.ref l) (.ref b)) Q E s :=
  add_lists F N (News.isList N hl) (News.isList N hb) (fun h' F' N' => h _ _ h' F' N' fun p hp => Heap.lt_size (N p hp).1) (Nat.le_trans hsz (by decide))
theorem strs_eqAt {A : Around} {vs ws : Array Value} {xs : List Str} (h1 : StrsAre vs.toList xs) (h2 : StrsAre ws.toList xs) : vs.size = ws.size ∧ ∀ j (a : j < vs.size) (b : j < ws.size), SeqAt.EqAt A s vs[j] ws[j] ((fun _ => true) j) := by
  obtain ⟨l1, g1⟩ := strs_get h1
  obtain ⟨l2, g2⟩ := strs_get h2
  rw [Array.length_toList] at l1 l2
  refine ⟨l1.trans l2.symm, fun j a b prog w E Q hq => ?_⟩
  obtain ⟨x, t, e1, e2⟩ := g1 j vs[j] (by rw [Array.getElem?_toList, Array.getElem?_eq_getElem a])
  obtain ⟨y, u, e3, e4⟩ := g2 j ws[j] (by rw [Array.getElem?_toList, Array.getElem?_eq_getElem b])
  rw [e1] at e3
  obtain rfl := Option.some.inj e3
  rw [e2, e4]
  exact eqBool_str (by rw [beq_self_eq_true]; exact hq)
theorem eq_strs {A : Around} {l b : Addr} {vs ws : Array Value} {n k : Nat} {xs : List Str} {Q : Value → Shared → Prop} (N : News h₀ L s.heap news) (hl : (l, listOf vs n) ∈ news) (hb : (b, listOf ws k) ∈ news)
    (h1 : StrsAre vs.toList xs) (h2 : StrsAre ws.toList xs) (hu : A.units < cLine) (h : Q (.bool true) s) : wpAny (model PR w) A (compareOp .Eq (.ref l) (.ref b)) Q E s := by
  obtain ⟨e1, e2⟩ := strs_eqAt (A := A.in1) (s := s) h1 h2
  exact SeqAt.eq_listAt (News.isList N hl) (News.isList N hb) e1 hu e2 (by rw [List.all_eq_true.mpr (fun _ _ => rfl)]; exact h)
theorem ne_strs {A : Around} {l b : Addr} {vs ws : Array Value} {n k : Nat} {xs : List Str} {Q : Value → Shared → Prop} (N : News h₀ L s.heap news) (hl : (l, listOf vs n) ∈ news) (hb : (b, listOf ws k) ∈ news)
    (h1 : StrsAre vs.toList xs) (h2 : StrsAre ws.toList xs) (hu : A.units < cLine) (h : Q (.bool false) s) : wpAny (model PR w) A (compareOp .NotEq (.ref l) (.ref b)) Q E s := by
  obtain ⟨e1, e2⟩ := strs_eqAt (A := A.in1) (s := s) h1 h2
  exact SeqAt.RcNeAt.lists (News.isList N hl) (News.isList N hb) e1 hu e2 PR w E Q (by rw [List.all_eq_true.mpr (fun _ _ => rfl)]; exact h)
theorem str_cps (x : Str) : strOf x.cps.toList = x := by cases x; rfl
theorem join_cps (xs : List Str) : (joinS xs).cps.toList = joinL (xs.map fun x => x.cps.toList) := by
  have e : xs.map quoteV = (xs.map fun x => x.cps.toList).map fun w => strOf (quoteL w) := by
    rw [List.map_map]
    refine List.map_congr_left fun x _ => ?_
    show quoteV x = strOf (quoteL x.cps.toList)
    rw [← quoteV_eq, str_cps]
  unfold joinS
  rw [e, join_eq]
theorem split_join {xs : List Str} (hne : xs ≠ []) (hok : ∀ x ∈ xs, ∀ c ∈ x.cps.toList, okC c = true) : lexAll (xs.length + 1) .sp (joinS xs).cps.toList = some xs := by
  have h := lex_join (xs.map fun x => x.cps.toList) (fun e => hne (List.map_eq_nil_iff.mp e)) (fun w hw c hc => by
    obtain ⟨x, hx, rfl⟩ := List.mem_map.mp hw
    exact hok x hx c hc)
  rw [List.length_map, List.map_map] at h
  rw [join_cps, h]
  congr 1
  conv => rhs; rw [← List.map_id xs]
  exact List.map_congr_left fun x _ => str_cps x
theorem join_okC {xs : List Str} (hok : ∀ x ∈ xs, ∀ c ∈ x.cps.toList, okC c = true) : ∀ c ∈ (joinS xs).cps.toList, okC c = true := by
  rw [join_cps]
  refine joinL_ok _ fun w hw c hc => ?_
  obtain ⟨x, hx, rfl⟩ := List.mem_map.mp hw
  exact hok x hx c hc
theorem joinL_len {B : Nat} : ∀ (ws : List (List Nat)), (∀ w ∈ ws, w.length ≤ B) → (joinL ws).length ≤ ws.length * (5 * B + 3)
  | [], _ => Nat.zero_le _
  | [w], h => by
    have := quoteL_len w
    have h1 := h w (.head _)
    show (quoteL w).length ≤ 1 * (5 * B + 3)
    omega
  | w :: w2 :: r, h => by
    have := quoteL_len w
    have h1 := h w (.head _)
    have ih := joinL_len (w2 :: r) fun x hx => h x (.tail _ hx)
    show (quoteL w ++ 32 :: joinL (w2 :: r)).length ≤ _
    rw [List.length_append, List.length_cons, List.length_cons, Nat.succ_mul]
    omega
theorem join_len {B : Nat} {xs : List Str} (h : ∀ x ∈ xs, x.length ≤ B) : (joinS xs).length ≤ xs.length * (5 * B + 3) := by
  have e : ∀ y : Str, y.cps.toList.length = y.length := fun y => by simp [Str.length]
  have := joinL_len (B := B) (xs.map fun x => x.cps.toList) fun w hw => by
    obtain ⟨x, hx, rfl⟩ := List.mem_map.mp hw
    rw [e]; exact h x hx
  rw [← join_cps, e, List.length_map] at this
  exact this
theorem prt_ok (x : Int) : PrtOk (prtOf x) := by
  refine ⟨(prt_lt x).1, ?_, (prt_lt x).2⟩
  show midL.getD (idxOf x) (Str.ofString "") ∈ mids7
  have h := (part_idx x).2
  have hc : idxOf x = 0 ∨ idxOf x = 1 ∨ idxOf x = 2 ∨ idxOf x = 3 ∨ idxOf x = 4 ∨ idxOf x = 5 := by omega
  rcases hc with hc | hc | hc | hc | hc | hc <;> rw [hc] <;> decide +kernel
theorem word_ok {q : Prt} (h : PrtOk q) : (∀ c ∈ (wordP q).cps.toList, okC c = true) ∧ (wordP q).length ≤ 10 := by
  have f := prt_facts h
  refine ⟨f.ok, ?_⟩
  have e : (wordP q).cps.toList.length = (wordP q).length := by simp [Str.length]
  rw [← e]; exact f.len
theorem ex_kst {g h : Heap} {L : Addr} {m' : Str → Option Value} {ps : List (Str × Value)} (F : Fr g L h m') (hs : ∀ p ∈ ps, m' p.1 = some p.2) : ∃ u, Fr g L h (kstB u ps) := ⟨_, fr_kst2 F hs⟩
structure RowFacts (ps : List Prt) : Prop where
  xl : (ps.map wordP).length ≤ 1000
  xb : ∀ x ∈ ps.map wordP, x.length ≤ 2000
  jl : (joinS (ps.map wordP)).length ≤ 1000000
  jl2 : (joinS (ps.map wordP)).length ≤ 2000
  ok : ∀ x ∈ ps.map wordP, ∀ c ∈ x.cps.toList, okC c = true
  ln : (ps.map wordP).length ≤ 1000000
theorem row_facts {ps : List Prt} (hok : ∀ q ∈ ps, PrtOk q) (hl : ps.length ≤ 7) : RowFacts ps := by
  have hb : ∀ x ∈ ps.map wordP, x.length ≤ 10 := fun x hx => by
    obtain ⟨q, hq, rfl⟩ := List.mem_map.mp hx
    exact (word_ok (hok q hq)).2
  have hjl := join_len hb
  rw [List.length_map] at hjl
  refine ⟨by rw [List.length_map]; omega, fun x hx => Nat.le_trans (hb x hx) (by decide), by omega, by omega, fun x hx => ?_, by rw [List.length_map]; omega⟩
  obtain ⟨q, hq, rfl⟩ := List.mem_map.mp hx
  exact (word_ok (hok q hq)).1
theorem row_split {ps : List Prt} (hok : ∀ q ∈ ps, PrtOk q) (hl : ps.length ≤ 7) (h0 : ps ≠ []) : lexAll ((ps.map wordP).length + 1) .sp (joinS (ps.map wordP)).cps.toList = some (ps.map wordP) :=
  split_join (fun e => h0 (List.map_eq_nil_iff.mp e)) (row_facts hok hl).ok
theorem c_is_true (B : Below A₀ base outer h₀) (F : Fr h₀ L s.heap m) (X : (hd0.heap_1 w.params).In h₀) (N : News h₀ L s.heap news) (T : Top p loose mean mg mb h₀) (hk : cs.kind = .function)
    {x : Str} {t : Tok} (hx : x.length ≤ 1000000) {l : Addr} {b0 b1 : Bool} {n : Nat} (hl : (l, listOf #[.bool b0, .bool b1] n) ∈ news) (hd : dp + 8 < recursionLimit) (e0 : dunderV x = b0) (e1 : sunderV x = b1)
    (hret : ∀ (h' : Heap) (tk' : Nat), Fr h₀ L h' m → News h₀ L h' news → Q (.bool true) { s with heap := h', toks := tk' }) :
    wpAny (model PR w) (ktrTop dp un gd cn cs L a ccd cl outer) (call (.ref 794) [.str x t, .ref l]) Q E s := by
  refine c_is_of B F X N T hk x t hx l b0 b1 n hl hd fun t' h' tk' F' N' => ?_
  have e : (dunderV x == b0 && sunderV x == b1) = true := by rw [e0, e1, beq_self_eq_true, beq_self_eq_true]; rfl
  rw [e]
  exact hret h' tk' F' N'
theorem len_known {A : Around} {l : Addr} {n k : Nat} {vs : Array Value} {Q : Value → Shared → Prop} (N : News h₀ L s.heap news) (hl : (l, listOf vs n) ∈ news) (e : vs.size = k) (hk : k ≤ 1000) (h : ∀ t k', Q (.int (k : Int) t) { s with toks := k' }) :
    wpAny (model PR w) A (call (.builtin "len") [.ref l]) Q E s := by
  subst e
  exact len_gen N hl hk h
theorem line_is {ps : List Prt} (hok : ∀ q ∈ ps, PrtOk q) : dunderV (joinS (ps.map wordP)) = (dueL ps).1 ∧ sunderV (joinS (ps.map wordP)) = (dueL ps).2 := by
  have e : (joinS (ps.map wordP)).cps.toList = lineL ps := by rw [join_cps, List.map_map]; rfl
  rw [dun_list, sun_list, e]
  exact line_due ps hok
theorem line_is2 {ps : List Prt} (hok : ∀ q ∈ ps, PrtOk q) : dunderV (joinS [joinS (ps.map wordP)]) = (if ps.length = 1 then (dueL ps).1 else false) ∧ sunderV (joinS [joinS (ps.map wordP)]) = (if ps.length = 1 then (dueL ps).2 else false) := by
  have e : (joinS (ps.map wordP)).cps.toList = lineL ps := by rw [join_cps, List.map_map]; rfl
  have e2 : (joinS [joinS (ps.map wordP)]).cps.toList = quoteL (lineL ps) := by rw [join_cps, ← e]; rfl
  rw [dun_list, sun_list, e2]
  exact line_quoted ps hok
theorem gen_vp {h : Heap} {P : Addr} {n0 : Nat} {us : List Value} {ps : List Prt} (N : News h₀ L h ((P, listOf us.toArray n0) :: news)) (hp : PartsAre news us ps) : ∃ vp : List Value, News h₀ L h ((P, listOf vp.toArray n0) :: news) ∧ PartsAre news vp ps := ⟨us, N, hp⟩
theorem parts_at {l : List (Addr × Obj)} {vs : List Value} {ps : List Prt} (h : PartsAre l vs ps) {i : Nat} {q : Prt} (e : ps[i]? = some q) : ∃ b n t u w, vs.toArray[((i : Nat) : Int).toNat]? = some (Value.ref b) ∧ (b, listOf (partVs q.1 q.2.1 q.2.2 t u w) n) ∈ l := by
  have hi : i < vs.length := by
    rw [parts_len h]
    rcases Nat.lt_or_ge i ps.length with h1 | h1
    · exact h1
    · rw [List.getElem?_eq_none h1] at e; cases e
  obtain ⟨b, n, q', t, u, w, e', ev, hm⟩ := parts_get h i vs[i] (List.getElem?_eq_getElem hi)
  rw [e] at e'
  obtain rfl := Option.some.inj e'
  refine ⟨b, n, t, u, w, ?_, hm⟩
  rw [Int.toNat_natCast, ← ev]
  simp
theorem strs_at {vs : List Value} {xs : List Str} (h : StrsAre vs xs) {i : Nat} {x : Str} (e : xs[i]? = some x) : ∃ u, vs.toArray[((i : Nat) : Int).toNat]? = some (Value.str x u) := by
  obtain ⟨h1, h2⟩ := strs_get h
  have hi : i < vs.length := by
    rw [h1]
    rcases Nat.lt_or_ge i xs.length with h1 | h1
    · exact h1
    · rw [List.getElem?_eq_none h1] at e; cases e
  obtain ⟨y, u, e', ev⟩ := h2 i vs[i] (List.getElem?_eq_getElem hi)
  rw [e] at e'
  obtain rfl := Option.some.inj e'
  refine ⟨u, ?_⟩
  rw [Int.toNat_natCast, ← ev]
  simp
theorem turn_next {ps : List (Str × Value)} {led : List (Addr × Obj)} {Q : Flow → Shared → Prop} {h' : Heap} {tk' : Nat} {g' : Array GenState} {m' : Str → Option Value} (hb : AllBare g') (F : Fr h₀ L h' m') (N : News h₀ L h' led) (hj : ∀ p ∈ ps, m' p.1 = some p.2) :
    TurnEnd h₀ L ps led s Q .next { s with heap := h', toks := tk', gens := g' } := ⟨h', tk', g', m', rfl, hb, F, N, hj⟩
theorem cut_run (vs : List Value) (i j : Nat) (h : i + j ≤ vs.length) : slicePick vs.toArray (some ((i : Nat) : Int)) (some ((i + j : Nat) : Int)) none = ((vs.drop i).take j).toArray := by
  rw [slicePick_run vs.toArray i (i + j) (by simpa using h) (by omega)]
  simp
theorem parts_drop {l : List (Addr × Obj)} {vs : List Value} {ps : List Prt} (h : PartsAre l vs ps) : ∀ k, PartsAre l (vs.drop k) (ps.drop k) := by
  induction h with
  | nil => intro k; simp only [List.drop_nil]; exact .nil
  | cons hm r ih =>
    intro k
    cases k with
    | zero => exact .cons hm r
    | succ k => exact ih k
theorem parts_take {l : List (Addr × Obj)} {vs : List Value} {ps : List Prt} (h : PartsAre l vs ps) : ∀ k, PartsAre l (vs.take k) (ps.take k) := by
  induction h with
  | nil => intro k; simp only [List.take_nil]; exact .nil
  | cons hm r ih =>
    intro k
    cases k with
    | zero => exact .nil
    | succ k => exact .cons hm (ih k)
theorem strs_drop {vs : List Value} {xs : List Str} (h : StrsAre vs xs) : ∀ k, StrsAre (vs.drop k) (xs.drop k) := by
  induction h with
  | nil => intro k; simp only [List.drop_nil]; exact .nil
  | cons y t r ih =>
    intro k
    cases k with
    | zero => exact .cons y t r
    | succ k => exact ih k
theorem strs_take {vs : List Value} {xs : List Str} (h : StrsAre vs xs) : ∀ k, StrsAre (vs.take k) (xs.take k) := by
  induction h with
  | nil => intro k; simp only [List.take_nil]; exact .nil
  | cons y t r ih =>
    intro k
    cases k with
    | zero => exact .nil
    | succ k => exact .cons y t (ih k)
theorem strs_cut {vs : List Value} {ps : List Prt} (h : StrsAre vs (ps.map wordP)) (i j : Nat) : StrsAre ((vs.drop i).take j).toArray.toList (((ps.drop i).take j).map wordP) := by
  have := strs_take (strs_drop h i) j
  rw [← List.map_drop, ← List.map_take] at this
  exact this
theorem cut_ok {ps : List Prt} (h : ∀ q ∈ ps, PrtOk q) (i j : Nat) : ∀ q ∈ (ps.drop i).take j, PrtOk q := fun q hq => h q (List.mem_of_mem_drop (List.mem_of_mem_take hq))
theorem cut_len {ps : List Prt} (h : ps.length ≤ 7) (i j : Nat) : ((ps.drop i).take j).length ≤ 7 := by
  rw [List.length_take, List.length_drop]; omega
theorem ne_int_known {A : Around} {x y : Int} {t u : Tok} {b : Bool} {Q : Value → Shared → Prop} (e : (x != y) = b) (h : Q (.bool b) s) : wpAny (model PR w) A (compareOp .NotEq (.int x t) (.int y u)) Q E s := ne_int (by rw [e]; exact h)
theorem it_str0 {A : Around} {value slice : Expr} {l : Addr} {n : Nat} {acc : Array Value} {x : Str} {xs : List Str} {u : Tok} {Q : Value → Shared → Prop} (N : News h₀ L s.heap news) (hl : (l, listOf acc n) ∈ news)
    (hs : StrsAre acc.toList (x :: xs)) (h : ∀ u, Q (.str x u) s)
    (hs' : subscripted slice false (.ref l) (.int 0 u) = operate [.ref l, .int 0 u] (getItem (.ref l) (.int 0 u))) : wpAny (model PR w) A (subscriptTail value slice (.ref l) (.int 0 u)) Q E s := by
  obtain ⟨u', e⟩ := strs_at hs (i := 0) rfl
  exact it_pos N hl e (by decide) (by decide) (h u') hs'
theorem split_one {x : Str} (hok : ∀ c ∈ x.cps.toList, okC c = true) : lexAll ([x].length + 1) .sp (joinS [x]).cps.toList = some [x] :=
  split_join (List.cons_ne_nil _ _) fun y hy => by rw [List.mem_singleton.mp hy]; exact hok
theorem one_all {P : Str → Prop} {x : Str} (h : P x) : ∀ y ∈ [x], P y := fun y hy => by rw [List.mem_singleton.mp hy]; exact h
theorem join1_len {x : Str} (h : x.length ≤ 2000) : (joinS [x]).length ≤ 1000000 := by
  have := join_len (B := 2000) (xs := [x]) (one_all h)
  simp only [List.length_cons, List.length_nil] at this
  omega

end
end TZ3
section TZ1
section
variable {w : World} {p : Program} {loose : List Str} {mean : ExcName → Option Value} {mg mb : Str → Option Value}
  {dp un : Nat} {gd : Option (List Code)} {cn : Str} {cs : Scope} {a : Addr} {ccd : Value} {cl : List (Str × Addr)} {outer : List Env} {A₀ : Around} {base h₀ : Heap} {L : Addr} {m : Str → Option Value} {news ext : List (Addr × Obj)} {s : Shared} {Q E : Value → Shared → Prop}
local macro_rules | `(tactic| k_mem) => `(tactic| (first | with_reducible exact mem_hd | with_reducible assumption | (with_reducible refine mem_tl ?_; k_mem)))
local macro_rules | `(tactic| is_list) => `(tactic| exact News.isList (by k_asm) (by k_mem))
local macro_rules | `(tactic| walk_at "subscriptTail Name Slice ref ref") => `(tactic| (k_here; k_dflt (refine' my_slice ?F ?N ?l ?p ?q ?e ?_ ?s ?t ?z; (case F => k_asm); (case N => k_asm); (case l => is_list); (case p => first | exact IsPart.none | exact IsPart.int _ _); (case q => first | exact IsPart.none | exact IsPart.int _ _); (case e => first | exact upto5 _ | exact from1 _ | with_reducible assumption); (case s => with_unfolding_all rfl); (case t => (intro _; with_unfolding_all rfl)); (case z => (simp only [List.size_toArray]; omega)); k_whole); intro D9 n9 h9 F9 N9 l9; (have l8 := MyStop.intro l9); (try k_lt l9); (try dsimp only); (try k_sweep)))
local macro_rules | `(tactic| walk_at "binaryOp Add ref ref") => `(tactic| (k_here; k_dflt (refine' my_add ?F ?N ?l ?b ?z ?_; (case F => k_asm); (case N => k_asm); (case l => k_mem); (case b => k_mem); (case z => (simp only [List.length_cons, List.length_nil]; omega)); k_whole); intro D9 n9 h9 F9 N9 l9; (have l8 := MyStop.intro l9); (try k_lt l9); (try dsimp only); (try k_sweep)))
local macro_rules | `(tactic| walk_at "exec Assign cons ListComp") => `(tactic| (k_dflt (refine MyStop.out ?_)))
local macro_rules | `(tactic| walk_at "my enter0") => `(tactic| (k_dflt (refine' code_def0 ?k3 ?k5 ?k6 ?k7 ?k8 ?k9 ?kB ?_ ?c2 ?c3 ?c4 ?c5; (case k3 => assumption); (case k5 => assumption); (case k6 => k_is); (case k7 => k_is); (case k8 => assumption); (case k9 => exact BindsTo.of_eq rfl); (case c5 => decide); (case kB => exact locs rfl); (case c2 => exact rfl); (case c3 => exact rfl); (case c4 => exact rfl); k_whole; intro g' L' h' eg F' N' X' T'; subst eg; (try dsimp only))))
local macro_rules | `(tactic| walk_at "eval ListComp") => `(tactic| (k_dflt (refine MyStop.out ?_)))
local macro_rules | `(tactic| walk_at "exec For Name Call cons nil") => `(tactic| (k_dflt (refine wpAny_For ?_ (by intro _; rfl))))
local macro_rules | `(tactic| walk_at "pyIter ref") => `(tactic| (k_dflt (refine MyStop.out ?_)))
local macro_rules | `(tactic| walk_at "call type:range") => `(tactic| (k_here; k_dflt (first
  | (refine' my_range1 ?F ?N ?_; (case F => k_asm); (case N => k_asm); k_whole)
  | (refine' my_range2 ?F ?N ?_; (case F => k_asm); (case N => k_asm); k_whole)); intro r9 t9 u9 v9 h9 k9 F9 N9 l9; clear l9; (try dsimp only); (try k_sweep)))
local macro_rules | `(tactic| walk_at "call builtin:len") => `(tactic| (k_here; k_dflt (refine' len_known ?N ?l ?e ?k ?_; (case N => k_asm); (case l => k_mem); (case e => with_reducible assumption); (case k => omega); k_whole); intro t9 k9; (try dsimp only)))
local macro_rules | `(tactic| walk_at "subscriptTail Name Name ref int") => `(tactic| (k_here; k_dflt (refine' it_pos ?k1 ?k2 ?k3 ?k4 ?k5 ?_ ?k6; (case k1 => k_asm); (case k2 => k_mem); (case k3 => with_reducible assumption); (case k4 => omega); (case k5 => omega); (case k6 => with_unfolding_all rfl); k_whole)))
local macro_rules | `(tactic| walk_at "call ref") => `(tactic| (k_here; k_dflt (first
  | (refine' c_join_miss ?hA ?F ?X ?N ?T ?B ?room ?l ?s ?xl ?xb ?_; (case hA => exact rfl); (case F => k_asm); (case X => assumption); (case N => k_asm); (case T => assumption); (case B => assumption); (case room => (simp only [depth_deeper, depth_caller]; decide)); (case l => k_mem); (case s => assumption); (case xl => assumption); (case xb => assumption); k_whole; intro h2 ps2 hj tkj gsj tj Fj Nj Xj Tj Bj Cj Gj; (have Bc2 := below_caller h2); (try dsimp only))
  | (refine' c_join_hit ?hA ?F ?X ?N ?T ?C ?room ?l ?s ?xl ?xb ?_; (case hA => exact rfl); (case F => k_asm); (case X => assumption); (case N => k_asm); (case T => assumption); (case C => assumption); (case room => (simp only [depth_deeper, depth_caller]; decide)); (case l => k_mem); (case s => first | assumption | exact .cons _ _ .nil); (case xl => first | with_reducible assumption | (simp only [List.length_cons, List.length_nil]; omega)); (case xb => assumption); k_whole; intro hj tkj gsj tj Fj Nj Gj; (have Gb := Gj (by assumption)); (try dsimp only))
  | (refine' c_due_line ?B ?F ?X ?N ?T ?hk ?hl ?hp ?hok ?hlen ?dp ?un ?_; (case B => assumption); (case F => k_asm); (case X => assumption); (case N => k_asm); (case T => assumption); (case hk => exact rfl); (case hl => k_mem); (case hp => (refine' parts_weak ?sub ?pp; (case pp => assumption); (case sub => (intro q9 hq9; k_mem)))); (case hok => assumption); (case hlen => assumption); (case dp => first | decide | (simp only [depth_deeper, depth_caller]; decide)); (case un => first | decide | (simp only [units_deeper, units_caller]; decide)); k_whole; intro D9 c9 h9 tk9 F9 N9 l9; clear l9; (try dsimp only))
  | (refine' c_split ?B ?F ?X ?N ?T ?hk ?hx ?dp ?hall ?hlen ?_; (case B => assumption); (case F => k_asm); (case X => assumption); (case N => k_asm); (case T => assumption); (case hk => exact rfl); (case hx => assumption); (case dp => first | decide | (simp only [depth_deeper, depth_caller]; decide)); (case hall => assumption); (case hlen => assumption); k_whole; intro S9 acc9 c9 h9 tk9 F9 N9 hs9; (try dsimp only))
  | (refine' c_due_word ?B ?F ?X ?N ?T ?hk ?hl ?hi ?hk4 ?hm ?dp ?_; (case B => assumption); (case F => k_asm); (case X => assumption); (case N => k_asm); (case T => assumption); (case hk => exact rfl); (case hl => k_mem); (case hi => assumption); (case hk4 => assumption); (case hm => assumption); (case dp => first | decide | (simp only [depth_deeper, depth_caller]; decide)); k_whole; intro D9 c9 h9 tk9 F9 N9 l9; clear l9; (try dsimp only))
  | (refine' c_is_true ?B ?F ?X ?N ?T ?hk ?hx ?hl ?dp ?e0 ?e1 ?_; (case B => assumption); (case F => k_asm); (case X => assumption); (case N => k_asm); (case T => assumption); (case hk => exact rfl); (case hl => k_mem); (case hx => assumption); (case dp => first | decide | (simp only [depth_deeper, depth_caller]; decide)); (case e0 => with_reducible assumption); (case e1 => with_reducible assumption); k_whole; intro h9 tk9 F9 N9; (try dsimp only)))))
local macro_rules | `(tactic| walk_at "compareOp NotEq ref ref") => `(tactic| (k_here; k_dflt (refine' ne_strs ?N ?l ?b ?s1 ?s2 ?u ?_; (case N => k_asm); (case l => k_mem); (case b => k_mem); (case s1 => assumption); (case s2 => assumption); (case u => first | decide | (simp only [units_deeper, units_caller]; decide)); k_whole)))
local macro_rules | `(tactic| walk_at "compareOp NotEq int int") => `(tactic| (k_here; k_dflt (refine' ne_int_known ?k1 ?_; (case k1 => with_reducible assumption); k_whole)))
local macro_rules | `(tactic| walk_at "compareOp Eq ref ref") => `(tactic| (k_here; k_dflt (refine' eq_strs ?N ?l ?b ?s1 ?s2 ?u ?_; (case N => k_asm); (case l => k_mem); (case b => k_mem); (case s1 => assumption); (case s2 => assumption); (case u => first | decide | (simp only [units_deeper, units_caller]; decide)); k_whole)))
local macro_rules | `(tactic| walk_at "subscriptTail Call Constant ref int") => `(tactic| (k_here; k_dflt (refine' it_str0 ?N ?l ?s ?_ ?k6; (case N => k_asm); (case l => k_mem); (case s => assumption); (case k6 => with_unfolding_all rfl); k_whole); intro u9))
local macro_rules | `(tactic| walk_at "Leave0") => `(tactic| (k_dflt (refine MyStop.out ?_)))
set_option maxRecDepth 100000 in
set_option maxHeartbeats 0 in
theorem law_call (hg : AllBare s.gens) (X : (hd0.heap_1 w.params).In s.heap) (T : Top bareP loose mean mg mb s.heap) (hB : Based s.heap s.heap 764 760 #[])
  {l : Addr} {vs : List Value} {ns : List Int} (hl : s.heap.IsList l vs.toArray) (hi : IntsAre vs ns) (hlen : ns.length ≤ 63)
  (hret : ∀ h₂ ps h' tk gs, Based s.heap h₂ 764 760 ps → (∀ b o, h₂.get? b = some o → h'.get? b = some o) → AllBare gs → Q (.bool true) { s with heap := h', toks := tk, gens := gs }) :
  wpAny (model PR w) callerA (call (.ref 820) [.ref l]) Q E s := by
  have hroom9 : callerA.depth < recursionLimit := by decide
  have B0 := below_caller s.heap
  have hvl : vs.length ≤ 63 := by rw [hi.length]; exact hlen
  refine wpAny_call ?_
  walk_at "my enter0"
  k_steps
  refine MyStop.intro ?_
  rename Fr _ _ _ (fun _ => _) => FF
  rename News _ _ _ (_ :: _) => NN
  refine LCg.ListComp_U (F₀ := FF) rfl (by decide) rfl (by decide) rfl ?_
  refine ld FF rfl ?_
  refine LCg.CompSrc.ledger rfl FF NN (by k_mem) (by simp only [List.size_toArray]; exact Nat.le_trans (List.length_take_le _ _) (by decide)) fun g => ?_
  have hi5 : IntsAre (vs.take 5).toArray.toList (ns.take 5) := hi.take 5
  have h5 : (ns.take 5).length ≤ 5 := List.length_take_le _ _
  refine rest_parts B0 X T rfl (by decide) (fun _ => rfl) (fun _ => rfl) (fun _ => rfl) hi5 (by k_mem) (fun ys news' sub hp => ?_) _ 0 [] _ (by simp) (fun q hq => hq) .nil
  have m0 := sub _ (.head _)
  have m1 := sub _ (.tail _ (.head _))
  have m2 := sub _ (.tail _ (.tail _ (.head _)))
  have hp2 := PartsAre.cons (i := 2) (k := 0) m2 (.cons (i := 0) (k := 2) m1 hp)
  have hyl : ys.length ≤ 5 := by have := parts_len hp; rw [this, List.length_map]; exact h5
  intro D8 h8 tk8 F8 N8 off8
  replace N8 : News s.heap _ h8 ((D8, listOf ys.toArray ys.length) :: news') := N8
  clear off8 FF NN
  k_steps
  refine MyStop.intro ?_
  rename Fr _ _ _ (fun _ => _) => FP
  rename News _ _ _ (_ :: _) => NP
  generalize hps : (((2, Str.ofString "a", 0) :: (0, Str.ofString "b", 2) :: (ns.take 5).map prtOf : List Prt)) = ps at hp2
  have hok : ∀ q ∈ ps, PrtOk q := by
    rw [← hps]
    intro q hq
    rcases List.mem_cons.mp hq with rfl | hq
    · exact ⟨by decide, by decide +kernel, by decide⟩
    · rcases List.mem_cons.mp hq with rfl | hq
      · exact ⟨by decide, by decide +kernel, by decide⟩
      · obtain ⟨x, _, rfl⟩ := List.mem_map.mp hq
        exact prt_ok x
  have hpl : ps.length ≤ 7 ∧ 2 ≤ ps.length := by
    rw [← hps]
    simp only [List.length_cons, List.length_map]
    omega
  clear hps m0 m1 m2 sub hp hi5 h5 hyl
  have NP2 := cb_drop NP mem_skip1
  clear NP
  obtain ⟨vp, NP3, hp3⟩ := gen_vp NP2 hp2
  clear hp2 NP2
  refine LCg.Assign_ListComp_U (F₀ := FP) rfl (by with_unfolding_all rfl) rfl (by decide) rfl (by decide) rfl rfl rfl ?_
  refine ld FP rfl ?_
  have hpl7 := parts_len hp3
  refine LCg.CompSrc.ledger rfl FP NP3 (.head _) (by rw [List.size_toArray]; exact Nat.le_trans (Nat.le_of_eq hpl7) (Nat.le_trans hpl.1 (by decide))) fun g2 => ?_
  refine rest_row B0 X T rfl (by decide) (fun _ => rfl) (fun _ => rfl) (fun _ => rfl) (parts_weak (fun q hq => .tail _ hq) hp3) hok (.head _) (fun vr hvr => ?_) _ 0 [] (by simp) .nil
  intro R1 h7 tk7 F7 N7 off7
  replace N7 : News s.heap _ h7 ((R1, listOf vr.toArray vr.length) :: _) := N7
  obtain ⟨u6, F6⟩ := ex_kst (ps := [(Str.ofString "row", .ref R1), (Str.ofString "parts", .ref _)]) F7 (List.forall_mem_cons.mpr ⟨rfl, List.forall_mem_cons.mpr ⟨rfl, List.forall_mem_nil _⟩⟩)
  clear off7 F7 FP NP3
  have rf := row_facts hok hpl.1
  have rxl := rf.xl
  have rxb := rf.xb
  have rjl := rf.jl
  have rln := rf.ln
  have rsp := row_split hok hpl.1 (fun e => by rw [e] at hpl; exact absurd hpl.2 (by decide))
  replace hvr : StrsAre vr.toArray.toList (ps.map wordP) := hvr
  have hvs : vr.toArray.size = ps.length := by have := (strs_get hvr).1; simpa using this
  have hpl1 := hpl.1
  have hpl2 := hpl.2
  dsimp only
  k_steps
  refine MyStop.intro ?_
  rename Fr _ _ _ (kstB _ _) => FK
  rename News _ _ _ ((_, rngObj _ _ _ _ _) :: _) => NK
  rename (AllBare _ → AllBare _) => GJ
  have GK := GJ hg
  refine range_loop (ps := [(Str.ofString "row", .ref R1), (Str.ofString "parts", .ref _)]) (n := ps.length) rfl FK NK (.head _) (by omega) (by decide) (by decide) (by omega) GK rfl rfl (by passes_own) (List.forall_mem_cons.mpr ⟨(by show Str.ofString "row" ≠ Str.ofString "k"; decide), List.forall_mem_cons.mpr ⟨(by show Str.ofString "parts" ≠ Str.ofString "k"; decide), List.forall_mem_nil _⟩⟩) (List.forall_mem_cons.mpr ⟨rfl, List.forall_mem_cons.mpr ⟨rfl, List.forall_mem_nil _⟩⟩) ?turn1 ?done1
  case turn1 =>
    intro i I oI t u h tk g hi hbg Fi Ni
    rw [Int.zero_add] at Fi
    obtain ⟨q, hq⟩ : ∃ q, ps[i]? = some q := ⟨_, List.getElem?_eq_getElem hi⟩
    obtain ⟨hq1, hq2, hq3⟩ := hok q (List.mem_of_getElem? hq)
    have hq4 := mid_len hq2
    obtain ⟨eq0, eq1⟩ := word_due hq1 hq3 hq2
    obtain ⟨b, nb, tb, ub, wb, hb1, hb2⟩ := parts_at hp3 hq
    obtain ⟨ur, hr⟩ := strs_at hvr (i := i) (x := wordV q.1 q.2.1 q.2.2) (by rw [List.getElem?_map, hq]; rfl)
    have hwl : (wordV q.1 q.2.1 q.2.2).length ≤ 1000000 := Nat.le_trans (word_ok (q := q) ⟨hq1, hq2, hq3⟩).2 (by decide)
    k_steps
    rename Fr _ _ _ (kstB _ _) => Fe
    rename News _ _ _ (_ :: _) => Ne
    exact turn_next hbg Fe (cb_drop Ne (fun q hq => .tail _ hq)) (List.forall_mem_cons.mpr ⟨rfl, List.forall_mem_cons.mpr ⟨rfl, List.forall_mem_nil _⟩⟩)
  case done1 =>
    intro u h tk g hbg Fd Nd
    dsimp only
    k_steps
    refine MyStop.intro ?_
    rename Fr _ _ _ (kstB _ _) => FK2
    rename News _ _ _ ((_, rngObj _ _ _ _ _) :: _) => NK2
    refine range_loop (ps := [(Str.ofString "row", .ref R1), (Str.ofString "parts", .ref _)]) (n := ps.length + 1) rfl FK2 NK2 (.head _) (by omega) (by decide) (by decide) (by omega) hbg rfl rfl (by passes_own) (List.forall_mem_cons.mpr ⟨(by show Str.ofString "row" ≠ Str.ofString "i"; decide), List.forall_mem_cons.mpr ⟨(by show Str.ofString "parts" ≠ Str.ofString "i"; decide), List.forall_mem_nil _⟩⟩) (List.forall_mem_cons.mpr ⟨rfl, List.forall_mem_cons.mpr ⟨rfl, List.forall_mem_nil _⟩⟩) ?turn2 ?done2
    case turn2 =>
      intro i I oI t u h tk g hi hbg Fi Ni
      rw [Int.zero_add] at Fi
      k_steps
      refine MyStop.intro ?_
      rename Fr _ _ _ (kstB _ _) => FK3
      rename News _ _ _ ((_, rngObj _ _ _ _ _) :: _) => NK3
      refine range_loop (ps := [(Str.ofString "i", .int (i : Int) t), (Str.ofString "row", .ref R1), (Str.ofString "parts", .ref _)]) (n := ps.length + 1 - i) rfl FK3 NK3 (.head _) (by omega) (by omega) (by omega) (by omega) hbg rfl rfl (by passes_own) (List.forall_mem_cons.mpr ⟨(by show Str.ofString "i" ≠ Str.ofString "j"; decide), List.forall_mem_cons.mpr ⟨(by show Str.ofString "row" ≠ Str.ofString "j"; decide), List.forall_mem_cons.mpr ⟨(by show Str.ofString "parts" ≠ Str.ofString "j"; decide), List.forall_mem_nil _⟩⟩⟩) (List.forall_mem_cons.mpr ⟨rfl, List.forall_mem_cons.mpr ⟨rfl, List.forall_mem_cons.mpr ⟨rfl, List.forall_mem_nil _⟩⟩⟩) ?turn3 ?done3
      case done3 =>
        intro u h tk g hbg Fd Nd
        dsimp only
        k_steps
        rename Fr _ _ _ (kstB _ _) => Fe
        rename News _ _ _ (_ :: _) => Ne
        exact turn_next hbg Fe (cb_drop Ne (fun q hq => .tail _ hq)) (List.forall_mem_cons.mpr ⟨rfl, List.forall_mem_cons.mpr ⟨rfl, List.forall_mem_nil _⟩⟩)
      case turn3 =>
        intro j I2 oI2 t2 u h tk g hj hbg Fj Nj
        rw [← Int.natCast_add] at Fj
        have hs1 := cut_run vr i j (by rw [show vr.length = ps.length by simpa using hvs]; omega)
        have hs2 := cut_run vp i j (by rw [hpl7]; omega)
        have hvrl : vr.length = ps.length := by simpa using hvs
        have hsr := strs_cut hvr i j
        have hok2 := cut_ok hok i j
        have hpl5 := cut_len hpl1 i j
        have hpp : PartsAre news' ((vp.drop i).take j).toArray.toList ((ps.drop i).take j) := parts_take (parts_drop hp3 i) j
        have hpcl : ((ps.drop i).take j).length = j := by rw [List.length_take, List.length_drop]; omega
        generalize (ps.drop i).take j = qs at hsr hok2 hpl5 hpp hpcl
        have rf2 := row_facts hok2 hpl5
        have rxl2 := rf2.xl
        have rxb2 := rf2.xb
        have rjl2 := rf2.jl
        have rjb2 : ∀ x ∈ [joinS (qs.map wordP)], x.length ≤ 2000 := one_all rf2.jl2
        have rjj2 := join1_len rf2.jl2
        have hql : qs.length ≤ 1000 := by omega
        obtain ⟨hd0, hd1⟩ := line_is hok2
        obtain ⟨he0, he1⟩ := line_is2 hok2
        rw [hpcl] at he0 he1
        by_cases hj1 : j = 1
        · rw [if_pos hj1] at he0 he1
          have hne : (((i + j : Nat) : Int) != (i : Int) + 1) = false := by rw [bne_eq_false_iff_eq]; omega
          k_steps
          rename Fr _ _ _ (fun _ => _) => Fe
          rename News _ _ _ (_ :: _) => Ne
          exact turn_next (by assumption) Fe (cb_drop Ne (fun q hq => by repeat (first | exact hq | apply List.Mem.tail))) (List.forall_mem_cons.mpr ⟨rfl, List.forall_mem_cons.mpr ⟨rfl, List.forall_mem_cons.mpr ⟨rfl, List.forall_mem_nil _⟩⟩⟩)
        · rw [if_neg hj1] at he0 he1
          have hne : (((i + j : Nat) : Int) != (i : Int) + 1) = true := by rw [bne_iff_ne]; omega
          k_steps
          rename Fr _ _ _ (fun _ => _) => Fe
          rename News _ _ _ (_ :: _) => Ne
          exact turn_next (by assumption) Fe (cb_drop Ne (fun q hq => by repeat (first | exact hq | apply List.Mem.tail))) (List.forall_mem_cons.mpr ⟨rfl, List.forall_mem_cons.mpr ⟨rfl, List.forall_mem_cons.mpr ⟨rfl, List.forall_mem_nil _⟩⟩⟩)
    case done2 =>
      intro u h tk g hbg Fd Nd
      dsimp only
      have hsr : StrsAre (vr.drop 1).toArray.toList ((ps.drop 1).map wordP) := by
        have := strs_drop hvr 1
        rw [← List.map_drop] at this
        exact this
      have hok2 : ∀ q ∈ ps.drop 1, PrtOk q := fun q hq => hok q (List.mem_of_mem_drop hq)
      have hpl5 : (ps.drop 1).length ≤ 7 := by rw [List.length_drop]; omega
      have hvrl : vr.length = ps.length := by simpa using hvs
      have rf2 := row_facts hok2 hpl5
      have rxl2 := rf2.xl
      have rxb2 := rf2.xb
      have rjl2 := rf2.jl
      have rln2 := rf2.ln
      have rjb2 : ∀ x ∈ [joinS ((ps.drop 1).map wordP)], x.length ≤ 2000 := one_all rf2.jl2
      have rjj2 := join1_len rf2.jl2
      have rsp2 := row_split hok2 hpl5 (fun e => by have := congrArg List.length e; rw [List.length_drop] at this; simp only [List.length_nil] at this; omega)
      have rsp3 := split_one (join_okC rf2.ok)
      have rone : [joinS ((ps.drop 1).map wordP)].length ≤ 1000000 := by simp
      k_steps
      refine MyStop.intro ?_
      rename Fr _ _ _ (kstB _ _) => Fe
      exact hret _ _ _ _ _ (by assumption) Fe.keep (by assumption)

end
end TZ1
section TZ9
section
variable {w : World} {p : Program} {loose : List Str} {mean : ExcName → Option Value} {mg mb : Str → Option Value}
  {dp un : Nat} {gd : Option (List Code)} {cn : Str} {cs : Scope} {a : Addr} {ccd : Value} {cl : List (Str × Addr)} {outer : List Env} {A₀ : Around} {base h₀ : Heap} {L : Addr} {m : Str → Option Value} {news ext : List (Addr × Obj)} {s : Shared} {Q E : Value → Shared → Prop}
set_option maxRecDepth 100000 in
theorem law_end {w : World} {s₀ s₁ : Shared} {mean : ExcName → Option Value} {cl : Str → Option Addr} {args : List WData} {h₂ h' : Heap} {ps : Array Value} {tk : Nat} {gs : Array GenState} (B : Based s₁.heap h₂ 764 760 ps) (hk : ∀ b o, h₂.get? b = some o → h'.get? b = some o) (hb : AllBare gs) :
    GoodWG PySem.Challenge.rw_ij0135_01.row.claim cl mean args s₁ (.ok (.ret (.bool true))) { s₁ with heap := h', toks := tk, gens := gs } := by
  refine ⟨.inl ⟨.bool true, .bool true, [], rfl, fun _ => rfl, .bool true, ?_, fun _ => ⟨.nil, fun _ ha => nomatch ha⟩⟩, B.old.step_keeps hk, rfl, hb⟩
  have hv : ∀ R : WRecords, (WTm.eq .res (.lit (.bool true))).value R { args := args, res := some (.bool true), after := args } = some (.bool (same (.bool true) (.bool true))) := fun R => by simp only [WTm.value]
  exact postW_of (r := PySem.Challenge.rw_ij0135_01.row.toRowW) rfl (hv _) (by decide +kernel)
set_option maxRecDepth 100000 in
theorem join_in : ((recsOf viewQ).any fun d => d.name == Str.ofString "join") = true := by decide +kernel
set_option maxRecDepth 100000 in
theorem join_based {w : World} {h : Heap} (X : (hd0.heap_1 w.params).In h) (T : Top viewQ loose mean mg mb h) : Based h h 764 760 #[] := by
  obtain ⟨d, hd, hn⟩ := List.any_eq_true.mp join_in
  have hn := eq_of_beq hn
  obtain ⟨b, o, fd, c, P, h1, h2, h3, h4, h5, h6⟩ := T.tab d hd
  have e765 := mg_of X T.g (show nsIn (Mine.hd0.heap_1 w.params) mainGlobals (Str.ofString "join") = some (some (.ref 765)) by k_is)
  rw [hn, e765] at h1
  injection Option.some.inj h1 with h1
  subst h1
  have e1 := X 765 _ rfl
  rw [h2] at e1
  have e1 := Option.some.inj e1
  subst e1
  injection h3 with h3
  subst h3
  injection h4 with h4
  subst h4
  have hP : P = 760 := by
    obtain ⟨o', vs', file, tf, flags, tg, inF, text, tt, op, a1, a2, a3, _⟩ := h5
    have e2 := X 764 _ rfl
    rw [a1] at e2
    have e2 := Option.some.inj e2
    subst e2
    injection a2 with a2
    subst a2
    injection a3 with a3
    exact a3.symm
  subst hP
  exact Based.start h5 h6 (by decide)

end
end TZ9
end W
end Mine
set_option maxRecDepth 1000000 in
set_option maxHeartbeats 0 in
theorem PySem.Challenge.cw_ij0135_01_holds : PySem.Challenge.rw_ij0135_01.Holds := by
  refine holds_law Mine.lawSaid fun said => ?_
  refine holds_open (q := Mine.viewQ) (loose := Mine.looseQ) (Xt := Mine.xtQ) (XP := XL Mine.viewQ []) (Yf := Hook.obs (kHook Mine.hd0.heap_1 Mine.hAs Mine.hAs_eq)) (Ya := Hook.val (kHook Mine.hd0.heap_1 Mine.hAs Mine.hAs_eq)) (YP := Hook.says (kHook Mine.hd0.heap_1 Mine.hAs Mine.hAs_eq)) (N := 10492) Mine.left (Hook.of (kHook Mine.hd0.heap_1 Mine.hAs Mine.hAs_eq)) (Hook.keeps (kHook Mine.hd0.heap_1 Mine.hAs Mine.hAs_eq)) (fun s e => xl_of s (Bool.and_eq_true_iff.mp e).1) XL.keeps (by rfl) (by rfl) (by rfl) (fun s e => recFacts_of (Bool.and_eq_true_iff.mp e).2) (by rfl) (by first | assumption | decide +kernel) (by decide +kernel) ⟨rfl, rfl, rfl, rfl, rfl, by decide +kernel⟩ ?hw ?hc
  case hw => w_witness2
  intro w s₀ s₁ mg mb G Y fa o pm cd doc dV kV ho hd' hcd hD hmg hg args vals as hpre hlay hrd hwl hlo
  have KX := kIn_of Y
  refine Ground.open G ?_
  intro T B D TE TW
  wrow_args hpre hlay hrd hwl hlo
  have e := mg_of KX T.g (show nsIn (Mine.hd0.heap_1 w.params) mainGlobals (Str.ofString "law") = some (some (.ref 820)) by k_is)
  have e2 := Option.some.inj (hmg.symm.trans e)
  injection e2 with e2
  subst e2
  rename _ = #[] => hg0
  refine Mine.law_call (by rw [hg0]; exact AllBare.empty) KX (Mine.bare_start T) (Mine.join_based KX T) (by assumption) (by assumption) (by omega) fun h₂ ps h' tk gs B2 hk hb => ?_
  exact Mine.law_end (w := w) (s₀ := s₀) B2 hk hb
