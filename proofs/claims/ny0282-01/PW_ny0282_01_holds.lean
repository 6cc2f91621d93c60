import PyProof.Rows.All
import Wide.All
import OpenK.AllK
import Wide.FinOn
import Lean
import PySem.Challenge.RW_ny0282_01
set_option Elab.async false
set_option maxRecDepth 100000
set_option linter.unusedVariables false
set_option compiler.extract_closed false
namespace Mine
section
open PySem PySem.W PySem.Calls PyProof.Rows
noncomputable abbrev P0 : Program := PySem.Challenge.pw_ny0282_01
noncomputable abbrev tT : String → Option Builtin := PySem.W.Fast.tw14364793385576792824
theorem tT_eq : treeTable = tT := PySem.W.Fast.te14364793385576792824
noncomputable abbrev ann0 : Option Value := some (.ref 6)
noncomputable abbrev pos0 : Pos := ⟨0, 0, 0, 0⟩
noncomputable abbrev posL : Pos := ⟨771, 0, 774, 92⟩
noncomputable abbrev env0 : Env := { scope := P0.main.scope, locals := mainNs, globals := mainNs, cells := [], code := .ref 36, frame := some 37 }
noncomputable abbrev b0 : List Stmt := behindTheImports P0
noncomputable abbrev cE : Code := Code.body b0 env0
noncomputable abbrev B0 : List Frame := [topFrame pos0]
noncomputable abbrev sA : Shared := (start (opening P0)).1
theorem abs_gen (s : Shared) (t : BT) (h : t.list s.heap.objs.size = s.heap.objs.toList) : (⟨t, s.heap.objs.size, s.heap.life, s.gens, s.drawn, s.toks, s.os⟩ : SharedT).abs = s := by
  obtain ⟨⟨objs, life⟩, g, d, k, o⟩ := s
  have h' : t.list objs.size = objs.toList := h
  show (⟨⟨(t.list objs.size).toArray, life⟩, g, d, k, o⟩ : Shared) = _
  rw [h']
/-- The text opened. -/
noncomputable def f0 (w : World) : Option Shared := (PySem.W.Fast.tw10274390034422433532 tT (opening P0) w 10198 sA (start (opening P0)).2).bind (PySem.W.Fast.tw14289696077712309145 P0)
theorem f0_eq (w : World) : fencedOpening treeTable P0 w 10198 = f0 w := by
  unfold fencedOpening f0
  rw [tT_eq, PySem.W.Fast.te10274390034422433532, PySem.W.Fast.te14289696077712309145]
noncomputable def s0 (w : World) : Shared := (f0 w).getD sA
/-- The body entered. -/
noncomputable def g1T (w : World) (s : Shared) : Option (Shared × Thread) := PySem.W.Fast.tw15667345088766844465 tT P0 w 34 ann0 12 s (topStub P0)
noncomputable def g1 (w : World) : Option (Shared × Thread) := g1T w (s0 w)
noncomputable def th1 : Thread := ⟨PySem.W.Fast.tw11892475500146522536 tT cE, cE, pos0, B0⟩
theorem all_of {α β : Type} {x : Option α} {f : α → β} {b : β} (d : α) (h : x.map f = some b) : x = some (x.getD d) ∧ f (x.getD d) = b := by
  cases x with
  | none => cases h
  | some v => exact ⟨rfl, Option.some.inj h⟩
/-- The opening, what is looked at behind it, and the body's entry: one run. -/
theorem f0_all (w : World) : (f0 w).map (fun s => ((s.heap.isNs mainGlobals && s.gens.size == 0, s.heap.objs.size, s.heap.nsMap mainGlobals "__annotations__"), (g1T w s).map (·.2))) = some ((true, 34, ann0), some th1) := by kernel_rfl
theorem three_of {α β γ : Type} {x : Option α} {f : α → β} {g : α → γ} {b : β} {c : γ} (d : α) (h : x.map (fun s => (f s, g s)) = some (b, c)) : x = some (x.getD d) ∧ f (x.getD d) = b ∧ g (x.getD d) = c := by
  obtain ⟨h1, h2⟩ := all_of d h
  exact ⟨h1, (Prod.mk.inj h2).1, (Prod.mk.inj h2).2⟩
theorem s0_def (w : World) : (f0 w).getD sA = s0 w := rfl
theorem f0_is (w : World) : f0 w = some (s0 w) := (three_of sA (f0_all w)).1
theorem s0_ok (w : World) : ((s0 w).heap.isNs mainGlobals && (s0 w).gens.size == 0, (s0 w).heap.objs.size, (s0 w).heap.nsMap mainGlobals "__annotations__") = (true, 34, ann0) := by
  have h := (three_of sA (f0_all w)).2.1
  rw [s0_def] at h
  exact h
theorem g1_th (w : World) : (g1 w).map (·.2) = some th1 := by
  have h := (three_of sA (f0_all w)).2.2
  rw [s0_def] at h
  exact h
noncomputable def s1 (w : World) : Shared := ((g1 w).map (·.1)).getD sA
/-- The block begun. -/
noncomputable def g2 (w : World) : Option (Flow × Shared × Code × Pos) := PySem.W.Fast.tw14374325043358763698 tT P0 w 34 ann0 1 1 (s1 w) (blockOf b0 env0 cE pos0 B0)
theorem g2_ok (w : World) : (g2 w).map (fun r => (r.1, r.2.2)) = some (.next, cE, pos0) := by kernel_rfl
noncomputable def s2 (w : World) : Shared := ((g2 w).map (·.2.1)).getD sA
noncomputable def btOf : Nat → List Obj → BT → BT
  | _, [], t => t
  | i, o :: l, t => btOf (i + 1) l (t.ins i o)
noncomputable def t2 (w : World) : SharedT := ⟨btOf 0 (s2 w).heap.objs.toList .nil, (s2 w).heap.objs.size, (s2 w).heap.life, (s2 w).gens, (s2 w).drawn, (s2 w).toks, (s2 w).os⟩
theorem t2_list (w : World) : (btOf 0 (s2 w).heap.objs.toList .nil).list (s2 w).heap.objs.size = (s2 w).heap.objs.toList := by kernel_rfl
theorem t2_abs (w : World) : (t2 w).abs = s2 w := by
  unfold t2
  exact abs_gen (s2 w) (btOf 0 (s2 w).heap.objs.toList .nil) (t2_list w)
/-- The whole body run. -/
noncomputable def R (w : World) : Option (Flow × SharedT × Code × Pos) := PySem.W.Fast.tw10110043849684766642 tT P0 w 34 ann0 1 5040 (t2 w) (piecesOf b0 env0 cE pos0 B0)
end
section
open PySem PySem.W PySem.Calls PyProof.Rows
theorem pair_of {α β γ : Type} {x : Option (α × β × γ)} {a : α} {c : γ} (d : β) (h : x.map (fun r => (r.1, r.2.2)) = some (a, c)) : x = some (a, (x.map (·.2.1)).getD d, c) := by
  cases x with
  | none => cases h
  | some v =>
    obtain ⟨v1, v2, v3⟩ := v
    simp only [Option.map_some, Option.some.injEq, Prod.mk.injEq] at h
    obtain ⟨rfl, rfl⟩ := h
    rfl
theorem two_of {α β : Type} {x : Option (α × β)} {b : β} (d : α) (h : x.map (·.2) = some b) : x = some ((x.map (·.1)).getD d, b) := by
  cases x with
  | none => cases h
  | some v =>
    obtain ⟨v1, v2⟩ := v
    simp only [Option.map_some, Option.some.injEq] at h
    subst h
    rfl
noncomputable def t3 (w : World) : SharedT := ((R w).map (·.2.1)).getD (t2 w)
/-- The end of the run. -/
noncomputable def g3T (w : World) (t : SharedT) : Option Shared := PySem.W.Fast.tw14082659384304107361 tT P0 w 34 ann0 2 t.abs ⟨doneF .next, cE, posL, B0⟩
noncomputable def g3 (w : World) : Option Shared := g3T w (t3 w)
noncomputable def s4 (w : World) : Shared := (g3 w).getD sA
noncomputable abbrev vw : Program := view P0 [0, 1, 2, 4, 5, 6, 7, 9, 10, 11, 12, 13, 14, 15, 16, 18, 19, 20, 21, 22, 23, 25, 27, 28, 29, 30, 31]
noncomputable abbrev loose0 : List Str := [Str.ofString "_twin_re_1", Str.ofString "_twin_re_2", Str.ofString "UnsupportedOperation", Str.ofString "IOBase", Str.ofString "BufferedIOBase", Str.ofString "TextIOBase", Str.ofString "BytesIO", Str.ofString "StringIO", Str.ofString "shlex"]
noncomputable abbrev Xt0 (s : Shared) : Bool := xlAt vw [] s && recOk (PySem.Challenge.rw_ny0282_01.row.toRowW.records) s
theorem and_i {a b : Bool} (h : a = true) (k : b = true) : (a && b) = true := by rw [h, k]; rfl
theorem or_l {a b : Bool} (h : a = true) : (a || b) = true := by rw [h]; rfl
noncomputable abbrev Pr : Program := PySem.Challenge.rw_ny0282_01.row.prog
theorem bare_none : (["vars", "dir", "locals"] : List Str).filter (readsOut Pr Pr.main.body) = [] := by rw [PySem.W.Fast.te13343964577679436407]; kernel_rfl
theorem not_strict : (!(importedModules Pr.main.body).all cThrough.contains) = false := by rw [PySem.W.Fast.te17691160309236699985, PySem.W.Fast.te5923862056798008813]; kernel_rfl
theorem no_road : noRoadLSs { strict := false, foot := none, bare := [] } Pr.main.body = true := by rw [PySem.W.Fast.te8326940854005059898]; kernel_rfl
theorem fenced0 : sreFenced Pr.main = true := by rw [PySem.W.Fast.te11788848310118352699]; kernel_rfl
theorem looked0 : ((moduleNames Pr.main.body).isEmpty || lookedIntoSs (moduleNames Pr.main.body) Pr.main.body) = true := by rw [PySem.W.Fast.te12862048085361865435, PySem.W.Fast.te9807087744658564304]; kernel_rfl
theorem resolve0 : namesResolve Pr = true := by rw [PySem.W.Fast.te8377067652309620493]; kernel_rfl
theorem world0 : (Pr.boundNames.all fun n => !worldNames.contains n) = true := by rw [PySem.W.Fast.te14412699480532031325, PySem.W.Fast.te18344453789297297638]; kernel_rfl
theorem attrs0 : (namesMeet Pr Pr.main.body fun _ n => attrL n) = true := by rw [PySem.W.Fast.te17119622794617984870, PySem.W.Fast.te17868728402115742887]; kernel_rfl
theorem looks0 : looksOpen Pr = true := by
  unfold looksOpen
  rw [bare_none, not_strict, no_road, fenced0, looked0, resolve0, world0, attrs0]
  rfl
theorem row0 : PySem.Challenge.rw_ny0282_01.row.wellSaid = true := by
  unfold OpenRow.wellSaid OpenRow.partSaid
  rw [looks0]
  kernel_rfl
theorem above0 : namesMeet PySem.Challenge.rw_ny0282_01.prog PySem.Challenge.rw_ny0282_01.above (fun _ n => !PySem.Challenge.rw_ny0282_01.own.contains n) = true := by rw [PySem.W.Fast.te17119622794617984870]; kernel_rfl
theorem said0 : PySem.Challenge.rw_ny0282_01.wellSaid = true := by
  unfold OpenLaw.wellSaid
  rw [row0, above0, PySem.W.Fast.te17119622794617984870, PySem.W.Fast.te10501279942588096481, PySem.W.Fast.te8179353310426384613, PySem.W.Fast.te9558739934217749035, PySem.W.Fast.te8326940854005059898]
  kernel_rfl
/-- An object of a tree. -/
noncomputable def getT (x : SharedT) (a : Nat) : Option Obj := match Nat.blt a x.n with
  | true => (match x.tree.get a with | some o => alive o | none => x.abs.heap.get? a)
  | false => none
theorem getT_eq (x : SharedT) (a : Nat) : x.abs.heap.get? a = getT x a := by
  unfold getT
  show (absHeap x.tree x.n x.life).get? a = _
  cases h : Nat.blt a x.n with
  | true =>
    have h' : a < x.n := Nat.le_of_ble_eq_true h
    cases g : x.tree.get a with
    | some o => exact abs_get h' g
    | none => rfl
  | false =>
    refine abs_get_none fun h' => ?_
    have : Nat.blt a x.n = true := Nat.ble_eq_true_of_le h'
    rw [this] at h; cases h
theorem g3T_heap (w : World) (t : SharedT) : (g3T w t).map (·.heap) = some t.abs.heap := by kernel_rfl
theorem run_gen {tb : String → Option Builtin} {p : Program} {w : World} {m : Nat} {ann : Option Value} {s0 s1 s2 s4 : Shared} {b : List Stmt} {env : Env} {q pos pos' : Pos} {a2 a3 : SharedT} {stub th : Thread} {n : Nat} {g1 : Option (Shared × Thread)} {g2 : Option (Flow × Shared × Code × Pos)} {R : Option (Flow × SharedT × Code × Pos)} {g3 : Option Shared}
    (e1 : topGo tb p w m ann 12 s0 stub = g1) (k1 : g1 = some (s1, th)) (kt : th = ⟨denote tb (.body b env), .body b env, pos, [topFrame q]⟩)
    (e2 : segRun tb p w m ann 1 1 s1 (blockOf b env (.body b env) pos [topFrame q]) = g2) (k2 : g2 = some (.next, s2, .body b env, pos)) (ka : a2.abs = s2)
    (e3 : segRunT tb p w m ann 1 n a2 (piecesOf b env (.body b env) pos [topFrame q]) = R) (k3 : R = some (.next, a3, .body b env, pos'))
    (e4 : topRun tb p w m ann 2 a3.abs ⟨doneF .next, .body b env, pos', [topFrame q]⟩ = g3) (k4 : g3 = some s4) : topRun tb p w m ann (12 + (1 + (n + 2))) s0 stub = some s4 := by
  subst kt
  subst ka
  refine go_top (e1.trans k1) (piece_block (e2.trans k2) ?_)
  have h5 := piece_app (rest := []) (segRun_of (e3.trans k3)) (piece_nil (e4.trans k4))
  rw [List.append_nil] at h5
  exact h5
theorem ends_gen {p : Program} {w : World} {N m M : Nat} {ann : Option Value} {s0 s4 : Shared} (f : fencedOpening treeTable p w N = some s0) (z : (s0.heap.isNs mainGlobals && s0.gens.size == 0, s0.heap.objs.size, s0.heap.nsMap mainGlobals "__annotations__") = (true, m, ann)) (hle : M ≤ N)
    (r : topRun treeTable p w m ann M s0 (topStub p) = some s4) (l1 : (staticsOk (importedModules p.main.body) s0.heap s4.heap && namesBound p s4.heap && gensDone s4 && laidKept s0.heap s4.heap) = true) : openEnds treeTable p w N = some s4 := by
  obtain ⟨z1, z2, z3⟩ : _ ∧ _ ∧ _ := by simpa only [Prod.mk.injEq] using z
  have r' := topRun_mono (N - M) _ _ _ _ r
  rw [show M + (N - M) = N by omega] at r'
  have t : topFrom treeTable p w N s0 = some s4 := by
    unfold topFrom
    rw [z1, z2, z3, r']
    show (match staticsOk (importedModules p.main.body) s0.heap s4.heap && namesBound p s4.heap && gensDone s4 && laidKept s0.heap s4.heap with | true => _ | false => _) = _
    rw [l1]
  unfold openEnds
  rw [f]
  exact t
theorem left_gen {p q : Program} {loose : List Str} {Xt : Shared → Bool} {N : Nat} {α : Type} {Yf : Shared → α} {Ya : World → α} {s4 : World → Shared} (e : ∀ w, openEnds treeTable p w N = some (s4 w)) (l2 : ∀ w, openSeen q loose (importedModules p.main.body) Xt true (s4 w) = openGood q loose) (h : ∀ w, Yf (s4 w) = Ya w) : LeftO p q loose Xt Yf Ya N := fun w => by
  rw [e w]
  exact congrArg some (Prod.ext (l2 w) (h w))
theorem g1_eq (w : World) : topGo treeTable P0 w 34 ann0 12 (s0 w) (topStub P0) = g1 w := by
  unfold g1 g1T; rw [tT_eq, PySem.W.Fast.te15667345088766844465]
theorem g1_s (w : World) : g1 w = some (s1 w, th1) := two_of sA (g1_th w)
theorem th1_eq : th1 = ⟨denote treeTable cE, cE, pos0, B0⟩ := by
  unfold th1; rw [tT_eq, PySem.W.Fast.te11892475500146522536]
theorem g2_eq (w : World) : segRun treeTable P0 w 34 ann0 1 1 (s1 w) (blockOf b0 env0 cE pos0 B0) = g2 w := by
  unfold g2; rw [tT_eq, PySem.W.Fast.te14374325043358763698]
theorem g2_s (w : World) : g2 w = some (.next, s2 w, cE, pos0) := pair_of sA (g2_ok w)
theorem R_e (w : World) : segRunT treeTable P0 w 34 ann0 1 5040 (t2 w) (piecesOf b0 env0 cE pos0 B0) = R w := by
  unfold R; rw [tT_eq, PySem.W.Fast.te10110043849684766642]
theorem g3_eq (w : World) : topRun treeTable P0 w 34 ann0 2 (t3 w).abs ⟨doneF .next, cE, posL, B0⟩ = g3 w := by
  unfold g3 g3T; rw [tT_eq, PySem.W.Fast.te14082659384304107361]
theorem f0_s (w : World) : fencedOpening treeTable P0 w 10198 = some (s0 w) := (f0_eq w).trans (f0_is w)
noncomputable abbrev seen0 (w : World) (s : Shared) := (staticsOk (importedModules P0.main.body) (s0 w).heap s.heap && namesBound P0 s.heap && gensDone s && laidKept (s0 w).heap s.heap, PySem.W.Fast.tw4187177175401517315 vw loose0 (importedModules P0.main.body) Xt0 true s)
theorem all_parts {α β γ δ : Type} {x : Option (α × β × γ)} {a : α} {c : γ} {f : β → δ} {e : δ} (d : β) (h : x.map (fun r => (r.1, r.2.2, f r.2.1)) = some (a, c, e)) : x = some (a, (x.map (·.2.1)).getD d, c) ∧ f ((x.map (·.2.1)).getD d) = e := by
  cases x with
  | none => cases h
  | some v =>
    obtain ⟨v1, v2, v3⟩ := v
    simp only [Option.map_some, Option.some.injEq, Prod.mk.injEq] at h
    obtain ⟨rfl, rfl, h⟩ := h
    exact ⟨rfl, h⟩
/-- The whole run and all that is looked at, once. -/
theorem left_of2 {as : List Addr} {Ya : World → List (Option Obj)}
    (h : ∀ w, (R w).map (fun r => (r.1, r.2.2, ((g3T w r.2.1).map (seen0 w), as.map (getT r.2.1)))) = some (.next, (cE, posL), (some (true, openGood vw loose0), Ya w))) :
    LeftO P0 vw loose0 Xt0 (fun s => as.map s.heap.get?) Ya 10198 := by
  have k := fun w => all_parts (f := fun t => ((g3T w t).map (seen0 w), as.map (getT t))) (t2 w) (h w)
  have R_s : ∀ w, R w = some (.next, t3 w, cE, posL) := fun w => (k w).1
  have k1 : ∀ w, (g3 w).map (seen0 w) = some (true, openGood vw loose0) := fun w => (Prod.mk.inj (k w).2).1
  have k2 : ∀ w, as.map (getT (t3 w)) = Ya w := fun w => (Prod.mk.inj (k w).2).2
  have s4_ok := fun w => all_of sA (k1 w)
  have s4_heap : ∀ w, (s4 w).heap = (t3 w).abs.heap := fun w => by
    have q := g3T_heap w (t3 w)
    have e : g3T w (t3 w) = some (s4 w) := (s4_ok w).1
    rw [e] at q
    exact Option.some.inj q
  have ends : ∀ w, openEnds treeTable P0 w 10198 = some (s4 w) := fun w =>
    ends_gen (f0_s w) (s0_ok w) (by decide) (run_gen (g1_eq w) (g1_s w) th1_eq (g2_eq w) (g2_s w) (t2_abs w) (R_e w) (R_s w) (g3_eq w) (s4_ok w).1) (Prod.mk.inj (s4_ok w).2).1
  have seen_s : ∀ w, openSeen vw loose0 (importedModules P0.main.body) Xt0 true (s4 w) = openGood vw loose0 := fun w => by
    rw [PySem.W.Fast.te4187177175401517315]
    exact (Prod.mk.inj (s4_ok w).2).2
  refine left_gen ends seen_s fun w => ?_
  refine Eq.trans ?_ (k2 w)
  rw [s4_heap]
  exact congrArg (fun f => List.map f as) (funext fun a => getT_eq (t3 w) a)
/-- The head, but for its heap. -/
theorem head_of {H : Hook} {d : DefRec} {kwd : List (Str × Expr)} (left : LeftO P0 vw loose0 Xt0 (Hook.obs H) (Hook.val H) 10198) (hdef : defOf vw PySem.Challenge.rw_ny0282_01.row.name = some (d, kwd))
    (hp : P0.theDef PySem.Challenge.rw_ny0282_01.row.name = some (d.params, d.body, d.scope)) (hk : kwWritten? d.params.kwonlyargs d.params.kw_defaults = some kwd) (hw : PySem.Challenge.rw_ny0282_01.row.toRowW.promised)
    (hc : WalkO vw loose0 (XL vw []) (Hook.says H) PySem.Challenge.rw_ny0282_01.row.toRowW d kwd fun f vs => PySem.call f vs) : PySem.Challenge.rw_ny0282_01.row.Holds :=
  holds_open (q := vw) (loose := loose0) (Xt := Xt0) (XP := XL vw []) (Yf := Hook.obs H) (Ya := Hook.val H) (YP := Hook.says H) (N := 10198) left (Hook.of H) (Hook.keeps H) (fun s e => xl_of s (Bool.and_eq_true_iff.mp e).1) XL.keeps hdef hp hk (fun s e => recFacts_of (Bool.and_eq_true_iff.mp e).2) (by rfl) (row_said said0) (by decide +kernel) ⟨rfl, rfl, rfl, rfl, rfl, by decide +kernel⟩ hw hc
end
section
open PySem PySem.W PySem.Calls PyProof.Rows
local macro_rules | `(tactic| o_law) => `(tactic| (refine holds_law said0 fun said => ?_))
local macro_rules | `(tactic| o_head $H) => `(tactic| (refine head_of (H := $H) (left_of2 ?hl) (by rfl) (by rfl) (by rfl) ?hw ?hc; case hl => (intro w; kernel_rfl)))
set_option maxHeartbeats 8000000 in
open_top hd for PySem.Challenge.rw_ny0282_01
end
section
open PySem PySem.W PySem.Calls PyProof.Rows
noncomputable abbrev LW : List Str := looseW vw
      [Str.ofString "_twin_re_1", Str.ofString "_twin_re_2", Str.ofString "UnsupportedOperation", Str.ofString "IOBase",
        Str.ofString "BufferedIOBase", Str.ofString "TextIOBase", Str.ofString "BytesIO", Str.ofString "StringIO",
        Str.ofString "shlex"]
theorem room1 {a k K r : Nat} (h : a + K < r) (hk : k ≤ K) : a + k < r := Nat.lt_of_le_of_lt (Nat.add_le_add_left hk a) h
theorem room2 {a k l K r : Nat} (h : a + K < r) (hk : k + l ≤ K) : a + k + l < r := by rw [Nat.add_assoc]; exact room1 h hk
theorem room3 {a k l j K r : Nat} (h : a + K < r) (hk : k + l + j ≤ K) : a + k + l + j < r := by rw [Nat.add_assoc, Nat.add_assoc]; exact room1 h (by omega)
structure Gr (w : World) (mean : ExcName → Option Value) (mg mb : Str → Option Value) (h : Heap) : Prop where
  T : Top vw LW mean mg mb h
  GL : Glob 0 mg mb (List.map itemOf (recsOf vw)) (scalarsOf [] ++ constsW vw) []
    (namesW vw
      [Str.ofString "_twin_re_1", Str.ofString "_twin_re_2", Str.ofString "UnsupportedOperation", Str.ofString "IOBase",
        Str.ofString "BufferedIOBase", Str.ofString "TextIOBase", Str.ofString "BytesIO", Str.ofString "StringIO",
        Str.ofString "shlex"]) h
  M : ∃ a o, BMod h mainGlobals mg a o
  X : (hd.heap_1 w.params).In h
theorem Gr.keeps {w : World} {mean : ExcName → Option Value} {mg mb : Str → Option Value} {h h' : Heap} (G : Gr w mean mg mb h) (k : h.StaysIn h') : Gr w mean mg mb h' :=
  ⟨G.T.keeps k, G.GL.keeps k, let ⟨a, o, m⟩ := G.M; ⟨a, o, m.keeps k⟩, G.X.keeps k⟩
/-- The callers' frames, as a callee sees them. -/
structure Out (A : Around) (outer : List Env) (base h : Heap) (S : List Addr) : Prop where
  stack : A.frames = some outer
  frames : h.FunFrames base outer
  ne : ∀ env ∈ outer, ∀ a ∈ S, env.frame ≠ some a
  stays : base.StaysIn h
  off : ∀ a ∈ S, base.get? a = none
noncomputable def Holds (h : Heap) (l : List (Addr × Obj)) : Prop := ∀ p ∈ l, h.get? p.1 = some p.2
theorem call_S {w : World} {A : Around} {outer : List Env} {s : Shared} {base : Heap} {mean : ExcName → Option Value} {mg mb : Str → Option Value} {news : List (Addr × Obj)} {R : Result → Shared → Prop} {name qual : Str} {params : Arguments} {body : List Stmt} {scope : Scope} {dV kV doc pm cdv ct oc : Value} {an od : Option Addr} {osl : Array (Option Value)} {f : Addr} {args : Args} {binds : List (Str × Value)}
    (G : Gr w mean mg mb base) (O : Out A outer base s.heap (news.map (·.1))) (H : Holds s.heap news)
    (ho : (hd.heap_1 w.params).lookup f = some ⟨oc, od, .func (fnOf name qual params body scope dV kV doc pm an cdv ct), osl⟩) (hcd : codeIn (hd.heap_1 w.params) cdv qual = true) (hroom : A.depth < recursionLimit)
    (hbind : BindsTo s (fnOf name qual params body scope dV kV doc pm an cdv ct) args binds) (hloc : ∀ y ∈ binds, scope.names.lookup y.1 = some .local)
    (h : ∀ g L' h₁, g = hideAll s.heap (news.map (·.1)) → Fr g L' h₁ (fun y => binds.reverse.lookup y) → News g L' h₁ news → Below A base outer g → Gr w mean mg mb g → AllLt L' news →
      wpAny (model PySem.Challenge.rw_ny0282_01.row.prog w) (A.deeper (envOf qual scope L' f cdv)) (execs body (envOf qual scope L' f cdv))
        (fun fl s' => R (.ok (.ret (match fl with | .ret v => v | _ => .none))) s')
        (fun e s' => wpAny (model PySem.Challenge.rw_ny0282_01.row.prog w) (A.deeper (envOf qual scope L' f cdv)) (leaving (envOf qual scope L' f cdv) e) (fun _ s'' => R (.error e) s'') (fun e' s'' => R (.error e') s'') s')
        { s with heap := h₁, toks := s.toks + binds.length })
    (hco : scope.isCoroutine = false) (hgen : scope.isGenerator = false) (hk : scope.kind = .function)
    (hcell : ∀ x ∈ scope.names, x.2 ≠ .cell) : codeAny (model PySem.Challenge.rw_ny0282_01.row.prog w) A (.call (.ref f) args) R s := by
  have Gs := G.keeps O.stays
  refine codeAny_call_def (fd := fnOf name qual params body scope dV kV doc pm an cdv ct) (body := body) (binds := binds) hroom (Gs.X _ _ ho) rfl Gs.T.nolimit (codeRec_of Gs.X hcd) rfl hbind hcell hloc (fun h₁ hns hk₁ => ?_) hco hgen hk
  have st : base.StaysIn (hideAll s.heap (news.map (·.1))) := fun b o e => hideAll_get _ (O.stays b o e) fun q => by
    rw [O.off b q] at e; cases e
  exact h _ s.heap.objs.size h₁ rfl ⟨hns, fun b o e => hk₁ b o (of_hideAll _ e), Nat.le_of_eq (hideAll_size _ _)⟩
    (fun p hp => ⟨hk₁ _ _ (H p hp), Nat.ne_of_lt (Heap.lt_size (H p hp)), hideAll_none _ (List.mem_map_of_mem hp)⟩)
    ⟨O.stack, st, funFrames_hideAll O.frames O.ne⟩ (G.keeps st) (allLt_of fun p hp => Heap.lt_size (H p hp))
/-- What a call keeps: all but the places of `S`. -/
noncomputable def Kept (S : List Addr) (h h' : Heap) : Prop := ∀ b o, h.get? b = some o → b ∉ S → h'.get? b = some o
theorem kept_of {S : List Addr} {h g h' : Heap} {L : Addr} {m : Str → Option Value} (e : g = hideAll h S) (F : Fr g L h' m) : Kept S h h' := fun b o hb hn => F.keep b o (by rw [e]; exact hideAll_get _ hb hn)
/-- A caller's walk, as a callee's contract sees it. -/
theorem out_of {A₀ A : Around} {env : Env} {outer : List Env} {h base h₀ : Heap} {L : Addr} {m : Str → Option Value} {news pre : List (Addr × Obj)}
    (B : Below A₀ base outer h₀) (F : Fr h₀ L h m) (N : News h₀ L h news) (hA : A.frames = some (env :: outer)) (hf : env.frame = some L) (hke : env.scope.kind = .function) (hsub : ∀ p ∈ pre, p ∈ news) :
    Out A (env :: outer) base h (pre.map (·.1)) ∧ Holds h pre := by
  have B₁ := B.push (name := (Str.ofString "")) (scope := env.scope) (a := 0) (cd := .none) F hke
  have st : base.StaysIn h := fun b o e => F.keep b o (B.stays b o e)
  have off : ∀ a ∈ pre.map (·.1), base.get? a = none := fun a ha => by
    obtain ⟨p, hp, rfl⟩ := List.mem_map.mp ha
    cases q : base.get? p.1 with
    | none => rfl
    | some o => have := (N p (hsub p hp)).2.2; rw [B.stays _ _ q] at this; cases this
  have hnew : base.get? L = none := by
    cases hq : base.get? L with
    | none => rfl
    | some o => exact absurd (Nat.lt_of_lt_of_le (Heap.lt_size (B.stays L o hq)) F.above) (Nat.lt_irrefl _)
  refine ⟨⟨hA, ?_, ?_, st, off⟩, fun p hp => (N p (hsub p hp)).1⟩
  · have q := B₁.frames
    obtain ⟨k1, ⟨L₁, o, k2, k3⟩, k4⟩ := q
    refine ⟨k1, ⟨L₁, o, ?_, k3⟩, k4⟩
    exact hf.trans k2
  · intro e he a ha hq
    obtain ⟨p, hp, rfl⟩ := List.mem_map.mp ha
    cases he with
    | head => rw [hf] at hq; exact (N p (hsub p hp)).2.1 (Option.some.inj hq).symm
    | tail _ he =>
      obtain ⟨L₁, o₁, hf₁, ho₁⟩ := funFrames_in B.frames e he
      rw [hf₁] at hq
      have := (N p (hsub p hp)).2.2
      rw [← Option.some.inj hq, ho₁] at this; cases this
theorem fr_kept {h h' h₀ : Heap} {L : Addr} {m : Str → Option Value} {news pre : List (Addr × Obj)} (F : Fr h₀ L h m) (N : News h₀ L h news) (hsub : ∀ p ∈ pre, p ∈ news) (k : Kept (pre.map (·.1)) h h') : Fr h₀ L h' m := by
  obtain ⟨oL, es, ep, hL, r⟩ := F.ns
  refine ⟨⟨oL, es, ep, k _ _ hL fun q => ?_, r⟩, fun b o e => k b o (F.keep b o e) fun q => ?_, F.above⟩
  · obtain ⟨p, hp, e⟩ := List.mem_map.mp q
    exact (N p (hsub p hp)).2.1 e
  · obtain ⟨p, hp, rfl⟩ := List.mem_map.mp q
    have := (N p (hsub p hp)).2.2
    rw [e] at this; cases this
theorem news_kept {h h' h₀ : Heap} {L : Addr} {news pre post : List (Addr × Obj)} {m : Str → Option Value} (F : Fr h₀ L h m) (N : News h₀ L h news) (hsub : ∀ p ∈ pre, p ∈ news) (k : Kept (pre.map (·.1)) h h')
    (hpost : ∀ p ∈ post, h'.get? p.1 = some p.2 ∧ (p.1 ∈ pre.map (·.1) ∨ h.get? p.1 = none)) {news' : List (Addr × Obj)} (hn : ∀ p ∈ news', p ∈ post ∨ (p ∈ news ∧ p.1 ∉ pre.map (·.1))) : News h₀ L h' news' := by
  obtain ⟨oL, es, ep, hL, r⟩ := F.ns
  intro p hp
  rcases hn p hp with q | ⟨q, nq⟩
  · obtain ⟨e, o⟩ := hpost p q
    refine ⟨e, ?_⟩
    rcases o with o | o
    · obtain ⟨x, hx, ex⟩ := List.mem_map.mp o
      rw [← ex]
      exact (N x (hsub x hx)).2
    · refine ⟨fun z => ?_, ?_⟩
      · rw [z, hL] at o; cases o
      · cases y : h₀.get? p.1 with
        | none => rfl
        | some z => rw [F.keep _ _ y] at o; cases o
  · exact ⟨k _ _ (N p q).1 nq, (N p q).2⟩
theorem Upd.mem' {d : Addr} {o o' : Obj} {l l' : List (Addr × Obj)} (u : Upd d o o' l l') : (d, o) ∈ l ∧ ∀ p ∈ l', p = (d, o') ∨ (p ∈ l ∧ p.1 ≠ d) := by
  obtain ⟨a, b, rfl, rfl, h1, h2⟩ := u.split
  refine ⟨by simp, fun p hp => ?_⟩
  rcases List.mem_append.mp hp with q | q
  · exact .inr ⟨List.mem_append_left _ q, h1 p q⟩
  · rcases List.mem_cons.mp q with rfl | q
    · exact .inl rfl
    · exact .inr ⟨List.mem_append_right _ (.tail _ q), h2 p q⟩
/-- One object of the ledger turned by a call. -/
theorem back_upd {h h' h₀ : Heap} {L d : Addr} {m : Str → Option Value} {news news' pre post : List (Addr × Obj)} {o o' : Obj} (F : Fr h₀ L h m) (N : News h₀ L h news) (hsub : ∀ p ∈ pre, p ∈ news) (k : Kept (pre.map (·.1)) h h')
    (hpost : Holds h' post) (hin : ∀ p ∈ post, p.1 ∈ pre.map (·.1)) (hsame : ∀ p ∈ pre, p.1 = d ∨ p ∈ post) (hd' : (d, o') ∈ post) (u : Upd d o o' news news') : Fr h₀ L h' m ∧ News h₀ L h' news' := by
  refine ⟨fr_kept F N hsub k, news_kept F N hsub k (fun p hp => ⟨hpost p hp, .inl (hin p hp)⟩) fun p hp => ?_⟩
  rcases (Upd.mem' u).2 p hp with rfl | ⟨q, ne⟩
  · exact .inl hd'
  · by_cases z : p.1 ∈ pre.map (·.1)
    · obtain ⟨x, hx, ex⟩ := List.mem_map.mp z
      have e : x = p := by
        have a := (N x (hsub x hx)).1
        have b := (N p q).1
        rw [ex, b] at a
        exact Prod.ext ex (Option.some.inj a).symm
      subst e
      rcases hsame x hx with y | y
      · exact absurd y ne
      · exact .inl y
    · exact .inr ⟨q, z⟩
/-- Two objects of the ledger turned by a call. -/
theorem back_upd2 {h h' h₀ : Heap} {L d e : Addr} {m : Str → Option Value} {news news₁ news' pre post : List (Addr × Obj)} {o o' x x' : Obj} (F : Fr h₀ L h m) (N : News h₀ L h news) (hsub : ∀ p ∈ pre, p ∈ news) (k : Kept (pre.map (·.1)) h h')
    (hpost : Holds h' post) (hin : ∀ p ∈ post, p.1 ∈ pre.map (·.1)) (hsame : ∀ p ∈ pre, p.1 = d ∨ p.1 = e ∨ p ∈ post) (hd' : (d, o') ∈ post) (he' : (e, x') ∈ post) (u : Upd d o o' news news₁) (u' : Upd e x x' news₁ news') : Fr h₀ L h' m ∧ News h₀ L h' news' := by
  refine ⟨fr_kept F N hsub k, news_kept F N hsub k (fun p hp => ⟨hpost p hp, .inl (hin p hp)⟩) fun p hp => ?_⟩
  rcases (Upd.mem' u').2 p hp with rfl | ⟨q, ne⟩
  · exact .inl he'
  · rcases (Upd.mem' u).2 p q with rfl | ⟨q, ne'⟩
    · exact .inl hd'
    · by_cases z : p.1 ∈ pre.map (·.1)
      · obtain ⟨x, hx, ex⟩ := List.mem_map.mp z
        have e : x = p := by
          have a := (N x (hsub x hx)).1
          have b := (N p q).1
          rw [ex, b] at a
          exact Prod.ext ex (Option.some.inj a).symm
        subst e
        rcases hsame x hx with y | y | y
        · exact absurd y ne'
        · exact absurd y ne
        · exact .inl y
      · exact .inr ⟨q, z⟩
end
section
open PySem PySem.W PyProof.Rows
open PySem.Builtin PySem.Builtin.Str
theorem indices_ss (i j n : Nat) (h : i ≤ j) (hj : j ≤ n) : strSliceIndices (some (i : Int)) (some (j : Int)) 1 n = (List.range (j - i)).map (i + ·) := by
  unfold strSliceIndices sliceRange
  have c1 : (if (i : Int) < 0 then (i : Int) + n else i) = i := if_neg (by omega)
  have c2 : (if (j : Int) < 0 then (j : Int) + n else j) = j := if_neg (by omega)
  simp only [c1, c2, show (1 : Int) > 0 by decide, if_true]
  have e1 : max (0 : Int) (min (i : Int) n) = i := by omega
  have e2 : max (0 : Int) (min (j : Int) n) = j := by omega
  rw [e1, e2]
  by_cases q : (i : Int) < j
  · rw [if_pos q]
    have : ((j : Int) - i + 1 - 1) / 1 = ((j - i : Nat) : Int) := by rw [Int.ediv_one]; omega
    rw [this, Int.toNat_natCast]
    refine List.map_congr_left fun k _ => ?_
    omega
  · rw [if_neg q]
    have : j - i = 0 := by omega
    rw [this]; rfl
theorem pick_range (l : List Nat) (i k : Nat) (h : i + k ≤ l.length) : ((List.range k).map (i + ·)).filterMap (l.toArray[·]?) = (l.drop i).take k := by
  induction k with
  | zero => simp
  | succ k ih =>
    rw [List.range_succ, List.map_append, List.filterMap_append, ih (by omega)]
    have q : i + k < l.length := by omega
    rw [List.take_add_one, List.getElem?_drop]
    simp [q]
theorem slice_ss (l : List Nat) (i j : Nat) (h : i ≤ j) (hj : j ≤ l.length) : Txt.slice ⟨l.toArray⟩ (some (i : Int)) (some (j : Int)) = ⟨((l.drop i).take (j - i)).toArray⟩ := by
  unfold Txt.slice
  have e : (⟨l.toArray⟩ : Str).length = l.length := by simp [Str.length]
  rw [e, indices_ss i j _ h hj]
  split
  · rename_i c
    simp at c
    have hi : i = 0 := by omega
    have hj' : j = l.length := by omega
    subst hi hj'
    simp
  · rw [pick_range l i (j - i) (by omega)]
theorem slice_one (l : List Nat) (p : Nat) (c : Nat) (h : l[p]? = some c) : Txt.slice ⟨l.toArray⟩ (some (p : Int)) (some ((p : Int) + 1)) = ⟨#[c]⟩ := by
  obtain ⟨hl, e⟩ := List.getElem?_eq_some_iff.mp h
  have := slice_ss l p (p + 1) (by omega) (by omega)
  rw [show ((p : Int) + 1) = ((p + 1 : Nat) : Int) by omega, this]
  have : p + 1 - p = 1 := by omega
  rw [this, List.take_one, List.head?_drop, h]
  rfl
end
section
open PySem PySem.W PyProof.Rows
open PySem.Builtin PySem.Builtin.Str
/-- What is left behind the next line feed. -/
noncomputable def toEol : List Nat → List Nat
  | [] => []
  | c :: r => if c = 10 then r else toEol r
theorem toEol_suffix : ∀ l : List Nat, toEol l <:+ l
  | [] => List.suffix_rfl
  | c :: r => by
    unfold toEol
    split
    · exact List.suffix_cons ..
    · exact (toEol_suffix r).trans (List.suffix_cons ..)
theorem suffix_drop {rest txt : List Nat} (h : rest <:+ txt) : txt.drop (txt.length - rest.length) = rest := (List.suffix_iff_eq_drop.mp h).symm
theorem suffix_get {rest txt : List Nat} (h : rest <:+ txt) : txt[txt.length - rest.length]? = rest.head? := by
  rw [← List.head?_drop, suffix_drop h]
theorem toEol_none : ∀ {l : List Nat}, 10 ∉ l → toEol l = []
  | [], _ => rfl
  | c :: r, h => by
    unfold toEol
    rw [if_neg (fun e => h (by rw [e]; exact .head _))]
    exact toEol_none fun q => h (.tail _ q)
theorem toEol_some : ∀ {l : List Nat} {i : Nat}, l[i]? = some 10 → (∀ j, j < i → l[j]? ≠ some 10) → toEol l = l.drop (i + 1)
  | [], i, h, _ => by simp at h
  | c :: r, 0, h, _ => by
    simp at h
    subst h
    simp [toEol]
  | c :: r, i + 1, h, hn => by
    unfold toEol
    have h0 := hn 0 (Nat.succ_pos i)
    rw [if_neg (fun e => h0 (by rw [e]; rfl))]
    rw [toEol_some (l := r) (i := i) (by simpa using h) fun j hj => by have := hn (j + 1) (by omega); simpa using this]
    simp
theorem at_one (txt : List Nat) (c i : Nat) : StrLaws.At ⟨txt.toArray⟩ ⟨#[c]⟩ (⟨txt.toArray⟩ : Str).length i ↔ txt[i]? = some c := by
  unfold StrLaws.At
  rw [StrLaws.subAt_eq]
  simp only [Str.length]
  constructor
  · rintro ⟨h1, h2⟩
    simp at h1 h2
    have : (List.drop i txt)[0]? = some c := by
      have : (List.take 1 (List.drop i txt))[0]? = some c := by rw [h2]; rfl
      simpa using this
    simpa using this
  · intro h
    obtain ⟨hl, e⟩ := List.getElem?_eq_some_iff.mp h
    refine ⟨by simp; omega, ?_⟩
    simp
    rw [List.take_one, List.head?_drop, h]; rfl
/-- The find of a line's end. -/
theorem find_eol {txt rest : List Nat} (h : rest <:+ txt) (hr : rest ≠ []) :
    (Txt.find3 ⟨txt.toArray⟩ (Str.ofString "\n") ((txt.length - rest.length : Nat) : Int) < 0 ∧ toEol rest = []) ∨
    (0 ≤ Txt.find3 ⟨txt.toArray⟩ (Str.ofString "\n") ((txt.length - rest.length : Nat) : Int) ∧ Txt.find3 ⟨txt.toArray⟩ (Str.ofString "\n") ((txt.length - rest.length : Nat) : Int) + 1 = ((txt.length - (toEol rest).length : Nat) : Int)) := by
  have e10 : Str.ofString "\n" = ⟨#[10]⟩ := by decide +kernel
  rw [e10]
  unfold Txt.find3
  have ef : fromIndex (⟨txt.toArray⟩ : Str).length ((txt.length - rest.length : Nat) : Int) = txt.length - rest.length := by
    unfold fromIndex
    rw [if_neg (by omega)]
    omega
  rw [ef]
  have hd := suffix_drop h
  have hle : rest.length ≤ txt.length := h.length_le
  rcases StrLaws.occ_head_from (⟨txt.toArray⟩ : Str) ⟨#[10]⟩ (txt.length - rest.length) 1 (Nat.le_refl _) with ⟨e, n⟩ | ⟨i, r, e, hi, ha, hn⟩
  · left
    rw [e]
    refine ⟨by decide, toEol_none fun q => ?_⟩
    obtain ⟨j, hj, ej⟩ := List.getElem_of_mem q
    refine n (txt.length - rest.length + j) (by omega) ((at_one txt 10 _).mpr ?_)
    rw [← List.getElem?_drop, hd, List.getElem?_eq_getElem hj, ej]
  · right
    rw [e]
    have ha := (at_one txt 10 _).mp ha
    have hil : i < txt.length := (List.getElem?_eq_some_iff.mp ha).1
    refine ⟨by show (0 : Int) ≤ (i : Int); omega, ?_⟩
    have key : ∀ j, rest[j]? = txt[(txt.length - rest.length) + j]? := fun j => by rw [← List.getElem?_drop, hd]
    have te := toEol_some (l := rest) (i := i - (txt.length - rest.length)) (by rw [key, Nat.add_sub_cancel' hi]; exact ha) fun j hj q => by
      rw [key] at q
      exact hn _ (by omega) (by omega) ((at_one txt 10 _).mpr q)
    rw [te, List.length_drop]
    show (i : Int) + 1 = _
    omega
end
section
open PySem PySem.W PySem.Calls PyProof.Rows
open PySem.Builtin PySem.Builtin.Str
noncomputable abbrev ent (w : World) (n : Str) (k : Tok) (v : Value) : DictEntry := { hash := PyData.keyHash w.params n, key := Value.str n k, val := v }
structure SK where
  k1 : Tok
  k2 : Tok
  k3 : Tok
  nt : Tok
  bt : Tok
/-- A StringIO's dict: its text, and the place. -/
noncomputable abbrev sioP (w : World) (k : SK) (txt : List Nat) (p : Nat) (tp : Tok) : Obj :=
  dictOf [ent w (Str.ofString "_StringIO__newline") k.k1 (.str (Str.ofString "\n") k.nt), ent w (Str.ofString "_StringIO__buf") k.k2 (.str ⟨txt.toArray⟩ k.bt), ent w (Str.ofString "_StringIO__pos") k.k3 (.int (p : Int) tp)] 3
/-- Its text, and what is still to be read of it. -/
noncomputable abbrev sioR (w : World) (k : SK) (txt rest : List Nat) (tp : Tok) : Obj := sioP w k txt (txt.length - rest.length) tp
/-- A closed one. -/
noncomputable abbrev sioC (w : World) (k : SK) (txt rest : List Nat) (tp : Tok) : Obj :=
  dictOf [ent w (Str.ofString "_StringIO__newline") k.k1 (.str (Str.ofString "\n") k.nt), ent w (Str.ofString "_StringIO__buf") k.k2 .none, ent w (Str.ofString "_StringIO__pos") k.k3 (.int ((txt.length - rest.length : Nat) : Int) tp)] 3
structure LK where
  k : Nat → Tok
  v : Nat → Tok
/-- The lexer's dict. -/
noncomputable abbrev lexD (w : World) (k : LK) (ins inf st : Value) (pb : Addr) (ln tok : Value) (fs : Addr) : Obj :=
  dictOf [ent w (Str.ofString "instream") (k.k 0) ins, ent w (Str.ofString "infile") (k.k 1) inf, ent w (Str.ofString "posix") (k.k 2) (.bool true), ent w (Str.ofString "eof") (k.k 3) .none,
    ent w (Str.ofString "commenters") (k.k 4) (.str (Str.ofString "#") (k.v 4)),
    ent w (Str.ofString "wordchars") (k.k 5) (.str (Str.ofString "abcdfeghijklmnopqrstuvwxyzABCDEFGHIJKLMNOPQRSTUVWXYZ0123456789_ßàáâãäåæçèéêëìíîïðñòóôõöøùúûüýþÿÀÁÂÃÄÅÆÇÈÉÊËÌÍÎÏÐÑÒÓÔÕÖØÙÚÛÜÝÞ") (k.v 5)),
    ent w (Str.ofString "whitespace") (k.k 6) (.str (Str.ofString " \t\r\n") (k.v 6)), ent w (Str.ofString "whitespace_split") (k.k 7) (.bool true),
    ent w (Str.ofString "quotes") (k.k 8) (.str (Str.ofString "'\"") (k.v 8)), ent w (Str.ofString "escape") (k.k 9) (.str (Str.ofString "\\") (k.v 9)), ent w (Str.ofString "escapedquotes") (k.k 10) (.str (Str.ofString "\"") (k.v 10)),
    ent w (Str.ofString "state") (k.k 11) st, ent w (Str.ofString "pushback") (k.k 12) (.ref pb), ent w (Str.ofString "lineno") (k.k 13) ln, ent w (Str.ofString "debug") (k.k 14) (.int 0 (k.v 14)),
    ent w (Str.ofString "token") (k.k 15) tok, ent w (Str.ofString "filestack") (k.k 16) (.ref fs), ent w (Str.ofString "source") (k.k 17) .none, ent w (Str.ofString "_punctuation_chars") (k.k 18) (.str (Str.ofString "") (k.v 18))] 19
theorem updF_upd {d : Addr} {o : Obj} {l : List (Addr × Obj)} {g : Obj → List (Addr × Obj)} (u : UpdF d o l g) (o' : Obj) : Upd d o o' l (g o') := by
  induction u with
  | head h => exact .head h
  | tail h _ ih => exact .tail h ih
section
variable {prog : Program} {w : World} {A : Around} {E : Value → Shared → Prop} {s : Shared} {x y : Str} {t u v v' : Tok} {i j : Int} {Q : Value → Shared → Prop}
theorem gives_find4 (x y : Str) (i : Int) (t u v v' : Tok) : Gives (Builtin.«str.find» ⟨[.str x t, .str y u, .int i v, .int (x.length : Int) v'], []⟩) (.int (Txt.find3 x y i)) := by
  unfold Txt.find3
  have e : fromIndex x.length (x.length : Int) = x.length := by
    unfold fromIndex
    rw [if_neg (by omega)]
    omega
  show Gives (match occurrences x y (fromIndex x.length i) (min (fromIndex x.length (x.length : Int)) x.length) 1 with | k :: _ => retInt k | [] => (do rule "str.find.not-found"; retInt (-1))) _
  rw [e, Nat.min_self]
  cases occurrences x y (fromIndex x.length i) x.length 1 with
  | nil => exact .rule (.of_eq rfl)
  | cons k _ => exact .of_eq rfl
theorem find4 (hj : j = (x.length : Int)) (hq : Q (.int (Txt.find3 x y i) s.toks) { s with toks := s.toks + 1 }) : wpAny (model prog w) A (call (.builtin "str.find") [.str x t, .str y u, .int i v, .int j v']) Q E s := by
  subst hj
  exact call_gives F.slot_str_find (typeIs_str _ _ _) F.entry_str_find (F.args_str_find_4 _ _ _ _) (gives_find4 x y i t u v v') hq
end
end
section
open PySem PySem.W PySem.Calls PyProof.Rows
open PySem.Builtin PySem.Builtin.Str
section
variable {prog : Program} {w : World} {A : Around} {E : Value → Shared → Prop} {s : Shared} {x y : Str} {t u : Tok} {Q : Value → Shared → Prop}
theorem eq_by (b : Bool) (e : (x == y) = b) (h : Q (.bool b) s) : wpAny (model prog w) A (compareOp .Eq (.str x t) (.str y u)) Q E s := PyProof.Rows.eq_str (by rw [e]; exact h)
theorem in_lit (b : Bool) (e : (!(occurrences x y 0 x.length 1).isEmpty) = b) (h : Q (.bool b) s) : wpAny (model prog w) A (compareOp .In (.str y u) (.str x t)) Q E s := PyProof.Rows.in_str (by rw [e]; exact h)
theorem notIn_lit (b : Bool) (e : (!(occurrences x y 0 x.length 1).isEmpty) = b) (h : Q (.bool (!b)) s) : wpAny (model prog w) A (compareOp .NotIn (.str y u) (.str x t)) Q E s := PyProof.Rows.notIn_str (by rw [e]; exact h)
end
end
section
open PySem PySem.W PySem.Calls PyProof.Rows
open PySem.Builtin PySem.Builtin.Re
theorem slot_re_sub : Slot "re.Pattern" "sub" "re.Pattern.sub" :=
  .of (owner := "re.Pattern") (n := "sub") (by rw [typeLookup_type, builtinLookup_eq_fast]; kernel_rfl) (by decide +kernel) (by decide +kernel) (by decide +kernel)
    (by first | exact .inl (by decide +kernel) | exact .inr (by decide +kernel)) (by rw [isSubtype_type]; kernel_rfl)
theorem type_re_sub : typeOf (.builtin "re.Pattern.sub") = pure (.type "method_descriptor") := by show builtinType _ = _; rw [builtinType_eq_fast]; kernel_rfl
theorem entry_re_sub : entryFor table "re.Pattern.sub" = some Builtin.«re.Pattern.sub» := entryFor_of_tree (by kernel_rfl)
theorem entry_re_loop : entryFor table "re.Pattern.sub.loop" = some Builtin.«re.Pattern.sub.loop» := entryFor_of_tree (by kernel_rfl)
theorem plain_re_loop : plainId "re.Pattern.sub.loop" = true := by decide +kernel
theorem args_re_sub (a b c : Value) : argsOk "re.Pattern.sub" ⟨[a, b, c], []⟩ := by unfold argsOk; kernel_rfl
theorem plainAttrs_re : PlainAttrs "re.Pattern" :=
  ⟨⟨"object.__getattribute__", by rw [typeLookup_type, builtinLookup_eq_fast]; kernel_rfl, by decide +kernel⟩, by rw [typeLookup_type, builtinLookup_eq_fast]; kernel_rfl⟩
/-- A pattern's object. -/
noncomputable abbrev patO (p : Str) (tp : Tok) (fl : Int) (tf : Tok) (c : Addr) : Obj := { cls := .type "re.Pattern", dict := none, data := .fields #[.str p tp, .int fl tf, .int 0 0, .none, .none, .ref c, .int 0 0] }
section
variable {prog : Program} {w : World} {A : Around} {E : Value → Shared → Prop} {s : Shared} {a : Addr} {o : Obj}
theorem re_sub_m {pl : Sem Bool} {Q : Value × List Value → Shared → Prop} (ho : s.heap.get? a = some o) (hc : o.cls = .type "re.Pattern") (hd : o.dict = none) (h : Q (.builtin "re.Pattern.sub", [.ref a]) s) :
    wpAny (model prog w) A (getMethod (.ref a) (Str.ofString "sub") pl) Q E s :=
  getMethod_builtin ⟨_, ho, hc⟩ plainAttrs_re slot_re_sub type_re_sub (fun b e => by cases e; exact ⟨_, ho, hd⟩) h
end
/-- The machine run to its end. -/
theorem step_end {m : Sre.M} (h : m.outcome.isSome = true) : m.step = m := by
  unfold Sre.M.step
  rw [if_pos h]
noncomputable def steps : Nat → Sre.M → Sre.M
  | 0, m => m
  | n + 1, m => steps n m.step
theorem steps_end : ∀ (n : Nat) {m : Sre.M}, m.outcome.isSome = true → steps n m = m
  | 0, _, _ => rfl
  | n + 1, m, h => by
    show steps n m.step = m
    rw [step_end h]
    exact steps_end n h
theorem runFor_steps : ∀ (n : Nat) (m : Sre.M), Sre.M.runFor n m = steps n m
  | 0, _ => rfl
  | n + 1, m => by
    unfold Sre.M.runFor
    split
    · rename_i h; exact (steps_end (n + 1) h).symm
    · exact runFor_steps n m.step
theorem steps_add : ∀ (a b : Nat) (m : Sre.M), steps (a + b) m = steps b (steps a m)
  | 0, b, m => by rw [Nat.zero_add]; rfl
  | a + 1, b, m => by
    rw [Nat.add_right_comm]
    exact steps_add a b m.step
section
variable {prog : Program} {w : World} {A : Around} {E : Value → Shared → Prop} {s : Shared}
theorem drive_end : ∀ (turns k : Nat) (m : Sre.M) {Q : Sre.M → Shared → Prop}, k < 4 * turns → (steps k m).outcome.isSome = true → Q (steps k m) s → wpAny (model prog w) A (reDrive turns m) Q E s
  | 0, k, m, Q, h, _, _ => absurd h (Nat.not_lt_zero _)
  | turns + 1, k, m, Q, h, he, hq => by
    unfold reDrive
    rw [runFor_steps]
    dsimp only
    have e4 : reTurnSteps = 4 := rfl
    rw [e4]
    by_cases hk : k ≤ 4
    · have q : steps 4 m = steps k m := by
        have := steps_add k (4 - k) m
        rw [Nat.add_sub_cancel' hk] at this
        rw [this, steps_end _ he]
      rw [q, if_pos he]
      exact wpAny_pure hq
    · have q : steps k m = steps (k - 4) (steps 4 m) := by
        rw [← steps_add, Nat.add_sub_cancel' (by omega)]
      split
      · rename_i h4
        rw [q, steps_end _ h4] at hq
        exact wpAny_pure hq
      · refine wpAny_bind (wpAny_rule ?_)
        rw [q] at he hq
        exact drive_end turns (k - 4) (steps 4 m) (by omega) he hq
theorem seen_loop {l : List Nat} {m : Sre.M} {Q : PUnit → Shared → Prop} (h : Q ⟨⟩ s) :
    wpAny (model prog w) A (forIn l PUnit.unit fun i _ => (if m.seen.has i = true then rule (Sre.names.getD i "") >>= fun _ => pure (ForInStep.yield PUnit.unit) else pure (ForInStep.yield PUnit.unit) : Sem (ForInStep PUnit))) Q E s := by
  induction l with
  | nil => exact wpAny_pure h
  | cons i l ih =>
    rw [List.forIn_cons]
    refine wpAny_bind ?_
    split
    · exact wpAny_bind (wpAny_rule (wpAny_pure ih))
    · exact wpAny_pure ih
theorem run_matched {k : Nat} {m : Sre.M} {Q : Option Sre.M → Shared → Prop} (hk : k < 1000000) (he : (steps k m).outcome = some .matched) (hq : Q (some (steps k m)) s) : wpAny (model prog w) A (reRunToEnd m) Q E s := by
  unfold reRunToEnd
  refine wpAny_bind (drive_end (2 ^ 64) k m (by omega) (by rw [he]; rfl) ?_)
  refine wpAny_bind (seen_loop ?_)
  rw [he]
  exact wpAny_pure hq
theorem run_failed {k : Nat} {m : Sre.M} {Q : Option Sre.M → Shared → Prop} (hk : k < 1000000) (he : (steps k m).outcome = some .failed) (hq : Q none s) : wpAny (model prog w) A (reRunToEnd m) Q E s := by
  unfold reRunToEnd
  refine wpAny_bind (drive_end (2 ^ 64) k m (by omega) (by rw [he]; rfl) ?_)
  refine wpAny_bind (seen_loop ?_)
  rw [he]
  exact wpAny_pure hq
end
end
section
open PySem PySem.Sre
noncomputable def code1 : Array Nat := #[14, 4, 0, 1, 1, 6, 1, 16, 46, 1]
/-- At a try of the pattern at s. -/
noncomputable def A1 (text : Array Nat) (lim s : Nat) (first : Bool) (seen : Seen) : M :=
  { code := code1, text, lim, start := s, lastStart := lim, pc := 5, pos := s, handed := s, outermost := first, marks := #[], frames := [{ wait := .nextStart, pc := 5, pos := s, outermost := first }], weight := 1, seen }
theorem start1 {text : Array Nat} {lim s : Nat} (h : s < lim) : forSearch code1 text 0 s lim false = A1 text lim s true (({} : Seen).add 14) := by
  unfold forSearch
  have e1 : header code1 = (1, 5) := by rfl
  rw [e1]
  dsimp only
  rw [if_neg (by simp; omega)]
  rfl
theorem start1_none {text : Array Nat} {lim : Nat} : (steps 1 (forSearch code1 text 0 lim lim false)).outcome = some .failed := by
  unfold forSearch
  have e1 : header code1 = (1, 5) := by rfl
  rw [e1]
  dsimp only
  rw [if_pos (by simp)]
  rfl
theorem at1 (text : Array Nat) (lim s : Nat) (first : Bool) (seen : Seen) : M.step (A1 text lim s first seen) =
    if (s == 0 || text.getD (s - 1) 0 == 10) = true then { A1 text lim s first ((seen.add 6).add 44) with pc := 7 } else { A1 text lim s first ((seen.add 6).add 44) with answer := some false } := rfl
theorem lit1 (text : Array Nat) (lim s : Nat) (first : Bool) (seen : Seen) : M.step { A1 text lim s first seen with pc := 7 } =
    if s ≥ lim then { A1 text lim s first (seen.add 16) with pc := 7, answer := some false }
    else match (text.getD s 0 == 46) with
      | false => { A1 text lim s first (seen.add 16) with pc := 7, answer := some false }
      | true => { A1 text lim s first (seen.add 16) with pc := 9, pos := s + 1 } := by
  show (if s ≥ lim then _ else _) = _
  split
  · rfl
  · cases h : (text.getD s 0 == 46) with
    | false =>
      show (match (Except.ok (text.getD s 0 == 46, seen.add 16) : Except String (Bool × Seen)) with | .error why => _ | .ok (false, seen) => _ | .ok (true, seen) => _) = _
      rw [h]
      rfl
    | true =>
      show (match (Except.ok (text.getD s 0 == 46, seen.add 16) : Except String (Bool × Seen)) with | .error why => _ | .ok (false, seen) => _ | .ok (true, seen) => _) = _
      rw [h]
      rfl
theorem suc1 (text : Array Nat) (lim s : Nat) (first : Bool) (seen : Seen) : M.step { A1 text lim s first seen with pc := 9, pos := s + 1 } = { A1 text lim s first (seen.add 1) with pc := 9, pos := s + 1, handed := s + 1, answer := some true } := by
  show (if (first && ((false && (s + 1) != lim) || (false && (s + 1 == s)))) = true then _ else _) = _
  cases first <;> rfl
theorem res1_no (text : Array Nat) (lim s p : Nat) (first : Bool) (seen : Seen) : M.step { A1 text lim s first seen with pc := p, answer := some false } =
    if s < lim then A1 text lim (s + 1) false seen else { A1 text lim s first seen with frames := [], weight := 0, answer := some false } := by
  show (if s < lim then _ else _) = _
  split <;> rfl
theorem res1_yes (text : Array Nat) (lim s : Nat) (first : Bool) (seen : Seen) : (steps 2 { A1 text lim s first seen with pc := 9, pos := s + 1, handed := s + 1, answer := some true }) =
    { A1 text lim s first seen with handed := s + 1, answer := some true, frames := [], weight := 0, outcome := some .matched } := rfl
theorem out1_no (text : Array Nat) (lim s : Nat) (first : Bool) (seen : Seen) : (M.step { A1 text lim s first seen with frames := [], weight := 0, answer := some false }).outcome = some .failed := rfl
noncomputable def hit1 (text : Array Nat) (lim s : Nat) : Bool := (s == 0 || text.getD (s - 1) 0 == 10) && decide (s < lim) && text.getD s 0 == 46
theorem hit1_yes {text : Array Nat} {lim s : Nat} (h : hit1 text lim s = true) (first : Bool) (seen : Seen) :
    (steps 5 (A1 text lim s first seen)).outcome = some .matched ∧ (steps 5 (A1 text lim s first seen)).start = s ∧ (steps 5 (A1 text lim s first seen)).handed = s + 1 := by
  unfold hit1 at h
  simp only [Bool.and_eq_true, decide_eq_true_eq] at h
  obtain ⟨⟨h1, h2⟩, h3⟩ := h
  have e : steps 5 (A1 text lim s first seen) = steps 2 (M.step (M.step (M.step (A1 text lim s first seen)))) := rfl
  rw [e, at1, if_pos h1, lit1, if_neg (by omega), h3]
  dsimp only
  rw [suc1, res1_yes]
  exact ⟨rfl, rfl, rfl⟩
theorem hit1_no {text : Array Nat} {lim s : Nat} (h : hit1 text lim s = false) (hs : s < lim) (first : Bool) (seen : Seen) :
    ∃ k seen', k ≤ 3 ∧ steps k (A1 text lim s first seen) = A1 text lim (s + 1) false seen' := by
  by_cases h1 : (s == 0 || text.getD (s - 1) 0 == 10) = true
  · have h3 : (text.getD s 0 == 46) = false := by
      unfold hit1 at h
      rw [h1, decide_eq_true hs] at h
      simpa using h
    refine ⟨3, ((seen.add 6).add 44).add 16, Nat.le_refl _, ?_⟩
    show M.step (M.step (M.step (A1 text lim s first seen))) = _
    rw [at1, if_pos h1, lit1, if_neg (by omega), h3]
    dsimp only
    rw [res1_no, if_pos hs]
  · refine ⟨2, (seen.add 6).add 44, by omega, ?_⟩
    show M.step (M.step (A1 text lim s first seen)) = _
    rw [at1, if_neg h1]
    have := res1_no text lim s 5 first ((seen.add 6).add 44)
    rw [if_pos hs] at this
    exact this
theorem hit1_end {text : Array Nat} {lim : Nat} (first : Bool) (seen : Seen) : ∃ k, k ≤ 4 ∧ (steps k (A1 text lim lim first seen)).outcome = some .failed := by
  by_cases h1 : (lim == 0 || text.getD (lim - 1) 0 == 10) = true
  · refine ⟨4, Nat.le_refl _, ?_⟩
    show (M.step (M.step (M.step (M.step (A1 text lim lim first seen))))).outcome = _
    rw [at1, if_pos h1, lit1, if_pos (Nat.le_refl _), res1_no, if_neg (Nat.lt_irrefl _), out1_no]
  · refine ⟨3, by omega, ?_⟩
    show (M.step (M.step (M.step (A1 text lim lim first seen)))).outcome = _
    rw [at1, if_neg h1]
    have := res1_no text lim lim 5 first ((seen.add 6).add 44)
    rw [if_neg (Nat.lt_irrefl _)] at this
    have e : M.step { A1 text lim lim first ((seen.add 6).add 44) with answer := some false } = _ := this
    rw [e, out1_no]
/-- The first place from s on where the pattern stands. -/
noncomputable def find1 (text : Array Nat) (lim : Nat) : Nat → Nat → Option Nat
  | 0, _ => none
  | f + 1, s => if hit1 text lim s then some s else find1 text lim f (s + 1)
theorem search1 (text : Array Nat) (lim : Nat) : ∀ (f s : Nat) (first : Bool) (seen : Seen), lim - s = f → s ≤ lim →
    ∃ k, k ≤ 5 * f + 5 ∧ match find1 text lim f s with
      | some e => (steps k (A1 text lim s first seen)).outcome = some .matched ∧ (steps k (A1 text lim s first seen)).start = e ∧ (steps k (A1 text lim s first seen)).handed = e + 1
      | none => (steps k (A1 text lim s first seen)).outcome = some .failed
  | 0, s, first, seen, h, hs => by
    have : s = lim := by omega
    subst this
    obtain ⟨k, hk, e⟩ := hit1_end (text := text) (lim := s) first seen
    exact ⟨k, by omega, e⟩
  | f + 1, s, first, seen, h, hs => by
    unfold find1
    cases q : hit1 text lim s with
    | true => exact ⟨5, by omega, hit1_yes q first seen⟩
    | false =>
      obtain ⟨k, seen', hk, e⟩ := hit1_no q (by omega) first seen
      obtain ⟨k', hk', e'⟩ := search1 text lim f (s + 1) false seen' (by omega) (by omega)
      refine ⟨k + k', by omega, ?_⟩
      rw [steps_add, e]
      exact e'
end
section
open PySem PySem.Sre
noncomputable def code2 : Array Nat := #[14, 9, 4, 1, 2, 16, 10, 16, 13, 0, 7, 7, 16, 13, 16, 10, 15, 18, 5, 16, 10, 15, 13, 11, 16, 13, 5, 5, 0, 16, 10, 1, 15, 2, 0, 1]
noncomputable def fq0 (s : Nat) (first : Bool) : Sre.Frame := { wait := .nextStart, pc := 10, pos := s, outermost := first }
noncomputable def fq1 (s pc : Nat) (first : Bool) : Sre.Frame := { wait := .nextBranch, pc := pc, pos := s, outermost := first }
/-- A state of the machine on the second pattern. -/
noncomputable def B2 (text : Array Nat) (lim s : Nat) (first : Bool) (pc pos handed : Nat) (out : Bool) (fr : List Sre.Frame) (wt : Nat) (ans : Option Bool) (seen : Seen) : M :=
  { code := code2, text, lim, start := s, lastStart := lim, pc := pc, pos := pos, handed := handed, outermost := out, marks := #[], frames := fr, weight := wt, answer := ans, seen }
noncomputable def A2 (text : Array Nat) (lim s : Nat) (first : Bool) (seen : Seen) : M := B2 text lim s first 10 s s first [fq0 s first] 1 none seen
section
variable (text : Array Nat) (lim s pos hd : Nat) (first out : Bool) (fr : List Sre.Frame) (wt : Nat) (seen : Seen)
theorem b_branch : M.step (A2 text lim s first seen) = B2 text lim s first 12 s s first [fq1 s 11 first, fq0 s first] 2 none (seen.add 7) := rfl
theorem b_lit12 : M.step (B2 text lim s first 12 pos hd out fr wt none seen) =
    if pos ≥ lim then B2 text lim s first 12 pos hd out fr wt (some false) (seen.add 16)
    else match (text.getD pos 0 == 13) with
      | false => B2 text lim s first 12 pos hd out fr wt (some false) (seen.add 16)
      | true => B2 text lim s first 14 (pos + 1) hd out fr wt none (seen.add 16) := by
  show (if pos ≥ lim then _ else _) = _
  split
  · rfl
  · cases h : (text.getD pos 0 == 13) with
    | false =>
      show (match (Except.ok (text.getD pos 0 == 13, seen.add 16) : Except String (Bool × Seen)) with | .error why => _ | .ok (false, seen) => _ | .ok (true, seen) => _) = _
      rw [h]
      rfl
    | true =>
      show (match (Except.ok (text.getD pos 0 == 13, seen.add 16) : Except String (Bool × Seen)) with | .error why => _ | .ok (false, seen) => _ | .ok (true, seen) => _) = _
      rw [h]
      rfl
theorem b_lit14 : M.step (B2 text lim s first 14 pos hd out fr wt none seen) =
    if pos ≥ lim then B2 text lim s first 14 pos hd out fr wt (some false) (seen.add 16)
    else match (text.getD pos 0 == 10) with
      | false => B2 text lim s first 14 pos hd out fr wt (some false) (seen.add 16)
      | true => B2 text lim s first 16 (pos + 1) hd out fr wt none (seen.add 16) := by
  show (if pos ≥ lim then _ else _) = _
  split
  · rfl
  · cases h : (text.getD pos 0 == 10) with
    | false =>
      show (match (Except.ok (text.getD pos 0 == 10, seen.add 16) : Except String (Bool × Seen)) with | .error why => _ | .ok (false, seen) => _ | .ok (true, seen) => _) = _
      rw [h]
      rfl
    | true =>
      show (match (Except.ok (text.getD pos 0 == 10, seen.add 16) : Except String (Bool × Seen)) with | .error why => _ | .ok (false, seen) => _ | .ok (true, seen) => _) = _
      rw [h]
      rfl
theorem b_lit19 : M.step (B2 text lim s first 19 pos hd out fr wt none seen) =
    if pos ≥ lim then B2 text lim s first 19 pos hd out fr wt (some false) (seen.add 16)
    else match (text.getD pos 0 == 10) with
      | false => B2 text lim s first 19 pos hd out fr wt (some false) (seen.add 16)
      | true => B2 text lim s first 21 (pos + 1) hd out fr wt none (seen.add 16) := by
  show (if pos ≥ lim then _ else _) = _
  split
  · rfl
  · cases h : (text.getD pos 0 == 10) with
    | false =>
      show (match (Except.ok (text.getD pos 0 == 10, seen.add 16) : Except String (Bool × Seen)) with | .error why => _ | .ok (false, seen) => _ | .ok (true, seen) => _) = _
      rw [h]
      rfl
    | true =>
      show (match (Except.ok (text.getD pos 0 == 10, seen.add 16) : Except String (Bool × Seen)) with | .error why => _ | .ok (false, seen) => _ | .ok (true, seen) => _) = _
      rw [h]
      rfl
theorem b_lit24 : M.step (B2 text lim s first 24 pos hd out fr wt none seen) =
    if pos ≥ lim then B2 text lim s first 24 pos hd out fr wt (some false) (seen.add 16)
    else match (text.getD pos 0 == 13) with
      | false => B2 text lim s first 24 pos hd out fr wt (some false) (seen.add 16)
      | true => B2 text lim s first 26 (pos + 1) hd out fr wt none (seen.add 16) := by
  show (if pos ≥ lim then _ else _) = _
  split
  · rfl
  · cases h : (text.getD pos 0 == 13) with
    | false =>
      show (match (Except.ok (text.getD pos 0 == 13, seen.add 16) : Except String (Bool × Seen)) with | .error why => _ | .ok (false, seen) => _ | .ok (true, seen) => _) = _
      rw [h]
      rfl
    | true =>
      show (match (Except.ok (text.getD pos 0 == 13, seen.add 16) : Except String (Bool × Seen)) with | .error why => _ | .ok (false, seen) => _ | .ok (true, seen) => _) = _
      rw [h]
      rfl
theorem b_lit29 : M.step (B2 text lim s first 29 pos hd out fr wt none seen) =
    if pos ≥ lim then B2 text lim s first 29 pos hd out fr wt (some false) (seen.add 16)
    else match (text.getD pos 0 == 10) with
      | false => B2 text lim s first 29 pos hd out fr wt (some false) (seen.add 16)
      | true => B2 text lim s first 31 (pos + 1) hd out fr wt none (seen.add 16) := by
  show (if pos ≥ lim then _ else _) = _
  split
  · rfl
  · cases h : (text.getD pos 0 == 10) with
    | false =>
      show (match (Except.ok (text.getD pos 0 == 10, seen.add 16) : Except String (Bool × Seen)) with | .error why => _ | .ok (false, seen) => _ | .ok (true, seen) => _) = _
      rw [h]
      rfl
    | true =>
      show (match (Except.ok (text.getD pos 0 == 10, seen.add 16) : Except String (Bool × Seen)) with | .error why => _ | .ok (false, seen) => _ | .ok (true, seen) => _) = _
      rw [h]
      rfl
theorem b_jump (pc : Nat) (hp : pc ∈ [16, 21, 32]) : M.step (B2 text lim s first pc pos hd out fr wt none seen) = B2 text lim s first 35 pos hd out fr wt none (seen.add 15) := by
  simp only [List.mem_cons, List.not_mem_nil, or_false] at hp
  rcases hp with rfl | rfl | rfl <;> rfl
theorem b_suc : M.step (B2 text lim s first 35 pos hd out fr wt none seen) = B2 text lim s first 35 pos pos out fr wt (some true) (seen.add 1) := by
  show (if (out && ((false && pos != lim) || (false && (pos == s)))) = true then _ else _) = _
  cases out <;> rfl
theorem b_yes (pc p : Nat) : steps 3 (B2 text lim s first pc pos hd out [fq1 s p first, fq0 s first] wt (some true) seen) = { B2 text lim s first 10 s hd first [] (wt - 1 - 1) (some true) seen with outcome := some .matched } := rfl
theorem b_no11 (pc : Nat) : M.step (B2 text lim s first pc pos hd out [fq1 s 11 first, fq0 s first] 2 (some false) seen) = B2 text lim s first 19 s s first [fq1 s 18 first, fq0 s first] 2 none seen := rfl
theorem b_no18 (pc : Nat) : M.step (B2 text lim s first pc pos hd out [fq1 s 18 first, fq0 s first] 2 (some false) seen) = B2 text lim s first 24 s s first [fq1 s 23 first, fq0 s first] 2 none seen := rfl
theorem eq13 : ((13 : Nat) == 13) = true := rfl
theorem eq10 : ((10 : Nat) == 10) = true := rfl
noncomputable def fL (p : Nat) (out : Bool) : Sre.Frame := { wait := .lookNot, pc := 26, pos := p, outermost := out }
theorem b_not : M.step (B2 text lim s first 26 pos hd out fr 2 none seen) = B2 text lim s first 29 pos pos false (fL pos out :: fr) 3 none (seen.add 5) := rfl
theorem b_lookno (p : Nat) : M.step (B2 text lim s first 29 pos hd false (fL p out :: fr) 3 (some false) seen) = B2 text lim s first 32 p hd out fr 2 none seen := rfl
theorem hit2_crlf (h : s < lim) (e : text.getD s 0 = 13) (h' : s + 1 < lim) (e' : text.getD (s + 1) 0 = 10) :
    (steps 8 (A2 text lim s first seen)).outcome = some .matched ∧ (steps 8 (A2 text lim s first seen)).start = s ∧ (steps 8 (A2 text lim s first seen)).handed = s + 2 := by
  have q : steps 8 (A2 text lim s first seen) = steps 3 (M.step (M.step (M.step (M.step (M.step (A2 text lim s first seen)))))) := rfl
  rw [q, b_branch, b_lit12, if_neg (by omega), e, eq13]
  dsimp only
  rw [b_lit14, if_neg (by omega), e', eq10]
  dsimp only
  rw [b_jump _ _ _ _ _ _ _ _ _ _ 16 (by simp), b_suc, b_yes]
  exact ⟨rfl, rfl, rfl⟩
theorem hit2_lf (h : s < lim) (e : text.getD s 0 = 10) :
    (steps 9 (A2 text lim s first seen)).outcome = some .matched ∧ (steps 9 (A2 text lim s first seen)).start = s ∧ (steps 9 (A2 text lim s first seen)).handed = s + 1 := by
  have q : steps 9 (A2 text lim s first seen) = steps 3 (M.step (M.step (M.step (M.step (M.step (M.step (A2 text lim s first seen))))))) := rfl
  have ne : ((10 : Nat) == 13) = false := by decide
  rw [q, b_branch, b_lit12, if_neg (by omega), e, ne]
  dsimp only
  rw [b_no11, b_lit19, if_neg (by omega), e, eq10]
  dsimp only
  rw [b_jump _ _ _ _ _ _ _ _ _ _ 21 (by simp), b_suc, b_yes]
  exact ⟨rfl, rfl, rfl⟩
theorem hit2_cr (h : s < lim) (e : text.getD s 0 = 13) (h' : ¬ (s + 1 < lim ∧ text.getD (s + 1) 0 = 10)) :
    (steps 15 (A2 text lim s first seen)).outcome = some .matched ∧ (steps 15 (A2 text lim s first seen)).start = s ∧ (steps 15 (A2 text lim s first seen)).handed = s + 1 := by
  have q : steps 15 (A2 text lim s first seen) = steps 3 (M.step (M.step (M.step (M.step (M.step (M.step (M.step (M.step (M.step (M.step (M.step (M.step (A2 text lim s first seen))))))))))))) := rfl
  have ne : ((13 : Nat) == 10) = false := by decide
  have k1 : ∀ (pc' hd' : Nat) (o' : Bool) (fr' : List Sre.Frame) (w' : Nat) (se : Seen), M.step (B2 text lim s first 14 (s + 1) hd' o' fr' w' none se) = B2 text lim s first 14 (s + 1) hd' o' fr' w' (some false) (se.add 16) := by
    intro pc' hd' o' fr' w' se
    rw [b_lit14]
    by_cases c : s + 1 ≥ lim
    · rw [if_pos c]
    · rw [if_neg c]
      have : (text.getD (s + 1) 0 == 10) = false := by simpa using fun z => h' ⟨by omega, z⟩
      rw [this]
  have k2 : ∀ (hd' : Nat) (o' : Bool) (fr' : List Sre.Frame) (w' : Nat) (se : Seen), M.step (B2 text lim s first 29 (s + 1) hd' o' fr' w' none se) = B2 text lim s first 29 (s + 1) hd' o' fr' w' (some false) (se.add 16) := by
    intro hd' o' fr' w' se
    rw [b_lit29]
    by_cases c : s + 1 ≥ lim
    · rw [if_pos c]
    · rw [if_neg c]
      have : (text.getD (s + 1) 0 == 10) = false := by simpa using fun z => h' ⟨by omega, z⟩
      rw [this]
  rw [q, b_branch, b_lit12, if_neg (by omega), e, eq13]
  dsimp only
  rw [k1 0, b_no11, b_lit19, if_neg (by omega), e, ne]
  dsimp only
  rw [b_no18, b_lit24, if_neg (by omega), e, eq13]
  dsimp only
  rw [b_not, k2, b_lookno, b_jump _ _ _ _ _ _ _ _ _ _ 32 (by simp), b_suc, b_yes]
  exact ⟨rfl, rfl, rfl⟩
end
theorem inSet2 (c : Nat) (seen : Seen) : inSet code2 c 36 5 true seen =
    if (c == 10) = true then .ok (true, seen.add 16) else if (c == 13) = true then .ok (true, (seen.add 16).add 16) else .ok (false, ((seen.add 16).add 16).add 0) := rfl
/-- The first place from s on that holds a line feed or a return. -/
noncomputable def find2 (text : Array Nat) (lim : Nat) : Nat → Nat → Option Nat
  | 0, _ => none
  | f + 1, s => if text.getD s 0 = 10 ∨ text.getD s 0 = 13 then some s else find2 text lim f (s + 1)
theorem adm2 (m : M) (hc : m.code = code2) : ∀ (f s : Nat) (seen : Seen), m.lim - s = f → ∃ seen', M.admitted m (f + 1) s seen = .ok (find2 m.text m.lim f s, seen')
  | 0, s, seen, h => ⟨seen, by unfold M.admitted; rw [if_pos (by omega)]; rfl⟩
  | f + 1, s, seen, h => by
    unfold M.admitted find2
    rw [if_neg (by omega), hc]
    have e36 : code2.size = 36 := rfl
    rw [e36, inSet2]
    by_cases c1 : m.text.getD s 0 = 10
    · rw [c1, if_pos eq10, if_pos (Or.inl rfl)]
      exact ⟨_, rfl⟩
    · have d1 : ¬ (m.text.getD s 0 == 10) = true := by simpa using c1
      rw [if_neg d1]
      by_cases c2 : m.text.getD s 0 = 13
      · rw [c2, if_pos eq13, if_pos (Or.inr rfl)]
        exact ⟨_, rfl⟩
      · have d2 : ¬ (m.text.getD s 0 == 13) = true := by simpa using c2
        rw [if_neg d2, if_neg (fun z => z.elim c1 c2)]
        exact adm2 m hc f (s + 1) _ (by omega)
noncomputable def len2 (text : Array Nat) (lim s : Nat) : Nat := if text.getD s 0 = 13 ∧ s + 1 < lim ∧ text.getD (s + 1) 0 = 10 then 2 else 1
theorem find2_spec (text : Array Nat) (lim : Nat) : ∀ (f s e : Nat), lim - s = f → find2 text lim f s = some e → s ≤ e ∧ e < lim ∧ (text.getD e 0 = 10 ∨ text.getD e 0 = 13)
  | 0, s, e, h, q => by cases q
  | f + 1, s, e, h, q => by
    unfold find2 at q
    split at q
    · rename_i c; cases q; exact ⟨Nat.le_refl _, by omega, c⟩
    · have := find2_spec text lim f (s + 1) e (by omega) q
      exact ⟨by omega, this.2⟩
theorem search2 {text : Array Nat} {lim s : Nat} (h : s < lim) : ∃ k, k ≤ 20 ∧ match find2 text lim (lim - s) s with
    | some e => (steps k (forSearch code2 text 0 s lim false)).outcome = some .matched ∧ (steps k (forSearch code2 text 0 s lim false)).start = e ∧ (steps k (forSearch code2 text 0 s lim false)).handed = e + len2 text lim e
    | none => (steps k (forSearch code2 text 0 s lim false)).outcome = some .failed := by
  unfold forSearch
  have e1 : header code2 = (1, 10) := by rfl
  rw [e1]
  dsimp only
  rw [if_neg (by simp; omega)]
  have q := adm2 { code := code2, text := text, lim := lim, start := s, lastStart := lim, pc := 10, pos := s, handed := s, marks := #[], seen := ({} : Seen).add 14 } rfl (lim - s) s (({} : Seen).add 14) rfl
  obtain ⟨seen', q⟩ := q
  have hf : lim - s + 1 = lim + 1 - s := by omega
  rw [hf] at q
  have key : M.attemptFrom { code := code2, text := text, lim := lim, start := s, lastStart := lim, pc := 10, pos := s, handed := s, marks := #[], seen := ({} : Seen).add 14 } s true =
      (match (Except.ok (find2 text lim (lim - s) s, seen') : Except String (Option Nat × Seen)) with
      | .ok (some e, seen) => A2 text lim e true seen
      | .ok (none, seen) => M.say { code := code2, text := text, lim := lim, start := s, lastStart := lim, pc := 10, pos := s, handed := s, marks := #[], seen } false
      | .error why => M.stick { code := code2, text := text, lim := lim, start := s, lastStart := lim, pc := 10, pos := s, handed := s, marks := #[], seen := ({} : Seen).add 14 } why) := by
    rw [← q]
    rfl
  show ∃ k, k ≤ 20 ∧ match find2 text lim (lim - s) s with
    | some e => (steps k (M.attemptFrom { code := code2, text := text, lim := lim, start := s, lastStart := lim, pc := 10, pos := s, handed := s, marks := #[], seen := ({} : Seen).add 14 } s true)).outcome = some .matched ∧ (steps k (M.attemptFrom { code := code2, text := text, lim := lim, start := s, lastStart := lim, pc := 10, pos := s, handed := s, marks := #[], seen := ({} : Seen).add 14 } s true)).start = e ∧ (steps k (M.attemptFrom { code := code2, text := text, lim := lim, start := s, lastStart := lim, pc := 10, pos := s, handed := s, marks := #[], seen := ({} : Seen).add 14 } s true)).handed = e + len2 text lim e
    | none => (steps k (M.attemptFrom { code := code2, text := text, lim := lim, start := s, lastStart := lim, pc := 10, pos := s, handed := s, marks := #[], seen := ({} : Seen).add 14 } s true)).outcome = some .failed
  rw [key]
  cases hq : find2 text lim (lim - s) s with
  | none => exact ⟨1, by omega, rfl⟩
  | some e =>
    dsimp only
    obtain ⟨h1, h2, h3⟩ := find2_spec text lim _ s e rfl hq
    unfold len2
    by_cases c : text.getD e 0 = 13 ∧ e + 1 < lim ∧ text.getD (e + 1) 0 = 10
    · rw [if_pos c]
      exact ⟨8, by omega, hit2_crlf text lim e true seen' h2 c.1 c.2.1 c.2.2⟩
    · rw [if_neg c]
      rcases h3 with h3 | h3
      · exact ⟨9, by omega, hit2_lf text lim e true seen' h2 h3⟩
      · exact ⟨15, by omega, hit2_cr text lim e true seen' h2 h3 fun z => c ⟨h3, z⟩⟩
end
section
/-- A text that reads well: its signs are the six, and it ends by a line feed. -/
noncomputable def Good (l : List Nat) : Prop := (∀ c ∈ l, c = 13 ∨ c = 10 ∨ c = 46 ∨ c = 35 ∨ c = 97 ∨ c = 32) ∧ (l ≠ [] → l.getLast? = some 10)
theorem Good.tail {c : Nat} {r : List Nat} (h : Good (c :: r)) : Good r := by
  refine ⟨fun x hx => h.1 x (.tail _ hx), fun hr => ?_⟩
  have := h.2 (by simp)
  rw [List.getLast?_cons_of_ne_nil hr] at this
  exact this
theorem Good.rest_ne {c : Nat} {r : List Nat} (h : Good (c :: r)) (hc : c ≠ 10) : r ≠ [] := by
  rintro rfl
  have := h.2 (by simp)
  simp at this
  exact hc this
theorem Good.suffix {l t : List Nat} (h : Good t) (s : l <:+ t) : Good l := by
  obtain ⟨a, rfl⟩ := s
  induction a with
  | nil => exact h
  | cons c a ih => exact ih h.tail
theorem Good.eol {l : List Nat} (h : Good l) : Good (toEol l) := h.suffix (toEol_suffix l)
/-- A word goes on. -/
noncomputable def lexW : List Nat → List Nat → Nat → Option (List Nat) × Nat × List Nat
  | [], tok, ln => (some tok, ln, [])
  | c :: r, tok, ln => if c = 35 then (some tok, ln + 1, toEol r) else if c = 10 then (some tok, ln + 1, r) else if c = 13 ∨ c = 32 then (some tok, ln, r) else lexW r (tok ++ [c]) ln
/-- Between words; behind a #, if `com`. -/
noncomputable def lexS : Bool → List Nat → Nat → Option (List Nat) × Nat × List Nat
  | _, [], ln => (none, ln, [])
  | true, c :: r, ln => if c = 10 then lexS false r ln else lexS true r ln
  | false, c :: r, ln => if c = 35 then lexS true r (ln + 1) else if c = 10 then lexS false r (ln + 1) else if c = 13 ∨ c = 32 then lexS false r ln else lexW r [c] ln
theorem lexS_com : ∀ (r : List Nat) (ln : Nat), lexS true r ln = lexS false (toEol r) ln
  | [], ln => by simp [lexS, toEol]
  | c :: r, ln => by
    have e1 : lexS true (c :: r) ln = if c = 10 then lexS false r ln else lexS true r ln := by rw [lexS]
    have e2 : toEol (c :: r) = if c = 10 then r else toEol r := by rw [toEol]
    rw [e1, e2]
    split
    · rfl
    · exact lexS_com r ln
structure LS where
  word : Bool
  tok : List Nat
  rest : List Nat
  ln : Nat
  t1 : PySem.Tok
  t2 : PySem.Tok
  t3 : PySem.Tok
  t4 : PySem.Tok
noncomputable def LS.res (c : LS) : Option (List Nat) × Nat × List Nat := if c.word then lexW c.rest c.tok c.ln else lexS false c.rest c.ln
structure LS.Ok (txt : List Nat) (r₀ : Option (List Nat) × Nat × List Nat) (c : LS) : Prop where
  good : Good c.rest
  suf : c.rest <:+ txt
  word : c.word = true → c.rest ≠ [] ∧ c.tok ≠ []
  gap : c.word = false → c.tok = []
  res : c.res = r₀
  len : c.tok.length + c.rest.length ≤ 64
  lnb : c.ln + c.rest.length ≤ 1000
section
variable {txt : List Nat} {r₀ : Option (List Nat) × Nat × List Nat} {tok r : List Nat} {ln : Nat} {a b d e a' b' d' e' : PySem.Tok}
theorem ok_gap_10 (h : LS.Ok txt r₀ ⟨false, [], 10 :: r, ln, a, b, d, e⟩) : LS.Ok txt r₀ ⟨false, [], r, ln + 1, a', b', d', e'⟩ :=
  ⟨h.good.tail, (List.suffix_cons ..).trans h.suf, fun q => (nomatch q), fun _ => rfl, by have := h.res; simp only [LS.res, lexS] at this ⊢; exact this, by have := h.len; simp at this ⊢; omega, by have := h.lnb; simp at this ⊢; omega⟩
theorem ok_gap_13 (h : LS.Ok txt r₀ ⟨false, [], 13 :: r, ln, a, b, d, e⟩) : LS.Ok txt r₀ ⟨false, [], r, ln, a', b', d', e'⟩ :=
  ⟨h.good.tail, (List.suffix_cons ..).trans h.suf, fun q => (nomatch q), fun _ => rfl, by have := h.res; simp only [LS.res, lexS] at this ⊢; exact this, by have := h.len; simp at this ⊢; omega, by have := h.lnb; simp at this ⊢; omega⟩
theorem ok_gap_32 (h : LS.Ok txt r₀ ⟨false, [], 32 :: r, ln, a, b, d, e⟩) : LS.Ok txt r₀ ⟨false, [], r, ln, a', b', d', e'⟩ :=
  ⟨h.good.tail, (List.suffix_cons ..).trans h.suf, fun q => (nomatch q), fun _ => rfl, by have := h.res; simp only [LS.res, lexS] at this ⊢; exact this, by have := h.len; simp at this ⊢; omega, by have := h.lnb; simp at this ⊢; omega⟩
theorem ok_gap_35 (h : LS.Ok txt r₀ ⟨false, [], 35 :: r, ln, a, b, d, e⟩) : LS.Ok txt r₀ ⟨false, [], toEol r, ln + 1, a', b', d', e'⟩ :=
  ⟨h.good.tail.eol, (toEol_suffix r).trans ((List.suffix_cons ..).trans h.suf), fun q => (nomatch q), fun _ => rfl, by have := h.res; simp only [LS.res, lexS] at this ⊢; rw [← lexS_com]; exact this,
    by have := h.len; have := (toEol_suffix r).length_le; simp at *; omega, by have := h.lnb; have := (toEol_suffix r).length_le; simp at *; omega⟩
theorem ok_gap_46 (h : LS.Ok txt r₀ ⟨false, [], 46 :: r, ln, a, b, d, e⟩) : LS.Ok txt r₀ ⟨true, [46], r, ln, a', b', d', e'⟩ :=
  ⟨h.good.tail, (List.suffix_cons ..).trans h.suf, fun _ => ⟨h.good.rest_ne (by decide), by simp⟩, fun q => (nomatch q), by have := h.res; simp only [LS.res, lexS] at this ⊢; exact this, by have := h.len; simp at this ⊢; omega, by have := h.lnb; simp at this ⊢; omega⟩
theorem ok_gap_97 (h : LS.Ok txt r₀ ⟨false, [], 97 :: r, ln, a, b, d, e⟩) : LS.Ok txt r₀ ⟨true, [97], r, ln, a', b', d', e'⟩ :=
  ⟨h.good.tail, (List.suffix_cons ..).trans h.suf, fun _ => ⟨h.good.rest_ne (by decide), by simp⟩, fun q => (nomatch q), by have := h.res; simp only [LS.res, lexS] at this ⊢; exact this, by have := h.len; simp at this ⊢; omega, by have := h.lnb; simp at this ⊢; omega⟩
theorem ok_word_46 (h : LS.Ok txt r₀ ⟨true, tok, 46 :: r, ln, a, b, d, e⟩) : LS.Ok txt r₀ ⟨true, tok ++ [46], r, ln, a', b', d', e'⟩ :=
  ⟨h.good.tail, (List.suffix_cons ..).trans h.suf, fun _ => ⟨h.good.rest_ne (by decide), by simp⟩, fun q => (nomatch q), by have := h.res; simp only [LS.res, lexW] at this ⊢; exact this, by have := h.len; simp at this ⊢; omega, by have := h.lnb; simp at this ⊢; omega⟩
theorem ok_word_97 (h : LS.Ok txt r₀ ⟨true, tok, 97 :: r, ln, a, b, d, e⟩) : LS.Ok txt r₀ ⟨true, tok ++ [97], r, ln, a', b', d', e'⟩ :=
  ⟨h.good.tail, (List.suffix_cons ..).trans h.suf, fun _ => ⟨h.good.rest_ne (by decide), by simp⟩, fun q => (nomatch q), by have := h.res; simp only [LS.res, lexW] at this ⊢; exact this, by have := h.len; simp at this ⊢; omega, by have := h.lnb; simp at this ⊢; omega⟩
end
end
section
/-- Rows ended by a return and a feed. -/
noncomputable def crlf : List Nat → List Nat
  | [] => []
  | [c] => if c = 10 ∨ c = 13 then [13, 10] else [c]
  | c :: d :: r => if c = 13 ∧ d = 10 then 13 :: 10 :: crlf r else if c = 10 ∨ c = 13 then 13 :: 10 :: crlf (d :: r) else c :: crlf (d :: r)
/-- One dot more at the front of a row that begins with one. -/
noncomputable def dots : Bool → List Nat → List Nat
  | _, [] => []
  | b, c :: r => if b = true ∧ c = 46 then 46 :: 46 :: dots false r else c :: dots (c == 10) r
/-- Rows ended by a feed alone. -/
noncomputable def norm : List Nat → List Nat
  | [] => []
  | [c] => if c = 13 then [10] else [c]
  | c :: d :: r => if c = 13 ∧ d = 10 then 10 :: norm r else if c = 13 then 10 :: norm (d :: r) else c :: norm (d :: r)
noncomputable def expand : List Nat → List Nat
  | [] => []
  | c :: r => if c = 10 then 13 :: 10 :: expand r else c :: expand r
theorem crlf_norm : ∀ l : List Nat, crlf l = expand (norm l)
  | [] => rfl
  | [c] => by
    unfold crlf norm
    by_cases h : c = 13
    · subst h; simp [expand]
    · by_cases h' : c = 10 <;> simp [h, h', expand]
  | c :: d :: r => by
    have i1 := crlf_norm r
    have i2 := crlf_norm (d :: r)
    unfold crlf norm
    by_cases h : c = 13 ∧ d = 10
    · rw [if_pos h, if_pos h, i1]; simp [expand]
    · rw [if_neg h, if_neg h]
      by_cases h' : c = 13
      · rw [if_pos (.inr h'), if_pos h', i2]; simp [expand]
      · rw [if_neg h']
        by_cases h'' : c = 10
        · rw [if_pos (.inl h''), i2]; simp [expand, h'']
        · rw [if_neg (by simp [h', h'']), i2]; simp [expand, h'']
theorem norm_mem : ∀ (l : List Nat) (c : Nat), c ∈ norm l → c ≠ 13 ∧ (c ∈ l ∨ c = 10)
  | [], c, h => by cases h
  | [d], c, h => by
    unfold norm at h
    split at h
    · simp at h; exact ⟨by omega, .inr h⟩
    · simp at h; subst h; exact ⟨by assumption, .inl (.head _)⟩
  | d :: e :: r, c, h => by
    unfold norm at h
    split at h
    · rcases List.mem_cons.mp h with h | h
      · exact ⟨by omega, .inr h⟩
      · have := norm_mem r c h
        exact ⟨this.1, this.2.imp (fun x => .tail _ (.tail _ x)) id⟩
    · split at h
      · rcases List.mem_cons.mp h with h | h
        · exact ⟨by omega, .inr h⟩
        · have := norm_mem (e :: r) c h
          exact ⟨this.1, this.2.imp (fun x => .tail _ x) id⟩
      · rcases List.mem_cons.mp h with h | h
        · subst h; exact ⟨by assumption, .inl (.head _)⟩
        · have := norm_mem (e :: r) c h
          exact ⟨this.1, this.2.imp (fun x => .tail _ x) id⟩
theorem norm_len : ∀ l : List Nat, (norm l).length ≤ l.length
  | [] => Nat.le_refl _
  | [d] => by unfold norm; split <;> simp
  | d :: e :: r => by
    have i1 := norm_len r
    have i2 := norm_len (e :: r)
    unfold norm
    split
    · simp; omega
    · split <;> simp at i2 ⊢ <;> omega
theorem norm_last : ∀ l : List Nat, l.getLast? = some 10 → (norm l).getLast? = some 10
  | [], h => by cases h
  | [d], h => by simp at h; subst h; simp [norm]
  | d :: e :: r, h => by
    have h2 : (e :: r).getLast? = some 10 := by simpa using h
    have i2 := norm_last (e :: r) h2
    have ne : norm (e :: r) ≠ [] := by intro q; rw [q] at i2; cases i2
    unfold norm
    split
    · rename_i c
      cases r with
      | nil => simp [norm]
      | cons f r =>
        have i1 := norm_last (f :: r) (by simpa using h2)
        have ne1 : norm (f :: r) ≠ [] := by intro q; rw [q] at i1; cases i1
        rw [List.getLast?_cons_of_ne_nil ne1]; exact i1
    · split
      · rw [List.getLast?_cons_of_ne_nil ne]; exact i2
      · rw [List.getLast?_cons_of_ne_nil ne]; exact i2
/-- What a stream still yields: its words, each with the row's number behind it; the last row's number. -/
inductive Rem : List Nat → Nat → List (List Nat × Nat) → Nat → Prop
  | nil {rest r : List Nat} {ln e : Nat} : lexS false rest ln = (none, e, r) → Rem rest ln [] e
  | cons {rest r tok : List Nat} {ln l e : Nat} {ws : List (List Nat × Nat)} : lexS false rest ln = (some tok, l, r) → Rem r l ws e → Rem rest ln ((tok, l) :: ws) e
theorem Rem.congr {a b : List Nat} {i j e : Nat} {ws : List (List Nat × Nat)} (h : Rem b j ws e) (q : lexS false a i = lexS false b j) : Rem a i ws e := by
  cases h with
  | nil h => exact .nil (q.trans h)
  | cons h t => exact .cons (q.trans h) t
/-- The words of one row; `cur` the one begun. -/
noncomputable def rw' : List Nat → List Nat → Nat → List (List Nat × Nat)
  | cur, [], ln => if cur = [] then [] else [(cur, ln)]
  | cur, c :: r, ln => if c = 35 then (if cur = [] then [] else [(cur, ln + 1)]) else if c = 32 then (if cur = [] then [] else [(cur, ln)]) ++ rw' [] r ln else rw' (cur ++ [c]) r ln
theorem toEol_app : ∀ (r x : List Nat), 10 ∉ r → toEol (r ++ 13 :: 10 :: x) = x
  | [], x, _ => by simp [toEol]
  | c :: r, x, h => by
    show toEol (c :: (r ++ 13 :: 10 :: x)) = x
    unfold toEol
    rw [if_neg (fun e => h (by rw [e]; exact .head _))]
    exact toEol_app r x fun q => h (.tail _ q)
theorem row_rem : ∀ (row : List Nat) (rest : List Nat) (ln e : Nat) (ws : List (List Nat × Nat)), (∀ c ∈ row, c ≠ 10 ∧ c ≠ 13) → Rem rest (ln + 1) ws e →
    Rem (row ++ 13 :: 10 :: rest) ln (rw' [] row ln ++ ws) e ∧
    ∀ cur, cur ≠ [] → ∃ tok l r ws', lexW (row ++ 13 :: 10 :: rest) cur ln = (some tok, l, r) ∧ rw' cur row ln ++ ws = (tok, l) :: ws' ∧ Rem r l ws' e
  | [], rest, ln, e, ws, _, h => by
    have h10 : Rem (10 :: rest) ln ws e := h.congr (by simp [lexS])
    refine ⟨?_, fun cur hc => ⟨cur, ln, 10 :: rest, ws, by simp [lexW], by simp [rw', hc], h10⟩⟩
    simp only [rw', if_true, List.nil_append]
    exact h10.congr (by rw [lexS]; simp)
  | c :: row, rest, ln, e, ws, hr, h => by
    obtain ⟨g, wd⟩ := row_rem row rest ln e ws (fun x hx => hr x (.tail _ hx)) h
    have h1 := hr c (.head _)
    have n10 : 10 ∉ row := fun q => (hr 10 (.tail _ q)).1 rfl
    by_cases c35 : c = 35
    · subst c35
      refine ⟨?_, fun cur hc => ⟨cur, ln + 1, rest, ws, ?_, by simp [rw', hc], h⟩⟩
      · simp only [rw', if_true, List.nil_append]
        refine h.congr ?_
        show lexS false (35 :: (row ++ 13 :: 10 :: rest)) ln = _
        rw [lexS, if_pos rfl, lexS_com, toEol_app row rest n10]
      · show lexW (35 :: (row ++ 13 :: 10 :: rest)) cur ln = _
        rw [lexW, if_pos rfl, toEol_app row rest n10]
    · by_cases c32 : c = 32
      · subst c32
        refine ⟨?_, fun cur hc => ⟨cur, ln, row ++ 13 :: 10 :: rest, rw' [] row ln ++ ws, ?_, by simp [rw', hc], g⟩⟩
        · simp only [rw', if_neg c35, if_true, List.nil_append]
          refine g.congr ?_
          show lexS false (32 :: (row ++ 13 :: 10 :: rest)) ln = _
          rw [lexS]; simp
        · show lexW (32 :: (row ++ 13 :: 10 :: rest)) cur ln = _
          rw [lexW]; simp
      · refine ⟨?_, fun cur hc => ?_⟩
        · obtain ⟨tok, l, r, ws', e1, e2, e3⟩ := wd [c] (by simp)
          have : rw' [] (c :: row) ln = rw' [c] row ln := by simp [rw', c35, c32]
          rw [this, e2]
          refine .cons ?_ e3
          rw [← e1]
          show lexS false (c :: (row ++ 13 :: 10 :: rest)) ln = _
          rw [lexS, if_neg c35, if_neg h1.1, if_neg (by simp [h1.2, c32])]
        · obtain ⟨tok, l, r, ws', e1, e2, e3⟩ := wd (cur ++ [c]) (by simp)
          refine ⟨tok, l, r, ws', ?_, ?_, e3⟩
          · rw [← e1]
            show lexW (c :: (row ++ 13 :: 10 :: rest)) cur ln = _
            rw [lexW, if_neg c35, if_neg h1.1, if_neg (by simp [h1.2, c32])]
          · rw [← e2]
            simp [rw', c35, c32]
noncomputable def dotted (row : List Nat) : List Nat := if row.head? = some 46 then 46 :: row else row
theorem dots_false : ∀ (row x : List Nat), 10 ∉ row → dots false (row ++ 13 :: 10 :: x) = row ++ 13 :: 10 :: dots true x
  | [], x, _ => by simp [dots]
  | c :: r, x, h => by
    have hc : c ≠ 10 := fun e => h (by rw [e]; exact .head _)
    have hb : (c == 10) = false := by simpa using hc
    have := dots_false r x fun q => h (.tail _ q)
    show dots false (c :: (r ++ 13 :: 10 :: x)) = _
    rw [dots, hb]
    simp [this]
theorem dots_row : ∀ (row x : List Nat), 10 ∉ row → dots true (row ++ 13 :: 10 :: x) = dotted row ++ 13 :: 10 :: dots true x
  | [], x, _ => by simp [dots, dotted]
  | c :: r, x, h => by
    have hc : c ≠ 10 := fun e => h (by rw [e]; exact .head _)
    have hb : (c == 10) = false := by simpa using hc
    have := dots_false r x fun q => h (.tail _ q)
    show dots true (c :: (r ++ 13 :: 10 :: x)) = _
    unfold dotted
    rw [dots, hb]
    by_cases q : c = 46 <;> simp [this, q]
/-- The rows of a text whose rows are ended by feeds; `acc` the one begun. -/
noncomputable def rowsN : List Nat → List Nat → List (List Nat)
  | acc, [] => [acc]
  | acc, c :: r => if c = 10 then acc :: rowsN [] r else rowsN (acc ++ [c]) r
/-- The words of rows, the first one's number ln. -/
noncomputable def wordsR : List (List Nat) → Nat → List (List Nat × Nat)
  | [], _ => []
  | row :: rs, ln => rw' [] (dotted row) ln ++ wordsR rs (ln + 1)
theorem rows_rem : ∀ (n acc : List Nat) (ln : Nat), (∀ c ∈ n, c ≠ 13) → (∀ c ∈ acc, c ≠ 10 ∧ c ≠ 13) → (n = [] → acc = []) → (n ≠ [] → n.getLast? = some 10) →
    Rem (dots true (acc ++ expand n)) ln (wordsR (rowsN acc n) ln) (ln + (rowsN acc n).length - 1)
  | [], acc, ln, _, _, ha, _ => by
    have := ha rfl
    subst this
    simp only [expand, List.append_nil, dots, rowsN, wordsR, dotted, List.head?_nil, rw', List.length_singleton, if_true]
    exact .nil (r := []) (by simp [lexS])
  | c :: n, acc, ln, hn, hacc, _, hl => by
    have hl' : n ≠ [] → n.getLast? = some 10 := fun h => by
      have := hl (by simp)
      rw [List.getLast?_cons_of_ne_nil h] at this; exact this
    have hn' : ∀ c ∈ n, c ≠ 13 := fun x hx => hn x (.tail _ hx)
    have n10 : 10 ∉ acc := fun q => (hacc 10 q).1 rfl
    by_cases h : c = 10
    · subst h
      have ih := rows_rem n [] (ln + 1) hn' (fun _ h => nomatch h) (fun _ => rfl) hl'
      rw [List.nil_append] at ih
      have e1 : expand (10 :: n) = 13 :: 10 :: expand n := by simp [expand]
      have e2 : rowsN acc (10 :: n) = acc :: rowsN [] n := by simp [rowsN]
      rw [e1, e2, dots_row acc _ n10]
      have hd : ∀ c ∈ dotted acc, c ≠ 10 ∧ c ≠ 13 := by
        intro x hx
        unfold dotted at hx
        split at hx
        · rcases List.mem_cons.mp hx with rfl | hx
          · exact ⟨by decide, by decide⟩
          · exact hacc x hx
        · exact hacc x hx
      have := (row_rem (dotted acc) _ ln _ _ hd ih).1
      have el : ln + 1 + (rowsN [] n).length - 1 = ln + (acc :: rowsN [] n).length - 1 := by simp only [List.length_cons]; omega
      rw [el] at this
      exact this
    · have nn : n ≠ [] := by
        rintro rfl
        have := hl (by simp)
        simp at this; exact h this
      have ih := rows_rem n (acc ++ [c]) ln hn' (by
        intro x hx
        rcases List.mem_append.mp hx with hx | hx
        · exact hacc x hx
        · simp at hx; subst hx; exact ⟨h, hn _ (.head _)⟩) (fun q => absurd q nn) hl'
      have e1 : acc ++ expand (c :: n) = acc ++ [c] ++ expand n := by simp [expand, h]
      have e2 : rowsN acc (c :: n) = rowsN (acc ++ [c]) n := by simp [rowsN, h]
      rw [e1, e2]
      exact ih
/-- The letter sent, and read: its words. -/
theorem letter_rem (l : List Nat) (hl : l.getLast? = some 10) :
    Rem (dots true (crlf l)) 1 (wordsR (rowsN [] (norm l)) 1) (rowsN [] (norm l)).length := by
  have := rows_rem (norm l) [] 1 (fun c hc => (norm_mem l c hc).1) (fun _ h => nomatch h) (fun _ => rfl) (fun _ => norm_last l hl)
  rw [List.nil_append, ← crlf_norm, Nat.add_sub_cancel_left] at this
  exact this
end
section
open PySem PySem.W PyProof.Rows
open PySem.Builtin PySem.Builtin.Str
noncomputable abbrev toS (l : List Nat) : Str := ⟨l.toArray⟩
theorem toS_toList (x : Str) : toS x.cps.toList = x := by cases x; simp [toS]
/-- A text cut at each c; `acc` the part begun. -/
noncomputable def rowsC (c : Nat) : List Nat → List Nat → List (List Nat)
  | acc, [] => [acc]
  | acc, x :: r => if x = c then acc :: rowsC c [] r else rowsC c (acc ++ [x]) r
theorem rowsN_eq : ∀ (l acc : List Nat), rowsN acc l = rowsC 10 acc l
  | [], _ => rfl
  | x :: r, acc => by
    unfold rowsN rowsC
    rw [rowsN_eq r, rowsN_eq r]
theorem rowsC_free (c : Nat) : ∀ (p acc r : List Nat), c ∉ p → rowsC c acc (p ++ r) = rowsC c (acc ++ p) r
  | [], acc, r, _ => by simp
  | x :: p, acc, r, h => by
    show rowsC c acc (x :: (p ++ r)) = _
    rw [rowsC, if_neg (fun e => h (by rw [e]; exact .head _)), rowsC_free c p _ r fun q => h (.tail _ q)]
    simp
theorem rowsC_join (c : Nat) : ∀ (parts : List Str), parts ≠ [] → (∀ p ∈ parts, c ∉ p.cps.toList) → rowsC c [] (Str.join ⟨#[c]⟩ parts).cps.toList = parts.map (·.cps.toList)
  | [], h, _ => absurd rfl h
  | [p], _, h => by
    show rowsC c [] p.cps.toList = [p.cps.toList]
    have := rowsC_free c p.cps.toList [] [] (h p (.head _))
    simpa [rowsC] using this
  | p :: q :: r, _, h => by
    have ih := rowsC_join c (q :: r) (by simp) fun x hx => h x (.tail _ hx)
    have e : (Str.join ⟨#[c]⟩ (p :: q :: r)).cps.toList = p.cps.toList ++ (c :: (Str.join ⟨#[c]⟩ (q :: r)).cps.toList) := by
      show (p ++ ⟨#[c]⟩ ++ Str.join ⟨#[c]⟩ (q :: r)).cps.toList = _
      simp [Str.cps_append]
    rw [e, rowsC_free c _ _ _ (h p (.head _)), rowsC, if_pos rfl, ih]
    simp
theorem split_val (x : Str) (c : Nat) : Txt.split x ⟨#[c]⟩ = (rowsC c [] x.cps.toList).map toS := by
  have hne : Txt.split x ⟨#[c]⟩ ≠ [] := fun e => by
    have := split_pos x ⟨#[c]⟩
    rw [e] at this; simp at this
  have h := rowsC_join c (Txt.split x ⟨#[c]⟩) hne (StrLaws.split_free x c)
  rw [StrLaws.join_split] at h
  rw [h, List.map_map]
  have : toS ∘ (fun p : Str => p.cps.toList) = _root_.id := by
    funext p; exact toS_toList p
  rw [this, List.map_id]
theorem join_cut (c d : Nat) : ∀ (l acc : List Nat), (Str.join ⟨#[d]⟩ ((rowsC c acc l).map toS)).cps.toList = acc ++ l.map fun x => if x = c then d else x
  | [], acc => by
    show (toS acc).cps.toList = _
    simp
  | x :: r, acc => by
    unfold rowsC
    by_cases h : x = c
    · rw [if_pos h]
      have ih := join_cut c d r []
      cases q : rowsC c [] r with
      | nil => cases r with
        | nil => cases q
        | cons y r' =>
          exfalso
          have : ∀ (r acc : List Nat), rowsC c acc r ≠ [] := by
            intro r
            induction r with
            | nil => intro acc h; cases h
            | cons z r ih => intro acc h; unfold rowsC at h; split at h; cases h; exact ih _ h
          exact this _ _ q
      | cons p ps =>
        rw [q] at ih
        show (toS acc ++ ⟨#[d]⟩ ++ Str.join ⟨#[d]⟩ ((p :: ps).map toS)).cps.toList = _
        simp only [Str.cps_append, Array.toList_append]
        rw [ih]
        simp [h]
    · rw [if_neg h, join_cut c d r (acc ++ [x])]
      simp [h]
theorem replace1_val (l : List Nat) : Txt.replace (toS l) (Str.ofString "\r") (Str.ofString "\n") = toS (l.map fun x => if x = 13 then 10 else x) := by
  have e13 : Str.ofString "\r" = ⟨#[13]⟩ := by decide +kernel
  have e10 : Str.ofString "\n" = ⟨#[10]⟩ := by decide +kernel
  rw [e13, e10, StrLaws.replace_one, split_val]
  have := join_cut 13 10 l []
  rw [← toS_toList (Str.join _ _)]
  exact congrArg toS this
/-- A return and a feed made one feed. -/
noncomputable def nl1 : List Nat → List Nat
  | [] => []
  | [c] => [c]
  | c :: d :: r => if c = 13 ∧ d = 10 then 10 :: nl1 r else c :: nl1 (d :: r)
theorem norm_nl1 : ∀ l : List Nat, norm l = (nl1 l).map fun x => if x = 13 then 10 else x
  | [] => rfl
  | [c] => by unfold norm nl1; by_cases h : c = 13 <;> simp [h]
  | c :: d :: r => by
    have i1 := norm_nl1 r
    have i2 := norm_nl1 (d :: r)
    unfold norm nl1
    by_cases h : c = 13 ∧ d = 10
    · rw [if_pos h, if_pos h, i1]; simp
    · rw [if_neg h, if_neg h, i2]
      by_cases h' : c = 13 <;> simp [h']
theorem at_two (l : List Nat) (i : Nat) : StrLaws.At (toS l) ⟨#[13, 10]⟩ (toS l).length i ↔ l[i]? = some 13 ∧ l[i + 1]? = some 10 := by
  unfold StrLaws.At
  rw [StrLaws.subAt_eq]
  simp only [Str.length]
  constructor
  · rintro ⟨h1, h2⟩
    have h2' : List.take 2 (List.drop i l) = [13, 10] := by simpa using h2
    have a : (List.take 2 (List.drop i l))[0]? = some 13 := by rw [h2']; rfl
    have b : (List.take 2 (List.drop i l))[1]? = some 10 := by rw [h2']; rfl
    exact ⟨by simpa using a, by simpa using b⟩
  · rintro ⟨h1, h2⟩
    obtain ⟨hl, e⟩ := List.getElem?_eq_some_iff.mp h2
    obtain ⟨hl', e'⟩ := List.getElem?_eq_some_iff.mp h1
    refine ⟨by simp; omega, ?_⟩
    have : List.drop i l = 13 :: 10 :: List.drop (i + 2) l := by
      rw [List.drop_eq_getElem_cons hl', List.drop_eq_getElem_cons hl, e, e']
    simp [this]
theorem nl1_skip (l : List Nat) : ∀ (n a : Nat), (∀ k, a ≤ k → k < a + n → ¬ (l[k]? = some 13 ∧ l[k + 1]? = some 10)) → a + n ≤ l.length → nl1 (l.drop a) = (l.drop a).take n ++ nl1 (l.drop (a + n))
  | 0, a, _, _ => by simp
  | n + 1, a, h, hl => by
    have ih := nl1_skip l n (a + 1) (fun k h1 h2 => h k (by omega) (by omega)) (by omega)
    have ha : a < l.length := by omega
    have h0 := h a (Nat.le_refl _) (by omega)
    rw [List.drop_eq_getElem_cons ha]
    have e2 : a + (n + 1) = a + 1 + n := by omega
    rw [e2, List.take_succ_cons, List.cons_append, ← ih]
    cases hd : l.drop (a + 1) with
    | nil => simp [nl1]
    | cons d r =>
      rw [nl1, if_neg]
      rintro ⟨q1, q2⟩
      apply h0
      refine ⟨by rw [List.getElem?_eq_getElem ha, q1], ?_⟩
      have : (l.drop (a + 1))[0]? = some d := by rw [hd]; rfl
      rw [List.getElem?_drop, Nat.add_zero] at this
      rw [this, q2]
theorem nl1_free (l : List Nat) (a : Nat) (h : ∀ k, a ≤ k → ¬ (l[k]? = some 13 ∧ l[k + 1]? = some 10)) : nl1 (l.drop a) = l.drop a := by
  by_cases ha : a ≤ l.length
  · have := nl1_skip l (l.length - a) a (fun k h1 _ => h k h1) (by omega)
    rw [this, Nat.add_sub_cancel' ha]
    simp [nl1, List.take_of_length_le]
  · have : l.drop a = [] := by simp; omega
    rw [this]; rfl
theorem parts_nl1 (l : List Nat) : ∀ (cuts : List Nat) (a f : Nat), StrLaws.ChainG (toS l) ⟨#[13, 10]⟩ (toS l).length a cuts f → (∀ k, f ≤ k → ¬ StrLaws.At (toS l) ⟨#[13, 10]⟩ (toS l).length k) → a ≤ l.length →
    (Str.join ⟨#[10]⟩ (StrLaws.partsFrom (toS l) (⟨#[13, 10]⟩ : Str).length a cuts)).cps.toList = nl1 (l.drop a)
  | [], a, f, h, hn, hal => by
    have e : f = a := h
    subst e
    show (strSub (toS l) f (toS l).length).cps.toList = _
    rw [StrLaws.strSub_toList, nl1_free l f fun k hk q => hn k hk ((at_two l k).mpr q)]
    simp [Str.length, List.take_of_length_le]
  | c :: r, a, f, h, hn, hal => by
    obtain ⟨h1, h2, h3, h4⟩ := h
    have hc := (at_two l c).mp h2
    have hcl : c + 1 < l.length := (List.getElem?_eq_some_iff.mp hc.2).1
    have ih := parts_nl1 l r (c + 2) f h4 hn (by omega)
    obtain ⟨p, q, e⟩ := StrLaws.partsFrom_ne (toS l) (⟨#[13, 10]⟩ : Str).length (c + 2) r
    show (Str.join ⟨#[10]⟩ (strSub (toS l) a c :: StrLaws.partsFrom (toS l) (⟨#[13, 10]⟩ : Str).length (c + 2) r)).cps.toList = _
    rw [e] at ih ⊢
    show (strSub (toS l) a c ++ ⟨#[10]⟩ ++ Str.join ⟨#[10]⟩ (p :: q)).cps.toList = _
    simp only [Str.cps_append, Array.toList_append]
    rw [ih, StrLaws.strSub_toList]
    have sk := nl1_skip l (c - a) a (fun k k1 k2 z => h3 k k1 (by omega) ((at_two l k).mpr z)) (by omega)
    rw [Nat.add_sub_cancel' h1] at sk
    rw [sk]
    have : l.drop c = 13 :: 10 :: l.drop (c + 2) := by
      obtain ⟨hl', e'⟩ := List.getElem?_eq_some_iff.mp hc.1
      obtain ⟨hl, e⟩ := List.getElem?_eq_some_iff.mp hc.2
      rw [List.drop_eq_getElem_cons hl', List.drop_eq_getElem_cons hl, e, e']
    rw [this, nl1, if_pos ⟨rfl, rfl⟩]
    simp
theorem replace2_val (l : List Nat) : Txt.replace (toS l) (Str.ofString "\r\n") (Str.ofString "\n") = toS (nl1 l) := by
  have e13 : Str.ofString "\r\n" = ⟨#[13, 10]⟩ := by decide +kernel
  have e10 : Str.ofString "\n" = ⟨#[10]⟩ := by decide +kernel
  rw [e13, e10]
  obtain ⟨f, h1, h2⟩ := StrLaws.occ_tight (toS l) ⟨#[13, 10]⟩ (by decide)
  have key := parts_nl1 l _ 0 f h1 h2 (Nat.zero_le _)
  rw [List.drop_zero] at key
  unfold Txt.replace
  cases he : (occurrences (toS l) ⟨#[13, 10]⟩ 0 (toS l).length ((toS l).length + 1)).isEmpty
  · simp only [Bool.false_or]
    rw [if_neg (by decide), StrLaws.glued_eq_join, StrLaws.partsBetween_eq, ← toS_toList (Str.join _ _), key]
  · rw [Bool.true_or, if_pos rfl]
    have : occurrences (toS l) ⟨#[13, 10]⟩ 0 (toS l).length ((toS l).length + 1) = [] := by simpa using he
    rw [this] at h1
    have e : f = 0 := h1
    subst e
    have := nl1_free l 0 fun k hk q => h2 k hk ((at_two l k).mpr q)
    rw [List.drop_zero] at this
    rw [this]
/-- The words found in a row: all but the last at ln, the last one there too, or in the next row. -/
noncomputable def wl (found : List (List Nat)) (close : Bool) (ln : Nat) : List (List Nat × Nat) :=
  match found with
  | [] => []
  | [x] => [(x, if close then ln + 1 else ln)]
  | x :: y :: r => (x, ln) :: wl (y :: r) close ln
noncomputable def ne0 (l : List Nat) : Bool := !l.isEmpty
theorem blanks : ∀ (l cur : List Nat), (rowsC 32 cur l).filter ne0 = [] → cur = [] ∧ ∀ c ∈ l, c = 32
  | [], cur, h => by
    cases cur with
    | nil => exact ⟨rfl, fun _ h => nomatch h⟩
    | cons a b => simp [rowsC, ne0] at h
  | x :: r, cur, h => by
    unfold rowsC at h
    by_cases q : x = 32
    · rw [if_pos q] at h
      cases cur with
      | cons a b => simp [ne0] at h
      | nil =>
        have := blanks r [] (by simpa [ne0] using h)
        refine ⟨rfl, fun c hc => ?_⟩
        rcases List.mem_cons.mp hc with rfl | hc
        · exact q
        · exact this.2 c hc
    · rw [if_neg q] at h
      have := (blanks r (cur ++ [x]) h).1
      simp at this
theorem wl_eq : ∀ (row cur : List Nat) (ln : Nat), 32 ∉ cur →
    rw' cur row ln = wl ((rowsC 32 cur (row.takeWhile (· ≠ 35))).filter ne0) (decide (35 ∈ row) && decide ((cur ++ row.takeWhile (· ≠ 35)).getLast? ≠ some 32)) ln
  | [], cur, ln, hc => by
    cases cur with
    | nil => simp [rw', rowsC, ne0, wl]
    | cons a b => simp [rw', rowsC, ne0, wl]
  | c :: r, cur, ln, hc => by
    by_cases c35 : c = 35
    · subst c35
      have hl : cur.getLast? ≠ some 32 := fun e => hc (List.mem_of_getLast? e)
      cases cur with
      | nil => simp [rw', rowsC, ne0, wl]
      | cons a b =>
        rw [rw', if_pos rfl]
        simp only [List.takeWhile_cons, rowsC]
        simp [ne0, wl, rowsC]
        simpa using hl
    · have tw : (c :: r).takeWhile (· ≠ 35) = c :: r.takeWhile (· ≠ 35) := by simp [List.takeWhile_cons, c35]
      have mm : decide (35 ∈ c :: r) = decide (35 ∈ r) := by
        have : (35 ∈ c :: r) ↔ 35 ∈ r := by
          constructor
          · intro h
            rcases List.mem_cons.mp h with e | h
            · exact absurd e.symm c35
            · exact h
          · exact fun h => .tail _ h
        simp [this]
      rw [tw, mm, rw', if_neg c35]
      by_cases c32 : c = 32
      · subst c32
        rw [if_pos rfl]
        have ih := wl_eq r [] ln (by simp)
        rw [List.nil_append] at ih
        rw [ih, rowsC, if_pos rfl]
        generalize hp : r.takeWhile (· ≠ 35) = p0 at *
        cases hf : (rowsC 32 [] p0).filter ne0 with
        | nil =>
          have bl := (blanks p0 [] hf).2
          have hlast : (cur ++ 32 :: p0).getLast? = some 32 := by
            have : (cur ++ 32 :: p0) = (cur ++ [32]) ++ p0 := by simp
            rw [this]
            cases hq : p0.getLast? with
            | none =>
              have : p0 = [] := by simpa using hq
              simp [this]
            | some z =>
              rw [List.getLast?_append, hq]
              have := bl z (List.mem_of_getLast? hq)
              simp [this]
          rw [hlast]
          cases cur with
          | nil => simp [ne0, hf, wl]
          | cons a b => simp [ne0, hf, wl]
        | cons f fs =>
          have hne : p0 ≠ [] := by rintro rfl; simp [rowsC, ne0] at hf
          have hlast : (cur ++ 32 :: p0).getLast? = p0.getLast? := by
            have : (cur ++ 32 :: p0) = (cur ++ [32]) ++ p0 := by simp
            rw [this, List.getLast?_append]
            cases hq : p0.getLast? with
            | none => exact absurd (by simpa using hq) hne
            | some z => rfl
          rw [hlast]
          cases cur with
          | nil => simp [ne0, hf]
          | cons a b => simp [ne0, hf, wl]
      · rw [if_neg c32]
        have ih := wl_eq r (cur ++ [c]) ln (by simp; exact ⟨hc, fun e => c32 e.symm⟩)
        rw [ih, rowsC, if_neg c32]
        have : cur ++ [c] ++ r.takeWhile (· ≠ 35) = cur ++ c :: r.takeWhile (· ≠ 35) := by simp
        rw [this]
theorem cut35 : ∀ (l acc : List Nat), (rowsC 35 acc l).head? = some (acc ++ l.takeWhile (· ≠ 35)) ∧ (1 < (rowsC 35 acc l).length ↔ 35 ∈ l)
  | [], acc => by simp [rowsC]
  | x :: r, acc => by
    unfold rowsC
    by_cases h : x = 35
    · rw [if_pos h]
      have : 1 ≤ (rowsC 35 [] r).length := by
        cases r with
        | nil => simp [rowsC]
        | cons y s =>
          have : ∀ (r acc : List Nat), 1 ≤ (rowsC 35 acc r).length := by
            intro r
            induction r with
            | nil => intro acc; simp [rowsC]
            | cons z r ih => intro acc; unfold rowsC; split; simp; exact ih _
          exact this _ _
      refine ⟨by simp [List.takeWhile_cons, h], ?_⟩
      simp [h]
      omega
    · rw [if_neg h]
      obtain ⟨a, b⟩ := cut35 r (acc ++ [x])
      refine ⟨?_, ?_⟩
      · rw [a]; simp [List.takeWhile_cons, h]
      · rw [b]; simp; intro e; exact absurd e.symm h
end
section
open PySem PySem.W
/-- error_leader's text. -/
noncomputable def lead (x : Str) (ln : Nat) : Str := Str.ofString "\"" ++ x ++ Str.ofString "\", line " ++ Str.ofString (toString (ln : Int)) ++ Str.ofString ": "
/-- A word told: the word, where. -/
noncomputable abbrev entD (e : List Nat × Str) : Dat := .list [.str (toS e.1), .str e.2]
noncomputable abbrev endD (x : Str) (n : Nat) : Dat := .list [.none, .str (lead x n)]
noncomputable def tellW (x : Str) (ws : List (List Nat × Nat)) : List Dat := ws.map fun e => entD (e.1, lead x e.2)
noncomputable def wordsL (l : List Nat) : List (List Nat × Nat) := wordsR (rowsN [] (norm l)) 1
noncomputable def rowsL (l : List Nat) : Nat := (rowsN [] (norm l)).length
/-- The name of the k-th deed's letter. -/
noncomputable def nameK (k : Nat) : Str := Str.ofString (toString ((k : Int) + 1))
/-- Is the end told? -/
noncomputable def ended (out : List Dat) : Bool := match out.getLast? with
  | some (.list (.none :: _)) => true
  | _ => false
/-- The next word, from the words that wait; the last put first. -/
noncomputable def getD : Dat → List Dat → List (List Dat) → Dat × List Dat × List (List Dat)
  | _, d :: ds, low => (d, ds, low)
  | e, [], t :: low => getD e t low
  | e, [], [] => (e, [], [])
structure SD where
  top : List Dat
  low : List (List Dat)
  out : List Dat
noncomputable def rd (e : Dat) (st : SD) : SD := match getD e st.top st.low with
  | (d, t, l) => ⟨t, l, st.out ++ [d]⟩
/-- One deed. -/
noncomputable def stepD (f : Int → List Nat) (e : Dat) (k : Nat) (x : Int) (st : SD) : SD :=
  if ended st.out = true then st else if x.fmod 3 = 1 then ⟨tellW (nameK k) (wordsL (f (x.fdiv 3))), st.top :: st.low, st.out⟩ else rd e st
noncomputable def runD (f : Int → List Nat) (e : Dat) : Nat → List Int → SD → SD
  | _, [], st => st
  | k, x :: xs, st => runD f e (k + 1) xs (stepD f e k x st)
section
variable {f : Int → List Nat} {e : Dat}
theorem runD_app : ∀ (xs ys : List Int) (k : Nat) (st : SD), runD f e k (xs ++ ys) st = runD f e (k + xs.length) ys (runD f e k xs st)
  | [], ys, k, st => rfl
  | x :: xs, ys, k, st => by
    show runD f e (k + 1) (xs ++ ys) _ = runD f e (k + (xs.length + 1)) ys (runD f e (k + 1) xs _)
    rw [runD_app xs ys (k + 1), Nat.add_right_comm, Nat.add_assoc]
theorem runD_end : ∀ (xs : List Int) (k : Nat) (st : SD), ended st.out = true → runD f e k xs st = st
  | [], k, st, h => rfl
  | x :: xs, k, st, h => by
    show runD f e (k + 1) xs (stepD f e k x st) = st
    have : stepD f e k x st = st := by unfold stepD; rw [if_pos h]
    rw [this]; exact runD_end xs (k + 1) st h
theorem runD_take {xs : List Int} {i : Nat} {x : Int} (st : SD) (h : xs[i]? = some x) : runD f e 0 (xs.take (i + 1)) st = stepD f e i x (runD f e 0 (xs.take i) st) := by
  have hl : i < xs.length := (List.getElem?_eq_some_iff.mp h).1
  rw [List.take_add_one, h, runD_app]
  simp only [Option.toList, runD]
  have : (xs.take i).length = i := by simp; omega
  rw [this, Nat.zero_add]
theorem runD_drop {xs : List Int} {i : Nat} (st : SD) (h : ended (runD f e 0 (xs.take i) st).out = true) : runD f e 0 xs st = runD f e 0 (xs.take i) st := by
  conv => lhs; rw [← List.take_append_drop i xs]
  rw [runD_app, runD_end _ _ _ h]
/-- Words that wait. -/
noncomputable def mu (st : SD) : Nat := st.top.length + (st.low.map List.length).sum
theorem getD_mu : ∀ (low : List (List Dat)) (top : List Dat), (∃ d t l, getD e top low = (d, t, l) ∧ t.length + (l.map List.length).sum + 1 = top.length + (low.map List.length).sum ∧ (d ∈ top ∨ ∃ u ∈ low, d ∈ u)) ∨ (getD e top low = (e, [], []) ∧ top.length + (low.map List.length).sum = 0)
  | low, d :: ds => .inl ⟨d, ds, low, by cases low <;> rfl, by simp only [List.length_cons]; omega, .inl (.head _)⟩
  | [], [] => .inr ⟨rfl, rfl⟩
  | t :: low, [] => by
    rcases getD_mu low t with ⟨d, t', l, q1, q2, q3⟩ | ⟨q1, q2⟩
    · refine .inl ⟨d, t', l, q1, by simp; omega, ?_⟩
      rcases q3 with q3 | ⟨u, hu, q3⟩
      · exact .inr ⟨t, .head _, q3⟩
      · exact .inr ⟨u, .tail _ hu, q3⟩
    · exact .inr ⟨q1, by simp at q2 ⊢; omega⟩
theorem ended_snoc (out : List Dat) (x : Str) (n : Nat) : ended (out ++ [endD x n]) = true := by simp [ended]
theorem rd_mu (x : Str) (n : Nat) (st : SD) (he : e = endD x n) : ended (rd e st).out = true ∨ mu (rd e st) + 1 = mu st := by
  rcases getD_mu (e := e) st.low st.top with ⟨d, t, l, q1, q2, -⟩ | ⟨q1, q2⟩
  · right; unfold rd mu; rw [q1]; exact q2
  · left; unfold rd; rw [q1, he]; exact ended_snoc _ _ _
/-- Naughts enough: the end is told. -/
theorem run0 (x : Str) (n : Nat) (he : e = endD x n) : ∀ (m k : Nat) (st : SD), mu st < m → ended (runD f e k (List.replicate m 0) st).out = true
  | 0, k, st, h => absurd h (Nat.not_lt_zero _)
  | m + 1, k, st, h => by
    show ended (runD f e (k + 1) (List.replicate m 0) (stepD f e k 0 st)).out = true
    cases q : ended st.out with
    | true =>
      have : stepD f e k 0 st = st := by unfold stepD; rw [if_pos q]
      rw [this, runD_end _ _ _ q]; exact q
    | false =>
      have : stepD f e k 0 st = rd e st := by unfold stepD; rw [if_neg (by rw [q]; decide), if_neg (by decide)]
      rw [this]
      rcases rd_mu x n st he with h' | h'
      · rw [runD_end _ _ _ h']; exact h'
      · exact run0 x n he m (k + 1) _ (by omega)
end
theorem rw'_len : ∀ (row cur : List Nat) (ln : Nat), (rw' cur row ln).length ≤ row.length + if cur = [] then 0 else 1
  | [], cur, ln => by unfold rw'; split <;> simp
  | c :: r, cur, ln => by
    have i1 := rw'_len r [] ln
    have i2 := rw'_len r (cur ++ [c]) ln
    simp only [if_true, Nat.add_zero] at i1
    rw [if_neg (by simp)] at i2
    unfold rw'
    by_cases h : cur = []
    · simp only [h, if_true, List.nil_append] at i2 ⊢
      split
      · simp
      · split
        · simp; omega
        · simp; exact i2
    · simp only [h, if_false] at i2 ⊢
      split
      · simp
      · split
        · simp; omega
        · simp; omega
theorem rw'_dotted (row : List Nat) (ln : Nat) : (rw' [] (dotted row) ln).length ≤ row.length := by
  unfold dotted
  split
  · rename_i h
    cases row with
    | nil => cases h
    | cons c r =>
      simp at h; subst h
      have e : rw' [] (46 :: 46 :: r) ln = rw' [46, 46] r ln := by simp [rw']
      rw [e]
      have := rw'_len r [46, 46] ln
      simpa using this
  · have := rw'_len row [] ln
    simpa using this
theorem words_len : ∀ (n acc : List Nat) (ln : Nat), (wordsR (rowsN acc n) ln).length + n.count 10 ≤ acc.length + n.length
  | [], acc, ln => by
    have := rw'_dotted acc ln
    simpa [rowsN, wordsR] using this
  | c :: n, acc, ln => by
    unfold rowsN
    by_cases h : c = 10
    · subst h
      have i := words_len n [] (ln + 1)
      have := rw'_dotted acc ln
      simp only [if_true, wordsR, List.length_append, List.count_cons_self, List.length_cons, List.length_nil] at i ⊢
      omega
    · have i := words_len n (acc ++ [c]) ln
      rw [if_neg h]
      simp only [List.length_append, List.length_cons, List.length_nil] at i ⊢
      rw [List.count_cons_of_ne h]
      omega
theorem wordsL_len {l : List Nat} (h : l.getLast? = some 10) (hl : l.length ≤ 9) : (wordsL l).length ≤ 8 := by
  have a := words_len (norm l) [] 1
  have b := norm_len l
  have c := norm_last l h
  have d : 1 ≤ (norm l).count 10 := by
    obtain ⟨q, e⟩ := List.getLast?_eq_some_iff.mp c
    rw [e]; simp
  unfold wordsL
  simp at a
  omega
theorem tellW_len (x : Str) (ws : List (List Nat × Nat)) : (tellW x ws).length = ws.length := by simp [tellW]
section
variable {f : Int → List Nat} {e : Dat}
theorem stepD_mu (x : Str) (n : Nat) (he : e = endD x n) (hf : ∀ i, (wordsL (f i)).length ≤ 8) (k : Nat) (y : Int) (st : SD) : ended (stepD f e k y st).out = true ∨ mu (stepD f e k y st) ≤ mu st + 8 := by
  unfold stepD
  cases q : ended st.out with
  | true => rw [if_pos rfl]; exact .inl q
  | false =>
    rw [if_neg (by decide)]
    split
    · right
      have := hf (y.fdiv 3)
      simp only [mu, tellW_len, List.map_cons, List.sum_cons]
      omega
    · rcases rd_mu x n st he with h | h
      · exact .inl h
      · right; omega
theorem runD_mu (x : Str) (n : Nat) (he : e = endD x n) (hf : ∀ i, (wordsL (f i)).length ≤ 8) : ∀ (ys : List Int) (k : Nat) (st : SD), ended (runD f e k ys st).out = true ∨ mu (runD f e k ys st) ≤ mu st + 8 * ys.length
  | [], k, st => .inr (Nat.le_refl _)
  | y :: ys, k, st => by
    show ended (runD f e (k + 1) ys (stepD f e k y st)).out = true ∨ mu (runD f e (k + 1) ys (stepD f e k y st)) ≤ _
    rcases stepD_mu x n he hf k y st with h | h
    · left; rw [runD_end _ _ _ h]; exact h
    · rcases runD_mu x n he hf ys (k + 1) (stepD f e k y st) with h' | h'
      · exact .inl h'
      · right; simp only [List.length_cons]; omega
/-- The whole: the end is told. -/
theorem run_ends (x : Str) (n : Nat) (he : e = endD x n) (hf : ∀ i, (wordsL (f i)).length ≤ 8) {ys : List Int} (hy : ys.length ≤ 10) (st : SD) (hs : mu st ≤ 8) (m : Nat) (hm : 89 ≤ m) : ended (runD f e 0 (ys ++ List.replicate m 0) st).out = true := by
  rw [runD_app]
  rcases runD_mu x n he hf ys 0 st with h | h
  · rw [runD_end _ _ _ h]; exact h
  · exact run0 x n he m _ _ (by omega)
/-- Two that have told the end told the same. -/
theorem run_same {ys : List Int} {st : SD} {i j : Nat} (hi : ended (runD f e 0 (ys ++ List.replicate i 0) st).out = true) (hj : ended (runD f e 0 (ys ++ List.replicate j 0) st).out = true) :
    runD f e 0 (ys ++ List.replicate i 0) st = runD f e 0 (ys ++ List.replicate j 0) st := by
  have key : ∀ i j, i ≤ j → ended (runD f e 0 (ys ++ List.replicate i 0) st).out = true → runD f e 0 (ys ++ List.replicate j 0) st = runD f e 0 (ys ++ List.replicate i 0) st := by
    intro i j hij h
    have : ys ++ List.replicate j 0 = (ys ++ List.replicate i 0) ++ List.replicate (j - i) (0 : Int) := by
      rw [List.append_assoc, List.replicate_append_replicate]
      congr 2; omega
    rw [this, runD_app, runD_end _ _ _ h]
  rcases Nat.le_total i j with h | h
  · exact (key i j h hi).symm
  · exact key j i h hj
end
end
section
open PySem PySem.W
theorem lexW_facts : ∀ (rest tok : List Nat) (ln : Nat) {r : Option (List Nat)} {l : Nat} {q : List Nat}, lexW rest tok ln = (r, l, q) → q <:+ rest ∧ l + q.length ≤ ln + rest.length
  | [], tok, ln, r, l, q, h => by
    unfold lexW at h; cases h; exact ⟨List.suffix_refl _, Nat.le_refl _⟩
  | c :: s, tok, ln, r, l, q, h => by
    unfold lexW at h
    have hs : s <:+ c :: s := List.suffix_cons c s
    have he := toEol_suffix s
    have hel := he.length_le
    split at h
    · cases h; exact ⟨he.trans hs, by simp only [List.length_cons]; omega⟩
    · split at h
      · cases h; exact ⟨hs, by simp only [List.length_cons]; omega⟩
      · split at h
        · cases h; exact ⟨hs, by simp only [List.length_cons]; omega⟩
        · obtain ⟨a, b⟩ := lexW_facts s _ ln h
          exact ⟨a.trans hs, by simp only [List.length_cons]; omega⟩
theorem lexS_facts : ∀ (rest : List Nat) (com : Bool) (ln : Nat) {r : Option (List Nat)} {l : Nat} {q : List Nat}, lexS com rest ln = (r, l, q) → q <:+ rest ∧ l + q.length ≤ ln + rest.length
  | [], com, ln, r, l, q, h => by
    have : lexS com [] ln = (none, ln, []) := by cases com <;> simp [lexS]
    rw [this] at h; cases h; exact ⟨List.suffix_refl _, Nat.le_refl _⟩
  | c :: s, true, ln, r, l, q, h => by
    have hs : s <:+ c :: s := List.suffix_cons c s
    rw [lexS] at h
    split at h
    · obtain ⟨a, b⟩ := lexS_facts s false ln h
      exact ⟨a.trans hs, by simp only [List.length_cons]; omega⟩
    · obtain ⟨a, b⟩ := lexS_facts s true ln h
      exact ⟨a.trans hs, by simp only [List.length_cons]; omega⟩
  | c :: s, false, ln, r, l, q, h => by
    have hs : s <:+ c :: s := List.suffix_cons c s
    rw [lexS] at h
    split at h
    · obtain ⟨a, b⟩ := lexS_facts s true (ln + 1) h
      exact ⟨a.trans hs, by simp only [List.length_cons]; omega⟩
    · split at h
      · obtain ⟨a, b⟩ := lexS_facts s false (ln + 1) h
        exact ⟨a.trans hs, by simp only [List.length_cons]; omega⟩
      · split at h
        · obtain ⟨a, b⟩ := lexS_facts s false ln h
          exact ⟨a.trans hs, by simp only [List.length_cons]; omega⟩
        · obtain ⟨a, b⟩ := lexW_facts s _ ln h
          exact ⟨a.trans hs, by simp only [List.length_cons]; omega⟩
theorem expand_len : ∀ l : List Nat, (expand l).length ≤ 2 * l.length
  | [] => Nat.le_refl _
  | c :: r => by have := expand_len r; unfold expand; split <;> simp only [List.length_cons] <;> omega
theorem expand_mem : ∀ (l : List Nat) (c : Nat), c ∈ expand l → c ∈ l ∨ c = 13
  | [], c, h => by cases h
  | d :: r, c, h => by
    unfold expand at h
    split at h
    · rename_i e
      rcases List.mem_cons.mp h with h | h
      · exact .inr h
      · rcases List.mem_cons.mp h with h | h
        · exact .inl (by rw [h, e]; exact .head _)
        · exact (expand_mem r c h).imp (.tail _) id
    · rcases List.mem_cons.mp h with h | h
      · exact .inl (by rw [h]; exact .head _)
      · exact (expand_mem r c h).imp (.tail _) id
theorem expand_last : ∀ l : List Nat, l.getLast? = some 10 → (expand l).getLast? = some 10
  | [], h => by cases h
  | [d], h => by simp at h; subst h; simp [expand]
  | d :: e :: r, h => by
    have i := expand_last (e :: r) (by simpa using h)
    have ne : expand (e :: r) ≠ [] := by intro q; rw [q] at i; cases i
    rw [expand]
    split
    · rw [List.getLast?_cons_of_ne_nil (by simp), List.getLast?_cons_of_ne_nil ne]; exact i
    · rw [List.getLast?_cons_of_ne_nil ne]; exact i
theorem dots_ln : ∀ (l : List Nat) (b : Bool), (dots b l).length ≤ 2 * l.length
  | [], b => by cases b <;> simp [dots]
  | c :: r, b => by
    have i1 := dots_ln r false
    have i2 := dots_ln r (c == 10)
    unfold dots; split <;> simp only [List.length_cons] <;> omega
theorem dots_mem : ∀ (l : List Nat) (b : Bool) (c : Nat), c ∈ dots b l → c ∈ l
  | [], b, c, h => by cases b <;> simp [dots] at h
  | d :: r, b, c, h => by
    unfold dots at h
    split at h
    · rename_i e
      rcases List.mem_cons.mp h with h | h
      · rw [h, e.2]; exact .head _
      · rcases List.mem_cons.mp h with h | h
        · rw [h, e.2]; exact .head _
        · exact .tail _ (dots_mem r _ c h)
    · rcases List.mem_cons.mp h with h | h
      · rw [h]; exact .head _
      · exact .tail _ (dots_mem r _ c h)
theorem dots_last : ∀ (l : List Nat) (b : Bool), l.getLast? = some 10 → (dots b l).getLast? = some 10
  | [], b, h => by cases h
  | [d], b, h => by simp at h; subst h; simp [dots]
  | d :: e :: r, b, h => by
    have i1 := dots_last (e :: r) false (by simpa using h)
    have i2 := dots_last (e :: r) (d == 10) (by simpa using h)
    have ne1 : dots false (e :: r) ≠ [] := by intro q; rw [q] at i1; cases i1
    have ne2 : dots (d == 10) (e :: r) ≠ [] := by intro q; rw [q] at i2; cases i2
    rw [dots]
    split
    · rw [List.getLast?_cons_of_ne_nil (by simp), List.getLast?_cons_of_ne_nil ne1]; exact i1
    · rw [List.getLast?_cons_of_ne_nil ne2]; exact i2
/-- A letter sent. -/
noncomputable def sent (l : List Nat) : List Nat := dots true (crlf l)
theorem sent_good {l : List Nat} (hm : ∀ c ∈ l, c = 13 ∨ c = 10 ∨ c = 46 ∨ c = 35 ∨ c = 97 ∨ c = 32) (hl : l.getLast? = some 10) : Good (sent l) := by
  unfold sent
  refine ⟨fun c hc => ?_, fun _ => ?_⟩
  · have h1 := dots_mem _ _ c hc
    rw [crlf_norm] at h1
    rcases expand_mem _ c h1 with h2 | h2
    · rcases (norm_mem l c h2).2 with h3 | h3
      · exact hm c h3
      · exact .inr (.inl h3)
    · exact .inl h2
  · rw [crlf_norm]
    exact dots_last _ _ (expand_last _ (norm_last l hl))
theorem sent_len {l : List Nat} (h : l.length ≤ 9) : (sent l).length ≤ 36 := by
  unfold sent
  rw [crlf_norm]
  have a := dots_ln (expand (norm l)) true
  have b := expand_len (norm l)
  have c := norm_len l
  omega
theorem sent_rem {l : List Nat} (hl : l.getLast? = some 10) : Rem (sent l) 1 (wordsL l) (rowsL l) := letter_rem l hl
end
section
open PySem PySem.W PySem.Calls PyProof.Rows
open PySem.Builtin PySem.Builtin.Str
/-- The walk halts here. -/
structure Stop (P : Prop) : Prop where
  out : P
section
variable {prog : Program} {w : World} {A : Around} {E : Value → Shared → Prop} {s : Shared} {h₀ : Heap} {L : Addr} {m : Str → Option Value} {env : Env}
/-- A comprehension with a test, by what holds of it. -/
theorem compT_ind {ct elt : Expr} {x : Str} {scope : Scope} {cl : List (Str × Addr)} {S : List (Addr × Obj) → Prop} {P : Nat → Value → Prop} {Fin : List Value → List (Addr × Obj) → Prop} {n : Nat} (Inv : Nat → List Value → List (Addr × Obj) → Prop)
    (step : ∀ i ys nw v I oI C oC D m₂ h tk (E' : Value → Shared → Prop), i < n → Inv i ys nw → P i v → LCg.NsObj oC m₂ → m₂ x = some v → Fr h₀ L h m → News h₀ L h ((I, oI) :: (C, oC) :: (D, LCg.lst ys) :: nw) → LCg.Off3 I C D nw → ((@Ne Nat I C) ∧ (@Ne Nat I D) ∧ (@Ne Nat C D)) →
      wpAny (model prog w) A (isTrue ct (compEnvC scope cl C env) (eval ct (compEnvC scope cl C env))) (fun ok s' => if ok = true then
        wpAny (model prog w) A (eval elt (compEnvC scope cl C env)) (LCg.CompEnd h₀ L m { s with heap := h, toks := tk } I oI C oC D (LCg.lst ys) S (fun y news' => Inv (i + 1) (ys ++ [y]) news')) E' s'
        else LCg.CompEnd h₀ L m { s with heap := h, toks := tk } I oI C oC D (LCg.lst ys) S (fun _ news' => Inv (i + 1) ys news') Value.none s') E' { s with heap := h, toks := tk })
    (fin : ∀ ys nw, Inv n ys nw → Fin ys nw) :
    ∀ (k i : Nat) (ys : List Value) (nw : List (Addr × Obj)), i + k = n → Inv i ys nw → LCt.CompRestT prog w A h₀ L m env ct elt x scope cl s S P Fin k i ys nw
  | 0, i, ys, nw, e, hi => by
    have : i = n := by omega
    subst this
    exact LCt.CompRestT.zero (fin ys nw hi)
  | k + 1, i, ys, nw, e, hi => by
    refine LCt.CompRestT.succ fun v I oI C oC D m₂ h tk E' hv hC hx F N off ne => ?_
    refine wpAny_mono (step i ys nw v I oI C oC D m₂ h tk E' (by omega) hi hv hC hx F N off ne) (fun ok s' p => ?_) fun _ _ e => e
    cases ok with
    | true =>
      simp only [if_true] at p ⊢
      refine wpAny_mono p (fun y s₂ q => ?_) fun _ _ e => e
      obtain ⟨h', tk', nw', e', F', N', off', hS, r⟩ := q
      exact ⟨h', tk', nw', e', F', N', off', hS, compT_ind Inv step fin k (i + 1) _ nw' (by omega) r⟩
    | false =>
      simp only [Bool.false_eq_true, if_false] at p ⊢
      obtain ⟨h', tk', nw', e', F', N', off', hS, r⟩ := p
      exact ⟨h', tk', nw', e', F', N', off', hS, compT_ind Inv step fin k (i + 1) _ nw' (by omega) r⟩
variable {news : List (Addr × Obj)} {Q : Value → Shared → Prop} {D : Addr} {ps : List (Str × Tok)} {rs : List (List Nat)} {r : List Nat} {k : Int} {u : Tok} {n : Nat}
theorem strValues_len (ps : List (Str × Tok)) : (strValues ps).length = ps.length := by simp [strValues]
theorem len_lst (N : News h₀ L s.heap news) (hm : (D, listOf (strValues ps).toArray n) ∈ news) (hz : ps.length ≤ 1000) (h : Q (.int (ps.length : Int) (s.toks + 1)) { s with toks := s.toks + 1 + 1 }) :
    wpAny (model prog w) A (call (.builtin "len") [.ref D]) Q E s := by
  refine len_list (News.isList N hm) ?_ ?_
  · simp only [List.size_toArray, strValues_len]; omega
  · simp only [List.size_toArray, strValues_len]; exact h
theorem item_lst {value slice : Expr} (N : News h₀ L s.heap news) (hm : (D, listOf (strValues ps).toArray n) ∈ news) (hp : ps.map (·.1) = rs.map toS) (h0 : 0 ≤ k) (hz : k < 1000) (hr : rs[k.toNat]? = some r) (h : ∀ t, Q (.str (toS r) t) s)
    (hs : subscripted slice false (.ref D) (.int k u) = operate [.ref D, .int k u] (getItem (.ref D) (.int k u)) := by with_unfolding_all rfl) (hg : ∀ r, letTemporaryGo value (.ref D) r = pure () := by intro _; with_unfolding_all rfl) :
    wpAny (model prog w) A (subscriptTail value slice (.ref D) (.int k u)) Q E s := by
  have e : (ps.map (·.1))[k.toNat]? = some (toS r) := by rw [hp, List.getElem?_map, hr]; rfl
  rw [List.getElem?_map] at e
  cases q : ps[k.toNat]? with
  | none => rw [q] at e; cases e
  | some p =>
    obtain ⟨y, t⟩ := p
    rw [q] at e
    have e' : y = toS r := by simpa using e
    subst e'
    refine item_list (News.isList N hm) h0 (by omega) ?_ (h t) hs hg
    simp [strValues, q]
end
theorem slice_first (r : List Nat) : Txt.slice (toS r) none (some 1) = toS (r.take 1) := by
  unfold Txt.slice
  have e : (toS r).length = r.length := by simp [Str.length]
  rw [e]
  unfold strSliceIndices sliceRange
  cases r with
  | nil => rfl
  | cons a b =>
    have e1 : (if (1 : Int) < 0 then (1 : Int) + ((a :: b).length : Nat) else 1) = 1 := if_neg (by decide)
    simp only [e1, show (1 : Int) > 0 by decide, if_true]
    have e2 : max (0 : Int) (min 1 (((a :: b).length : Nat) : Int)) = 1 := by simp; omega
    rw [e2]
    simp only [show (0 : Int) < 1 by decide, if_true]
    split
    · rename_i c
      simp at c
      simp [c]
    · simp
theorem slice_last (r : List Nat) : Txt.slice (toS r) (some (-1)) none = toS (r.drop (r.length - 1)) := by
  unfold Txt.slice
  have e : (toS r).length = r.length := by simp [Str.length]
  rw [e]
  unfold strSliceIndices sliceRange
  cases r with
  | nil => rfl
  | cons a b =>
    have e1 : (if (-1 : Int) < 0 then (-1 : Int) + ((a :: b).length : Nat) else -1) = ((b.length : Nat) : Int) := by
      rw [if_pos (by decide)]; simp; omega
    simp only [e1, show (1 : Int) > 0 by decide, if_true]
    have e2 : max (0 : Int) (min ((b.length : Nat) : Int) (((a :: b).length : Nat) : Int)) = ((b.length : Nat) : Int) := by simp; omega
    rw [e2]
    have e3 : ((b.length : Nat) : Int) < (((a :: b).length : Nat) : Int) := by simp; omega
    simp only [e3, if_true]
    have e4 : ((((a :: b).length : Nat) : Int) - ((b.length : Nat) : Int) + 1 - 1) / 1 = 1 := by
      rw [Int.ediv_one]; simp; omega
    rw [e4]
    split
    · rename_i c
      have : b = [] := by
        simp at c
        exact c
      subst this
      rfl
    · have q := pick_range (a :: b) b.length 1 (by simp)
      have e5 : (List.range (Int.toNat 1)).map (fun k : Nat => (((b.length : Nat) : Int) + 1 * (k : Int)).toNat) = (List.range 1).map (b.length + ·) := by
        simp
      rw [e5, q]
      congr 1
      have : (List.drop b.length (a :: b)).length = 1 := by simp
      simp [List.take_of_length_le]
theorem first_dot (r : List Nat) : (toS (r.take 1) == Str.ofString ".") = decide (r.head? = some 46) := by
  have e : Str.ofString "." = toS [46] := by decide +kernel
  rw [e]
  cases r with
  | nil => decide +kernel
  | cons a b =>
    by_cases h : a = 46
    · subst h; simp
    · have : toS ((a :: b).take 1) ≠ toS [46] := by
        intro q
        apply h
        simpa [toS] using q
      simp [h]
theorem last_blank (r : List Nat) : (toS (r.drop (r.length - 1)) == Str.ofString " ") = decide (r.getLast? = some 32) := by
  have e : Str.ofString " " = toS [32] := by decide +kernel
  rw [e]
  cases hl : r.getLast? with
  | none =>
    have : r = [] := by simpa using hl
    subst this
    decide +kernel
  | some a =>
    obtain ⟨q, rfl⟩ : ∃ q, r = q ++ [a] := by
      obtain ⟨q, e⟩ := List.getLast?_eq_some_iff.mp hl
      exact ⟨q, e⟩
    have e2 : (q ++ [a]).drop ((q ++ [a]).length - 1) = [a] := by simp
    rw [e2]
    by_cases h : a = 32
    · subst h; simp
    · simp [h]
theorem dot_app (r : List Nat) : Str.ofString "." ++ toS r = toS (46 :: r) := by
  have e : Str.ofString "." = toS [46] := by decide +kernel
  rw [e]
  show Str.append _ _ = _
  simp [Str.append]
end
section
open PySem PySem.W PySem.Calls PyProof.Rows
section
variable {prog : Program} {w : World} {A : Around} {E : Value → Shared → Prop} {s : Shared} {h₀ : Heap} {L : Addr} {m : Str → Option Value} {news : List (Addr × Obj)} {Q : Value → Shared → Prop} {e : Sem Value} {t u : Tok} {r : List Nat}
/-- One value out of several ways. -/
theorem cut_V (V : Value → Prop) (F : Fr h₀ L s.heap m) (N : News h₀ L s.heap news) (h1 : wpAny (model prog w) A e (fun v s' => Stop (∃ h' tk, V v ∧ s' = { s with heap := h', toks := tk } ∧ Fr h₀ L h' m ∧ News h₀ L h' news)) E s)
    (h2 : ∀ v h' tk, V v → Fr h₀ L h' m → News h₀ L h' news → Q v { s with heap := h', toks := tk }) : wpAny (model prog w) A e Q E s :=
  wpAny_mono h1 (fun v s' hp => by obtain ⟨h', tk, hv, rfl, F', N'⟩ := hp.out; exact h2 v h' tk hv F' N') fun _ _ e => e
theorem dot_K (hr : r.length ≤ 100) (h : ∀ t' k, Q (.str (toS (46 :: r)) t') { s with toks := k }) : wpAny (model prog w) A (binaryOp .Add (.str (Str.ofString ".") t) (.str (toS r) u)) Q E s := by
  refine PyProof.Rows.add_str (fun t' k => ?_) ?_
  · rw [dot_app]; exact h t' k
  · have : (Str.ofString ".").length = 1 := by decide +kernel
    rw [this, sizeLine_eq]; simp [Str.length]; omega
theorem eqS_K {x y : Str} (b : Bool) (e : (x == y) = b) (h : Q (.bool b) s) : wpAny (model prog w) A (compareOp .Eq (.str x t) (.str y u)) Q E s := PyProof.Rows.eq_str (by rw [e]; exact h)
theorem neS_K {x y : Str} (b : Bool) (e : (x == y) = b) (h : Q (.bool (!b)) s) : wpAny (model prog w) A (compareOp .NotEq (.str x t) (.str y u)) Q E s := PyProof.Rows.ne_str (by show Q (.bool (!(x == y))) s; rw [e]; exact h)
theorem news_pick {a b c : Addr × Obj} {h : Heap} (N : News h₀ L h [a, b, c]) : News h₀ L h [c, b] := fun p hp => by
  rcases List.mem_cons.mp hp with rfl | hp
  · exact N _ (.tail _ (.tail _ (.head _)))
  · rcases List.mem_cons.mp hp with rfl | hp
    · exact N _ (.tail _ (.head _))
    · cases hp
end
end
section
open PySem PySem.W PySem.Calls PyProof.Rows
theorem word_ex {ps : List (Str × Tok)} {rs : List (List Nat)} {i : Nat} {v : Value} (hp : ps.map (·.1) = rs.map toS) (h : (strValues ps).toArray[i]? = some v) : ∃ r t, rs[i]? = some r ∧ v = .str (toS r) t := by
  have h' : (strValues ps)[i]? = some v := by simpa using h
  unfold strValues at h'
  rw [List.getElem?_map] at h'
  cases q : ps[i]? with
  | none => rw [q] at h'; cases h'
  | some p =>
    rw [q] at h'
    have e : (ps.map (·.1))[i]? = some p.1 := by rw [List.getElem?_map, q]; rfl
    rw [hp, List.getElem?_map] at e
    cases q2 : rs[i]? with
    | none => rw [q2] at e; cases e
    | some r =>
      rw [q2] at e
      have e1 : toS r = p.1 := by simpa using e
      have e2 : (Value.str p.1 p.2) = v := by simpa using h'
      exact ⟨r, p.2, rfl, by rw [← e2, e1]⟩
theorem empty_eq (r : List Nat) : (toS r == Str.ofString "") = !(ne0 r) := by
  have e : Str.ofString "" = toS [] := by decide +kernel
  rw [e]
  cases r with
  | nil => rfl
  | cons a b => simp [ne0]
/-- What holds within the comprehension. -/
noncomputable def CInv (nw0 : List (Addr × Obj)) (rs : List (List Nat)) (i : Nat) (ys : List Value) (nw : List (Addr × Obj)) : Prop :=
  nw = nw0 ∧ ∃ fs : List (Str × Tok), ys = strValues fs ∧ fs.map (·.1) = ((rs.take i).filter ne0).map toS
theorem cinv_0 {nw0 : List (Addr × Obj)} {rs : List (List Nat)} : CInv nw0 rs 0 [] nw0 := ⟨rfl, [], rfl, by simp⟩
theorem cinv_yes {nw0 : List (Addr × Obj)} {rs : List (List Nat)} {i : Nat} {r : List Nat} {t : Tok} {fs : List (Str × Tok)} (hr : rs[i]? = some r) (hn : ne0 r = true) (h : fs.map (·.1) = ((rs.take i).filter ne0).map toS) : CInv nw0 rs (i + 1) (strValues fs ++ [.str (toS r) t]) nw0 := by
  refine ⟨rfl, fs ++ [(toS r, t)], by simp [strValues], ?_⟩
  rw [List.take_add_one, hr]
  simp [h, hn]
theorem cinv_no {nw0 : List (Addr × Obj)} {rs : List (List Nat)} {i : Nat} {r : List Nat} {fs : List (Str × Tok)} (hr : rs[i]? = some r) (hn : ne0 r = false) (h : fs.map (·.1) = ((rs.take i).filter ne0).map toS) : CInv nw0 rs (i + 1) (strValues fs) nw0 := by
  refine ⟨rfl, fs, rfl, ?_⟩
  rw [List.take_add_one, hr]
  simp [h, hn]
theorem cinv_end {nw0 nw : List (Addr × Obj)} {rs : List (List Nat)} {n : Nat} {ys : List Value} (hn : n = rs.length) (h : CInv nw0 rs n ys nw) : nw = nw0 ∧ ∃ fs : List (Str × Tok), ys = strValues fs ∧ fs.map (·.1) = (rs.filter ne0).map toS := by
  subst hn
  obtain ⟨a, fs, b, c⟩ := h
  rw [List.take_length] at c
  exact ⟨a, fs, b, c⟩
theorem sz_of {ps : List (Str × Tok)} {rs : List (List Nat)} (hp : ps.map (·.1) = rs.map toS) (h : rs.length ≤ 1000) : (strValues ps).toArray.size = rs.length ∧ (strValues ps).toArray.size ≤ sizeLine ∧ ps.length ≤ 1000 ∧ ps.length = rs.length := by
  have e := congrArg List.length hp
  simp only [List.length_map] at e
  have e2 : (strValues ps).toArray.size = ps.length := by simp [strValues]
  rw [e2, sizeLine_eq]
  exact ⟨e, by omega, by omega, e⟩
end
section
open PySem PySem.W PySem.Calls PyProof.Rows
section
variable {prog : Program} {w : World} {A : Around} {E : Value → Shared → Prop} {s : Shared} {h₀ : Heap} {L D : Addr} {m : Str → Option Value} {news : List (Addr × Obj)} {gl : Obj → List (Addr × Obj)} {Q : Value → Shared → Prop} {vals : List Value} {n : Nat} {x : Value}
theorem updF_upd' {d : Addr} {o : Obj} {l : List (Addr × Obj)} {g : Obj → List (Addr × Obj)} (u : UpdF d o l g) (o' : Obj) : Upd d o o' l (g o') := by
  induction u with
  | head h => exact .head h
  | tail h _ ih => exact .tail h ih
theorem app_K (F : Fr h₀ L s.heap m) (N : News h₀ L s.heap news) (U : UpdF D (listOf vals.toArray n) news gl) (hz : vals.length ≤ 100000)
    (h : ∀ h', Fr h₀ L h' m → News h₀ L h' (gl (listOf (vals ++ [x]).toArray (n + 1))) → Q .none { s with heap := h' }) : wpAny (model prog w) A (call (.builtin "list.append") [.ref D, x]) Q E s := by
  have e : vals.toArray.push x = (vals ++ [x]).toArray := by simp
  refine append_K F N (updF_upd' U (listOf (vals.toArray.push x) (n + 1))) (fun h' F' N' => ?_) ?_
  · rw [e] at N'; exact h h' F' N'
  · rw [sizeLine_eq]; simp; omega
end
end
section
open PySem PySem.W PySem.Calls PyProof.Rows
theorem rw'_mem : ∀ (row cur : List Nat) (ln : Nat), ∀ e ∈ rw' cur row ln, ∀ c ∈ e.1, c ∈ cur ∨ c ∈ row
  | [], cur, ln, e, he, c, hc => by
    unfold rw' at he
    split at he
    · cases he
    · rw [List.mem_singleton.mp he] at hc; exact .inl hc
  | d :: r, cur, ln, e, he, c, hc => by
    unfold rw' at he
    split at he
    · split at he
      · cases he
      · rw [List.mem_singleton.mp he] at hc; exact .inl hc
    · split at he
      · rcases List.mem_append.mp he with he | he
        · split at he
          · cases he
          · rw [List.mem_singleton.mp he] at hc; exact .inl hc
        · rcases rw'_mem r [] ln e he c hc with h | h
          · cases h
          · exact .inr (.tail _ h)
      · rcases rw'_mem r (cur ++ [d]) ln e he c hc with h | h
        · rcases List.mem_append.mp h with h | h
          · exact .inl h
          · rw [List.mem_singleton.mp h]; exact .inr (.head _)
        · exact .inr (.tail _ h)
theorem wordsR_mem : ∀ (rs : List (List Nat)) (ln : Nat), ∀ e ∈ wordsR rs ln, ∀ c ∈ e.1, ∃ r ∈ rs, c = 46 ∨ c ∈ r
  | [], ln, e, he, c, hc => by cases he
  | r :: rs, ln, e, he, c, hc => by
    unfold wordsR at he
    rcases List.mem_append.mp he with he | he
    · rcases rw'_mem _ _ _ e he c hc with h | h
      · cases h
      · refine ⟨r, .head _, ?_⟩
        unfold dotted at h
        split at h
        · rcases List.mem_cons.mp h with h | h
          · exact .inl h
          · exact .inr h
        · exact .inr h
    · obtain ⟨q, hq, h⟩ := wordsR_mem rs (ln + 1) e he c hc
      exact ⟨q, .tail _ hq, h⟩
theorem rowsN_mem : ∀ (n acc : List Nat), ∀ r ∈ rowsN acc n, ∀ c ∈ r, c ∈ acc ∨ c ∈ n
  | [], acc, r, hr, c, hc => by
    unfold rowsN at hr
    rw [List.mem_singleton.mp hr] at hc; exact .inl hc
  | d :: n, acc, r, hr, c, hc => by
    unfold rowsN at hr
    split at hr
    · rcases List.mem_cons.mp hr with rfl | hr
      · exact .inl hc
      · rcases rowsN_mem n [] r hr c hc with h | h
        · cases h
        · exact .inr (.tail _ h)
    · rcases rowsN_mem n (acc ++ [d]) r hr c hc with h | h
      · rcases List.mem_append.mp h with h | h
        · exact .inl h
        · rw [List.mem_singleton.mp h]; exact .inr (.head _)
      · exact .inr (.tail _ h)
noncomputable def WOk (ws : List (List Nat × Nat)) : Prop := ∀ e ∈ ws, PyData.strOk (toS e.1) = true
theorem wordsL_ok {l : List Nat} (hm : ∀ c ∈ l, c < 1000) : WOk (wordsL l) := by
  intro e he
  have : ∀ c ∈ e.1, c < 0x110000 := by
    intro c hc
    obtain ⟨r, hr, h⟩ := wordsR_mem _ _ e he c hc
    rcases h with rfl | h
    · decide
    · rcases rowsN_mem _ _ r hr c h with h | h
      · cases h
      · rcases (norm_mem l c h).2 with h | rfl
        · exact Nat.lt_trans (hm c h) (by decide)
        · decide
  simp only [PyData.strOk, toS, Array.all_eq_true_iff_forall_mem, List.mem_toArray, decide_eq_true_eq]
  exact this
theorem ok_of (x : String) : PyData.strOk (Str.ofString x) = true := by
  have e : Str.ofString x = toS (x.toList.map Char.toNat) := congrArg (fun l : List Nat => (⟨l.toArray⟩ : Str)) (cpsOfBytes_string x)
  rw [e]
  simp only [PyData.strOk, toS, Array.all_eq_true_iff_forall_mem, List.mem_toArray, decide_eq_true_eq]
  intro c hc
  obtain ⟨d, -, rfl⟩ := List.mem_map.mp hc
  have := d.valid
  rcases this with h | h
  · exact Nat.lt_trans h (by decide)
  · exact h.2
theorem ok_app {x y : Str} (hx : PyData.strOk x = true) (hy : PyData.strOk y = true) : PyData.strOk (x ++ y) = true := by
  show PyData.strOk (Str.append x y) = true
  simp only [PyData.strOk, Str.append, Array.all_eq_true_iff_forall_mem, decide_eq_true_eq] at *
  intro c hc
  rcases Array.mem_append.mp hc with h | h
  · exact hx c h
  · exact hy c h
theorem ok_lead {x : Str} (h : PyData.strOk x = true) (n : Nat) : PyData.strOk (lead x n) = true :=
  ok_app (ok_app (ok_app (ok_app (ok_of _) h) (ok_of _)) (ok_of _)) (ok_of _)
/-- What may be told. -/
noncomputable def Told (d : Dat) : Prop := ∃ x y, d = .list [x, .str y] ∧ (x = .none ∨ ∃ z, x = .str z ∧ PyData.strOk z = true) ∧ PyData.strOk y = true
theorem told_ok {d : Dat} (h : Told d) : kqdOk 8 d = true := by
  obtain ⟨x, y, rfl, rfl | ⟨z, rfl, h1⟩, h2⟩ := h
  · simp [kqdOk, h2]
  · simp [kqdOk, h1, h2]
theorem told_end {x : Str} (h : PyData.strOk x = true) (n : Nat) : Told (endD x n) := ⟨_, _, rfl, .inl rfl, ok_lead h n⟩
theorem tellW_told {x : Str} (h : PyData.strOk x = true) {ws : List (List Nat × Nat)} (hw : WOk ws) : ∀ d ∈ tellW x ws, Told d := by
  intro d hd
  obtain ⟨e, he, rfl⟩ := List.mem_map.mp hd
  exact ⟨_, _, rfl, .inr ⟨_, rfl, hw e he⟩, ok_lead h _⟩
/-- All that waits, and all that is told, may be told. -/
structure AllTold (st : SD) : Prop where
  top : ∀ d ∈ st.top, Told d
  low : ∀ u ∈ st.low, ∀ d ∈ u, Told d
  out : ∀ d ∈ st.out, Told d
theorem getD_told {e : Dat} (he : Told e) : ∀ (low : List (List Dat)) (top : List Dat), (∀ d ∈ top, Told d) → (∀ u ∈ low, ∀ d ∈ u, Told d) → Told (getD e top low).1 ∧ (∀ d ∈ (getD e top low).2.1, Told d) ∧ ∀ u ∈ (getD e top low).2.2, ∀ d ∈ u, Told d
  | low, d :: ds, h1, h2 => by
    have e1 : getD e (d :: ds) low = (d, ds, low) := by cases low <;> rfl
    rw [e1]
    exact ⟨h1 d (.head _), fun x hx => h1 x (.tail _ hx), h2⟩
  | [], [], h1, h2 => ⟨he, h1, h2⟩
  | t :: low, [], h1, h2 => getD_told he low t (h2 t (.head _)) fun u hu => h2 u (.tail _ hu)
theorem rd_told {e : Dat} (he : Told e) {st : SD} (h : AllTold st) : AllTold (rd e st) := by
  obtain ⟨a, b, c⟩ := getD_told he st.low st.top h.top h.low
  refine ⟨b, c, fun d hd => ?_⟩
  rcases List.mem_append.mp hd with hd | hd
  · exact h.out d hd
  · rw [List.mem_singleton.mp hd]; exact a
theorem stepD_told {f : Int → List Nat} {e : Dat} (hf : ∀ i, WOk (wordsL (f i))) (he : Told e) (k : Nat) (x : Int) {st : SD} (h : AllTold st) : AllTold (stepD f e k x st) := by
  unfold stepD
  split
  · exact h
  · split
    · exact ⟨tellW_told (ok_of _) (hf _), fun u hu => by
        rcases List.mem_cons.mp hu with rfl | hu
        · exact h.top
        · exact h.low u hu, h.out⟩
    · exact rd_told he h
theorem runD_told {f : Int → List Nat} {e : Dat} (hf : ∀ i, WOk (wordsL (f i))) (he : Told e) : ∀ (xs : List Int) (k : Nat) {st : SD}, AllTold st → AllTold (runD f e k xs st)
  | [], k, st, h => h
  | x :: xs, k, st, h => runD_told hf he xs (k + 1) (stepD_told hf he k x h)
section
variable {prog : Program} {w : World} {A : Around} {E : Value → Shared → Prop} {s : Shared} {h₀ : Heap} {L tl z : Addr} {m : Str → Option Value} {news TO : List (Addr × Obj)} {Q : Value → Shared → Prop} {vals : List Value} {out : List Dat} {c c0 : Nat}
theorem last_cases (D : DatAll TO vals out) (ok : ∀ d ∈ out, Told d) : (out = [] ∧ vals = [] ∧ ended out = false) ∨
    ∃ vi e x y ty n, vals = vi ++ [.ref e] ∧ (e, listOf #[x, .str y ty] n) ∈ TO ∧ ((x = .none ∧ ended out = true) ∨ ((∃ q tq, x = .str q tq) ∧ ended out = false)) ∧ out ≠ [] := by
  rcases List.eq_nil_or_concat vals with rfl | ⟨vi, v, rfl⟩
  · cases D; exact .inl ⟨rfl, rfl, rfl⟩
  · right
    rw [List.concat_eq_append] at D ⊢
    obtain ⟨es, d, rfl, D1, D2⟩ := D.snoc
    obtain ⟨x, y, rfl, hx, -⟩ := ok d (List.mem_append_right _ (.head _))
    cases D2 with
    | list hm hd =>
      cases hd with
      | cons h1 h2 =>
        cases h2 with
        | cons h2 h3 =>
          cases h2 with
          | str _ ty =>
            cases h3
            rcases hx with rfl | ⟨q, rfl, -⟩
            · cases h1
              exact ⟨vi, _, _, _, _, _, rfl, hm, .inl ⟨rfl, by simp [ended]⟩, by simp⟩
            · cases h1 with
              | str _ tq => exact ⟨vi, _, _, _, _, _, rfl, hm, .inr ⟨⟨_, _, rfl⟩, by simp [ended]⟩, by simp⟩
theorem told_ne (N : News h₀ L s.heap ((z, listOf #[] c0) :: news)) (hm : (tl, listOf vals.toArray c) ∈ news) (D : DatAll TO vals out) (sub : ∀ p ∈ TO, p ∈ news) (ok : ∀ d ∈ out, Told d) (b : Bool) (hb : (!decide (out = [])) = b) (hu : A.units + 64 < cLine)
    (h : Q (.bool b) s) : wpAny (model prog w) A (compareOp .NotEq (.ref tl) (.ref z)) Q E s :=
  kqd_ne N (.tail _ hm) rfl rfl D (fun p hp => .tail _ (sub p hp)) (.head _) rfl rfl (ys := []) (n₂ := []) .nil (fun _ hp => nomatch hp) (fun d hd => told_ok (ok d hd)) (fun _ hp => nomatch hp) hu (by rw [hb]; exact h)
theorem told_eq (N : News h₀ L s.heap ((z, listOf #[] c0) :: news)) (hm : (tl, listOf vals.toArray c) ∈ news) (D : DatAll TO vals out) (sub : ∀ p ∈ TO, p ∈ news) (ok : ∀ d ∈ out, Told d) (b : Bool) (hb : decide (out = []) = b) (hu : A.units + 64 < cLine)
    (h : Q (.bool b) s) : wpAny (model prog w) A (compareOp .Eq (.ref tl) (.ref z)) Q E s :=
  kqd_eq N (.tail _ hm) rfl rfl D (fun p hp => .tail _ (sub p hp)) (.head _) rfl rfl (ys := []) (n₂ := []) .nil (fun _ hp => nomatch hp) (fun d hd => told_ok (ok d hd)) (fun _ hp => nomatch hp) hu (by rw [hb]; exact h)
theorem told_last {value slice : Expr} {vi : List Value} {v : Value} {u : Tok} (N : News h₀ L s.heap news) (hm : (tl, listOf vals.toArray c) ∈ news) (hv : vals = vi ++ [v]) (h : Q v s)
    (hs : subscripted slice false (.ref tl) (.int (-1) u) = operate [.ref tl, .int (-1) u] (getItem (.ref tl) (.int (-1) u)) := by with_unfolding_all rfl) (hg : ∀ r, letTemporaryGo value (.ref tl) r = pure () := by intro _; with_unfolding_all rfl) :
    wpAny (model prog w) A (subscriptTail value slice (.ref tl) (.int (-1) u)) Q E s := by
  subst hv
  exact item_last (News.isList N hm) h hs hg
theorem told_first {value slice : Expr} {x y : Value} {u : Tok} (N : News h₀ L s.heap news) (hm : (z, listOf #[x, y] c) ∈ news) (h : Q x s)
    (hs : subscripted slice false (.ref z) (.int 0 u) = operate [.ref z, .int 0 u] (getItem (.ref z) (.int 0 u)) := by with_unfolding_all rfl) :
    wpAny (model prog w) A (subscriptTail value slice (.ref z) (.int 0 u)) Q E s :=
  tail_any (News.isList N hm).typeIs slot_list_getitem.lookup (wpAny_getItem_list (News.isList N hm) (by decide) (by decide) rfl h) hs
theorem name_K {i : Nat} {t : Tok} (hi : i < 200) (h : ∀ t k, Q (.str (nameK i) t) { s with toks := k }) : wpAny (model prog w) A (call (.type "str") [.int ((i : Int) + 1) t]) Q E s := by
  refine str_of_int_fit (N := 1000) ?_ (by decide) fun _ => h _ _
  split <;> omega
end
theorem nameK_len : ∀ k < 200, (nameK k).length ≤ 64 := by decide +kernel
end
section
open PySem PySem.W PySem.Calls PyProof.Rows
section
variable {prog : Program} {w : World} {A : Around} {E : Value → Shared → Prop} {s : Shared} {env : Env} {h₀ : Heap} {x : Str} {body : List Stmt} {Q : Flow → Shared → Prop}
theorem range_ind {I : Addr} {a : Int} {n : Nat} (Inv : Nat → (Str → Option Value) → List (Addr × Obj) → Prop)
    (step : ∀ i m' nw t h tk, i < n → Inv i m' nw → Fr h₀ env.locals h (fun y => if y = x then some (.int (a + (i : Int)) t) else m' y) → News h₀ env.locals h ((I, itR (a + ((i + 1 : Nat) : Int)) ((n : Int) - ((i + 1 : Nat) : Int))) :: nw) →
      wpAny (model prog w) A (execs body env) (UnrPost h₀ env.locals { s with heap := h, toks := tk } I (itR (a + ((i + 1 : Nat) : Int)) ((n : Int) - ((i + 1 : Nat) : Int))) (Inv (i + 1)) Q) E { s with heap := h, toks := tk })
    (fin : ∀ m' nw h tk, Inv n m' nw → Fr h₀ env.locals h m' → News h₀ env.locals h nw → Q .next { s with heap := h, toks := tk }) :
    ∀ (k i : Nat) (m' : Str → Option Value) (nw : List (Addr × Obj)), i + k = n → Inv i m' nw → RangeRest prog w A E h₀ env x body Q s I a n k i m' nw
  | 0, i, m', nw, e, hi => by
    have : i = n := by omega
    subst this
    exact RangeRest.zero fun h tk F N => fin m' nw h tk hi F N
  | k + 1, i, m', nw, e, hi => by
    refine RangeRest.succ fun t h tk F N => ?_
    refine wpAny_mono (step i m' nw t h tk (by omega) hi F N) (fun f s₂ p => ?_) fun _ _ e => e
    have mono : UnrEnd h₀ env.locals { s with heap := h, toks := tk } I (itR (a + ((i + 1 : Nat) : Int)) ((n : Int) - ((i + 1 : Nat) : Int))) (Inv (i + 1)) s₂ →
        UnrEnd h₀ env.locals { s with heap := h, toks := tk } I (itR (a + ((i + 1 : Nat) : Int)) ((n : Int) - ((i + 1 : Nat) : Int))) (RangeRest prog w A E h₀ env x body Q s I a n k (i + 1)) s₂ := by
      rintro ⟨h', tk', m'', nw'', q1, q2, q3, q4, q5⟩
      exact ⟨h', tk', m'', nw'', q1, q2, q3, q4, range_ind Inv step fin k (i + 1) m'' nw'' (by omega) q5⟩
    cases f with
    | ret v => exact p
    | brk => exact p
    | next => exact mono p
    | cont => exact mono p
/-- A loop over a range, by what holds of it. -/
theorem iter_rangeI {r : Addr} {a₀ b₀ : Int} {t₀ u₀ v₀ : Tok} {n : Nat} {m₀ : Str → Option Value} {news : List (Addr × Obj)} (Inv : Nat → (Str → Option Value) → List (Addr × Obj) → Prop)
    (hh : A.handled = none) (hr : IsRange s.heap r a₀ b₀ 1 t₀ u₀ v₀) (hsmall : Builtin.Range.small a₀ b₀ 1 = true) (hn : Builtin.Range.rangeSize a₀ b₀ 1 = (n : Int)) (F : Fr h₀ env.locals s.heap m₀) (N : News h₀ env.locals s.heap news)
    (h0 : Inv 0 m₀ news)
    (step : ∀ I i m' nw t h tk, (∀ p ∈ news, p.1 < I) → i < n → Inv i m' nw → Fr h₀ env.locals h (fun y => if y = x then some (.int (a₀ + (i : Int)) t) else m' y) → News h₀ env.locals h ((I, itR (a₀ + ((i + 1 : Nat) : Int)) ((n : Int) - ((i + 1 : Nat) : Int))) :: nw) →
      wpAny (model prog w) A (execs body env) (UnrPost h₀ env.locals { s with heap := h, toks := tk } I (itR (a₀ + ((i + 1 : Nat) : Int)) ((n : Int) - ((i + 1 : Nat) : Int))) (Inv (i + 1)) Q) E { s with heap := h, toks := tk })
    (fin : ∀ m' nw h tk, Inv n m' nw → Fr h₀ env.locals h m' → News h₀ env.locals h nw → Q .next { s with heap := h, toks := tk }) :
    wpAny (model prog w) A (pyIter (.ref r)) (fun it s₂ => LoopAtV prog w A h₀ env x body Q E it s₂) E s :=
  iter_rangeUnr hh hr hsmall hn F N fun I hf => range_ind Inv (fun i m' nw t h tk => step I i m' nw t h tk hf) fin n 0 m₀ news (by omega) h0
/-- The same, from naught on. -/
theorem iter_rangeI0 {r : Addr} {b₀ : Int} {t₀ u₀ v₀ : Tok} {n : Nat} {m₀ : Str → Option Value} {news : List (Addr × Obj)} (Inv : Nat → (Str → Option Value) → List (Addr × Obj) → Prop)
    (hh : A.handled = none) (hr : IsRange s.heap r 0 b₀ 1 t₀ u₀ v₀) (hsmall : Builtin.Range.small 0 b₀ 1 = true) (hn : Builtin.Range.rangeSize 0 b₀ 1 = (n : Int)) (F : Fr h₀ env.locals s.heap m₀) (N : News h₀ env.locals s.heap news)
    (h0 : Inv 0 m₀ news)
    (step : ∀ (I : Addr) (it : Obj) (i : Nat) m' nw t h tk, (∀ p ∈ news, p.1 < I) → i < n → Inv i m' nw → it.cls = .type "range_iterator" → Fr h₀ env.locals h (fun y => if y = x then some (.int (i : Int) t) else m' y) → News h₀ env.locals h ((I, it) :: nw) →
      wpAny (model prog w) A (execs body env) (UnrPost h₀ env.locals { s with heap := h, toks := tk } I it (Inv (i + 1)) Q) E { s with heap := h, toks := tk })
    (fin : ∀ m' nw h tk, Inv n m' nw → Fr h₀ env.locals h m' → News h₀ env.locals h nw → Q .next { s with heap := h, toks := tk }) :
    wpAny (model prog w) A (pyIter (.ref r)) (fun it s₂ => LoopAtV prog w A h₀ env x body Q E it s₂) E s :=
  iter_rangeI Inv hh hr hsmall hn F N h0 (fun I i m' nw t h tk hf hi hv F' N' => step I _ i m' nw t h tk hf hi hv rfl (by rw [Int.zero_add] at F'; exact F') N') fin
/-- A turn's end. -/
theorem unr_end {L I : Addr} {it : Obj} {rest : (Str → Option Value) → List (Addr × Obj) → Prop} {s₁ : Shared} {h' : Heap} {tk : Nat} {m' : Str → Option Value} {all : List (Addr × Obj)} (news' : List (Addr × Obj)) (F : Fr h₀ L h' m') (N : News h₀ L h' all)
    (hI : (I, it) ∈ all) (sub : ∀ p ∈ news', p ∈ all) (off : ∀ p ∈ news', p.1 ≠ I ∨ p.2.cls ≠ it.cls) (r : rest m' news') : UnrEnd h₀ L s₁ I it rest { s₁ with heap := h', toks := tk } :=
  UnrEnd.intro F N news' (fun p hp => by
    rcases List.mem_cons.mp hp with rfl | hp
    · exact hI
    · exact sub p hp) (fun p hp e => by
    have h1 := (N p (sub p hp)).1
    have h2 := (N _ hI).1
    rw [e] at h1
    have : p.2 = it := Option.some.inj (h1.symm.trans h2)
    rcases off p hp with z | z
    · exact z e
    · exact z (congrArg Obj.cls this)) r
end
section
variable {prog : Program} {w : World} {A : Around} {E : Value → Shared → Prop} {s : Shared} {env : Env} {h₀ : Heap} {target : Expr} {body : List Stmt} {Q : Flow → Shared → Prop}
theorem enum_ind {I : Addr} {keep : List (Addr × Obj)} {vs : List Value} (Inv : Nat → (Str → Option Value) → List (Addr × Obj) → Prop)
    (hkeep : ∀ i m nw, Inv i m nw → SubL keep nw)
    (step : ∀ i v m' nw T t h tk (oE oI : Obj), vs[i]? = some v → Inv i m' nw → IsTup h T #[.int (i : Int) t, v] → oE.cls = .type "enumerate" → oI.cls = .type "list_iterator" → Fr h₀ env.locals h m' → News h₀ env.locals h ((I + 1, oE) :: (I, oI) :: nw) →
      wpAny (model prog w) A (assign target env (.ref T)) (fun _ s₂ => wpAny (model prog w) A (execs body env) (UnrPostW h₀ env.locals { s with heap := h, toks := tk } [(I + 1, oE), (I, oI)] (Inv (i + 1)) Q) E s₂) E { s with heap := h, toks := tk })
    (fin : ∀ m' nw h tk, Inv vs.length m' nw → Fr h₀ env.locals h m' → News h₀ env.locals h nw → Q .next { s with heap := h, toks := tk }) :
    ∀ (rest pre : List Value) (m' : Str → Option Value) (nw : List (Addr × Obj)), vs = pre ++ rest → Inv pre.length m' nw →
      ItemsRest prog w A E h₀ env target body Q s [(I + 1, "enumerate"), (I, "list_iterator")] keep (enumItems pre.length rest) m' nw
  | [], pre, m', nw, e, hi => by
    have : pre.length = vs.length := by rw [e]; simp
    rw [this] at hi
    exact ItemsRest.zero fun h tk F N => fin m' nw h tk hi F N
  | v :: r, pre, m', nw, e, hi => by
    refine ItemsRest.pair fun T t h tk ht F => ?_
    refine AllObj.cons fun oE hE => AllObj.cons fun oI hI => AllObj.nil fun N => ?_
    have hv : vs[pre.length]? = some v := by rw [e]; simp
    refine wpAny_mono (step pre.length v m' nw T t h tk oE oI hv hi ht hE hI F N) (fun _ s₂ q => wpAny_mono q (fun f s₃ p => ?_) fun _ _ e => e) fun _ _ e => e
    have mono : UnrEndW h₀ env.locals { s with heap := h, toks := tk } [(I + 1, oE), (I, oI)] (Inv (pre.length + 1)) s₃ →
        UnrEndW h₀ env.locals { s with heap := h, toks := tk } [(I + 1, oE), (I, oI)] (fun m' n' => SubL keep n' ∧ ItemsRest prog w A E h₀ env target body Q s [(I + 1, "enumerate"), (I, "list_iterator")] keep (enumItems (pre.length + 1) r) m' n') s₃ := by
      rintro ⟨h', tk', m'', nw'', q1, q2, q3, q4, q5⟩
      refine ⟨h', tk', m'', nw'', q1, q2, q3, q4, hkeep _ _ _ q5, ?_⟩
      have := enum_ind Inv hkeep step fin r (pre ++ [v]) m'' nw'' (by rw [e]; simp) (by simpa using q5)
      simpa using this
    cases f with
    | ret v => exact p
    | brk => exact p
    | next => exact mono p
    | cont => exact mono p
/-- A loop over an enumerated list, by what holds of it. -/
theorem enum_I {elts : List Expr} {k : Nat} {pos : Pos} {l : Addr} {lo : Obj} {vs : List Value} {n : Nat} {m₀ : Str → Option Value} {news : List (Addr × Obj)} (Inv : Nat → (Str → Option Value) → List (Addr × Obj) → Prop)
    (hh : A.handled = none) (F : Fr h₀ env.locals s.heap m₀) (N : News h₀ env.locals s.heap news) (hm : (l, lo) ∈ news) (hc : lo.cls = .type "list") (hd : lo.data = .seq vs.toArray n)
    (h0 : Inv 0 m₀ news) (hkeep : ∀ i m nw, Inv i m nw → (l, lo) ∈ nw)
    (step : ∀ (I : Addr) i v m' nw T t h tk (oE oI : Obj), vs[i]? = some v → Inv i m' nw → IsTup h T #[.int (i : Int) t, v] → oE.cls = .type "enumerate" → oI.cls = .type "list_iterator" → Fr h₀ env.locals h m' → News h₀ env.locals h ((I + 1, oE) :: (I, oI) :: nw) →
      wpAny (model prog w) A (assign (.Tuple elts k pos) env (.ref T)) (fun _ s₂ => wpAny (model prog w) A (execs body env) (UnrPostW h₀ env.locals { s with heap := h, toks := tk } [(I + 1, oE), (I, oI)] (Inv (i + 1)) Q) E s₂) E { s with heap := h, toks := tk })
    (fin : ∀ m' nw h tk, Inv vs.length m' nw → Fr h₀ env.locals h m' → News h₀ env.locals h nw → Q .next { s with heap := h, toks := tk }) :
    wpAny (model prog w) A (call (.type "enumerate") [.ref l]) (fun xv s₁ => wpAny (model prog w) A (pyIter xv) (fun it s₂ => TurnsAt prog w A h₀ env (.Tuple elts k pos) body Q E it s₂) E s₁) E s :=
  ktu_enum hh F N hm hc hd rfl fun I _ => enum_ind (keep := [(l, lo)]) Inv (fun i m nw h => And.intro (hkeep i m nw h) trivial) (step I) fin vs [] m₀ news rfl h0
/-- A turn's end. -/
theorem unrW_end {L I : Addr} {oE oI : Obj} {rest : (Str → Option Value) → List (Addr × Obj) → Prop} {s₁ : Shared} {h' : Heap} {tk : Nat} {m' : Str → Option Value} {all : List (Addr × Obj)} (news' : List (Addr × Obj)) (F : Fr h₀ L h' m') (N : News h₀ L h' all)
    (hE : (I + 1, oE) ∈ all) (hI : (I, oI) ∈ all) (sub : ∀ p ∈ news', p ∈ all) (cE : oE.cls = .type "enumerate") (cI : oI.cls = .type "list_iterator") (off : ∀ p ∈ news', p.2.cls ≠ .type "enumerate" ∧ p.2.cls ≠ .type "list_iterator") (r : rest m' news') :
    UnrEndW h₀ L s₁ [(I + 1, oE), (I, oI)] rest { s₁ with heap := h', toks := tk } := by
  have key : ∀ p ∈ news', ∀ q : Addr × Obj, q ∈ all → p.2.cls ≠ q.2.cls → p.1 ≠ q.1 := fun p hp q hq hne e => by
    have h1 := (N p (sub p hp)).1
    have h2 := (N _ hq).1
    rw [e] at h1
    exact hne (congrArg Obj.cls (Option.some.inj (h1.symm.trans h2)))
  refine ⟨h', tk, m', news', rfl, F, fun p hp => ?_, fun p hp q hq => ?_, r⟩
  · rcases List.mem_cons.mp hp with rfl | hp
    · exact N _ hE
    · rcases List.mem_cons.mp hp with rfl | hp
      · exact N _ hI
      · exact N _ (sub p hp)
  · rcases List.mem_cons.mp hq with rfl | hq
    · exact key p hp _ hE (by rw [cE]; exact (off p hp).1)
    · rcases List.mem_cons.mp hq with rfl | hq
      · exact key p hp _ hI (by rw [cI]; exact (off p hp).2)
      · cases hq
end
end
section
open PySem PySem.W PySem.Calls PyProof.Rows
/-- The ledger, an object turned. -/
noncomputable def Turned (h₀ : Heap) (L : Addr) (h' : Heap) (news : List (Addr × Obj)) (D : Addr) (o' : Obj) : Prop :=
  ∀ news' : List (Addr × Obj), (∀ p ∈ news', p = (D, o') ∨ (p ∈ news ∧ p.1 ≠ D)) → News h₀ L h' news'
section
variable {prog : Program} {w : World} {A : Around} {E : Value → Shared → Prop} {s : Shared} {h₀ : Heap} {L D : Addr} {m : Str → Option Value} {news : List (Addr × Obj)} {Q : Value → Shared → Prop} {vals : List Value} {n : Nat}
theorem mem_off {p : Addr × Obj} : p ∈ news.filter (fun q => decide (q.1 ≠ D)) ↔ p ∈ news ∧ p.1 ≠ D := by simp
theorem set_news {o : Obj} (N : News h₀ L s.heap news) (hm : (D, o) ∈ news) : News h₀ L s.heap ((D, o) :: news.filter (fun q => decide (q.1 ≠ D))) := by
  intro p hp
  rcases List.mem_cons.mp hp with rfl | hp
  · exact N _ hm
  · exact N _ (mem_off.mp hp).1
theorem set_upd {o o' : Obj} : Upd D o o' ((D, o) :: news.filter (fun q => decide (q.1 ≠ D))) ((D, o') :: news.filter (fun q => decide (q.1 ≠ D))) := .head fun p hp => (mem_off.mp hp).2
theorem set_turned {h' : Heap} {o' : Obj} (N : News h₀ L h' ((D, o') :: news.filter (fun q => decide (q.1 ≠ D)))) : Turned h₀ L h' news D o' := by
  intro news' hs p hp
  rcases hs p hp with rfl | q
  · exact N _ (.head _)
  · exact N _ (.tail _ (mem_off.mpr q))
theorem app_S {x : Value} (F : Fr h₀ L s.heap m) (N : News h₀ L s.heap news) (hm : (D, listOf vals.toArray n) ∈ news) (hz : vals.length ≤ 100000)
    (h : ∀ h', Fr h₀ L h' m → Turned h₀ L h' news D (listOf (vals ++ [x]).toArray (n + 1)) → Q .none { s with heap := h' }) : wpAny (model prog w) A (call (.builtin "list.append") [.ref D, x]) Q E s := by
  have e : vals.toArray.push x = (vals ++ [x]).toArray := by simp
  refine append_K F (set_news N hm) set_upd (fun h' F' N' => ?_) ?_
  · rw [e] at N'; exact h h' F' (set_turned N')
  · rw [sizeLine_eq]; simp; omega
theorem last_eq : ∀ (vi : List Value) (y : Value), kl_last (vi ++ [y]) = some (vi, y)
  | [], y => rfl
  | a :: l, y => by
    have ih := last_eq l y
    show kl_last (a :: (l ++ [y])) = _
    unfold kl_last
    rw [ih]
theorem pop_S {vi : List Value} {y : Value} (F : Fr h₀ L s.heap m) (N : News h₀ L s.heap news) (hm : (D, listOf vals.toArray n) ∈ news) (hv : vals = vi ++ [y]) (hz : vals.length ≤ 100000)
    (h : ∀ h', Fr h₀ L h' m → Turned h₀ L h' news D (listOf vi.toArray (n + 1)) → Q y { s with heap := h' }) : wpAny (model prog w) A (call (.builtin "list.pop") [.ref D]) Q E s := by
  subst hv
  refine kl_pop F (set_news N hm) (by simpa using last_eq vi y) set_upd ?_ fun h' F' N' => h h' F' (set_turned N')
  rw [sizeLine_eq]; simp at hz ⊢; omega
theorem pop0_S {q : List Value} {y : Value} {u : Tok} (F : Fr h₀ L s.heap m) (N : News h₀ L s.heap news) (hm : (D, listOf vals.toArray n) ∈ news) (hv : vals = y :: q) (hz : vals.length ≤ 100000)
    (h : ∀ h', Fr h₀ L h' m → Turned h₀ L h' news D (listOf q.toArray (n + 1)) → Q y { s with heap := h' }) : wpAny (model prog w) A (call (.builtin "list.pop") [.ref D, .int 0 u]) Q E s := by
  subst hv
  refine kl_popAt (k := 0) (p := []) (q := q) F (set_news N hm) (by decide) ?_ (by rfl) set_upd ?_ fun h' F' N' => h h' F' (set_turned N')
  · simp [seqIndex?]
  · rw [sizeLine_eq]; simp at hz ⊢; omega
theorem len_S (N : News h₀ L s.heap news) (hm : (D, listOf vals.toArray n) ∈ news) (hz : vals.length ≤ 100000) (h : Q (.int (vals.length : Int) (s.toks + 1)) { s with toks := s.toks + 1 + 1 }) :
    wpAny (model prog w) A (call (.builtin "len") [.ref D]) Q E s := by
  refine len_list (News.isList N hm) ?_ ?_
  · simp only [List.size_toArray]; omega
  · simp only [List.size_toArray]; exact h
theorem gt_by {i j : Int} {t u : Tok} (b : Bool) (e : decide (i > j) = b) (h : Q (.bool b) s) : wpAny (model prog w) A (compareOp .Gt (.int i t) (.int j u)) Q E s := gt_int (by rw [e]; exact h)
end
end
section
open PySem PySem.W PySem.Calls PyProof.Rows
section
variable {w : World} {A : Around} {s : Shared} {h₀ : Heap} {news : List (Addr × Obj)} {Q : Value → Shared → Prop} {E : Value → Shared → Prop} {L T : Addr} {t tx tq : Tok} {x : Str} {q : Nat}
set_option maxHeartbeats 1000000 in
theorem lead_K (N : News h₀ L s.heap news) (hm : (T, ({ cls := .type "tuple", data := .seq #[.str x tx, .int (q : Int) tq] } : Obj)) ∈ news) (hx : x.length ≤ 64) (hq : q ≤ 1000)
    (h : ∀ t' k, Q (.str (lead x q) t') { s with toks := k }) :
    wpAny (model PySem.Challenge.rw_ny0282_01.row.prog w) A (binaryOp .Mod (.str (Str.ofString "\"%s\", line %d: ") t) (.ref T)) Q E s := by
  refine' KPt.mod_tuple ?kptN ?kptb ?kptF ?kptm ?_
  case kptN => exact N
  case kptb => exact hm
  case kptF => kpt_eq
  case kptm => kpt_run
  exact h
end
end
section
open PySem PySem.W PySem.Calls PyProof.Rows
open PySem.Builtin
/-- A deque: its state's number, its items. -/
noncomputable abbrev dqO (n : Int) (vs : List Value) : Obj := { cls := .type "collections.deque", dict := none, data := .fields (Value.none :: rawInt n :: vs).toArray }
theorem slot_dq_appendleft : Slot "collections.deque" "appendleft" "collections.deque.appendleft" :=
  .of (owner := "collections.deque") (n := "appendleft") (by rw [typeLookup_type, builtinLookup_eq_fast]; kernel_rfl) (by decide +kernel) (by decide +kernel) (by decide +kernel)
    (by first | exact .inl (by decide +kernel) | exact .inr (by decide +kernel)) (by rw [isSubtype_type]; kernel_rfl)
theorem type_dq_appendleft : typeOf (.builtin "collections.deque.appendleft") = pure (.type "method_descriptor") := by show builtinType _ = _; rw [builtinType_eq_fast]; kernel_rfl
theorem entry_dq_appendleft : entryFor table "collections.deque.appendleft" = some Builtin.«collections.deque.appendleft» := entryFor_of_tree (by kernel_rfl)
theorem args_dq_appendleft (a b : Value) : argsOk "collections.deque.appendleft" ⟨[a, b], []⟩ := by unfold argsOk; kernel_rfl
theorem slot_dq_popleft : Slot "collections.deque" "popleft" "collections.deque.popleft" :=
  .of (owner := "collections.deque") (n := "popleft") (by rw [typeLookup_type, builtinLookup_eq_fast]; kernel_rfl) (by decide +kernel) (by decide +kernel) (by decide +kernel)
    (by first | exact .inl (by decide +kernel) | exact .inr (by decide +kernel)) (by rw [isSubtype_type]; kernel_rfl)
theorem type_dq_popleft : typeOf (.builtin "collections.deque.popleft") = pure (.type "method_descriptor") := by show builtinType _ = _; rw [builtinType_eq_fast]; kernel_rfl
theorem entry_dq_popleft : entryFor table "collections.deque.popleft" = some Builtin.«collections.deque.popleft» := entryFor_of_tree (by kernel_rfl)
theorem args_dq_popleft (a : Value) : argsOk "collections.deque.popleft" ⟨[a], []⟩ := by unfold argsOk; kernel_rfl
theorem slot_dq_len : Slot "collections.deque" "__len__" "collections.deque.__len__" :=
  .of (owner := "collections.deque") (n := "__len__") (by rw [typeLookup_type, builtinLookup_eq_fast]; kernel_rfl) (by decide +kernel) (by decide +kernel) (by decide +kernel)
    (by first | exact .inl (by decide +kernel) | exact .inr (by decide +kernel)) (by rw [isSubtype_type]; kernel_rfl)
theorem entry_dq_len : entryFor table "collections.deque.__len__" = some Builtin.«collections.deque.__len__» := entryFor_of_tree (by kernel_rfl)
theorem args_dq_len (a : Value) : argsOk "collections.deque.__len__" ⟨[a], []⟩ := by unfold argsOk; kernel_rfl
theorem noBool_dq : typeLookup (.type "collections.deque") "__bool__" = pure none := by rw [typeLookup_type, builtinLookup_eq_fast]; kernel_rfl
theorem plainAttrs_dq : PlainAttrs "collections.deque" :=
  ⟨⟨"collections.deque.__getattribute__", by rw [typeLookup_type, builtinLookup_eq_fast]; kernel_rfl, by decide +kernel⟩, by rw [typeLookup_type, builtinLookup_eq_fast]; kernel_rfl⟩
section
variable {prog : Program} {w : World} {A : Around} {E : Value → Shared → Prop} {s : Shared} {d : Addr} {n : Int} {vs : List Value} {x : Value}
theorem dq_appendleft_m {pl : Sem Bool} {Q : Value × List Value → Shared → Prop} (ho : s.heap.get? d = some (dqO n vs)) (h : Q (.builtin "collections.deque.appendleft", [.ref d]) s) :
    wpAny (model prog w) A (getMethod (.ref d) (Str.ofString "appendleft") pl) Q E s :=
  getMethod_builtin ⟨_, ho, rfl⟩ plainAttrs_dq slot_dq_appendleft type_dq_appendleft (fun a e => by cases e; exact ⟨_, ho, rfl⟩) h
theorem dq_popleft_m {pl : Sem Bool} {Q : Value × List Value → Shared → Prop} (ho : s.heap.get? d = some (dqO n vs)) (h : Q (.builtin "collections.deque.popleft", [.ref d]) s) :
    wpAny (model prog w) A (getMethod (.ref d) (Str.ofString "popleft") pl) Q E s :=
  getMethod_builtin ⟨_, ho, rfl⟩ plainAttrs_dq slot_dq_popleft type_dq_popleft (fun a e => by cases e; exact ⟨_, ho, rfl⟩) h
theorem dq_fields {h : Heap} {Q : Array Value → Shared → Prop} (ho : s.heap.get? d = some (dqO n vs)) (hq : Q (Value.none :: rawInt n :: vs).toArray s) : wpAny (model prog w) A (fieldsOf (.ref d)) Q E s := by
  unfold fieldsOf
  exact wpAny_bind (wpAny_load ho (wpAny_pure hq))
theorem dq_field0 {Q : Value → Shared → Prop} (ho : s.heap.get? d = some (dqO n vs)) (hq : Q .none s) : wpAny (model prog w) A (field (.ref d) 0) Q E s := by
  unfold field
  exact wpAny_bind (dq_fields (h := s.heap) ho (by show wpAny _ _ (pure Value.none) Q E s; exact wpAny_pure hq))
theorem dq_field1 {Q : Value → Shared → Prop} (ho : s.heap.get? d = some (dqO n vs)) (hq : Q (rawInt n) s) : wpAny (model prog w) A (field (.ref d) 1) Q E s := by
  unfold field
  exact wpAny_bind (dq_fields (h := s.heap) ho (by show wpAny _ _ (pure (rawInt n)) Q E s; exact wpAny_pure hq))
theorem dq_state {Q : Int → Shared → Prop} (ho : s.heap.get? d = some (dqO n vs)) (hq : Q n s) : wpAny (model prog w) A (Deque.state (.ref d)) Q E s := by
  unfold Deque.state
  exact wpAny_bind (dq_field1 ho (by show wpAny _ _ (pure n) Q E s; exact wpAny_pure hq))
theorem dq_maxlen {Q : Option Nat → Shared → Prop} (ho : s.heap.get? d = some (dqO n vs)) (hq : Q none s) : wpAny (model prog w) A (Deque.maxlen (.ref d)) Q E s := by
  unfold Deque.maxlen
  exact wpAny_bind (dq_field0 ho (by show wpAny _ _ (pure none) Q E s; exact wpAny_pure hq))
theorem dq_items {Q : Array Value → Shared → Prop} (ho : s.heap.get? d = some (dqO n vs)) (hq : Q vs.toArray s) : wpAny (model prog w) A (Deque.items (.ref d)) Q E s := by
  unfold Deque.items
  refine wpAny_bind (dq_fields (h := s.heap) ho (wpAny_pure ?_))
  have e : (Value.none :: rawInt n :: vs).toArray.extract 2 (Value.none :: rawInt n :: vs).toArray.size = vs.toArray := by
    apply Array.toList_inj.mp
    simp
  rw [e]; exact hq
theorem dq_change {f : Array Value → Array Value} {ys : List Value} {Q : Unit → Shared → Prop} (ho : s.heap.get? d = some (dqO n vs)) (hf : f vs.toArray = ys.toArray) (hsz : ys.length ≤ 1000)
    (hq : ∀ h', Heap.SameBut d s.heap h' → h'.get? d = some (dqO (n + 1) ys) → Q () { s with heap := h' }) : wpAny (model prog w) A (Deque.change (.ref d) f) Q E s := by
  unfold Deque.change
  dsimp only
  refine wpAny_bind (dq_state ho ?_)
  have e : (Value.none :: rawInt n :: vs).toArray.extract 2 (Value.none :: rawInt n :: vs).toArray.size = vs.toArray := by
    apply Array.toList_inj.mp
    simp
  have e2 : (#[(Value.none :: rawInt n :: vs).toArray.getD 0 .none, rawInt (if true = true then n + 1 else n)] ++ f ((Value.none :: rawInt n :: vs).toArray.extract 2 (Value.none :: rawInt n :: vs).toArray.size)) = (Value.none :: rawInt (n + 1) :: ys).toArray := by
    rw [e, hf]
    apply Array.toList_inj.mp
    simp
  refine wpAny_updateFields ho rfl (hq _ (Heap.SameBut.update ..) ?_) ?_
  · rw [Heap.get?_update_self _ ho (by rfl)]
    show some (Obj.mapFields _ (dqO n vs)) = _
    exact congrArg (fun z => some ({ cls := .type "collections.deque", dict := none, data := .fields z } : Obj)) e2
  · rw [e2]
    rw [List.size_toArray, sizeLine_eq]
    simp
    omega
theorem dq_appendleft_at {Q : Value → Shared → Prop} (ho : s.heap.get? d = some (dqO n vs)) (hsz : vs.length ≤ 900)
    (h : ∀ h', Heap.SameBut d s.heap h' → h'.get? d = some (dqO (n + 1) (x :: vs)) → Q .none { s with heap := h' }) :
    wpAny (model prog w) A (call (.builtin "collections.deque.appendleft") [.ref d, x]) Q E s := by
  refine wpAny_call_entry slot_dq_appendleft ⟨_, ho, rfl⟩ entry_dq_appendleft ?_ (args_dq_appendleft _ _)
  show wpAny _ _ (Deque.pushLeft (.ref d) x >>= fun _ => ret .none) _ _ s
  unfold Deque.pushLeft
  refine wpAny_bind (wpAny_bind (dq_change (ys := x :: vs) ho (by simp) (by simp; omega) fun h' hs hg => wpAny_bind (dq_maxlen hg (wpAny_pure (wpAny_pure ⟨_, rfl, h h' hs hg⟩)))))
theorem dq_popleft_at {Q : Value → Shared → Prop} (ho : s.heap.get? d = some (dqO n (x :: vs))) (hsz : vs.length ≤ 900)
    (h : ∀ h', Heap.SameBut d s.heap h' → h'.get? d = some (dqO (n + 1) vs) → Q x { s with heap := h' }) :
    wpAny (model prog w) A (call (.builtin "collections.deque.popleft") [.ref d]) Q E s := by
  refine wpAny_call_entry slot_dq_popleft ⟨_, ho, rfl⟩ entry_dq_popleft ?_ (args_dq_popleft _)
  unfold Builtin.«collections.deque.popleft»
  refine wpAny_bind (m := selfOnly "deque.popleft" _) (wpAny_pure ?_)
  refine wpAny_bind (dq_items ho ?_)
  show wpAny _ _ (Deque.change (.ref d) (·.eraseIdxIfInBounds 0) >>= fun _ => ret x) _ _ s
  refine wpAny_bind (dq_change (ys := vs) ho (by simp [Array.eraseIdxIfInBounds]) (by omega) fun h' hs hg => wpAny_pure ⟨_, rfl, h h' hs hg⟩)
theorem dq_len_body {Q : Value → Shared → Prop} (ho : s.heap.get? d = some (dqO n vs)) (hsz : vs.length ≤ 1000)
    (h : Q (.int vs.length (s.toks + 1)) { s with toks := s.toks + 1 + 1 }) : wpAny (model prog w) A (Builtin.«len» ⟨[.ref d], []⟩) (fun fin s' => ∃ r, fin = .done (.ret r) ∧ Q r s') E s := by
  have hT : s.TypeIs (.ref d) "collections.deque" := ⟨_, ho, rfl⟩
  unfold Builtin.«len»
  refine wpAny_bind (m := oneArg "len" _) (wpAny_pure ?_)
  refine wpAny_bind (m := callSpecial? (.ref d) (Str.ofString "__len__")) (wpAny_callSpecial?_slot (name := Str.ofString "__len__") hT slot_dq_len
    (wpAny_call_entry slot_dq_len hT entry_dq_len ?_ (args_dq_len _)))
  · show wpAny _ _ (do retInt (← Deque.size (.ref d))) _ _ s
    unfold Deque.size
    refine wpAny_bind (wpAny_bind (dq_fields (h := s.heap) ho (wpAny_pure ?_)))
    have e : (Value.none :: rawInt n :: vs).toArray.size - 2 = vs.length := by simp
    rw [e]
    refine wpAny_bind (wpAny_mkInt (wpAny_pure ⟨_, rfl, ?_⟩))
    refine wpAny_bind (wpAny_holding (wpAny_pure ?_))
    refine wpAny_bind (wpAny_letGo ?_)
    show wpAny _ _ (if ((vs.length : Nat) : Int) < 0 then _ else _) _ _ _
    rw [if_neg (by omega)]
    show wpAny _ _ (if ((vs.length : Nat) : Int) ≥ 2 ^ 63 then _ else _) _ _ _
    rw [if_neg (by omega)]
    exact wpAny_bind (wpAny_mkInt (wpAny_pure ⟨_, rfl, h⟩))
theorem dq_truthy {Q : Bool → Shared → Prop} (ho : s.heap.get? d = some (dqO n vs)) (hsz : vs.length ≤ 1000) (b : Bool) (hb : (!vs.isEmpty) = b) (h : ∀ k, Q b { s with toks := k }) : wpAny (model prog w) A (truthy (.ref d)) Q E s := by
  subst hb
  have hT : s.TypeIs (.ref d) "collections.deque" := ⟨_, ho, rfl⟩
  have hne : ((vs.length : Int) != 0) = !vs.isEmpty := by
    cases vs with
    | nil => rfl
    | cons a l => simp; omega
  have key : wpAny (model prog w) A (runValue (.builtin "len" ⟨[.ref d], []⟩)) (fun r s' => r = .int vs.length (s.toks + 1) ∧ Q (!vs.isEmpty) s') E s := by
    refine wpAny_runValue (codeAny_builtin entry_len ?_)
    rw [Around.under_plainId plain_len _]
    exact wpAny_mono (dq_len_body (Q := fun r s' => r = .int vs.length (s.toks + 1) ∧ Q (!vs.isEmpty) s') ho hsz ⟨rfl, h _⟩)
      (fun fin s' h' => by obtain ⟨r, rfl, hq⟩ := h'; exact hq) fun _ _ e => e
  unfold truthy
  first
    | refine wpAny_bind (wpAny_callSpecial?_none (name := Str.ofString "__bool__") hT noBool_dq ?_)
    | refine wpAny_bind (wpAny_pure (wpAny_bind (wpAny_callSpecial?_none (name := Str.ofString "__bool__") hT noBool_dq ?_)))
  first
    | refine wpAny_bind (wpAny_specialOf (name := Str.ofString "__len__") hT slot_dq_len.lookup ?_)
    | refine wpAny_bind (wpAny_pure (wpAny_bind (wpAny_specialOf (name := Str.ofString "__len__") hT slot_dq_len.lookup ?_)))
  first
    | exact wpAny_bind (wpAny_mono key (fun r s' h' => by obtain ⟨rfl, hq⟩ := h'; exact wpAny_pure (hne ▸ hq)) fun _ _ e => e)
    | exact wpAny_bind (wpAny_pure (wpAny_bind (wpAny_mono key (fun r s' h' => by obtain ⟨rfl, hq⟩ := h'; exact wpAny_pure (hne ▸ hq)) fun _ _ e => e)))
end
section
variable {prog : Program} {w : World} {A : Around} {E : Value → Shared → Prop} {s : Shared} {h₀ : Heap} {L d : Addr} {m : Str → Option Value} {news : List (Addr × Obj)} {gl : Obj → List (Addr × Obj)} {n : Int} {vs : List Value} {x : Value}
theorem dq_appendleft_K {Q : Value → Shared → Prop} (F : Fr h₀ L s.heap m) (N : News h₀ L s.heap news) (u : UpdF d (dqO n vs) news gl) (hsz : vs.length ≤ 900)
    (h : ∀ h', Fr h₀ L h' m → News h₀ L h' (gl (dqO (n + 1) (x :: vs))) → Q .none { s with heap := h' }) :
    wpAny (model prog w) A (call (.builtin "collections.deque.appendleft") [.ref d, x]) Q E s := by
  obtain ⟨pre, post, hl, hg, a, b⟩ := u.split
  rw [hl] at N
  have z := N (d, dqO n vs) (List.mem_append.mpr (.inr (.head _)))
  exact dq_appendleft_at z.1 hsz fun h' hs ho' => h h' (F.change hs z.2.1 z.2.2) (by rw [hg]; exact news_set N a b hs ho')
theorem dq_popleft_K {Q : Value → Shared → Prop} (F : Fr h₀ L s.heap m) (N : News h₀ L s.heap news) (u : UpdF d (dqO n (x :: vs)) news gl) (hsz : vs.length ≤ 900)
    (h : ∀ h', Fr h₀ L h' m → News h₀ L h' (gl (dqO (n + 1) vs)) → Q x { s with heap := h' }) :
    wpAny (model prog w) A (call (.builtin "collections.deque.popleft") [.ref d]) Q E s := by
  obtain ⟨pre, post, hl, hg, a, b⟩ := u.split
  rw [hl] at N
  have z := N (d, dqO n (x :: vs)) (List.mem_append.mpr (.inr (.head _)))
  exact dq_popleft_at z.1 hsz fun h' hs ho' => h h' (F.change hs z.2.1 z.2.2) (by rw [hg]; exact news_set N a b hs ho')
end
end
section
open PySem PySem.W PySem.Calls PyProof.Rows
open PySem.Builtin
theorem mro_dq : mroOf (.type "collections.deque") = pure [.type "collections.deque", .type "object"] := by rw [mroOf_type]; kernel_rfl
theorem lookup_dq_new : typeLookup (.type "collections.deque") "__new__" = pure (some (.builtin "collections.deque.__new__")) := by rw [typeLookup_type, builtinLookup_eq_fast]; kernel_rfl
theorem slot_dq_init : Slot "collections.deque" "__init__" "collections.deque.__init__" :=
  .of (owner := "collections.deque") (n := "__init__") (by rw [typeLookup_type, builtinLookup_eq_fast]; kernel_rfl) (by decide +kernel) (by decide +kernel) (by decide +kernel)
    (by first | exact .inl (by decide +kernel) | exact .inr (by decide +kernel)) (by rw [isSubtype_type]; kernel_rfl)
theorem sub_dq : isSubtype (.type "collections.deque") (.type "collections.deque") = pure true := by rw [isSubtype_type]; kernel_rfl
theorem called_dq : TypeCalled "collections.deque" "collections.deque.__new__" "collections.deque.__init__" :=
  ⟨by decide +kernel, by decide +kernel, ⟨_, _, mro_dq⟩, madeBy_type mro_dq lookup_dq_new (by decide +kernel), by decide +kernel, sub_dq, slot_dq_init⟩
theorem typeCall_dq : checkTypeCall "collections.deque" ⟨[], []⟩ = pure () := by kernel_rfl
theorem newCall_dq : checkBuiltinCall "collections.deque.__new__" ⟨[.type "collections.deque"], []⟩ = pure () := by kernel_rfl
theorem entry_dq_new : entryFor table "collections.deque.__new__" = some Builtin.«collections.deque.__new__» := entryFor_of_tree (by kernel_rfl)
theorem entry_dq_init : entryFor table "collections.deque.__init__" = some Builtin.«collections.deque.__init__» := entryFor_of_tree (by kernel_rfl)
theorem args_dq_init (a : Value) : argsOk "collections.deque.__init__" ⟨[a], []⟩ := by unfold argsOk; kernel_rfl
theorem isType_dq : isType (.type "collections.deque") = pure true := by kernel_rfl
theorem new_dq_tree : Builtin.«collections.deque.__new__» ⟨[.type "collections.deque"], []⟩ = (do ret (← newObj (.type "collections.deque") (.fields #[.none, rawInt 0]) none)) := by
  unfold Builtin.«collections.deque.__new__» Deque.newArgs
  dsimp only
  rw [isType_dq]
  show (isSubtype (.type "collections.deque") (.type "collections.deque") >>= _) >>= _ = _
  rw [sub_dq]
  kernel_rfl
theorem init_dq_tree (d : Addr) : Builtin.«collections.deque.__init__» ⟨[.ref d], []⟩ = (do setField (.ref d) 0 .none; Deque.clear (.ref d); ret .none) := by kernel_rfl
theorem meets_dq_new : Meets (Builtin.«collections.deque.__new__» ⟨[.type "collections.deque"], []⟩) (fun _ R s => R (.ok (.ret (.ref s.heap.objs.size))) { s with heap := s.heap.push (dqO 0 []) }) := by
  intro prog w A R s h
  rw [new_dq_tree]
  refine wpAny_bind (wpAny_newObj_type (wpAny_pure h) ?_)
  first | trivial | exact Nat.le_of_ble_eq_true rfl | (unfold sizeOk; decide) | (show _ ≤ _; decide)
theorem meets_dq_init (d : Addr) : Meets (Builtin.«collections.deque.__init__» ⟨[.ref d], []⟩) (fun _ R s => ∃ n, s.heap.get? d = some (dqO n []) ∧ ∀ h', Heap.SameBut d s.heap h' → h'.get? d = some (dqO n []) → R (.ok (.ret .none)) { s with heap := h' }) := by
  rintro prog w A R s ⟨n, ho, h⟩
  rw [init_dq_tree]
  refine wpAny_bind (wpAny_setField_rec ho (by simp) fun h' hg hs => ?_)
  have hg' : h'.get? d = some (dqO n []) := hg
  unfold Deque.clear
  refine wpAny_bind (wpAny_bind (dq_items hg' ?_))
  exact wpAny_pure (wpAny_pure (h h' hs hg'))
section
variable {prog : Program} {w : World} {A : Around} {E : Value → Shared → Prop} {s : Shared} {h₀ : Heap} {L : Addr} {m : Str → Option Value} {news : List (Addr × Obj)}
theorem dq_make_K {Q : Value → Shared → Prop} (F : Fr h₀ L s.heap m) (N : News h₀ L s.heap news)
    (h : ∀ d h', Fr h₀ L h' m → News h₀ L h' ((d, dqO 0 []) :: news) → (∀ p ∈ news, p.1 < d) → Q (.ref d) { s with heap := h' }) :
    wpAny (model prog w) A (call (.type "collections.deque") []) Q E s := by
  refine callType_meets (Q₁ := fun v s₁ => v = .ref s.heap.objs.size ∧ s₁ = { s with heap := s.heap.push (dqO 0 []) }) called_dq typeCall_dq newCall_dq entry_dq_new entry_dq_init meets_dq_new ⟨rfl, rfl⟩ ?_
  rintro obj s₁ ⟨rfl, rfl⟩
  have hg : (s.heap.push (dqO 0 [])).get? s.heap.objs.size = some (dqO 0 []) := Heap.get?_push_size _ rfl
  have F' := F.push (dqO 0 [])
  have N' := N.push F (dqO 0 [])
  refine ⟨⟨_, hg, rfl⟩, args_dq_init _, _, meets_dq_init _, 0, hg, fun h' hs ho' => ⟨rfl, ?_⟩⟩
  have z := N' (s.heap.objs.size, dqO 0 []) (.head _)
  exact h _ h' (F'.change hs z.2.1 z.2.2) (news_set (pre := []) N' (fun _ hp => nomatch hp) (fun p hp => Nat.ne_of_lt (Heap.lt_size (N p hp).1)) hs ho') fun p hp => Heap.lt_size (N p hp).1
end
end
section
open PySem PySem.W PySem.Calls PyProof.Rows
open PySem.Builtin
section
variable {w : World} {h : Heap}
theorem made_609 (X : (hd.heap_1 w.params).In h) : Looks (model PySem.Challenge.rw_ny0282_01.row.prog w) h (Bind.madeBy (.ref 609)) none := Looks.of_peek X (by kernel_rfl)
theorem made_132 (X : (hd.heap_1 w.params).In h) : Looks (model PySem.Challenge.rw_ny0282_01.row.prog w) h (Bind.madeBy (.ref 132)) none := Looks.of_peek X (by kernel_rfl)
theorem made_105 (X : (hd.heap_1 w.params).In h) : Looks (model PySem.Challenge.rw_ny0282_01.row.prog w) h (Bind.madeBy (.ref 105)) none := Looks.of_peek X (by kernel_rfl)
theorem best_609 (X : (hd.heap_1 w.params).In h) : Looks (model PySem.Challenge.rw_ny0282_01.row.prog w) h (Builtin.Slots.bestBase [.ref 132]) (.ref 132) := Looks.of_peek X (by kernel_rfl)
theorem best_132 (X : (hd.heap_1 w.params).In h) : Looks (model PySem.Challenge.rw_ny0282_01.row.prog w) h (Builtin.Slots.bestBase [.ref 105]) (.ref 105) := Looks.of_peek X (by kernel_rfl)
theorem best_105 (X : (hd.heap_1 w.params).In h) : Looks (model PySem.Challenge.rw_ny0282_01.row.prog w) h (Builtin.Slots.bestBase [.type "object"]) (.type "object") := Looks.of_peek X (by kernel_rfl)
theorem new_object : typeLookup (.type "object") "__new__" = pure (some (.builtin "object.__new__")) := by rw [typeLookup_type, builtinLookup_eq_fast]; kernel_rfl
theorem mro_object : mroOf (.type "object") = pure [.type "object"] := by kernel_rfl
theorem ends_new : ("object.__new__".endsWith ".__new__") = true := by decide +kernel
theorem made_obj : Looks (model PySem.Challenge.rw_ny0282_01.row.prog w) h (Bind.madeBy (.type "object")) (some "object.__new__") := by
  intro A Q E s k q
  unfold Bind.madeBy
  rw [mro_object]
  refine wpAny_bind (wpAny_pure ?_)
  rw [List.forIn_cons]
  refine wpAny_bind (wpAny_bind (wpAny_bind ?_))
  rw [new_object]
  refine wpAny_pure ?_
  dsimp only
  rw [ends_new]
  exact wpAny_pure (wpAny_pure (wpAny_pure q))
theorem cb_609 (X : (hd.heap_1 w.params).In h) : Looks (model PySem.Challenge.rw_ny0282_01.row.prog w) h (classData 609 >>= fun d => Builtin.Slots.bestBase d.bases) (.ref 132) := Looks.of_peek X (by kernel_rfl)
theorem cb_132 (X : (hd.heap_1 w.params).In h) : Looks (model PySem.Challenge.rw_ny0282_01.row.prog w) h (classData 132 >>= fun d => Builtin.Slots.bestBase d.bases) (.ref 105) := Looks.of_peek X (by kernel_rfl)
theorem cb_105 (X : (hd.heap_1 w.params).In h) : Looks (model PySem.Challenge.rw_ny0282_01.row.prog w) h (classData 105 >>= fun d => Builtin.Slots.bestBase d.bases) (.type "object") := Looks.of_peek X (by kernel_rfl)
theorem static_609 (X : (hd.heap_1 w.params).In h) : Looks (model PySem.Challenge.rw_ny0282_01.row.prog w) h (Bind.staticBase (.ref 609)) (.type "object") := by
  intro A Q E s k q
  have m1 := made_609 X
  have m2 := made_132 X
  have m3 := made_105 X
  have m4 := made_obj (w := w) (h := h)
  have b1 := cb_609 X
  have b2 := cb_132 X
  have b3 := cb_105 X
  have c1 : Looks (model PySem.Challenge.rw_ny0282_01.row.prog w) h (mroOf (.ref 609)) [.ref 609, .ref 132, .ref 105, .type "object"] := Looks.of_peek X (by kernel_rfl)
  unfold Bind.staticBase
  refine wpAny_bind (c1 A _ E s k ?_)
  rw [List.forIn_cons]
  refine wpAny_bind (wpAny_bind (wpAny_bind (m1 A _ E s k ?_)))
  show wpAny _ _ (classData 609 >>= fun d => Builtin.Slots.bestBase d.bases >>= fun c => pure (ForInStep.yield (none, c))) _ _ _
  rw [← bind_assoc]
  refine wpAny_bind (b1 A _ E s k (wpAny_pure ?_))
  dsimp only
  rw [List.forIn_cons]
  refine wpAny_bind (wpAny_bind (m2 A _ E s k ?_))
  show wpAny _ _ (classData 132 >>= fun d => Builtin.Slots.bestBase d.bases >>= fun c => pure (ForInStep.yield (none, c))) _ _ _
  rw [← bind_assoc]
  refine wpAny_bind (b2 A _ E s k (wpAny_pure ?_))
  dsimp only
  rw [List.forIn_cons]
  refine wpAny_bind (wpAny_bind (m3 A _ E s k ?_))
  show wpAny _ _ (classData 105 >>= fun d => Builtin.Slots.bestBase d.bases >>= fun c => pure (ForInStep.yield (none, c))) _ _ _
  rw [← bind_assoc]
  refine wpAny_bind (b3 A _ E s k (wpAny_pure ?_))
  dsimp only
  rw [List.forIn_cons]
  refine wpAny_bind (wpAny_bind (m4 A _ E s k ?_))
  exact wpAny_pure (wpAny_pure (wpAny_pure q))
theorem here_609 (X : (hd.heap_1 w.params).In h) : Looks (model PySem.Challenge.rw_ny0282_01.row.prog w) h (Bind.madeHere "object.__new__" (.ref 609)) () :=
  (static_609 X).andThen (made_obj.andThen (Looks.of_pure (by simp only [Option.map_some, bne_self_eq_false, Bool.false_eq_true, if_false])))
theorem call_609 (X : (hd.heap_1 w.params).In h) : Looks (model PySem.Challenge.rw_ny0282_01.row.prog w) h (specialOf (.ref 609) "__call__") (some (.builtin "type.__call__")) := looks_specialIn X (by k_is)
theorem typ_609 (X : (hd.heap_1 w.params).In h) : Looks (model PySem.Challenge.rw_ny0282_01.row.prog w) h (isInstance (.ref 609) (.type "type")) true := looks_instIn X (by k_is)
end
end
section
open PySem PySem.W PySem.Calls PyProof.Rows
open PySem.Builtin
section
variable {w : World} {A : Around} {R : Result → Shared → Prop} {h : Heap} {g : Array GenState} {d : Drawn} {t : Nat} {os : OsState}
theorem new_609 (X : (hd.heap_1 w.params).In h)
    (hq : R (.ok (.ret (.ref (h.objs.size + 1)))) ⟨(h.push emptyDict).push (instObj 609 h.objs.size), g, d, t, os⟩) :
    codeAny (model PySem.Challenge.rw_ny0282_01.row.prog w) A (.call (.builtin "object.__new__") ⟨[.ref 609], []⟩) R ⟨h, g, d, t, os⟩ := by
  have ho : ∃ oc od cd sl, h.get? 609 = some ⟨oc, od, .cls cd, sl⟩ ∧ cd.abstract = false ∧ cd.hasDel = false ∧ cd.mro.isEmpty = false := by
    refine ⟨_, _, _, _, X 609 _ (by k_is), ?_, ?_, ?_⟩ <;> rfl
  obtain ⟨oc, od, cd, sl, hC, e1, e2, e4⟩ := ho
  have made := made_obj (w := w) (h := h)
  have base := static_609 X
  have here := here_609 X
  have top : Looks (model PySem.Challenge.rw_ny0282_01.row.prog w) h (isSubtype (.ref 609) (.type "object")) true := looks_mroIn X (by k_is)
  have typ := typ_609 X
  have F := PySem.F.objNew
  refine codeAny_call_builtin_code (Code.quiet_builtin _ F.quiet) ?_
  simp only [checkBuiltinCall, F.kind, F.split, F.row]
  have args : Bind.checkArgs "object.__new__" ⟨.hand, "object.__new__", "__new__", .cls, []⟩ ⟨[.ref 609], []⟩ = pure () := by kernel_rfl
  rw [args]
  repeat (first | simp only [bne_self_eq_false, Bool.false_eq_true, if_false] | lk)
  refine codeAny_builtin F.entry ?_
  unfold Builtin.«object.__new__»
  have fin : ∀ A', wpAny (model PySem.Challenge.rw_ny0282_01.row.prog w) A' (do
      let d ← if typeHasDict (.ref 609) then some <$> alloc { cls := .type "dict", data := .dict #[] } else pure none
      ret (← newObj (.ref 609) .plain d)) (fun fin s' => match fin with | .done f => R (.ok f) s' | .again c' => c'.quiet = true ∧ codeAny (model PySem.Challenge.rw_ny0282_01.row.prog w) A c' R s') (fun e s' => R (.error e) s') ⟨h, g, d, t, os⟩ := by
    intro A'
    show wpAny _ _ ((alloc emptyDict >>= fun x => pure (some x)) >>= _) _ _ _
    refine wpAny_bind (wpAny_bind (wpAny_alloc (wpAny_pure (wpAny_bind ?_))))
    show wpAny _ _ (newObjAsIs _ _ _) _ _ _
    unfold newObjAsIs classHasDel
    refine wpAny_bind (wpAny_alloc (wpAny_bind (wpAny_bind (wpAny_load (Heap.get?_push_of_some _ (Heap.get?_push_of_some _ hC)) (wpAny_pure ?_)))))
    rw [e2]
    refine wpAny_pure (wpAny_pure ?_)
    show R _ _
    rw [Heap.size_push]
    exact hq
  repeat (first | simp only [e1, Bool.false_eq_true, if_false] | exact fin _ | lk)
theorem getNew_609 {E : Value → Shared → Prop} {s : Shared} {expr : Bool} {Q : Value → Shared → Prop} (X : (hd.heap_1 w.params).In s.heap) (hq : Q (.ref 102) { s with toks := s.toks + 1 }) :
    wpAny (model PySem.Challenge.rw_ny0282_01.row.prog w) A (getAttr (.ref 609) (Str.ofString "__new__") expr) Q E s :=
  cls_bind (K := hd.heap_1 w.params) (mc := .type "type") X (by k_is) (show findCls _ _ _ _ = some (.get (.builtin "staticmethod.__get__") (.ref 106) .none (.ref 609)) by k_is) (wpAny_call (sm_get (K := hd.heap_1 w.params) (s := { s with toks := s.toks + 1 }) (f := .ref 102) (rest := []) X (by k_is) (handed_on (by decide +kernel) hq)))
/-- Behind StringIO's __new__. -/
noncomputable def NewBack (w : World) (A : Around) (v : Value) (R : Result → Shared → Prop) (r : Result) (s' : Shared) : Prop := match r with
  | .ok (.ret o) => ∃ x ox, o = .ref x ∧ s'.heap.get? x = some ox ∧ ox.cls = .ref 609 ∧ (hd.heap_1 w.params).In s'.heap ∧ codeAny (model PySem.Challenge.rw_ny0282_01.row.prog w) A (.call (.ref 379) ⟨[.ref x, v], []⟩) (InitBack x R) s'
  | .ok _ => False
  | .error e => R (.error e) s'
theorem make_609 {v : Value} (X : (hd.heap_1 w.params).In h)
    (hq : codeAny (model PySem.Challenge.rw_ny0282_01.row.prog w) (A.under (.builtin "type.__call__" ⟨[.ref 609, v], []⟩)) (.call (.ref 102) ⟨[.ref 609, v], []⟩) (NewBack w (A.under (.builtin "type.__call__" ⟨[.ref 609, v], []⟩)) v R) ⟨h, g, d, t + 1, os⟩) :
    codeAny (model PySem.Challenge.rw_ny0282_01.row.prog w) A (.call (.ref 609) ⟨[v], []⟩) R ⟨h, g, d, t, os⟩ := by
  have ho : ∃ oc od cd sl, h.get? 609 = some ⟨oc, od, .cls cd, sl⟩ ∧ cd.abstract = false ∧ cd.hasDel = false ∧ cd.mro.isEmpty = false := by
    refine ⟨_, _, _, _, X 609 _ (by k_is), ?_, ?_, ?_⟩ <;> rfl
  obtain ⟨oc, od, cd, sl, hC, e1, e2, e4⟩ := ho
  have made := made_609 X
  have call := call_609 X
  have typ := typ_609 X
  refine codeAny_of_tree ?_
  show wpAny _ _ (callAny (.ref 609) _) _ _ _
  refine nd_load hC ?_
  show wpAny _ _ (callAny.viaDunder (.ref 609) _) _ _ _
  unfold callAny.viaDunder
  refine wpAny_bind (call.at ?_)
  dsimp only
  rw [tc_bind]
  refine wpAny_bind (wpAny_pure (wpAny_bind (wpAny_pure ?_)))
  refine wpAny_pure (a := Fin.again (.call (.builtin "type.__call__") ⟨[.ref 609, v], []⟩)) (And.intro rfl ?_)
  refine codeAny_call_builtin_at (Code.quiet_builtin _ (by decide +kernel)) entry_typeCall (check_slot tc_kind tc_split typ (tc_args _ _ _) ?_)
  unfold Builtin.«type.__call__»
  have hm : Looks (model PySem.Challenge.rw_ny0282_01.row.prog w) h (mroOf (.ref 609)) cd.mro := ((Looks.ld (part := none) hC).andThen .now).andThen .now
  repeat (first | simp only [e4, Bool.false_eq_true, if_false] | with_reducible refine wpAny_call ?_ | refine getNew_609 X ?_ | lk)
  refine codeAny_mono hq fun r s' z => ?_
  rcases r with e | (_ | _ | _ | o) <;> first | exact z | exact z.elim | skip
  obtain ⟨x, ox, rfl, hx, hxc, X', z⟩ := z
  obtain ⟨h', g', d', t', os'⟩ := s'
  have t1 : Looks (model PySem.Challenge.rw_ny0282_01.row.prog w) h' (typeOf (.ref x)) (.ref 609) := (Looks.ld hx).andThen (Looks.of_pure (by rw [hxc]))
  have s1 : Looks (model PySem.Challenge.rw_ny0282_01.row.prog w) h' (isSubtype (.ref 609) (.ref 609)) true := looks_mroIn X' (by k_is)
  have i1 : Looks (model PySem.Challenge.rw_ny0282_01.row.prog w) h' (typeLookup (.ref 609) (Str.ofString "__init__")) (some (.ref 379)) := looks_findIn X' (by k_is)
  have b1 : Looks (model PySem.Challenge.rw_ny0282_01.row.prog w) h' (bindSpecial (.ref 379) (.ref x)) (.ref 379, [.ref x]) := bind_fn X' (.ref x) (by k_is)
  dsimp only
  unfold isInstance callSpecial? specialOf
  repeat (first | with_reducible refine wpAny_call ?_ | lk)
  refine codeAny_mono z fun r s' z => ?_
  rcases r with e | (v | _ | _ | _) <;> first | exact z | exact z.elim | skip
  obtain ⟨rfl, z⟩ := z
  exact wpAny_pure (wpAny_pure z)
end
section
variable {w : World} {A A₀ : Around} {E : Value → Shared → Prop} {s : Shared} {L : Addr} {h₀ base : Heap} {m : Str → Option Value} {news : List (Addr × Obj)} {Q : Value → Shared → Prop} {v : Value}
theorem call_609K (F : Fr h₀ L s.heap m) (X₀ : (hd.heap_1 w.params).In h₀)
    (hq : codeAny (model PySem.Challenge.rw_ny0282_01.row.prog w) (A.under (.builtin "type.__call__" ⟨[.ref 609, v], []⟩)) (.call (.ref 102) ⟨[.ref 609, v], []⟩)
      (NewBack w (A.under (.builtin "type.__call__" ⟨[.ref 609, v], []⟩)) v fun r s' => match r with | .ok (.ret v) => Q v s' | .ok _ => False | .error e => E e s') { s with toks := s.toks + 1 }) :
    wpAny (model PySem.Challenge.rw_ny0282_01.row.prog w) A (call (.ref 609) [v]) Q E s := by
  obtain ⟨hh, g, d, t, os⟩ := s
  exact wpAny_call (make_609 (X₀.keeps F.keep) hq)
theorem new_609K (F : Fr h₀ L s.heap m) (X₀ : (hd.heap_1 w.params).In h₀) (N : News h₀ L s.heap news)
    (h : ∀ x dx h', Fr h₀ L h' m → News h₀ L h' ((x, instObj 609 dx) :: (dx, dictOf [] 0) :: news) → (∀ p ∈ news, p.1 < dx) → dx < x → Q (.ref x) { s with heap := h' }) :
    wpAny (model PySem.Challenge.rw_ny0282_01.row.prog w) A (call (.builtin "object.__new__") [.ref 609]) Q E s := by
  obtain ⟨hh, g, d, t, os⟩ := s
  refine wpAny_call (new_609 (X₀.keeps F.keep) (h _ hh.objs.size _ ((F.push _).push _) ?_ (fun p hp => Heap.lt_size (N p hp).1) (Nat.lt_succ_self _)))
  have := (N.push F emptyDict).push (F.push _) (instObj 609 hh.objs.size)
  rwa [Heap.size_push] at this
theorem newBack_K {A' : Around} {s' : Shared} {x dx : Addr} {R : Result → Shared → Prop} {news' : List (Addr × Obj)} (F : Fr h₀ L s'.heap m) (X₀ : (hd.heap_1 w.params).In h₀) (N : News h₀ L s'.heap news') (q : (x, instObj 609 dx) ∈ news')
    (h : codeAny (model PySem.Challenge.rw_ny0282_01.row.prog w) A' (.call (.ref 379) ⟨[.ref x, v], []⟩) (InitBack x R) s') : NewBack w A' v R (.ok (.ret (.ref x))) s' :=
  ⟨x, _, rfl, N.get q, rfl, X₀.keeps F.keep, h⟩
end
end
section
open PySem PySem.W PySem.Calls PyProof.Rows
open PySem.Builtin PySem.Builtin.Re
section
variable {w : World} {h : Heap} {x : Str} {t : Tok}
theorem target1 (X : (hd.heap_1 w.params).In h) : Looks (model PySem.Challenge.rw_ny0282_01.row.prog w) h (reWholeTarget (.ref 49) (.str x t)) { pattern := .ref 49, string := .str x t, code := code1, text := x.cps, kind := 0, groups := 0, pos := 0, lim := x.cps.size } := Looks.of_peek X (by kernel_rfl)
theorem target2 (X : (hd.heap_1 w.params).In h) : Looks (model PySem.Challenge.rw_ny0282_01.row.prog w) h (reWholeTarget (.ref 54) (.str x t)) { pattern := .ref 54, string := .str x t, code := code2, text := x.cps, kind := 0, groups := 0, pos := 0, lim := x.cps.size } := Looks.of_peek X (by kernel_rfl)
end
section
variable {prog : Program} {w : World} {A : Around} {E : Value → Shared → Prop} {s : Shared} {text : Array Nat} {p st : Value}
theorem start2_none {lim : Nat} : (steps 1 (Sre.forSearch code2 text 0 lim lim false)).outcome = some .failed := by
  unfold Sre.forSearch
  have e1 : Sre.header code2 = (1, 10) := by rfl
  rw [e1]
  dsimp only
  rw [if_pos (by simp)]
  rfl
/-- The next hit of a pattern: where, how long. -/
theorem next2 {Q : Option Sre.M → Shared → Prop} (k : Nat) (hk : k ≤ text.size) (hz : text.size ≤ 100)
    (h1 : ∀ e m, find2 text text.size (text.size - k) k = some e → m.start = e → m.handed = e + len2 text text.size e → Q (some m) s)
    (h0 : find2 text text.size (text.size - k) k = none → Q none s) :
    wpAny (model prog w) A (reNextFound { pattern := p, string := st, code := code2, text := text, kind := 0, groups := 0, pos := 0, lim := text.size } k false) Q E s := by
  unfold reNextFound
  dsimp only
  by_cases c : k < text.size
  · obtain ⟨n, hn, e⟩ := search2 (text := text) c
    cases q : find2 text text.size (text.size - k) k with
    | some e' => rw [q] at e; exact run_matched (k := n) (by omega) e.1 (h1 e' _ q e.2.1 e.2.2)
    | none => rw [q] at e; exact run_failed (k := n) (by omega) e (h0 q)
  · have : k = text.size := by omega
    subst this
    exact run_failed (k := 1) (by omega) start2_none (h0 (by rw [Nat.sub_self]; rfl))
theorem next1 {Q : Option Sre.M → Shared → Prop} (k : Nat) (hk : k ≤ text.size) (hz : text.size ≤ 100)
    (h1 : ∀ e m, find1 text text.size (text.size - k) k = some e → m.start = e → m.handed = e + 1 → Q (some m) s)
    (h0 : find1 text text.size (text.size - k) k = none → Q none s) :
    wpAny (model prog w) A (reNextFound { pattern := p, string := st, code := code1, text := text, kind := 0, groups := 0, pos := 0, lim := text.size } k false) Q E s := by
  unfold reNextFound
  dsimp only
  by_cases c : k < text.size
  · rw [start1 c]
    obtain ⟨n, hn, e⟩ := search1 text text.size (text.size - k) k true (({} : Sre.Seen).add 14) rfl hk
    cases q : find1 text text.size (text.size - k) k with
    | some e' => rw [q] at e; exact run_matched (k := n) (by omega) e.1 (h1 e' _ q e.2.1 e.2.2)
    | none => rw [q] at e; exact run_failed (k := n) (by omega) e (h0 q)
  · have : k = text.size := by omega
    subst this
    exact run_failed (k := 1) (by omega) start1_none (h0 (by rw [Nat.sub_self]; rfl))
end
end
section
open PySem PySem.W PySem.Calls PyProof.Rows
open PySem.Builtin PySem.Builtin.Re
/-- What a pattern's hits are: from a place on, the next one's two ends. -/
structure Hits (w : World) (pat : Addr) (text : Array Nat) (code : Array Nat) (hit : Nat → Option (Nat × Nat)) : Prop where
  target : ∀ {h : Heap} {x : Str} {t : Tok}, x.cps = text → (hd.heap_1 w.params).In h → Looks (model PySem.Challenge.rw_ny0282_01.row.prog w) h (reWholeTarget (.ref pat) (.str x t)) { pattern := .ref pat, string := .str x t, code := code, text := text, kind := 0, groups := 0, pos := 0, lim := text.size }
  next : ∀ {A : Around} {E : Value → Shared → Prop} {s : Shared} {p st : Value} {Q : Option Sre.M → Shared → Prop} (k : Nat), k ≤ text.size → (∀ a b m, hit k = some (a, b) → m.start = a → m.handed = b → Q (some m) s) → (hit k = none → Q none s) →
    wpAny (model PySem.Challenge.rw_ny0282_01.row.prog w) A (reNextFound { pattern := p, string := st, code := code, text := text, kind := 0, groups := 0, pos := 0, lim := text.size } k false) Q E s
  ends : ∀ k a b, k ≤ text.size → hit k = some (a, b) → k ≤ a ∧ a < b ∧ b ≤ text.size
  size : text.size ≤ 64
theorem hits2 (w : World) (text : Array Nat) (hz : text.size ≤ 64) : Hits w 54 text code2 (fun k => (find2 text text.size (text.size - k) k).map fun e => (e, e + len2 text text.size e)) := by
  refine ⟨fun {h x t} e X => by subst e; exact target2 X, fun {A E s p st Q} k hk h1 h0 => ?_, fun k a b hk q => ?_, hz⟩
  · refine next2 k hk (by omega) (fun e m q e1 e2 => h1 e _ m ?_ e1 e2) fun q => h0 ?_
    · rw [q]; rfl
    · rw [q]; rfl
  · cases f : find2 text text.size (text.size - k) k with
    | none => rw [f] at q; cases q
    | some e =>
      rw [f] at q
      simp only [Option.map_some, Option.some.injEq, Prod.mk.injEq] at q
      obtain ⟨rfl, rfl⟩ := q
      have z := find2_spec text text.size _ k e rfl f
      refine ⟨z.1, ?_, ?_⟩
      · unfold len2; split <;> omega
      · unfold len2
        split
        · rename_i c; omega
        · omega
theorem hits1 (w : World) (text : Array Nat) (hz : text.size ≤ 64) : Hits w 49 text code1 (fun k => (find1 text text.size (text.size - k) k).map fun e => (e, e + 1)) := by
  have sp : ∀ (f s e : Nat), text.size - s = f → find1 text text.size f s = some e → s ≤ e ∧ e < text.size := by
    intro f
    induction f with
    | zero => intro s e h q; cases q
    | succ f ih =>
      intro s e h q
      unfold find1 at q
      split at q
      · rename_i c; cases q; exact ⟨Nat.le_refl _, by omega⟩
      · have := ih (s + 1) e (by omega) q
        exact ⟨by omega, this.2⟩
  refine ⟨fun {h x t} e X => by subst e; exact target1 X, fun {A E s p st Q} k hk h1 h0 => ?_, fun k a b hk q => ?_, hz⟩
  · refine next1 k hk (by omega) (fun e m q e1 e2 => h1 e _ m ?_ e1 e2) fun q => h0 ?_
    · rw [q]; rfl
    · rw [q]; rfl
  · cases f : find1 text text.size (text.size - k) k with
    | none => rw [f] at q; cases q
    | some e =>
      rw [f] at q
      simp only [Option.map_some, Option.some.injEq, Prod.mk.injEq] at q
      obtain ⟨rfl, rfl⟩ := q
      have z := sp _ k e rfl f
      exact ⟨z.1, by omega, by omega⟩
/-- The pieces that the loop lays down. -/
noncomputable def pieces (text : Array Nat) (repl : Str) (hit : Nat → Option (Nat × Nat)) : Nat → Nat → List Str
  | 0, _ => []
  | f + 1, k => match hit k with
    | some (a, b) => (if k < a then [⟨text.extract k a⟩] else []) ++ repl :: pieces text repl hit f b
    | none => if k < text.size then [⟨text.extract k text.size⟩] else []
section
variable {w : World} {A : Around} {R : Result → Shared → Prop} {x r : Str} {t tr : Tok} {pat D : Addr} {code : Array Nat} {hit : Nat → Option (Nat × Nat)}
theorem fold_len : ∀ (l : List Str) (n : Nat), l.foldl (fun a y => a + y.length + Str.empty.length) n = n + (l.map Str.length).sum
  | [], n => by simp
  | y :: l, n => by
    rw [List.foldl_cons, fold_len l]
    have : Str.empty.length = 0 := rfl
    simp [this]; omega
theorem joinOk_empty {texts : List Str} (h : (texts.map Str.length).sum ≤ 1000) : JoinOk Str.empty texts = true := by
  unfold JoinOk Str.tooLong
  have e : ∀ g : Nat → Str → Nat, texts.toArray.foldl g 0 = texts.foldl g 0 := fun g => by simp
  rw [e, fold_len]
  rw [Nat.zero_add]
  have : ¬ ((texts.map Str.length).sum > sizeLine) := by rw [sizeLine_eq]; omega
  simp [this]
theorem push_list {A : Around} {E : Value → Shared → Prop} {s : Shared} {Q : Unit → Shared → Prop} {l : List (Str × Tok)} {ep : Nat} {y : Str} {ty : Tok} (hl : l.length ≤ 1000) (hD : s.heap.get? D = some { cls := .type "list", data := .seq (strValues l).toArray ep })
    (h : ∀ h', Heap.SameBut D s.heap h' → h'.get? D = some { cls := .type "list", data := .seq (strValues (l ++ [(y, ty)])).toArray (ep + 1) } → Q () { s with heap := h' }) :
    wpAny (model PySem.Challenge.rw_ny0282_01.row.prog w) A (updateSeq D fun x => x.push (.str y ty)) Q E s := by
  have hv : (strValues l).length = l.length := by simp [strValues]
  have ev : (strValues l).toArray.push (.str y ty) = (strValues (l ++ [(y, ty)])).toArray := by simp [strValues]
  refine wpAny_updateSeq hD rfl (h _ (Heap.SameBut.update ..) ?_) ?_ ?_
  · rw [Heap.get?_update_self _ hD (by rw [mapSeq_push]; rfl), mapSeq_push, ev]
  · rw [List.size_toArray, hv, sizeLine_eq]; omega
  · rw [Array.size_push, List.size_toArray, hv, sizeLine_eq]; omega
theorem loop_spec (H : Hits w pat x.cps code hit) (hr : r.length ≤ 4) : ∀ (f k : Nat) (n : Int) (l : List (Str × Tok)) (ep : Nat) (s : Shared), x.cps.size - k < f → k ≤ x.cps.size → l.length + 3 * (x.cps.size - k) ≤ 800 → (l.map fun p => p.1.length).sum ≤ 5 * k → (hd.heap_1 w.params).In s.heap →
    s.heap.get? D = some { cls := .type "list", data := .seq (strValues l).toArray ep } → (∀ o, (hd.heap_1 w.params).lookup D ≠ some o) →
    (∀ h' tk tc, Heap.SameBut D s.heap h' → R (.ok (.ret (.str (Txt.join Str.empty (l.map (·.1) ++ pieces x.cps r hit f k)) tc))) { s with heap := h', toks := tk }) →
    codeAny (model PySem.Challenge.rw_ny0282_01.row.prog w) A (.builtin "re.Pattern.sub.loop" ⟨[.ref pat, .str x t, .str r tr, rawInt 0, rawInt 0, rawInt n, rawInt k, rawInt k, .bool false, .ref D, .bool false], []⟩) R s := by
  intro f
  induction f with
  | zero => intro k n l ep s h; omega
  | succ f ih =>
    intro k n l ep s h hk hll hsm X hD hne q
    refine codeAny_builtin entry_re_loop ?_
    unfold Builtin.«re.Pattern.sub.loop»
    dsimp only [rawInt]
    refine wpAny_bind (H.target rfl X _ _ _ _ (fun _ _ e => e) ?_)
    rw [if_pos (by rfl)]
    refine wpAny_bind (m := reLiteralCannotBeTurned (.str r tr)) (wpAny_bind (m := asStr? (.str r tr)) (wpAny_pure (wpAny_pure ?_)))
    refine wpAny_bind ?_
    rw [if_neg (by simp), Int.toNat_natCast]
    refine H.next k hk (fun a b m hh e1 e2 => ?_) (fun hn => ?_)
    · have hen := H.ends k a b hk hh
      have keepX : ∀ {h' : Heap} {s' : Heap}, (hd.heap_1 w.params).In s' → Heap.SameBut D s' h' → (hd.heap_1 w.params).In h' := fun {h' s'} X hs c o e => by
        rw [hs.2 c (fun z => hne o (z ▸ e))]; exact X c o e
      dsimp only
      rw [e1, e2]
      have bq : (b == a) = false := by simp; omega
      have ep0 : pieces x.cps r hit (f + 1) k = (if k < a then [⟨x.cps.extract k a⟩] else []) ++ r :: pieces x.cps r hit f b := by
        rw [pieces, hh]
      rw [ep0] at q
      by_cases c : k < a
      · rw [if_pos c]
        rw [if_pos c] at q
        refine wpAny_bind (m := reSlice x.cps 0 k a) (wpAny_mkStr (wpAny_bind (push_list (by omega) hD fun h' hs hg => ?_)) ?_)
        · show wpAny _ _ (updateSeq D (fun z => z.push (.str r tr)) >>= fun _ => again _) _ _ _
          refine wpAny_bind (push_list (by simp; omega) hg fun h'' hs' hg' => wpAny_pure ⟨plainId_quiet plain_re_loop _, ?_⟩)
          rw [bq]
          refine ih b (n + 1) _ _ _ (by omega) (by omega) (by simp; omega) (by have := H.size; simp [Str.length] at hsm hr ⊢; omega) (keepX (keepX X hs) hs') hg' hne fun h3 tk tc hs3 => ?_
          have := q h3 tk tc ((hs.trans hs').trans hs3)
          simpa using this
        · have := H.size
          show (x.cps.extract k a).size ≤ sizeLine
          rw [Array.size_extract, sizeLine_eq]; omega
      · rw [if_neg c]
        rw [if_neg c] at q
        show wpAny _ _ (updateSeq D (fun z => z.push (.str r tr)) >>= fun _ => again _) _ _ _
        refine wpAny_bind (push_list (by omega) hD fun h'' hs' hg' => wpAny_pure ⟨plainId_quiet plain_re_loop _, ?_⟩)
        rw [bq]
        refine ih b (n + 1) _ _ _ (by omega) (by omega) (by simp; omega) (by have := H.size; simp [Str.length] at hsm hr ⊢; omega) (keepX X hs') hg' hne fun h3 tk tc hs3 => ?_
        have := q h3 tk tc (hs'.trans hs3)
        simpa using this
    · have ep0 : pieces x.cps r hit (f + 1) k = if k < x.cps.size then [⟨x.cps.extract k x.cps.size⟩] else [] := by
        rw [pieces, hn]
      rw [ep0] at q
      have z := H.size
      dsimp only
      have joinEnd : ∀ (l' : List (Str × Tok)) (ep' : Nat) (s' : Shared) (A' : Around) (P : Fin → Shared → Prop) (EE : Value → Shared → Prop), (l'.map fun p => p.1.length).sum ≤ 1000 → s'.heap.get? D = some { cls := .type "list", data := .seq (strValues l').toArray ep' } →
          (∀ tk tc, P (.done (.ret (.str (Txt.join Str.empty (l'.map (·.1))) tc))) { s' with toks := tk }) →
          wpAny (model PySem.Challenge.rw_ny0282_01.row.prog w) A' (do
            let joiner ← reSlice x.cps 0 0 0
            let xs ← seqItems? (.ref D)
            let text ← if (xs.getD #[]).isEmpty = true then pure joiner else call (.builtin "str.join") [joiner, .ref D]
            ret text) P EE s' := by
        intro l' ep' s' A' P EE hs hg hP
        refine wpAny_bind (m := reSlice x.cps 0 0 0) (wpAny_mkStr ?_ ?_)
        · unfold seqItems?
          refine wpAny_bind (wpAny_bind (wpAny_load hg (wpAny_pure ?_)))
          have e0 : (⟨x.cps.extract 0 0⟩ : Str) = Str.empty := by simp [Str.empty]
          rw [e0]
          cases l' with
          | nil => exact wpAny_bind (wpAny_pure (wpAny_pure (hP _ _)))
          | cons p0 r0 =>
            refine wpAny_bind ?_
            show wpAny _ _ (call (.builtin "str.join") [.str Str.empty s'.toks, .ref D]) _ _ _
            refine SC.join (D := D) (l := p0 :: r0) ⟨_, hg, rfl, _, rfl⟩ rfl (joinOk_empty ?_) fun t' k' => wpAny_pure (hP _ _)
            simpa [List.map_map, Function.comp_def] using hs
        · show (x.cps.extract 0 0).size ≤ sizeLine
          rw [Array.size_extract, sizeLine_eq]; omega
      by_cases c : k < x.cps.size
      · rw [if_pos c]
        rw [if_pos c] at q
        refine wpAny_bind (m := reSlice x.cps 0 k x.cps.size) (wpAny_mkStr (wpAny_bind (push_list (by omega) hD fun h' hs hg => ?_)) ?_)
        · refine joinEnd _ _ _ _ _ _ ?_ hg fun tk tc => ?_
          · simp [Str.length] at hsm ⊢; omega
          · have := q h' tk tc hs
            simpa using this
        · show (x.cps.extract k x.cps.size).size ≤ sizeLine
          rw [Array.size_extract, sizeLine_eq]; omega
      · rw [if_neg c]
        rw [if_neg c] at q
        refine joinEnd _ _ _ _ _ _ ?_ hD fun tk tc => ?_
        · omega
        · have := q s.heap tk tc ⟨rfl, fun _ _ => rfl⟩
          simpa using this
end
end
section
open PySem PySem.W PySem.Calls PyProof.Rows
open PySem.Builtin PySem.Builtin.Re
theorem named_sub (a b : Value) : reNamed "re.Pattern.sub" "sub" ["repl", "string", "count"] 2 [a, b] [] = pure [some a, some b, none] := by kernel_rfl
theorem noCall_str : typeLookup (.type "str") "__call__" = pure none := by rw [typeLookup_type, builtinLookup_eq_fast]; kernel_rfl
section
variable {w : World} {A : Around} {E : Value → Shared → Prop} {Q : Value → Shared → Prop} {s : Shared} {x r : Str} {t tr : Tok} {pat : Addr} {code : Array Nat} {hit : Nat → Option (Nat × Nat)}
theorem sub_call (H : Hits w pat x.cps code hit) (hr : r.length ≤ 4) (hb : r.cps.contains 92 = false) (X : (hd.heap_1 w.params).In s.heap) {o : Obj} (ho : s.heap.get? pat = some o) (hc : o.cls = .type "re.Pattern")
    (h : ∀ h' tk tc, (∀ b o, s.heap.get? b = some o → h'.get? b = some o) → Q (.str (Txt.join Str.empty (pieces x.cps r hit (x.cps.size + 1) 0)) tc) { s with heap := h', toks := tk }) :
    wpAny (model PySem.Challenge.rw_ny0282_01.row.prog w) A (call (.builtin "re.Pattern.sub") [.ref pat, .str r tr, .str x t]) Q E s := by
  refine wpAny_call (codeAny_call_builtin slot_re_sub.plain entry_re_sub (slot_re_sub.check _ _ _ _ _ _ _ _ ⟨_, ho, hc⟩ (args_re_sub _ _ _) ?_))
  unfold Builtin.«re.Pattern.sub» reSubstitute
  dsimp only
  rw [named_sub]
  refine wpAny_bind (wpAny_pure ?_)
  refine wpAny_bind (wpAny_pure ?_)
  refine wpAny_bind (wpAny_specialOf (typeIs_str _ _ _) noCall_str ?_)
  refine wpAny_bind ?_
  show wpAny _ _ (asStr? (.str r tr) >>= _) _ _ _
  refine wpAny_bind (wpAny_pure ?_)
  refine wpAny_pure ?_
  dsimp only
  rw [hb]
  refine wpAny_bind (wpAny_pure ?_)
  show wpAny _ _ (pure (Value.str r tr, 0) >>= _) _ _ _
  refine wpAny_bind (wpAny_pure ?_)
  refine wpAny_bind (wpAny_holding (H.target rfl X _ _ _ _ (fun _ _ e => e) ?_))
  show wpAny _ _ (newList [] >>= fun l => again _) _ _ _
  refine wpAny_bind (wpAny_newObj_type ?_ ?_)
  · refine wpAny_pure ⟨plainId_quiet plain_re_loop _, ?_⟩
    have hg : (s.heap.push { cls := .type "list", data := .seq #[] }).get? s.heap.objs.size = some { cls := .type "list", data := .seq (strValues []).toArray 0 } := Heap.get?_push_size _ rfl
    refine loop_spec (D := s.heap.objs.size) H hr (x.cps.size + 1) 0 0 [] 0 _ (by omega) (by omega) (by have := H.size; simp; omega) (by simp) (X.keeps fun b o e => Heap.get?_push_of_some _ e) hg (fun o e => absurd (Heap.lt_size (X _ _ e)) (Nat.lt_irrefl _)) fun h' tk tc hs => ?_
    refine h h' tk tc fun b o e => ?_
    exact (hs.2 b (Nat.ne_of_lt (Heap.lt_size e))).trans (Heap.get?_push_of_some _ e)
  · show (0 : Nat) ≤ sizeLine
    exact Nat.zero_le _
end
end
section
open PySem PySem.W PyProof.Rows
/-- Texts joined by nothing: their signs one behind the other. -/
theorem glued_flat : ∀ (l : List Str) (acc : Array Nat), l.foldl (fun acc p => acc ++ Str.empty.cps ++ p.cps) acc = acc ++ (l.flatMap fun y => y.cps.toList).toArray
  | [], acc => by simp
  | y :: l, acc => by
    rw [List.foldl_cons, glued_flat l]
    apply Array.toList_inj.mp
    simp [Str.empty]
theorem join_flat (l : List Str) : Txt.join Str.empty l = ⟨(l.flatMap fun y => y.cps.toList).toArray⟩ := by
  cases l with
  | nil => rfl
  | cons y l =>
    show (⟨(l.foldl (fun acc p => acc ++ Str.empty.cps ++ p.cps) y.cps)⟩ : Str) = _
    rw [glued_flat]
    congr 1
    apply Array.toList_inj.mp
    simp
theorem pieces_flat {text : Array Nat} {repl : Str} {hit : Nat → Option (Nat × Nat)} (P : Nat → List Nat)
    (h : ∀ k, k ≤ text.size → match hit k with
      | some (a, b) => k ≤ a ∧ a < b ∧ b ≤ text.size ∧ P k = (text.toList.drop k).take (a - k) ++ (repl.cps.toList ++ P b)
      | none => P k = text.toList.drop k) : ∀ f k, text.size - k < f → k ≤ text.size → (pieces text repl hit f k).flatMap (fun y => y.cps.toList) = P k
  | 0, k, hf, _ => by omega
  | f + 1, k, hf, hk => by
    have q := h k hk
    unfold pieces
    cases e : hit k with
    | none =>
      rw [e] at q
      dsimp only at q ⊢
      rw [q]
      split
      · simp [List.take_of_length_le]
      · have : k = text.size := by omega
        subst this
        simp
    | some ab =>
      obtain ⟨a, b⟩ := ab
      rw [e] at q
      dsimp only at q ⊢
      obtain ⟨h1, h2, h3, h4⟩ := q
      have ih := pieces_flat P h f b (by omega) h3
      rw [List.flatMap_append, List.flatMap_cons, ih, h4]
      congr 1
      split
      · simp [List.take_drop, Nat.add_sub_cancel' h1]
      · have : a = k := by omega
        subst this
        simp
theorem getD_list (text : Array Nat) (k : Nat) (h : k < text.size) : text.toList.drop k = text.getD k 0 :: text.toList.drop (k + 1) := by
  have h' : k < text.toList.length := by simpa using h
  rw [List.drop_eq_getElem_cons h']
  congr 1
  simp [Array.getD, h]
noncomputable def dotsAt (text : Array Nat) (k : Nat) : List Nat := dots (k == 0 || text.getD (k - 1) 0 == 10) (text.toList.drop k)
theorem dotsAt_find (text : Array Nat) : ∀ (f k : Nat), text.size - k = f → k ≤ text.size → match find1 text text.size f k with
    | some a => k ≤ a ∧ a < text.size ∧ dotsAt text k = (text.toList.drop k).take (a - k) ++ 46 :: 46 :: dotsAt text (a + 1)
    | none => dotsAt text k = text.toList.drop k
  | 0, k, hf, hk => by
    have : k = text.size := by omega
    subst this
    unfold find1 dotsAt
    have e0 : text.toList.drop text.size = [] := by simp
    rw [e0]
    exact dots.eq_1 _
  | f + 1, k, hf, hk => by
    have hlt : k < text.size := by omega
    have hc := getD_list text k hlt
    have ih := dotsAt_find text f (k + 1) (by omega) (by omega)
    have step : hit1 text text.size k = false → dotsAt text k = text.getD k 0 :: dotsAt text (k + 1) := by
      intro hh
      unfold dotsAt
      rw [hc, dots]
      have : ¬ ((k == 0 || text.getD (k - 1) 0 == 10) = true ∧ text.getD k 0 = 46) := by
        rintro ⟨a, b⟩
        unfold hit1 at hh
        rw [a, b] at hh
        simp [hlt] at hh
      rw [if_neg this]
      simp
    unfold find1
    cases hh : hit1 text text.size k with
    | true =>
      simp only [if_true]
      have hh' := hh
      unfold hit1 at hh'
      simp only [Bool.and_eq_true, decide_eq_true_eq, beq_iff_eq] at hh'
      obtain ⟨⟨h1, h2⟩, h3⟩ := hh'
      refine ⟨Nat.le_refl _, hlt, ?_⟩
      rw [Nat.sub_self, List.take_zero, List.nil_append]
      unfold dotsAt
      rw [hc, h1, h3, dots, if_pos ⟨rfl, rfl⟩]
      simp [h3]
    | false =>
      simp only [Bool.false_eq_true, if_false]
      cases q : find1 text text.size f (k + 1) with
      | none =>
        rw [q] at ih
        dsimp only at ih ⊢
        rw [step hh, ih, hc]
      | some a =>
        rw [q] at ih
        dsimp only at ih ⊢
        obtain ⟨i1, i2, i3⟩ := ih
        refine ⟨by omega, i2, ?_⟩
        have e : a - k = (a - (k + 1)) + 1 := by omega
        rw [step hh, i3, hc, e, List.take_succ_cons, List.cons_append]
theorem sub1_val (x : Str) : Txt.join Str.empty (pieces x.cps (Str.ofString "..") (fun k => (find1 x.cps x.cps.size (x.cps.size - k) k).map fun e => (e, e + 1)) (x.cps.size + 1) 0) = ⟨(dots true x.cps.toList).toArray⟩ := by
  rw [join_flat, pieces_flat (dotsAt x.cps) ?_ _ 0 (by omega) (by omega)]
  · simp [dotsAt]
  · intro k hk
    have q := dotsAt_find x.cps _ k rfl hk
    have er : (Str.ofString "..").cps.toList = [46, 46] := by decide +kernel
    cases e : find1 x.cps x.cps.size (x.cps.size - k) k with
    | none => rw [e] at q; exact q
    | some a =>
      rw [e] at q
      dsimp only [Option.map_some] at q ⊢
      rw [er]
      exact ⟨q.1, by omega, by omega, q.2.2⟩
theorem crlf_find (text : Array Nat) : ∀ (f k : Nat), text.size - k = f → k ≤ text.size → match find2 text text.size f k with
    | some a => k ≤ a ∧ a < text.size ∧ crlf (text.toList.drop k) = (text.toList.drop k).take (a - k) ++ 13 :: 10 :: crlf (text.toList.drop (a + len2 text text.size a))
    | none => crlf (text.toList.drop k) = text.toList.drop k
  | 0, k, hf, hk => by
    have : k = text.size := by omega
    subst this
    unfold find2
    have e0 : text.toList.drop text.size = [] := by simp
    rw [e0]
    exact crlf.eq_1
  | f + 1, k, hf, hk => by
    have hlt : k < text.size := by omega
    have hc := getD_list text k hlt
    have ih := crlf_find text f (k + 1) (by omega) (by omega)
    unfold find2
    by_cases hh : text.getD k 0 = 10 ∨ text.getD k 0 = 13
    · rw [if_pos hh]
      refine ⟨Nat.le_refl _, hlt, ?_⟩
      rw [Nat.sub_self, List.take_zero, List.nil_append]
      unfold len2
      by_cases h2 : k + 1 < text.size
      · have hc2 := getD_list text (k + 1) h2
        rw [hc, hc2]
        by_cases c : text.getD k 0 = 13 ∧ text.getD (k + 1) 0 = 10
        · rw [crlf, if_pos c, if_pos ⟨c.1, h2, c.2⟩]
        · rw [crlf, if_neg c, if_pos hh, if_neg (fun z => c ⟨z.1, z.2.2⟩), hc2]
      · have e0 : text.toList.drop (k + 1) = [] := by simp; omega
        rw [hc, e0, if_neg (fun z => h2 z.2.1), e0]
        have e1 : crlf [] = [] := crlf.eq_1
        rw [e1, crlf.eq_2, if_pos hh]
    · rw [if_neg hh]
      have step : crlf (text.toList.drop k) = text.getD k 0 :: crlf (text.toList.drop (k + 1)) := by
        rw [hc]
        cases hd : text.toList.drop (k + 1) with
        | nil => rw [crlf.eq_2, if_neg hh, crlf.eq_1]
        | cons d r => rw [crlf, if_neg (fun z => hh (.inr z.1)), if_neg hh]
      cases q : find2 text text.size f (k + 1) with
      | none =>
        rw [q] at ih
        dsimp only at ih ⊢
        rw [step, ih, ← hc]
      | some a =>
        rw [q] at ih
        dsimp only at ih ⊢
        obtain ⟨i1, i2, i3⟩ := ih
        refine ⟨by omega, i2, ?_⟩
        have e : a - k = (a - (k + 1)) + 1 := by omega
        rw [step, i3, hc, e, List.take_succ_cons, List.cons_append]
theorem sub2_val (x : Str) : Txt.join Str.empty (pieces x.cps (Str.ofString "\r\n") (fun k => (find2 x.cps x.cps.size (x.cps.size - k) k).map fun e => (e, e + len2 x.cps x.cps.size e)) (x.cps.size + 1) 0) = ⟨(crlf x.cps.toList).toArray⟩ := by
  rw [join_flat, pieces_flat (fun k => crlf (x.cps.toList.drop k)) ?_ _ 0 (by omega) (by omega)]
  · simp
  · intro k hk
    have q := crlf_find x.cps _ k rfl hk
    have er : (Str.ofString "\r\n").cps.toList = [13, 10] := by decide +kernel
    cases e : find2 x.cps x.cps.size (x.cps.size - k) k with
    | none => rw [e] at q; exact q
    | some a =>
      rw [e] at q
      dsimp only [Option.map_some] at q ⊢
      rw [er]
      have hen := find2_spec x.cps x.cps.size _ k a rfl e
      refine ⟨q.1, ?_, ?_, q.2.2⟩
      · unfold len2; split <;> omega
      · unfold len2; split <;> omega
theorem crlf_len : ∀ l : List Nat, (crlf l).length ≤ 2 * l.length
  | [] => Nat.le_refl _
  | [c] => by unfold crlf; split <;> simp
  | c :: d :: r => by
    have := crlf_len r
    have := crlf_len (d :: r)
    unfold crlf
    split
    · simp; omega
    · split <;> simp at * <;> omega
theorem dots_len : ∀ (l : List Nat) (b : Bool), (dots b l).length ≤ 2 * l.length
  | [], b => Nat.le_refl _
  | c :: r, b => by
    have h1 := dots_len r false
    have h2 := dots_len r (c == 10)
    unfold dots
    split
    · simp; omega
    · simp; omega
end
section
open PySem PySem.W PySem.Calls PyProof.Rows
section
variable {prog : Program} {w : World} {A : Around} {env : Env} {h₀ : Heap} {Q : Flow → Shared → Prop} {E : Value → Shared → Prop} {s : Shared} {x : Str} {body : List Stmt}
/-- enum_I, what comes behind a turn named. -/
theorem enum_IG {elts : List Expr} {k : Nat} {pos : Pos} {l : Addr} {lo : Obj} {vs : List Value} {n : Nat} {m₀ : Str → Option Value} {news : List (Addr × Obj)} (Inv : Nat → (Str → Option Value) → List (Addr × Obj) → Prop)
    (hh : A.handled = none) (F : Fr h₀ env.locals s.heap m₀) (N : News h₀ env.locals s.heap news) (hm : (l, lo) ∈ news) (hc : lo.cls = .type "list") (hd : lo.data = .seq vs.toArray n)
    (h0 : Inv 0 m₀ news) (hkeep : ∀ i m nw, Inv i m nw → (l, lo) ∈ nw)
    (step : ∀ (I : Addr) i v m' nw T t h tk (oE oI : Obj), vs[i]? = some v → Inv i m' nw → IsTup h T #[.int (i : Int) t, v] → oE.cls = .type "enumerate" → oI.cls = .type "list_iterator" → Fr h₀ env.locals h m' → News h₀ env.locals h ((I + 1, oE) :: (I, oI) :: nw) →
      ∀ (Q1 : Flow → Shared → Prop) (E1 : Value → Shared → Prop), (∀ f s', UnrPostW h₀ env.locals { s with heap := h, toks := tk } [(I + 1, oE), (I, oI)] (Inv (i + 1)) Q f s' → Q1 f s') → (∀ e s', E e s' → E1 e s') → PassesOwn (model prog w) A env E1 →
      wpAny (model prog w) A (assign (.Tuple elts k pos) env (.ref T)) (fun _ s₂ => wpAny (model prog w) A (execs body env) Q1 E1 s₂) E1 { s with heap := h, toks := tk })
    (fin : ∀ m' nw h tk, Inv vs.length m' nw → Fr h₀ env.locals h m' → News h₀ env.locals h nw → Q .next { s with heap := h, toks := tk })
    (hE : PassesOwn (model prog w) A env E := by passes_own) :
    wpAny (model prog w) A (call (.type "enumerate") [.ref l]) (fun xv s₁ => wpAny (model prog w) A (pyIter xv) (fun it s₂ => TurnsAt prog w A h₀ env (.Tuple elts k pos) body Q E it s₂) E s₁) E s :=
  enum_I Inv hh F N hm hc hd h0 hkeep (fun I i v m' nw T t h tk oE oI a b c d e F' N' => step I i v m' nw T t h tk oE oI a b c d e F' N' _ _ (fun _ _ y => y) (fun _ _ y => y) hE) fin
theorem iter_rangeI0Q {r : Addr} {b₀ : Int} {t₀ u₀ v₀ : Tok} {n : Nat} {m₀ : Str → Option Value} {news : List (Addr × Obj)} (Inv : Nat → (Str → Option Value) → List (Addr × Obj) → Prop)
    (hh : A.handled = none) (hr : IsRange s.heap r 0 b₀ 1 t₀ u₀ v₀) (hsmall : Builtin.Range.small 0 b₀ 1 = true) (hn : Builtin.Range.rangeSize 0 b₀ 1 = (n : Int)) (F : Fr h₀ env.locals s.heap m₀) (N : News h₀ env.locals s.heap news)
    (h0 : Inv 0 m₀ news)
    (step : ∀ (I : Addr) (it : Obj) (i : Nat) m' nw t h tk, (∀ p ∈ news, p.1 < I) → i < n → Inv i m' nw → it.cls = .type "range_iterator" → Fr h₀ env.locals h (fun y => if y = x then some (.int (i : Int) t) else m' y) → News h₀ env.locals h ((I, it) :: nw) →
      ∀ (Q1 : Flow → Shared → Prop), (∀ f s', UnrPost h₀ env.locals { s with heap := h, toks := tk } I it (Inv (i + 1)) Q f s' → Q1 f s') →
      wpAny (model prog w) A (execs body env) Q1 E { s with heap := h, toks := tk })
    (fin : ∀ m' nw h tk, Inv n m' nw → Fr h₀ env.locals h m' → News h₀ env.locals h nw → Q .next { s with heap := h, toks := tk }) :
    wpAny (model prog w) A (pyIter (.ref r)) (fun it s₂ => LoopAtV prog w A h₀ env x body Q E it s₂) E s :=
  iter_rangeI0 Inv hh hr hsmall hn F N h0 (fun I it i m' nw t h tk a b c d F' N' => step I it i m' nw t h tk a b c d F' N' _ (fun _ _ y => y)) fin
theorem While_inv2G {L : Addr} {test : Expr} {pos : Pos} {m : Str → Option Value} {news : List (Addr × Obj)} (J : Nat → (Str → Option Value) → List (Addr × Obj) → Prop) {n₀ : Nat}
    (F : Fr h₀ L s.heap m) (N : News h₀ L s.heap news) (hJ : J n₀ m news)
    (turn : ∀ n m₁ news₁ h₁ tk₁, Fr h₀ L h₁ m₁ → News h₀ L h₁ news₁ → J n m₁ news₁ →
      ∀ (Q1 : Flow → Shared → Prop) (Q2 : Shared → Prop) (E1 : Value → Shared → Prop), (∀ f s', WhileStep2 h₀ L s J Q n f s' → Q1 f s') → (∀ s', Q .next s' → Q2 s') → (∀ e s', E e s' → E1 e s') → PassesOwn (model prog w) A env E1 →
      wpAny (model prog w) A (isTrue test env (eval test env)) (fun b s₂ =>
        if b = true then wpAny (model prog w) A (execs body env) Q1 E1 s₂ else Q2 s₂) E1 { s with heap := h₁, toks := tk₁ })
    (hE : PassesOwn (model prog w) A env E := by passes_own) :
    wpAny (model prog w) A (exec (.While test body [] pos) env) Q E s :=
  While_inv2 J F N hJ (fun n m₁ news₁ h₁ tk₁ a b c => turn n m₁ news₁ h₁ tk₁ a b c _ _ _ (fun _ _ y => y) (fun _ y => y) (fun _ _ y => y) hE) hE
/-- What comes behind, named. -/
theorem wp_gen {α : Type} {M : Model} {e : Sem α} {Q : α → Shared → Prop} {E : Value → Shared → Prop} (h : ∀ (Q1 : α → Shared → Prop), (∀ a s', Q a s' → Q1 a s') → wpAny M A e Q1 E s) : wpAny M A e Q E s := h Q fun _ _ x => x
end
end
open PySem PySem.W PySem.Calls PyProof.Rows
local macro_rules | `(tactic| k_room) => `(tactic| (first | exact room1 (by assumption) (by decide) | exact room2 (by assumption) (by decide) | exact room3 (by assumption) (by decide) | ((try simp only [depth_under_make, depth_under_kw, depth_in1, depth_deeper, depth_caller]); (try dsimp only); omega)))
local macro_rules | `(tactic| walk_at $s:str) => `(tactic| k_extra $(Lean.Syntax.mkStrLit (s.getString ++ "!")))
local macro_rules | `(tactic| k_ne) => `(tactic| (first | assumption | (refine Ne.symm ?_; assumption)))
local macro_rules | `(tactic| k_all) => `(tactic| assumption)
section
open PySem PySem.W PySem.Calls PyProof.Rows
theorem reg_S1_1 : True := by
  k_with_none
  (k_with "S enter!" => (
  case ho => k_is
  case hcd => k_is
  case hroom => (first | exact room1 (by assumption) (by decide) | omega | (show _ < _; (try dsimp only); omega))
  case hbind => first | exact BindsTo.of_eq rfl | exact binds_K (by assumption) rfl (by k_is) rfl rfl rfl
  case hloc => exact locs rfl
  case c2 => rfl
  case c3 => rfl
  case c4 => rfl
  case c5 => decide))
  (k_with "S end!" => ((try dsimp only); repeat (k_unfold; (try dsimp only))))
  (k_with "call builtin:str.find!" => (with_unfolding_all refine find4 rfl ?_))
  trivial
section
variable {w : World} {A : Around} {outer : List Env} {s : Shared} {base : Heap} {mean : ExcName → Option Value} {mg mb : Str → Option Value} {R : Result → Shared → Prop} {sx sd : Addr} {t tp : Tok} {sk : SK} {txt : List Nat}
set_option maxHeartbeats 8000000 in
theorem read_spec {c : Nat} {r : List Nat} {x : Str}
    (G : Gr w mean mg mb base) (hlt : @LT.lt Nat _ sd sx) (O : Out A outer base s.heap [sx, sd]) (H : Holds s.heap [(sx, instObj 609 sd), (sd, sioR w sk txt (c :: r) tp)]) (hdep : A.depth + 10 < recursionLimit)
    (hp : (c :: r) <:+ txt) (hl : txt.length ≤ 64) (hx : x = ⟨#[c]⟩)
    (k : ∀ h' tk tc tp, Kept [sx, sd] s.heap h' → Holds h' [(sx, instObj 609 sd), (sd, sioR w sk txt r tp)] → R (.ok (.ret (.str x tc))) { s with heap := h', toks := tk }) :
    codeAny (model PySem.Challenge.rw_ny0282_01.row.prog w) A (.call (.ref 555) ⟨[.ref sx, .int 1 t], []⟩) R s := by
  obtain ⟨ahd, adp, afr, agd, aun⟩ := A
  have eA : afr = some outer := O.stack
  subst eA
  have hdep2 := hdep
  dsimp only at hdep2
  subst hx
  have hg := suffix_get hp
  have hle := hp.length_le
  have hn : (txt.length - r.length : Nat) = (txt.length - (c :: r).length) + 1 := by simp at hle ⊢; omega
  simp only [sioR] at k H
  rw [hn] at k
  generalize hpp : txt.length - (c :: r).length = p at *
  replace hg : txt[p]? = some c := hg
  have hpl : (p : Int) < ((⟨txt.toArray⟩ : Str).length : Int) := by
    obtain ⟨hl, e⟩ := List.getElem?_eq_some_iff.mp hg
    simp [Str.length]; omega
  have hll : ((⟨txt.toArray⟩ : Str).length : Int) ≤ 64 := by
    simp [Str.length]; omega
  clear hn hpp
  (try simp only [sioR] at H)
  w_on
  w_top on
  have Xs := (G.keeps O.stays).X
  refine' call_S (binds := [(Str.ofString "self", .ref sx), (Str.ofString "size", .int 1 t)]) G O H ?ho ?hcd ?hroom ?hbind ?hloc ?_ ?c2 ?c3 ?c4 ?c5
  walk_at "S enter"
  clear Xs
  intro g L' h₁ eg F N B G' lt
  obtain ⟨T', GL', ⟨bm1, bm2, M'⟩, X'⟩ := G'
  try dsimp only
  (try generalize s.toks + _ = tk0)
  try k_fold
  simp only [AllLt, and_true] at lt
  k_steps
  all_goals walk_at "S end"
  · rw [slice_one txt p c hg]
    exact k _ _ _ _ (kept_of eg (by assumption)) (fun p hp => ((by assumption : News _ _ _ _) p hp).1)
  · have q : (⟨txt.toArray⟩ : Str).length = p + 1 := by omega
    (rename News _ _ _ _ => nE')
    rw [q] at nE' ⊢
    rw [show ((p + 1 : Nat) : Int) = (p : Int) + 1 from by omega, slice_one txt p c hg]
    exact k _ _ _ _ (kept_of eg (by assumption)) (fun p hp => (nE' p hp).1)
set_option maxHeartbeats 8000000 in
theorem readE_spec
    (G : Gr w mean mg mb base) (hlt : @LT.lt Nat _ sd sx) (O : Out A outer base s.heap [sx, sd]) (H : Holds s.heap [(sx, instObj 609 sd), (sd, sioR w sk txt [] tp)]) (hdep : A.depth + 10 < recursionLimit)
    (hl : txt.length ≤ 64)
    (k : ∀ h' tk tc, Kept [sx, sd] s.heap h' → Holds h' [(sx, instObj 609 sd), (sd, sioR w sk txt [] tp)] → R (.ok (.ret (.str (Str.ofString "") tc))) { s with heap := h', toks := tk }) :
    codeAny (model PySem.Challenge.rw_ny0282_01.row.prog w) A (.call (.ref 555) ⟨[.ref sx, .int 1 t], []⟩) R s := by
  obtain ⟨ahd, adp, afr, agd, aun⟩ := A
  have eA : afr = some outer := O.stack
  subst eA
  have hdep2 := hdep
  dsimp only at hdep2
  have hpl : ((⟨txt.toArray⟩ : Str).length : Int) ≤ ((txt.length - ([] : List Nat).length : Nat) : Int) := by
    simp [Str.length]
  have hll : ((⟨txt.toArray⟩ : Str).length : Int) ≤ 64 := by
    simp [Str.length]; omega
  (try simp only [sioR] at H)
  w_on
  w_top on
  have Xs := (G.keeps O.stays).X
  refine' call_S (binds := [(Str.ofString "self", .ref sx), (Str.ofString "size", .int 1 t)]) G O H ?ho ?hcd ?hroom ?hbind ?hloc ?_ ?c2 ?c3 ?c4 ?c5
  walk_at "S enter"
  clear Xs
  intro g L' h₁ eg F N B G' lt
  obtain ⟨T', GL', ⟨bm1, bm2, M'⟩, X'⟩ := G'
  try dsimp only
  (try generalize s.toks + _ = tk0)
  try k_fold
  simp only [AllLt, and_true] at lt
  k_steps
  all_goals walk_at "S end"
  (rename News _ _ _ _ => nE')
  exact k _ _ _ (kept_of eg (by assumption)) (fun p hp => (nE' p hp).1)
set_option maxHeartbeats 8000000 in
theorem line_spec {rest : List Nat}
    (G : Gr w mean mg mb base) (hlt : @LT.lt Nat _ sd sx) (O : Out A outer base s.heap [sx, sd]) (H : Holds s.heap [(sx, instObj 609 sd), (sd, sioR w sk txt rest tp)]) (hdep : A.depth + 20 < recursionLimit)
    (hp : rest <:+ txt) (hr : rest ≠ []) (hl : txt.length ≤ 64)
    (k : ∀ h' tk x tc tp, Kept [sx, sd] s.heap h' → Holds h' [(sx, instObj 609 sd), (sd, sioR w sk txt (toEol rest) tp)] → R (.ok (.ret (.str x tc))) { s with heap := h', toks := tk }) :
    codeAny (model PySem.Challenge.rw_ny0282_01.row.prog w) A (.call (.ref 563) ⟨[.ref sx], []⟩) R s := by
  obtain ⟨ahd, adp, afr, agd, aun⟩ := A
  have eA : afr = some outer := O.stack
  subst eA
  have hdep2 := hdep
  dsimp only at hdep2
  have hle := hp.length_le
  have hfe := find_eol hp hr
  have hr0 : 0 < rest.length := List.length_pos_iff.mpr hr
  have hpl : ((txt.length - rest.length : Nat) : Int) < ((⟨txt.toArray⟩ : Str).length : Int) := by
    simp [Str.length]; omega
  have hll : ((⟨txt.toArray⟩ : Str).length : Int) ≤ 64 := by
    simp [Str.length]; omega
  have hl2 : (⟨txt.toArray⟩ : Str).length = txt.length := by simp [Str.length]
  (try simp only [sioR] at H)
  w_on
  w_top on
  have Xs := (G.keeps O.stays).X
  refine' call_S (binds := [(Str.ofString "self", .ref sx), (Str.ofString "size", .int (-1) 989)]) G O H ?ho ?hcd ?hroom ?hbind ?hloc ?_ ?c2 ?c3 ?c4 ?c5
  walk_at "S enter"
  clear Xs
  intro g L' h₁ eg F N B G' lt
  obtain ⟨T', GL', ⟨bm1, bm2, M'⟩, X'⟩ := G'
  try dsimp only
  (try generalize s.toks + _ = tk0)
  try k_fold
  simp only [AllLt, and_true] at lt
  k_steps
  all_goals walk_at "S end"
  · (rename News _ _ _ _ => nE')
    have e : Txt.find3 ⟨txt.toArray⟩ (Str.ofString "\n") ((txt.length - rest.length : Nat) : Int) + ((1 : Nat) : Int) = ((txt.length - (toEol rest).length : Nat) : Int) := by
      rcases hfe with ⟨h1, _⟩ | ⟨_, h2⟩
      · omega
      · exact h2
    rw [e] at nE'
    exact k _ _ _ _ _ (kept_of eg (by assumption)) (fun p hp => (nE' p hp).1)
  · (rename News _ _ _ _ => nE')
    have e : toEol rest = [] := by
      rcases hfe with ⟨_, h1⟩ | ⟨h2, _⟩
      · exact h1
      · omega
    rw [e] at k
    rw [hl2] at nE'
    exact k _ _ _ _ _ (kept_of eg (by assumption)) (fun p hp => (nE' p hp).1)
end
section
variable {w : World} {A₀ A : Around} {env : Env} {outer : List Env} {s : Shared} {base h₀ : Heap} {mean : ExcName → Option Value} {mg mb m : Str → Option Value} {news : List (Addr × Obj)} {gl : Obj → List (Addr × Obj)} {Q : Value → Shared → Prop} {E : Value → Shared → Prop} {L sx sd : Addr} {t tp : Tok} {sk : SK} {txt : List Nat}
theorem two_in {a b : Addr} {o x : Obj} {news : List (Addr × Obj)} (h1 : (a, o) ∈ news) (h2 : (b, x) ∈ news) : ∀ p ∈ [(a, o), (b, x)], p ∈ news := fun p hp => by
  rcases List.mem_cons.mp hp with rfl | hp
  · exact h1
  · rcases List.mem_cons.mp hp with rfl | hp
    · exact h2
    · cases hp
/-- The second of two objects turned. -/
theorem back_two {h h' h₀ : Heap} {L a d : Addr} {m : Str → Option Value} {news : List (Addr × Obj)} {o x x' : Obj} {gl : Obj → List (Addr × Obj)} (F : Fr h₀ L h m) (N : News h₀ L h news) (h1 : (a, o) ∈ news) (u : UpdF d x news gl) (k : Kept [a, d] h h') (hh : Holds h' [(a, o), (d, x')]) :
    Fr h₀ L h' m ∧ News h₀ L h' (gl x') := by
  have u' := updF_upd u x'
  refine back_upd (pre := [(a, o), (d, x)]) (post := [(a, o), (d, x')]) F N (two_in h1 (Upd.mem' u').1) k hh ?_ ?_ (by simp) u'
  · intro p hp; simp at hp ⊢; rcases hp with rfl | rfl <;> simp
  · intro p hp; simp at hp ⊢; rcases hp with rfl | rfl <;> simp
theorem read_K {c : Nat} {r : List Nat} {x : Str} (B : Below A₀ base outer h₀) (G : Gr w mean mg mb base) (F : Fr h₀ L s.heap m) (N : News h₀ L s.heap news) (hA : A.frames = some (env :: outer)) (hf : env.frame = some L) (hke : env.scope.kind = .function) (hdep : A.depth + 10 < recursionLimit)
    (q1 : (sx, instObj 609 sd) ∈ news) (hlt : @LT.lt Nat _ sd sx) (u : UpdF sd (sioR w sk txt (c :: r) tp) news gl) (hp : (c :: r) <:+ txt) (hl : txt.length ≤ 64) (hx : x = ⟨#[c]⟩)
    (h : ∀ h' tk tc tp, Fr h₀ L h' m → News h₀ L h' (gl (sioR w sk txt r tp)) → Q (.str x tc) { s with heap := h', toks := tk }) :
    wpAny (model PySem.Challenge.rw_ny0282_01.row.prog w) A (call (.ref 555) [.ref sx, .int 1 t]) Q E s := by
  obtain ⟨O, H⟩ := out_of B F N hA hf hke (two_in q1 (Upd.mem' (updF_upd u (sioR w sk txt (c :: r) tp))).1)
  refine wpAny_call (read_spec G hlt O H hdep hp hl hx fun h' tk tc tp' kp hh => ?_)
  obtain ⟨F', N'⟩ := back_two F N q1 u kp hh
  exact h h' tk tc tp' F' N'
theorem readE_K (B : Below A₀ base outer h₀) (G : Gr w mean mg mb base) (F : Fr h₀ L s.heap m) (N : News h₀ L s.heap news) (hA : A.frames = some (env :: outer)) (hf : env.frame = some L) (hke : env.scope.kind = .function) (hdep : A.depth + 10 < recursionLimit)
    (q1 : (sx, instObj 609 sd) ∈ news) (hlt : @LT.lt Nat _ sd sx) (u : UpdF sd (sioR w sk txt [] tp) news gl) (hl : txt.length ≤ 64)
    (h : ∀ h' tk tc, Fr h₀ L h' m → News h₀ L h' (gl (sioR w sk txt [] tp)) → Q (.str (Str.ofString "") tc) { s with heap := h', toks := tk }) :
    wpAny (model PySem.Challenge.rw_ny0282_01.row.prog w) A (call (.ref 555) [.ref sx, .int 1 t]) Q E s := by
  obtain ⟨O, H⟩ := out_of B F N hA hf hke (two_in q1 (Upd.mem' (updF_upd u (sioR w sk txt [] tp))).1)
  refine wpAny_call (readE_spec G hlt O H hdep hl fun h' tk tc kp hh => ?_)
  obtain ⟨F', N'⟩ := back_two F N q1 u kp hh
  exact h h' tk tc F' N'
theorem line_K {rest : List Nat} (B : Below A₀ base outer h₀) (G : Gr w mean mg mb base) (F : Fr h₀ L s.heap m) (N : News h₀ L s.heap news) (hA : A.frames = some (env :: outer)) (hf : env.frame = some L) (hke : env.scope.kind = .function) (hdep : A.depth + 20 < recursionLimit)
    (q1 : (sx, instObj 609 sd) ∈ news) (hlt : @LT.lt Nat _ sd sx) (u : UpdF sd (sioR w sk txt rest tp) news gl) (hp : rest <:+ txt) (hr : rest ≠ []) (hl : txt.length ≤ 64)
    (h : ∀ h' tk x tc tp, Fr h₀ L h' m → News h₀ L h' (gl (sioR w sk txt (toEol rest) tp)) → Q (.str x tc) { s with heap := h', toks := tk }) :
    wpAny (model PySem.Challenge.rw_ny0282_01.row.prog w) A (call (.ref 563) [.ref sx]) Q E s := by
  obtain ⟨O, H⟩ := out_of B F N hA hf hke (two_in q1 (Upd.mem' (updF_upd u (sioR w sk txt rest tp))).1)
  refine wpAny_call (line_spec G hlt O H hdep hp hr hl fun h' tk x tc tp' kp hh => ?_)
  obtain ⟨F', N'⟩ := back_two F N q1 u kp hh
  exact h h' tk x tc tp' F' N'
end
end
section
open PySem PySem.W PySem.Calls PyProof.Rows
/-- What a lexer's dict holds at a name. -/
inductive LexAt (lk : LK) (ins inf st : Value) (pb : Addr) (ln tok : Value) (fs : Addr) : Str → Value → Prop
  | state : LexAt lk ins inf st pb ln tok fs (Str.ofString "state") st
  | whitespace : LexAt lk ins inf st pb ln tok fs (Str.ofString "whitespace") (.str (Str.ofString " \t\r\n") (lk.v 6))
  | commenters : LexAt lk ins inf st pb ln tok fs (Str.ofString "commenters") (.str (Str.ofString "#") (lk.v 4))
  | posix : LexAt lk ins inf st pb ln tok fs (Str.ofString "posix") (.bool true)
  | debug : LexAt lk ins inf st pb ln tok fs (Str.ofString "debug") (.int 0 (lk.v 14))
  | quotes : LexAt lk ins inf st pb ln tok fs (Str.ofString "quotes") (.str (Str.ofString "'\"") (lk.v 8))
  | escape : LexAt lk ins inf st pb ln tok fs (Str.ofString "escape") (.str (Str.ofString "\\") (lk.v 9))
  | token : LexAt lk ins inf st pb ln tok fs (Str.ofString "token") tok
  | split : LexAt lk ins inf st pb ln tok fs (Str.ofString "whitespace_split") (.bool true)
  | lineno : LexAt lk ins inf st pb ln tok fs (Str.ofString "lineno") ln
  | instream : LexAt lk ins inf st pb ln tok fs (Str.ofString "instream") ins
  | infile : LexAt lk ins inf st pb ln tok fs (Str.ofString "infile") inf
  | pushback : LexAt lk ins inf st pb ln tok fs (Str.ofString "pushback") (.ref pb)
  | filestack : LexAt lk ins inf st pb ln tok fs (Str.ofString "filestack") (.ref fs)
  | eof : LexAt lk ins inf st pb ln tok fs (Str.ofString "eof") .none
  | source : LexAt lk ins inf st pb ln tok fs (Str.ofString "source") .none
  | punct : LexAt lk ins inf st pb ln tok fs (Str.ofString "_punctuation_chars") (.str (Str.ofString "") (lk.v 18))
  | wordchars : LexAt lk ins inf st pb ln tok fs (Str.ofString "wordchars") (.str (Str.ofString "abcdfeghijklmnopqrstuvwxyzABCDEFGHIJKLMNOPQRSTUVWXYZ0123456789_ßàáâãäåæçèéêëìíîïðñòóôõöøùúûüýþÿÀÁÂÃÄÅÆÇÈÉÊËÌÍÎÏÐÑÒÓÔÕÖØÙÚÛÜÝÞ") (lk.v 5))
/-- What a store makes of it. -/
inductive LexPut (w : World) (lk : LK) (ins inf st : Value) (pb : Addr) (ln tok : Value) (fs : Addr) : Str → Value → Obj → Prop
  | state (v : Value) : LexPut w lk ins inf st pb ln tok fs (Str.ofString "state") v (lexD w lk ins inf v pb ln tok fs)
  | token (v : Value) : LexPut w lk ins inf st pb ln tok fs (Str.ofString "token") v (lexD w lk ins inf st pb ln v fs)
  | lineno (v : Value) : LexPut w lk ins inf st pb ln tok fs (Str.ofString "lineno") v (lexD w lk ins inf st pb v tok fs)
  | instream (v : Value) : LexPut w lk ins inf st pb ln tok fs (Str.ofString "instream") v (lexD w lk v inf st pb ln tok fs)
  | infile (v : Value) : LexPut w lk ins inf st pb ln tok fs (Str.ofString "infile") v (lexD w lk ins v st pb ln tok fs)
theorem updF_at {d : Addr} {o : Obj} {l : List (Addr × Obj)} {g : Obj → List (Addr × Obj)} (u : UpdF d o l g) : (d, o) ∈ l := (Upd.mem' (updF_upd u o)).1
section
variable {w : World} {A : Around} {E : Value → Shared → Prop} {s : Shared} {lx ld L : Addr} {h₀ : Heap} {m : Str → Option Value} {news : List (Addr × Obj)} {gl : Obj → List (Addr × Obj)} {name : Str} {v : Value} {o' : Obj} {lk : LK} {ins inf st : Value} {pb : Addr} {ln tok : Value} {fs : Addr}
theorem lex_get {expr : Bool} {Q : Value → Shared → Prop} (F : Fr h₀ L s.heap m) (X₀ : (hd.heap_1 w.params).In h₀) (N : News h₀ L s.heap news) (h1 : (lx, instObj 744 ld) ∈ news) (h2 : (ld, lexD w lk ins inf st pb ln tok fs) ∈ news)
    (p : LexAt lk ins inf st pb ln tok fs name v) (hv : handedIn v = true) (h : Q v { s with toks := s.toks + 1 }) : wpAny (model PySem.Challenge.rw_ny0282_01.row.prog w) A (getAttr (.ref lx) name expr) Q E s := by
  have I := InstAt.of_news N h1 h2
  cases p
  all_goals (
    refine' get_own ?k1 ?k2 ?k3 ?k4 ?k5 ?k6 ?k7 ?k8 ?k9 ?_
    case k1 => exact F
    case k2 => exact X₀
    case k3 => exact I
    case k4 => k_is
    case k5 => k_is
    case k6 => k_is
    case k7 => k_is
    case k8 => k_get
    case k9 => exact hv
    exact h)
theorem lex_set {Q : Unit → Shared → Prop} (F : Fr h₀ L s.heap m) (X₀ : (hd.heap_1 w.params).In h₀) (N : News h₀ L s.heap news) (h1 : (lx, instObj 744 ld) ∈ news) (u : UpdF ld (lexD w lk ins inf st pb ln tok fs) news gl)
    (p : LexPut w lk ins inf st pb ln tok fs name v o') (h : ∀ h', Fr h₀ L h' m → News h₀ L h' (gl o') → Q () { s with heap := h', toks := s.toks + 2 }) : wpAny (model PySem.Challenge.rw_ny0282_01.row.prog w) A (setAttr (.ref lx) name v) Q E s := by
  have I := InstAt.of_news N h1 (updF_at u)
  cases p
  all_goals (
    refine' set_dict ?k1 ?k2 ?k3 ?k4 ?k5 ?k6 ?k7 ?k8 ?k9 ?k10 ?k11 ?k12 ?k13 ?_
    case k1 => exact F
    case k2 => exact X₀
    case k3 => exact N
    case k4 => exact I
    case k5 => exact rfl
    case k6 => k_is
    case k7 => k_is
    case k8 => k_is
    case k9 => k_is
    case k10 => k_get
    case k11 => k_put
    case k12 => exact updF_upd u _
    case k13 => exact Nat.le_of_ble_eq_true rfl
    exact h)
theorem lex_self {cn : Str} {cs : Scope} {a : Addr} {ccd : Value} {cl : List (Str × Addr)} {nm : Str} {np pos : Pos} {Q : Value → Shared → Prop} (F : Fr h₀ L s.heap m) (X₀ : (hd.heap_1 w.params).In h₀) (N : News h₀ L s.heap news) (hm : m nm = some (.ref lx)) (h1 : (lx, instObj 744 ld) ∈ news) (h2 : (ld, lexD w lk ins inf st pb ln tok fs) ∈ news)
    (p : LexAt lk ins inf st pb ln tok fs name v) (hv : handedIn v = true) (h : Q v { s with toks := s.toks + 1 })
    (hk : cs.kind = .function := by rfl) (hx : (envX cn cs L a ccd cl).kindOf nm = some .local := by rfl) (hd : (nm == ("__debug__" : Str)) = false := by decide) :
    wpAny (model PySem.Challenge.rw_ny0282_01.row.prog w) A (eval (.Attribute (.Name nm np) name pos) (envX cn cs L a ccd cl)) Q E s :=
  Attribute_name (nameX_L F hm (lex_get F X₀ N h1 h2 p hv h) hk hx hd)
end
end
section
open PySem PySem.W PySem.Calls PyProof.Rows
theorem reg_Lp2_1 : True := by
  k_with_none
  (k_with "S enter!" => (
  case ho => k_is
  case hcd => k_is
  case hroom => (first | exact room1 (by assumption) (by decide) | omega | (show _ < _; (try dsimp only); omega))
  case hbind => first | exact BindsTo.of_eq rfl | exact binds_K (by assumption) rfl (by k_is) rfl rfl rfl
  case hloc => exact locs rfl
  case c2 => rfl
  case c3 => rfl
  case c4 => rfl
  case c5 => decide))
  (k_with "S end!" => ((try dsimp only); repeat (k_unfold; (try dsimp only))))
  trivial
section
variable {w : World} {A : Around} {outer : List Env} {s : Shared} {base : Heap} {mean : ExcName → Option Value} {mg mb : Str → Option Value} {R : Result → Shared → Prop} {lx ld : Addr} {lk : LK} {ins inf st : Value} {pb : Addr} {ln tok : Value} {fs : Addr}
set_option maxHeartbeats 3000000 in
theorem punct_spec (G : Gr w mean mg mb base) (O : Out A outer base s.heap [lx, ld]) (H : Holds s.heap [(lx, instObj 744 ld), (ld, lexD w lk ins inf st pb ln tok fs)]) (hdep : A.depth + 5 < recursionLimit)
    (k : ∀ h' tk, Kept [lx, ld] s.heap h' → Holds h' [(lx, instObj 744 ld), (ld, lexD w lk ins inf st pb ln tok fs)] → R (.ok (.ret (.str (Str.ofString "") (lk.v 18)))) { s with heap := h', toks := tk }) :
    codeAny (model PySem.Challenge.rw_ny0282_01.row.prog w) A (.call (.ref 675) ⟨[.ref lx], []⟩) R s := by
  obtain ⟨ahd, adp, afr, agd, aun⟩ := A
  have eA : afr = some outer := O.stack
  subst eA
  have hdep2 := hdep
  dsimp only at hdep2
  w_on
  w_top on
  have Xs := (G.keeps O.stays).X
  refine' call_S (binds := [(Str.ofString "self", .ref lx)]) G O H ?ho ?hcd ?hroom ?hbind ?hloc ?_ ?c2 ?c3 ?c4 ?c5
  walk_at "S enter"
  clear Xs
  intro g L' h₁ eg F N B G' lt
  obtain ⟨T', GL', ⟨bm1, bm2, M'⟩, X'⟩ := G'
  try dsimp only
  (try generalize s.toks + _ = tk0)
  try k_fold
  simp only [AllLt, and_true] at lt
  k_steps
  all_goals walk_at "S end"
  (rename News _ _ _ _ => nE')
  exact k _ _ (kept_of eg (by assumption)) (fun p hp => (nE' p hp).1)
end
section
variable {w : World} {A₀ A : Around} {env : Env} {outer : List Env} {s : Shared} {base h₀ : Heap} {mean : ExcName → Option Value} {mg mb m : Str → Option Value} {news : List (Addr × Obj)} {gl : Obj → List (Addr × Obj)} {Q : Value → Shared → Prop} {E : Value → Shared → Prop} {L lx ld : Addr} {lk : LK} {ins inf st : Value} {pb : Addr} {ln tok : Value} {fs : Addr}
theorem punct_K {expr : Bool} (B : Below A₀ base outer h₀) (G : Gr w mean mg mb base) (F : Fr h₀ L s.heap m) (N : News h₀ L s.heap news) (hA : A.frames = some (env :: outer)) (hf : env.frame = some L) (hke : env.scope.kind = .function) (hdep : A.depth + 10 < recursionLimit)
    (q1 : (lx, instObj 744 ld) ∈ news) (u : UpdF ld (lexD w lk ins inf st pb ln tok fs) news gl)
    (h : ∀ h' tk, Fr h₀ L h' m → News h₀ L h' (gl (lexD w lk ins inf st pb ln tok fs)) → Q (.str (Str.ofString "") (lk.v 18)) { s with heap := h', toks := tk }) :
    wpAny (model PySem.Challenge.rw_ny0282_01.row.prog w) A (getAttr (.ref lx) (Str.ofString "punctuation_chars") expr) Q E s := by
  obtain ⟨O, H⟩ := out_of (A := A.in1) (pre := [(lx, instObj 744 ld), (ld, lexD w lk ins inf st pb ln tok fs)]) B F N hA hf hke (two_in q1 (updF_at u))
  have X := (G.keeps B.stays).X
  have I := InstAt.of_news N q1 (updF_at u)
  refine' get_prop ?k1 ?k2 ?k3 ?k4 ?k5 ?k6 ?k7 ?k8 ?k9 ?_
  case k1 => exact F
  case k2 => exact X
  case k3 => exact I
  case k4 => k_is
  case k5 => k_is
  case k6 => k_is
  case k7 => k_is
  case k8 => k_is
  case k9 => k_is
  refine punct_spec G (s := { s with toks := s.toks + 1 }) O H (by exact room1 hdep (by decide)) fun h' tk kp hh => ?_
  obtain ⟨F', N'⟩ := back_upd (pre := [(lx, instObj 744 ld), (ld, lexD w lk ins inf st pb ln tok fs)]) (post := [(lx, instObj 744 ld), (ld, lexD w lk ins inf st pb ln tok fs)]) F N (two_in q1 (updF_at u)) kp hh (fun p hp => List.mem_map_of_mem hp) (fun p hp => .inr hp) (.tail _ (.head _)) (updF_upd u (lexD w lk ins inf st pb ln tok fs))
  exact handed_on rfl (h h' tk F' N')
end
section
variable {w : World} {A : Around} {s : Shared} {h₀ : Heap} {m : Str → Option Value} {news : List (Addr × Obj)} {Q : Flow → Shared → Prop} {E : Value → Shared → Prop} {L lx ld : Addr} {lk : LK} {ins inf st : Value} {pb : Addr} {ln tok : Value} {fs : Addr} {cn : Str} {cs : Scope} {a : Addr} {ccd : Value} {cl : List (Str × Addr)} {nm n1 name x y : Str} {np npos apos cpos pos : Pos} {t u : Tok} {body orelse : List Stmt}
theorem if_in (b : Bool) (F : Fr h₀ L s.heap m) (X₀ : (hd.heap_1 w.params).In h₀) (N : News h₀ L s.heap news) (hm : m nm = some (.ref lx)) (hn : m n1 = some (.str y u)) (h1 : (lx, instObj 744 ld) ∈ news) (h2 : (ld, lexD w lk ins inf st pb ln tok fs) ∈ news)
    (p : LexAt lk ins inf st pb ln tok fs name (.str x t)) (e : (!(PySem.Builtin.Str.occurrences x y 0 x.length 1).isEmpty) = b)
    (h : wpAny (model PySem.Challenge.rw_ny0282_01.row.prog w) A (execs (match b with | true => body | false => orelse) (envX cn cs L a ccd cl)) Q E { s with toks := s.toks + 1 })
    (hk : cs.kind = .function := by rfl) (hx : (envX cn cs L a ccd cl).kindOf nm = some .local := by rfl) (hd : (nm == ("__debug__" : Str)) = false := by decide) (hx1 : (envX cn cs L a ccd cl).kindOf n1 = some .local := by rfl) (hd1 : (n1 == ("__debug__" : Str)) = false := by decide) :
    wpAny (model PySem.Challenge.rw_ny0282_01.row.prog w) A (exec (.If (.Compare (.Name n1 npos) [.In] [.Attribute (.Name nm np) name apos] cpos) body orelse pos) (envX cn cs L a ccd cl)) Q E s := by
  refine wpAny_If (wpAny_isTrue_Compare1 (nameX_L F hn (lex_self F X₀ N hm h1 h2 p rfl (in_lit b e (wpAny_truthy_bool ?_)) hk hx hd) hk hx1 hd1) rfl)
  cases b with
  | true => exact h
  | false => exact h
theorem if_inT (F : Fr h₀ L s.heap m) (X₀ : (hd.heap_1 w.params).In h₀) (N : News h₀ L s.heap news) (hm : m nm = some (.ref lx)) (hn : m n1 = some (.str y u)) (h1 : (lx, instObj 744 ld) ∈ news) (h2 : (ld, lexD w lk ins inf st pb ln tok fs) ∈ news)
    (p : LexAt lk ins inf st pb ln tok fs name (.str x t)) (e : (!(PySem.Builtin.Str.occurrences x y 0 x.length 1).isEmpty) = true)
    (h : wpAny (model PySem.Challenge.rw_ny0282_01.row.prog w) A (execs body (envX cn cs L a ccd cl)) Q E { s with toks := s.toks + 1 })
    (hk : cs.kind = .function := by rfl) (hx : (envX cn cs L a ccd cl).kindOf nm = some .local := by rfl) (hd : (nm == ("__debug__" : Str)) = false := by decide) (hx1 : (envX cn cs L a ccd cl).kindOf n1 = some .local := by rfl) (hd1 : (n1 == ("__debug__" : Str)) = false := by decide) :
    wpAny (model PySem.Challenge.rw_ny0282_01.row.prog w) A (exec (.If (.Compare (.Name n1 npos) [.In] [.Attribute (.Name nm np) name apos] cpos) body orelse pos) (envX cn cs L a ccd cl)) Q E s := if_in true F X₀ N hm hn h1 h2 p e h hk hx hd hx1 hd1
theorem if_inF (F : Fr h₀ L s.heap m) (X₀ : (hd.heap_1 w.params).In h₀) (N : News h₀ L s.heap news) (hm : m nm = some (.ref lx)) (hn : m n1 = some (.str y u)) (h1 : (lx, instObj 744 ld) ∈ news) (h2 : (ld, lexD w lk ins inf st pb ln tok fs) ∈ news)
    (p : LexAt lk ins inf st pb ln tok fs name (.str x t)) (e : (!(PySem.Builtin.Str.occurrences x y 0 x.length 1).isEmpty) = false)
    (h : wpAny (model PySem.Challenge.rw_ny0282_01.row.prog w) A (execs orelse (envX cn cs L a ccd cl)) Q E { s with toks := s.toks + 1 })
    (hk : cs.kind = .function := by rfl) (hx : (envX cn cs L a ccd cl).kindOf nm = some .local := by rfl) (hd : (nm == ("__debug__" : Str)) = false := by decide) (hx1 : (envX cn cs L a ccd cl).kindOf n1 = some .local := by rfl) (hd1 : (n1 == ("__debug__" : Str)) = false := by decide) :
    wpAny (model PySem.Challenge.rw_ny0282_01.row.prog w) A (exec (.If (.Compare (.Name n1 npos) [.In] [.Attribute (.Name nm np) name apos] cpos) body orelse pos) (envX cn cs L a ccd cl)) Q E s := if_in false F X₀ N hm hn h1 h2 p e h hk hx hd hx1 hd1
theorem if_debug {n : Int} {k : Tok} (F : Fr h₀ L s.heap m) (X₀ : (hd.heap_1 w.params).In h₀) (N : News h₀ L s.heap news) (hm : m nm = some (.ref lx)) (h1 : (lx, instObj 744 ld) ∈ news) (h2 : (ld, lexD w lk ins inf st pb ln tok fs) ∈ news) (e : decide (n ≤ 0) = false)
    (h : wpAny (model PySem.Challenge.rw_ny0282_01.row.prog w) A (execs orelse (envX cn cs L a ccd cl)) Q E { s with toks := s.toks + 1 + 1 })
    (hk : cs.kind = .function := by rfl) (hx : (envX cn cs L a ccd cl).kindOf nm = some .local := by rfl) (hd : (nm == ("__debug__" : Str)) = false := by decide) :
    wpAny (model PySem.Challenge.rw_ny0282_01.row.prog w) A (exec (.If (.Compare (.Attribute (.Name nm np) (Str.ofString "debug") apos) [.GtE] [.Constant (.int n) k npos] cpos) body orelse pos) (envX cn cs L a ccd cl)) Q E s := by
  refine wpAny_If (wpAny_isTrue_Compare1 (lex_self F X₀ N hm h1 h2 .debug rfl (wpAny_Constant_int (PyProof.Rows.ge_int (wpAny_truthy_bool ?_))) hk hx hd) rfl)
  rw [e]
  exact h
end
end
section
open PySem PySem.W PySem.Calls PyProof.Rows
theorem reg_S2_1 : True := by
  k_with_none
  (k_with "S enter!" => (
  case ho => k_is
  case hcd => k_is
  case hroom => (first | exact room1 (by assumption) (by decide) | omega | (show _ < _; (try dsimp only); omega))
  case hbind => first | exact BindsTo.of_eq rfl | exact binds_K (by assumption) rfl (by k_is) rfl rfl rfl
  case hloc => exact locs rfl
  case c2 => rfl
  case c3 => rfl
  case c4 => rfl
  case c5 => decide))
  (k_with "S end!" => ((try dsimp only); repeat (k_unfold; (try dsimp only))))
  (k_with "call ref!" => (k_here; (with_reducible show wpAny _ _ (call (Value.ref 555) [Value.ref _, Value.int _ _]) _ _ _); (refine Stop.out ?_)))
  (k_with "call ref!" => (k_here; k_dflt (show wpAny _ _ (call (Value.ref 563) [Value.ref _]) _ _ _); (refine Stop.out ?_)))
  (k_with "compareOp In str str!" => (first | refine in_lit true (by decide +kernel) ?_ | refine in_lit false (by decide +kernel) ?_))
  (k_with "compareOp NotIn str str!" => (first | refine notIn_lit true (by decide +kernel) ?_ | refine notIn_lit false (by decide +kernel) ?_))
  (k_with "truthy str!" => (with_reducible refine KXt.truthy_pos (K := 64) (by assumption) (by assumption) (by decide) ?_; intro _))
  (k_with "compareOp Eq str str!" => (refine eq_by false (by assumption) ?_))
  trivial
theorem kst_same {u m₀ : Str → Option Value} {n : Str} {v : Option Value} {z : Str} (h : [n].contains z = false) : (if z = n then v else kstB (fun z => if [n].contains z = true then u z else m₀ z) [] z) = m₀ z := by
  have q : z ≠ n := by simpa using h
  simp [kstB, q]
theorem app_one (l : List Nat) (c : Nat) : (⟨l.toArray⟩ : Str) ++ (⟨#[c]⟩ : Str) = ⟨(l ++ [c]).toArray⟩ := by
  show Str.append _ _ = _
  simp [Str.append]
noncomputable abbrev stV (b : Bool) (t : Tok) : Value := match b with | true => .str (Str.ofString "a") t | false => .str (Str.ofString " ") t
noncomputable abbrev tokV (b : Bool) (l : List Nat) (t : Tok) : Value := match b with | true => .str ⟨l.toArray⟩ t | false => .str (Str.ofString "") t
theorem six {P : Nat → Prop} {c : Nat} (h : c = 13 ∨ c = 10 ∨ c = 46 ∨ c = 35 ∨ c = 97 ∨ c = 32) (h1 : P 13) (h2 : P 10) (h3 : P 46) (h4 : P 35) (h5 : P 97) (h6 : P 32) : P c := by
  rcases h with rfl | rfl | rfl | rfl | rfl | rfl <;> assumption
theorem six' {P : Nat → Prop} (h1 : P 13) (h2 : P 10) (h3 : P 46) (h4 : P 35) (h5 : P 97) (h6 : P 32) : ∀ c : Nat, (c = 13 ∨ c = 10 ∨ c = 46 ∨ c = 35 ∨ c = 97 ∨ c = 32) → P c := fun _ h => six h h1 h2 h3 h4 h5 h6
theorem ksw_whileG {σ : Type} {prog : Program} {w : World} {A : Around} {E : Value → Shared → Prop} {Q : Flow → Shared → Prop} {s : Shared} {env : Env} {h₀ : Heap} {L : Addr} {test : Expr} {body : List Stmt} {pos : Pos} {m₀ : Str → Option Value} (Led : σ → List (Addr × Obj)) (ps : σ → List (Str × Value)) (Facts : σ → Prop) (stored : List Str) (P : σ → Prop) (μ : σ → Nat) (c₀ : σ)
    (F : Fr h₀ L s.heap m₀) (N : News h₀ L s.heap (Led c₀)) (hf : Facts c₀) (hk : ∀ p ∈ ps c₀, m₀ p.1 = some p.2) (hp : P c₀)
    (turn : ∀ (c : σ) (u : Str → Option Value) h tk, Facts c → P c → Fr h₀ L h (kstB (fun z => if stored.contains z then u z else m₀ z) (ps c)) → News h₀ L h (Led c) →
      ∀ (Q1 : Flow → Shared → Prop) (Q2 : Shared → Prop) (E1 : Value → Shared → Prop), (∀ fl s', KswPost h₀ L s Led ps Facts stored m₀ P μ Q c fl s' → Q1 fl s') → (∀ s', Q .next s' → Q2 s') → (∀ e s', E e s' → E1 e s') →
      wpAny (model prog w) A (isTrue test env (eval test env)) (fun b s₂ =>
        if b = true then wpAny (model prog w) A (execs body env) Q1 E1 s₂ else Q2 s₂) E1 { s with heap := h, toks := tk })
    (hE : PassesOwn (model prog w) A env E := by passes_own) :
    wpAny (model prog w) A (exec (.While test body [] pos) env) Q E s :=
  ksw_while Led ps Facts stored P μ c₀ F N hf hk hp (fun c u h tk a b F' N' => turn c u h tk a b F' N' _ _ _ (fun _ _ x => x) (fun _ x => x) (fun _ _ x => x)) hE
theorem reg_S2_2 : True := by
  (k_with "eval Attribute Name!" => (k_here; k_dflt (refine' lex_self ?k1 ?k2 ?k3 ?k4 ?k5 ?k6 ?k7 ?k8 ?_ ?a ?b; (case a => rfl); (case b => rfl); (case k1 => k_asm); (case k2 => k_asm); (case k3 => k_asm); (case k4 => rfl); (case k5 => k_mem); (case k6 => k_mem); (case k7 => with_reducible constructor); (case k8 => k_handed); k_whole)))
  (k_with "getAttr ref!" => (k_here; k_dflt (refine' lex_get ?k1 ?k2 ?k3 ?k5 ?k6 ?k7 ?k8 ?_; (case k1 => k_asm); (case k2 => k_asm); (case k3 => k_asm); (case k5 => k_mem); (case k6 => k_mem); (case k7 => with_reducible constructor); (case k8 => k_handed); k_whole)))
  (k_with "setAttr ref!" => (k_here; k_dflt (refine' lex_set ?k1 ?k2 ?k3 ?k4 ?k5 ?k6 ?_; (case k1 => k_asm); (case k2 => k_asm); (case k3 => k_asm); (case k4 => k_mem); (case k5 => k_updF); (case k6 => with_reducible constructor); k_whole; intro zh' zF' zN'; (try dsimp only at zN'); (try k_sweep))))
  (k_with "getAttr ref!" => (k_here; (with_reducible show wpAny _ _ (getAttr _ (Str.ofString "punctuation_chars") _) _ _ _); k_dflt (refine' punct_K ?kB ?kG ?kF ?kN ?kA ?kf ?kk ?kd ?kq ?ku ?_; (case kA => exact rfl); (case kf => exact rfl); (case kk => exact rfl); (case kF => k_asm); (case kN => k_asm); (case kB => k_asm); (case kG => assumption); (case kd => k_room); (case kq => k_mem); (case ku => k_updF); k_whole; intro zh' ztk' zF' zN'; (try dsimp only at zN'); (try k_sweep))))
  trivial
section
variable {w : World} {A : Around} {outer : List Env} {s : Shared} {base : Heap} {mean : ExcName → Option Value} {mg mb : Str → Option Value} {R : Result → Shared → Prop} {sx sd lx ld pb fs : Addr} {t tp : Tok} {sk : SK} {lk : LK} {txt : List Nat} {inf : Value} {st lt' tt : Tok}
set_option maxHeartbeats 8000000 in
theorem rtok_spec {rest : List Nat} {ln : Nat}
    (G : Gr w mean mg mb base) (hlt : @LT.lt Nat _ ld lx) (hlt1 : @LT.lt Nat _ sd sx) (hne : @Ne Nat sd ld) (hne2 : @Ne Nat sx ld) (hne3 : @Ne Nat sd lx) (hne4 : @Ne Nat sx lx)
    (O : Out A outer base s.heap [lx, ld, sx, sd]) (H : Holds s.heap [(lx, instObj 744 ld), (ld, lexD w lk (.ref sx) inf (.str (Str.ofString " ") st) pb (.int (ln : Int) lt') (.str (Str.ofString "") tt) fs), (sx, instObj 609 sd), (sd, sioR w sk txt rest tp)]) (hdep : A.depth + 40 < recursionLimit)
    (hp : rest <:+ txt) (hl : txt.length ≤ 64) (hgd : Good rest) (hln : ln + rest.length ≤ 1000)
    (k0 : ∀ l r, lexS false rest ln = (none, l, r) → ∀ h' tk t2 t3 t4, Kept [lx, ld, sx, sd] s.heap h' → Holds h' [(lx, instObj 744 ld), (ld, lexD w lk (.ref sx) inf .none pb (.int (l : Int) t2) (.str (Str.ofString "") t3) fs), (sx, instObj 609 sd), (sd, sioR w sk txt r t4)] → R (.ok (.ret .none)) { s with heap := h', toks := tk })
    (k1 : ∀ tok l r, lexS false rest ln = (some tok, l, r) → tok ≠ [] → ∀ h' tk t1 t2 t3 t4 t5, Kept [lx, ld, sx, sd] s.heap h' → Holds h' [(lx, instObj 744 ld), (ld, lexD w lk (.ref sx) inf (.str (Str.ofString " ") t1) pb (.int (l : Int) t2) (.str (Str.ofString "") t3) fs), (sx, instObj 609 sd), (sd, sioR w sk txt r t4)] → R (.ok (.ret (.str ⟨tok.toArray⟩ t5))) { s with heap := h', toks := tk }) :
    codeAny (model PySem.Challenge.rw_ny0282_01.row.prog w) A (.call (.ref 712) ⟨[.ref lx], []⟩) R s := by
  obtain ⟨ahd, adp, afr, agd, aun⟩ := A
  have eA : afr = some outer := O.stack
  subst eA
  have hdep2 := hdep
  dsimp only at hdep2
  have hx10 : Str.ofString "\n" = ⟨#[10]⟩ := by decide +kernel
  have hx13 : Str.ofString "\r" = ⟨#[13]⟩ := by decide +kernel
  have hx32 : Str.ofString " " = ⟨#[32]⟩ := by decide +kernel
  have hx35 : Str.ofString "#" = ⟨#[35]⟩ := by decide +kernel
  have hx46 : Str.ofString "." = ⟨#[46]⟩ := by decide +kernel
  have hx97 : Str.ofString "a" = ⟨#[97]⟩ := by decide +kernel
  w_on
  w_top on
  have Xs := (G.keeps O.stays).X
  refine' call_S (binds := [(Str.ofString "self", .ref lx)]) G O H ?ho ?hcd ?hroom ?hbind ?hloc ?_ ?c2 ?c3 ?c4 ?c5
  walk_at "S enter"
  clear Xs
  intro g L' h₁ eg F N B G' lt
  obtain ⟨T', GL', ⟨bm1, bm2, M'⟩, X'⟩ := G'
  try dsimp only
  try k_fold
  simp only [AllLt, and_true] at lt
  iterate 10 (first | (k_unfold; (try dsimp only)) | walk1 | (dsimp only; walk1))
  (rename Fr _ _ _ _ => lF'); (rename News _ _ _ _ => lN')
  refine ksw_whileG (σ := LS) (fun c => [(lx, instObj 744 ld), (ld, lexD w lk (.ref sx) inf (stV c.word c.t1) pb (.int (c.ln : Int) c.t2) (tokV c.word c.tok c.t3) fs), (sx, instObj 609 sd), (sd, sioR w sk txt c.rest c.t4)]) (fun _ => []) (fun _ => True) [Str.ofString "nextchar"]
    (LS.Ok txt (lexS false rest ln)) (fun c => c.rest.length) ⟨false, [], rest, ln, st, lt', tt, tp⟩ lF' lN' trivial (fun _ hp => nomatch hp) ⟨hgd, hp, fun q => (nomatch q), fun _ => rfl, rfl, by have := hp.length_le; simp; omega, hln⟩ ?_
  clear lF' lN'
  intro c u h tk _ hc cF cN Q1 Q2 E1 hQ hQ2 hE
  obtain ⟨word, tok, rest', ln', t1, t2, t3, t4⟩ := c
  dsimp only at cN cF ⊢
  try k_fold
  cases word
  · have e := hc.gap rfl
    dsimp only at e
    subst e
    dsimp only [stV, tokV] at cN
    cases rest' with
    | nil =>
      have hres := hc.res
      k_steps
      refine Stop.mk ?_
      k_dflt (refine' readE_K ?kB ?kG ?kF ?kN ?kA ?kf ?kk ?kd ?kq ?kl ?ku ?kll ?_; (case kA => exact rfl); (case kf => exact rfl); (case kk => exact rfl); (case kF => k_asm); (case kN => k_asm); (case kB => k_asm); (case kG => assumption); (case kd => k_room); (case kq => k_mem); (case ku => k_updF); (case kl => assumption); (case kll => assumption); k_whole; intro h' tk' tc' F' N'; (try dsimp only at N'); (try k_sweep))
      k_steps
      (refine hQ _ _ ?_; dsimp only [KswPost])
      k_steps
      all_goals walk_at "S end"
      (rename News _ _ _ _ => nE')
      exact k0 ln' [] hres.symm _ _ _ _ _ (kept_of eg (by assumption)) (fun p hp => (nE' p hp).1)
    | cons c r =>
      have hs' := hc.suf
      have hs2 : r <:+ txt := (List.suffix_cons ..).trans hs'
      have hc1 := hc.good.1 c (.head _)
      have hrn := hc.good.rest_ne
      have eln : ((ln' : Int) + 1) = ((ln' + 1 : Nat) : Int) := by omega
      dsimp only at hs'
      revert hc hs' hrn cN hQ
      revert hc1
      revert c
      refine six' ?_ ?_ ?_ ?_ ?_ ?_
      all_goals intro hc cN hQ hs' hrn
      all_goals (first | have hr0 : r ≠ [] := hrn (by decide) | have hr0 : True := trivial)
      all_goals clear hrn
      all_goals (k_steps; (refine Stop.mk ?_); k_dflt (refine' read_K ?kB ?kG ?kF ?kN ?kA ?kf ?kk ?kd ?kq ?kl ?ku ?kp ?kll ?kx ?_; (case kA => exact rfl); (case kf => exact rfl); (case kk => exact rfl); (case kF => k_asm); (case kN => k_asm); (case kB => k_asm); (case kG => assumption); (case kd => k_room); (case kq => k_mem); (case ku => k_updF); (case kl => assumption); (case kp => assumption); (case kll => assumption); (case kx => assumption); k_whole; intro h' tk' tc' tp' F' N'; (try dsimp only at N'); (try k_sweep)))
      · k_steps
        (rename News _ _ _ _ => nE')
        refine hQ _ _ ?_
        exact ksw_end ⟨false, [], r, ln', _, _, _, _⟩ (by assumption) nE' (fun p hp => hp) trivial (fun _ hp => nomatch hp) (fun z _ h3 => kst_same h3) (ok_gap_13 hc) (Nat.lt_succ_self _)
      · k_steps
        (rename News _ _ _ _ => nE')
        rw [eln] at nE'
        refine hQ _ _ ?_
        exact ksw_end ⟨false, [], r, ln' + 1, _, _, _, _⟩ (by assumption) nE' (fun p hp => hp) trivial (fun _ hp => nomatch hp) (fun z _ h3 => kst_same h3) (ok_gap_10 hc) (Nat.lt_succ_self _)
      · k_steps
        (rename News _ _ _ _ => nE')
        rw [hx46] at nE'
        refine hQ _ _ ?_
        exact ksw_end ⟨true, [46], r, ln', _, _, _, _⟩ (by assumption) nE' (fun p hp => hp) trivial (fun _ hp => nomatch hp) (fun z _ h3 => kst_same h3) (ok_gap_46 hc) (Nat.lt_succ_self _)
      · k_steps
        refine Stop.mk ?_
        k_dflt (refine' line_K ?kB ?kG ?kF ?kN ?kA ?kf ?kk ?kd ?kq ?kl ?ku ?kp ?kr ?kll ?_; (case kA => exact rfl); (case kf => exact rfl); (case kk => exact rfl); (case kF => k_asm); (case kN => k_asm); (case kB => k_asm); (case kG => assumption); (case kd => k_room); (case kq => k_mem); (case ku => k_updF); (case kl => assumption); (case kp => assumption); (case kr => assumption); (case kll => assumption); k_whole; intro h' tk' x' tc' tp' F' N'; (try dsimp only at N'); (try k_sweep))
        k_steps
        (rename News _ _ _ _ => nE')
        rw [eln] at nE'
        refine hQ _ _ ?_
        exact ksw_end ⟨false, [], toEol r, ln' + 1, _, _, _, _⟩ (by assumption) nE' (fun p hp => hp) trivial (fun _ hp => nomatch hp) (fun z _ h3 => kst_same h3) (ok_gap_35 hc) (Nat.lt_succ_of_le (toEol_suffix r).length_le)
      · k_steps
        (rename News _ _ _ _ => nE')
        refine hQ _ _ ?_
        exact ksw_end ⟨true, [97], r, ln', _, _, _, _⟩ (by assumption) nE' (fun p hp => hp) trivial (fun _ hp => nomatch hp) (fun z _ h3 => kst_same h3) (ok_gap_97 hc) (Nat.lt_succ_self _)
      · k_steps
        (rename News _ _ _ _ => nE')
        refine hQ _ _ ?_
        exact ksw_end ⟨false, [], r, ln', _, _, _, _⟩ (by assumption) nE' (fun p hp => hp) trivial (fun _ hp => nomatch hp) (fun z _ h3 => kst_same h3) (ok_gap_32 hc) (Nat.lt_succ_self _)
  · have hs' := hc.suf
    have hwd := hc.word rfl
    have hlen := hc.len
    dsimp only at hs' hwd hlen
    dsimp only [stV, tokV] at cN
    obtain ⟨hrn0, htn⟩ := hwd
    have hT : 1 ≤ (⟨tok.toArray⟩ : Str).length := by simp [Str.length]; exact List.length_pos_iff.mpr htn
    have hT2 : (⟨tok.toArray⟩ : Str).length ≤ 64 := by simp [Str.length]; omega
    have hTe : ((⟨tok.toArray⟩ : Str) == Str.ofString "") = false := by
      have : Str.ofString "" = ⟨#[]⟩ := by decide +kernel
      rw [this]
      simpa using htn
    cases rest' with
    | nil => exact absurd rfl hrn0
    | cons c r =>
      have hres := hc.res
      have hs2 : r <:+ txt := (List.suffix_cons ..).trans hs'
      have hc1 := hc.good.1 c (.head _)
      have hrn := hc.good.rest_ne
      have eln : ((ln' : Int) + 1) = ((ln' + 1 : Nat) : Int) := by omega
      revert hc hs' hrn cN hQ
      revert hlen hrn0 hres
      revert hc1
      revert c
      refine six' ?_ ?_ ?_ ?_ ?_ ?_
      all_goals intro hlen hrn0 hres hc cN hQ hs' hrn
      all_goals (first | have hr0 : r ≠ [] := hrn (by decide) | have hr0 : True := trivial)
      all_goals clear hrn
      all_goals (k_steps; (refine Stop.mk ?_); k_dflt (refine' read_K ?kB ?kG ?kF ?kN ?kA ?kf ?kk ?kd ?kq ?kl ?ku ?kp ?kll ?kx ?_; (case kA => exact rfl); (case kf => exact rfl); (case kk => exact rfl); (case kF => k_asm); (case kN => k_asm); (case kB => k_asm); (case kG => assumption); (case kd => k_room); (case kq => k_mem); (case ku => k_updF); (case kl => assumption); (case kp => assumption); (case kll => assumption); (case kx => assumption); k_whole; intro h' tk' tc' tp' F' N'; (try dsimp only at N'); (try k_sweep)))
      · k_steps
        (refine hQ _ _ ?_; dsimp only [KswPost])
        k_steps
        all_goals walk_at "S end"
        (rename News _ _ _ _ => nE')
        exact k1 tok ln' r hres.symm htn _ _ _ _ _ _ _ (kept_of eg (by assumption)) (fun p hp => (nE' p (.tail _ hp)).1)
      · k_steps
        (refine hQ _ _ ?_; dsimp only [KswPost])
        k_steps
        all_goals walk_at "S end"
        (rename News _ _ _ _ => nE')
        rw [eln] at nE'
        exact k1 tok (ln' + 1) r hres.symm htn _ _ _ _ _ _ _ (kept_of eg (by assumption)) (fun p hp => (nE' p (.tail _ hp)).1)
      · k_steps
        (rename News _ _ _ _ => nE')
        rw [hx46, app_one] at nE'
        refine hQ _ _ ?_
        exact ksw_end ⟨true, tok ++ [46], r, ln', _, _, _, _⟩ (by assumption) nE' (fun p hp => .tail _ hp) trivial (fun _ hp => nomatch hp) (fun z _ h3 => kst_same h3) (ok_word_46 hc) (Nat.lt_succ_self _)
      · k_steps
        refine Stop.mk ?_
        k_dflt (refine' line_K ?kB ?kG ?kF ?kN ?kA ?kf ?kk ?kd ?kq ?kl ?ku ?kp ?kr ?kll ?_; (case kA => exact rfl); (case kf => exact rfl); (case kk => exact rfl); (case kF => k_asm); (case kN => k_asm); (case kB => k_asm); (case kG => assumption); (case kd => k_room); (case kq => k_mem); (case ku => k_updF); (case kl => assumption); (case kp => assumption); (case kr => assumption); (case kll => assumption); k_whole; intro h' tk' x' tc' tp' F' N'; (try dsimp only at N'); (try k_sweep))
        k_steps
        (refine hQ _ _ ?_; dsimp only [KswPost])
        k_steps
        all_goals walk_at "S end"
        (rename News _ _ _ _ => nE')
        rw [eln] at nE'
        exact k1 tok (ln' + 1) (toEol r) hres.symm htn _ _ _ _ _ _ _ (kept_of eg (by assumption)) (fun p hp => (nE' p (.tail _ hp)).1)
      · k_steps
        (rename News _ _ _ _ => nE')
        rw [hx97, app_one] at nE'
        refine hQ _ _ ?_
        exact ksw_end ⟨true, tok ++ [97], r, ln', _, _, _, _⟩ (by assumption) nE' (fun p hp => .tail _ hp) trivial (fun _ hp => nomatch hp) (fun z _ h3 => kst_same h3) (ok_word_97 hc) (Nat.lt_succ_self _)
      · k_steps
        (refine hQ _ _ ?_; dsimp only [KswPost])
        k_steps
        all_goals walk_at "S end"
        (rename News _ _ _ _ => nE')
        exact k1 tok ln' r hres.symm htn _ _ _ _ _ _ _ (kept_of eg (by assumption)) (fun p hp => (nE' p (.tail _ hp)).1)
end
end
section
open PySem PySem.W PySem.Calls PyProof.Rows
theorem reg_S3_1 : True := by
  k_with_none
  (k_with "S enter!" => (
  case ho => k_is
  case hcd => k_is
  case hroom => (first | exact room1 (by assumption) (by decide) | omega | (show _ < _; (try dsimp only); omega))
  case hbind => first | exact BindsTo.of_eq rfl | exact binds_K (by assumption) rfl (by k_is) rfl rfl rfl
  case hloc => exact locs rfl
  case c2 => rfl
  case c3 => rfl
  case c4 => rfl
  case c5 => decide))
  (k_with "S end!" => ((try dsimp only); repeat (k_unfold; (try dsimp only))))
  trivial
section
variable {w : World} {A₀ A : Around} {env : Env} {outer : List Env} {s : Shared} {base h₀ : Heap} {mean : ExcName → Option Value} {mg mb m : Str → Option Value} {news : List (Addr × Obj)} {gl : Obj → List (Addr × Obj)} {gl2 : Obj → Obj → List (Addr × Obj)} {Q : Value → Shared → Prop} {E : Value → Shared → Prop} {L sx sd lx ld pb fs : Addr} {t tp : Tok} {sk : SK} {lk : LK} {txt : List Nat} {inf : Value} {st lt' tt : Tok} {rest : List Nat} {ln : Nat}
theorem four_in {a b c d : Addr} {o x y z : Obj} {news : List (Addr × Obj)} (h1 : (a, o) ∈ news) (h2 : (b, x) ∈ news) (h3 : (c, y) ∈ news) (h4 : (d, z) ∈ news) : ∀ p ∈ [(a, o), (b, x), (c, y), (d, z)], p ∈ news := fun p hp => by
  simp at hp
  rcases hp with rfl | rfl | rfl | rfl <;> assumption
theorem back_four {h h' h₀ : Heap} {L a b c d : Addr} {m : Str → Option Value} {news : List (Addr × Obj)} {o x x' y z z' : Obj} {gl : Obj → List (Addr × Obj)} {gl2 : Obj → Obj → List (Addr × Obj)} (F : Fr h₀ L h m) (N : News h₀ L h news) (h1 : (a, o) ∈ news) (h3 : (c, y) ∈ news) (hne : d ≠ b)
    (u : UpdF b x news gl) (u2 : ∀ q, UpdF d z (gl q) (gl2 q)) (k : Kept [a, b, c, d] h h') (hh : Holds h' [(a, o), (b, x'), (c, y), (d, z')]) :
    Fr h₀ L h' m ∧ News h₀ L h' (gl2 x' z') := by
  have u' := updF_upd u x'
  have u2' := updF_upd (u2 x') z'
  have m4 : (d, z) ∈ news := by
    rcases (Upd.mem' u').2 _ (Upd.mem' u2').1 with e | e
    · exact absurd (congrArg Prod.fst e) hne
    · exact e.1
  refine back_upd2 (pre := [(a, o), (b, x), (c, y), (d, z)]) (post := [(a, o), (b, x'), (c, y), (d, z')]) F N (four_in h1 (Upd.mem' u').1 h3 m4) k hh ?_ ?_ (by simp) (by simp) u' u2'
  · intro p hp; simp at hp ⊢; rcases hp with rfl | rfl | rfl | rfl <;> simp
  · intro p hp; simp at hp ⊢; rcases hp with rfl | rfl | rfl | rfl <;> simp
theorem rtok0_K {l : Nat} {r : List Nat} (B : Below A₀ base outer h₀) (G : Gr w mean mg mb base) (F : Fr h₀ L s.heap m) (N : News h₀ L s.heap news) (hA : A.frames = some (env :: outer)) (hf : env.frame = some L) (hke : env.scope.kind = .function) (hdep : A.depth + 40 < recursionLimit)
    (q1 : (lx, instObj 744 ld) ∈ news) (q2 : (sx, instObj 609 sd) ∈ news) (hlt : @LT.lt Nat _ ld lx) (hlt1 : @LT.lt Nat _ sd sx) (hne : @Ne Nat sd ld) (hne2 : @Ne Nat sx ld) (hne3 : @Ne Nat sd lx) (hne4 : @Ne Nat sx lx)
    (u : UpdF ld (lexD w lk (.ref sx) inf (.str (Str.ofString " ") st) pb (.int (ln : Int) lt') (.str (Str.ofString "") tt) fs) news gl) (u2 : ∀ o, UpdF sd (sioR w sk txt rest tp) (gl o) (gl2 o))
    (hp : rest <:+ txt) (hl : txt.length ≤ 64) (hgd : Good rest) (hln : ln + rest.length ≤ 1000) (hres : lexS false rest ln = (none, l, r))
    (h : ∀ h' tk t2 t3 t4, Fr h₀ L h' m → News h₀ L h' (gl2 (lexD w lk (.ref sx) inf .none pb (.int (l : Int) t2) (.str (Str.ofString "") t3) fs) (sioR w sk txt r t4)) → Q .none { s with heap := h', toks := tk }) :
    wpAny (model PySem.Challenge.rw_ny0282_01.row.prog w) A (call (.ref 712) [.ref lx]) Q E s := by
  have u' := (Upd.mem' (updF_upd u (lexD w lk (.ref sx) inf (.str (Str.ofString " ") st) pb (.int (ln : Int) lt') (.str (Str.ofString "") tt) fs))).1
  have m4 : (sd, sioR w sk txt rest tp) ∈ news := by
    have v := updF_upd (u2 (dqO 0 [])) (dqO 0 [])
    rcases (Upd.mem' (updF_upd u (dqO 0 []))).2 _ (Upd.mem' v).1 with e | e
    · exact absurd (congrArg Prod.fst e) hne
    · exact e.1
  obtain ⟨O, H⟩ := out_of B F N hA hf hke (four_in q1 u' q2 m4)
  refine wpAny_call (rtok_spec G hlt hlt1 hne hne2 hne3 hne4 O H hdep hp hl hgd hln (fun l' r' e h' tk t2 t3 t4 kp hh => ?_) fun tok l' r' e => ?_)
  · rw [hres] at e
    obtain ⟨rfl, rfl⟩ : l' = l ∧ r' = r := by simp at e; exact ⟨e.1.symm, e.2.symm⟩
    obtain ⟨F', N'⟩ := back_four F N q1 q2 hne u u2 kp hh
    exact h h' tk t2 t3 t4 F' N'
  · rw [hres] at e; cases e
theorem rtok1_K {tok : List Nat} {l : Nat} {r : List Nat} (B : Below A₀ base outer h₀) (G : Gr w mean mg mb base) (F : Fr h₀ L s.heap m) (N : News h₀ L s.heap news) (hA : A.frames = some (env :: outer)) (hf : env.frame = some L) (hke : env.scope.kind = .function) (hdep : A.depth + 40 < recursionLimit)
    (q1 : (lx, instObj 744 ld) ∈ news) (q2 : (sx, instObj 609 sd) ∈ news) (hlt : @LT.lt Nat _ ld lx) (hlt1 : @LT.lt Nat _ sd sx) (hne : @Ne Nat sd ld) (hne2 : @Ne Nat sx ld) (hne3 : @Ne Nat sd lx) (hne4 : @Ne Nat sx lx)
    (u : UpdF ld (lexD w lk (.ref sx) inf (.str (Str.ofString " ") st) pb (.int (ln : Int) lt') (.str (Str.ofString "") tt) fs) news gl) (u2 : ∀ o, UpdF sd (sioR w sk txt rest tp) (gl o) (gl2 o))
    (hp : rest <:+ txt) (hl : txt.length ≤ 64) (hgd : Good rest) (hln : ln + rest.length ≤ 1000) (hres : lexS false rest ln = (some tok, l, r))
    (h : ∀ h' tk t1 t2 t3 t4 t5, Fr h₀ L h' m → News h₀ L h' (gl2 (lexD w lk (.ref sx) inf (.str (Str.ofString " ") t1) pb (.int (l : Int) t2) (.str (Str.ofString "") t3) fs) (sioR w sk txt r t4)) → Q (.str ⟨tok.toArray⟩ t5) { s with heap := h', toks := tk }) :
    wpAny (model PySem.Challenge.rw_ny0282_01.row.prog w) A (call (.ref 712) [.ref lx]) Q E s := by
  have u' := (Upd.mem' (updF_upd u (lexD w lk (.ref sx) inf (.str (Str.ofString " ") st) pb (.int (ln : Int) lt') (.str (Str.ofString "") tt) fs))).1
  have m4 : (sd, sioR w sk txt rest tp) ∈ news := by
    have v := updF_upd (u2 (dqO 0 [])) (dqO 0 [])
    rcases (Upd.mem' (updF_upd u (dqO 0 []))).2 _ (Upd.mem' v).1 with e | e
    · exact absurd (congrArg Prod.fst e) hne
    · exact e.1
  obtain ⟨O, H⟩ := out_of B F N hA hf hke (four_in q1 u' q2 m4)
  refine wpAny_call (rtok_spec G hlt hlt1 hne hne2 hne3 hne4 O H hdep hp hl hgd hln (fun l' r' e => ?_) fun tok' l' r' e htn h' tk t1 t2 t3 t4 t5 kp hh => ?_)
  · rw [hres] at e; cases e
  · rw [hres] at e
    obtain ⟨rfl, rfl, rfl⟩ : tok' = tok ∧ l' = l ∧ r' = r := by simp at e; exact ⟨e.1.symm, e.2.1.symm, e.2.2.symm⟩
    obtain ⟨F', N'⟩ := back_four F N q1 q2 hne u u2 kp hh
    exact h h' tk t1 t2 t3 t4 t5 F' N'
end
end
section
open PySem PySem.W PySem.Calls PyProof.Rows
theorem reg_S4_1 : True := by
  k_with_none
  (k_with "S enter!" => (
  case ho => k_is
  case hcd => k_is
  case hroom => (first | exact room1 (by assumption) (by decide) | omega | (show _ < _; (try dsimp only); omega))
  case hbind => first | exact BindsTo.of_eq rfl | exact binds_K (by assumption) rfl (by k_is) rfl rfl rfl
  case hloc => exact locs rfl
  case c2 => rfl
  case c3 => rfl
  case c4 => rfl
  case c5 => decide))
  (k_with "S end!" => ((try dsimp only); repeat (k_unfold; (try dsimp only))))
  trivial
structure Strm where
  inf : Value
  sx : Addr
  sd : Addr
  sk : SK
  txt : List Nat
  rest : List Nat
  tp : Tok
  ln : Nat
  lt : Tok
  ta : Addr
structure Strm.Ok (s : Strm) : Prop where
  suf : s.rest <:+ s.txt
  len : s.txt.length ≤ 64
  good : Good s.rest
  lnb : s.ln + s.rest.length ≤ 1000
  lt : @LT.lt Nat _ s.sd s.sx
noncomputable def lowObjs (w : World) : List Strm → List (Addr × Obj)
  | [] => []
  | s :: l => (s.ta, { cls := .type "tuple", data := .seq #[s.inf, .ref s.sx, .int (s.ln : Int) s.lt] }) :: (s.sx, instObj 609 s.sd) :: (s.sd, sioR w s.sk s.txt s.rest s.tp) :: lowObjs w l
noncomputable def lexAll (w : World) (lk : LK) (lx ld pb fs : Addr) (n np : Int) (st : Value) (tt : Tok) (top : Strm) (low : List Strm) : List (Addr × Obj) :=
  (lx, instObj 744 ld) :: (ld, lexD w lk (.ref top.sx) top.inf st pb (.int (top.ln : Int) top.lt) (.str (Str.ofString "") tt) fs) :: (fs, dqO n (low.map fun s => .ref s.ta)) :: (pb, dqO np []) ::
  (top.sx, instObj 609 top.sd) :: (top.sd, sioR w top.sk top.txt top.rest top.tp) :: lowObjs w low
/-- What get_token does with the streams. -/
noncomputable def gt : Strm → List Strm → Option (List Nat) × Strm × List Strm
  | s, low => match lexS false s.rest s.ln with
    | (some tok, l, r) => (some tok, { s with rest := r, ln := l }, low)
    | (none, l, r) => match low with
      | [] => (none, { s with rest := r, ln := l }, [])
      | s' :: low' => gt s' low'
theorem gt_some {s : Strm} {low : List Strm} {tok r : List Nat} {l : Nat} (h : lexS false s.rest s.ln = (some tok, l, r)) : gt s low = (some tok, { s with rest := r, ln := l }, low) := by
  unfold gt; rw [h]
theorem gt_none {s : Strm} {r : List Nat} {l : Nat} (h : lexS false s.rest s.ln = (none, l, r)) : gt s [] = (none, { s with rest := r, ln := l }, []) := by
  unfold gt; rw [h]
theorem gt_pop {s s' : Strm} {low : List Strm} {r : List Nat} {l : Nat} (h : lexS false s.rest s.ln = (none, l, r)) : gt s (s' :: low) = gt s' low := by
  rw [gt, h]
theorem gt_low : ∀ (low : List Strm) (s : Strm) {t : Strm} {low' : List Strm}, gt s low = (none, t, low') → low' = []
  | [], s, t, low', h => by
    cases q : lexS false s.rest s.ln with
    | mk r l =>
      obtain ⟨l, r'⟩ := l
      cases r with
      | some tok => rw [gt_some q] at h; cases h
      | none => rw [gt_none q] at h; simp at h; exact h.2
  | s' :: low, s, t, low', h => by
    cases q : lexS false s.rest s.ln with
    | mk r l =>
      obtain ⟨l, r'⟩ := l
      cases r with
      | some tok => rw [gt_some q] at h; cases h
      | none => rw [gt_pop q] at h; exact gt_low low s' h
theorem low_addr {w : World} : ∀ (low : List Strm) (a : Addr), a ∈ (lowObjs w low).map (·.1) ↔ ∃ s ∈ low, a = s.ta ∨ a = s.sx ∨ a = s.sd
  | [], a => by simp [lowObjs]
  | s :: l, a => by
    simp only [lowObjs, List.map_cons, List.mem_cons, low_addr l a, exists_eq_or_imp]
    constructor
    · rintro (h | h | h | h)
      · exact .inl (.inl h)
      · exact .inl (.inr (.inl h))
      · exact .inl (.inr (.inr h))
      · exact .inr h
    · rintro ((h | h | h) | h)
      · exact .inl h
      · exact .inr (.inl h)
      · exact .inr (.inr (.inl h))
      · exact .inr (.inr (.inr h))
/-- What remains lies where it lay. -/
theorem gt_addr : ∀ (low : List Strm) (s : Strm) {r : Option (List Nat)} {t : Strm} {low' : List Strm}, gt s low = (r, t, low') → (∃ u ∈ s :: low, t.sx = u.sx ∧ t.sd = u.sd ∧ t.ta = u.ta ∧ t.txt = u.txt ∧ t.inf = u.inf ∧ t.sk = u.sk) ∧ ∀ u ∈ low', u ∈ low
  | [], s, r, t, low', h => by
    cases q : lexS false s.rest s.ln with
    | mk r l =>
      obtain ⟨l, r'⟩ := l
      cases r with
      | some tok => rw [gt_some q] at h; cases h; exact ⟨⟨s, by simp⟩, fun u hu => hu⟩
      | none => rw [gt_none q] at h; cases h; exact ⟨⟨s, by simp⟩, fun u hu => hu⟩
  | s' :: low, s, r, t, low', h => by
    cases q : lexS false s.rest s.ln with
    | mk r l =>
      obtain ⟨l, r'⟩ := l
      cases r with
      | some tok => rw [gt_some q] at h; cases h; exact ⟨⟨s, by simp⟩, fun u hu => hu⟩
      | none =>
        rw [gt_pop q] at h
        obtain ⟨⟨u, hu, e⟩, k⟩ := gt_addr low s' h
        exact ⟨⟨u, .tail _ hu, e⟩, fun v hv => .tail _ (k v hv)⟩
theorem isTup_of {h₀ h : Heap} {L t : Addr} {items : Array Value} {news : List (Addr × Obj)} (N : News h₀ L h news) (hm : (t, ({ cls := .type "tuple", data := .seq items } : Obj)) ∈ news) : IsTup h t items := ⟨_, N.get hm, rfl, _, rfl⟩
inductive GtV : Option (List Nat) → Value → Value → Prop
  | none : GtV none .none .none
  | some (tok : List Nat) (t t' : Tok) : GtV (some tok) (.str ⟨tok.toArray⟩ t) (.str (Str.ofString " ") t')
noncomputable def GtSpec (w : World) (mean : ExcName → Option Value) (mg mb : Str → Option Value) (base : Heap) (low : List Strm) : Prop :=
  ∀ {A : Around} {outer : List Env} {s : Shared} {R : Result → Shared → Prop} {lx ld pb fs : Addr} {lk : LK} {st tt : Tok} {n np : Int} {top : Strm},
    Gr w mean mg mb base → @LT.lt Nat _ ld lx → top.Ok → (∀ s ∈ low, s.Ok) → low.length ≤ 100 → ((lexAll w lk lx ld pb fs n np (.str (Str.ofString " ") st) tt top low).map (·.1)).Nodup →
    Out A outer base s.heap ((lexAll w lk lx ld pb fs n np (.str (Str.ofString " ") st) tt top low).map (·.1)) → Holds s.heap (lexAll w lk lx ld pb fs n np (.str (Str.ofString " ") st) tt top low) → A.depth + low.length + 60 < recursionLimit → A.handled = none →
    (∀ r top' low', gt top low = (r, top', low') → ∀ h' tk v st' n' t2 t3 t4, GtV r v st' → Kept ((lexAll w lk lx ld pb fs n np (.str (Str.ofString " ") st) tt top low).map (·.1)) s.heap h' →
      Holds h' (lexAll w lk lx ld pb fs n' np st' t3 { top' with lt := t2, tp := t4 } low') → R (.ok (.ret v)) { s with heap := h', toks := tk }) →
    codeAny (model PySem.Challenge.rw_ny0282_01.row.prog w) A (.call (.ref 705) ⟨[.ref lx], []⟩) R s
theorem all_addr {w : World} {lk : LK} {lx ld pb fs : Addr} {n np n' : Int} {st st' : Value} {tt tt' : Tok} {top t : Strm} {low low' : List Strm} {r : Option (List Nat)} (h : gt top low = (r, t, low')) {a b : Tok} :
    ∀ x ∈ (lexAll w lk lx ld pb fs n' np st' tt' { t with lt := a, tp := b } low').map (·.1), x ∈ (lexAll w lk lx ld pb fs n np st tt top low).map (·.1) := by
  obtain ⟨⟨u, hu, e1, e2, e3, -⟩, k⟩ := gt_addr low top h
  intro x hx
  simp only [lexAll, List.map_cons, List.mem_cons, low_addr] at hx ⊢
  rcases hx with hx | hx | hx | hx | hx | hx | ⟨v, hv, hx⟩
  · exact .inl hx
  · exact .inr (.inl hx)
  · exact .inr (.inr (.inl hx))
  · exact .inr (.inr (.inr (.inl hx)))
  · rcases List.mem_cons.mp hu with rfl | hu
    · exact .inr (.inr (.inr (.inr (.inl (hx.trans e1)))))
    · exact .inr (.inr (.inr (.inr (.inr (.inr ⟨u, hu, .inr (.inl (hx.trans e1))⟩)))))
  · rcases List.mem_cons.mp hu with rfl | hu
    · exact .inr (.inr (.inr (.inr (.inr (.inl (hx.trans e2))))))
    · exact .inr (.inr (.inr (.inr (.inr (.inr ⟨u, hu, .inr (.inr (hx.trans e2))⟩)))))
  · exact .inr (.inr (.inr (.inr (.inr (.inr ⟨v, k v hv, hx⟩)))))
section
variable {w : World} {A₀ A : Around} {env : Env} {outer : List Env} {s : Shared} {base h₀ : Heap} {mean : ExcName → Option Value} {mg mb m : Str → Option Value} {news : List (Addr × Obj)} {Q : Value → Shared → Prop} {E : Value → Shared → Prop} {L lx ld pb fs : Addr} {lk : LK} {st tt : Tok} {n np : Int} {top top' : Strm} {low low' : List Strm}
theorem gtok0_K (ih : GtSpec w mean mg mb base low) (B : Below A₀ base outer h₀) (G : Gr w mean mg mb base) (F : Fr h₀ L s.heap m) (N : News h₀ L s.heap news) (hA : A.frames = some (env :: outer)) (hf : env.frame = some L) (hke : env.scope.kind = .function)
    (hlt : @LT.lt Nat _ ld lx) (ok : top.Ok) (oks : ∀ s ∈ low, s.Ok) (hll : low.length ≤ 100) (hdep : A.depth + low.length + 60 < recursionLimit) (hh0 : A.handled = none) (hgt : gt top low = (none, top', []))
    (nd : (lx :: ld :: fs :: pb :: top.sx :: top.sd :: (lowObjs w low).map (·.1)).Nodup)
    (q1 : (lx, instObj 744 ld) ∈ news) (q2 : (ld, lexD w lk (.ref top.sx) top.inf (.str (Str.ofString " ") st) pb (.int (top.ln : Int) top.lt) (.str (Str.ofString "") tt) fs) ∈ news) (q3 : (fs, dqO n (low.map fun s => .ref s.ta)) ∈ news) (q4 : (pb, dqO np []) ∈ news)
    (q5 : (top.sx, instObj 609 top.sd) ∈ news) (q6 : (top.sd, sioR w top.sk top.txt top.rest top.tp) ∈ news) (q7 : ∀ p ∈ lowObjs w low, p ∈ news)
    (h : ∀ h' tk n' t2 t3 t4, Fr h₀ L h' m → News h₀ L h' (lexAll w lk lx ld pb fs n' np .none t3 { top' with lt := t2, tp := t4 } []) → Q .none { s with heap := h', toks := tk }) :
    wpAny (model PySem.Challenge.rw_ny0282_01.row.prog w) A (call (.ref 705) [.ref lx]) Q E s := by
  have hsub : ∀ p ∈ lexAll w lk lx ld pb fs n np (.str (Str.ofString " ") st) tt top low, p ∈ news := by
    intro p hp
    simp only [lexAll, List.mem_cons] at hp
    rcases hp with rfl | rfl | rfl | rfl | rfl | rfl | hp
    · exact q1
    · exact q2
    · exact q3
    · exact q4
    · exact q5
    · exact q6
    · exact q7 p hp
  obtain ⟨O, H⟩ := out_of B F N hA hf hke hsub
  refine wpAny_call (ih G hlt ok oks hll nd O H hdep hh0 fun r t l e h' tk v st' n' t2 t3 t4 gv kp hh => ?_)
  rw [hgt] at e
  cases e
  cases gv
  exact h h' tk n' t2 t3 t4 (fr_kept F N hsub kp) (news_kept F N hsub kp (fun p hp => ⟨hh p hp, .inl (all_addr hgt _ (List.mem_map_of_mem hp))⟩) fun p hp => .inl hp)
theorem gtok1_K {tok : List Nat} (ih : GtSpec w mean mg mb base low) (B : Below A₀ base outer h₀) (G : Gr w mean mg mb base) (F : Fr h₀ L s.heap m) (N : News h₀ L s.heap news) (hA : A.frames = some (env :: outer)) (hf : env.frame = some L) (hke : env.scope.kind = .function)
    (hlt : @LT.lt Nat _ ld lx) (ok : top.Ok) (oks : ∀ s ∈ low, s.Ok) (hll : low.length ≤ 100) (hdep : A.depth + low.length + 60 < recursionLimit) (hh0 : A.handled = none) (hgt : gt top low = (some tok, top', low'))
    (nd : (lx :: ld :: fs :: pb :: top.sx :: top.sd :: (lowObjs w low).map (·.1)).Nodup)
    (q1 : (lx, instObj 744 ld) ∈ news) (q2 : (ld, lexD w lk (.ref top.sx) top.inf (.str (Str.ofString " ") st) pb (.int (top.ln : Int) top.lt) (.str (Str.ofString "") tt) fs) ∈ news) (q3 : (fs, dqO n (low.map fun s => .ref s.ta)) ∈ news) (q4 : (pb, dqO np []) ∈ news)
    (q5 : (top.sx, instObj 609 top.sd) ∈ news) (q6 : (top.sd, sioR w top.sk top.txt top.rest top.tp) ∈ news) (q7 : ∀ p ∈ lowObjs w low, p ∈ news)
    (h : ∀ h' tk n' t1 t2 t3 t4 t5, Fr h₀ L h' m → News h₀ L h' (lexAll w lk lx ld pb fs n' np (.str (Str.ofString " ") t1) t3 { top' with lt := t2, tp := t4 } low') → Q (.str ⟨tok.toArray⟩ t5) { s with heap := h', toks := tk }) :
    wpAny (model PySem.Challenge.rw_ny0282_01.row.prog w) A (call (.ref 705) [.ref lx]) Q E s := by
  have hsub : ∀ p ∈ lexAll w lk lx ld pb fs n np (.str (Str.ofString " ") st) tt top low, p ∈ news := by
    intro p hp
    simp only [lexAll, List.mem_cons] at hp
    rcases hp with rfl | rfl | rfl | rfl | rfl | rfl | hp
    · exact q1
    · exact q2
    · exact q3
    · exact q4
    · exact q5
    · exact q6
    · exact q7 p hp
  obtain ⟨O, H⟩ := out_of B F N hA hf hke hsub
  refine wpAny_call (ih G hlt ok oks hll nd O H hdep hh0 fun r t l e h' tk v st' n' t2 t3 t4 gv kp hh => ?_)
  rw [hgt] at e
  cases e
  cases gv with
  | some _ a b => exact h h' tk n' b t2 t3 t4 a (fr_kept F N hsub kp) (news_kept F N hsub kp (fun p hp => ⟨hh p hp, .inl (all_addr hgt _ (List.mem_map_of_mem hp))⟩) fun p hp => .inl hp)
end
end
section
open PySem PySem.W PySem.Calls PyProof.Rows
theorem reg_S5_1 : True := by
  k_with_none
  (k_with "S enter!" => (
  case ho => k_is
  case hcd => k_is
  case hroom => (first | exact room1 (by assumption) (by decide) | omega | (show _ < _; (try dsimp only); omega))
  case hbind => first | exact BindsTo.of_eq rfl | exact binds_K (by assumption) rfl (by k_is) rfl rfl rfl
  case hloc => exact locs rfl
  case c2 => rfl
  case c3 => rfl
  case c4 => rfl
  case c5 => decide))
  (k_with "S end!" => ((try dsimp only); repeat (k_unfold; (try dsimp only))))
  (k_with "truthy ref!" => (k_here; k_dflt (first
  | (refine' dq_truthy (News.get ?kN ?km) ?kz true ?kb ?_; (case kN => k_asm); (case km => k_mem); (case kb => exact rfl); (case kz => (first | (simp; done) | (simp; omega) | omega)); k_whole; intro _)
  | (refine' dq_truthy (News.get ?kN ?km) ?kz false ?kb ?_; (case kN => k_asm); (case km => k_mem); (case kb => exact rfl); (case kz => (first | (simp; done) | (simp; omega) | omega)); k_whole; intro _))))
  (k_with "getMethod ref!" => (k_here; (with_reducible show wpAny _ _ (getMethod (Value.ref _) (Str.ofString "popleft") _) _ _ _); k_dflt (refine' dq_popleft_m (News.get ?kN ?km) ?_; (case kN => k_asm); (case km => k_mem); k_whole)))
  (k_with "call builtin:collections.deque.popleft!" => (k_here; k_dflt (refine' dq_popleft_K ?kF ?kN ?ku ?kz ?_; (case kF => k_asm); (case kN => k_asm); (case ku => k_updF); (case kz => (first | (simp; done) | (simp; omega) | omega)); k_whole; intro zh' zF' zN'; (try dsimp only at zN'); (try k_sweep))))
  (k_with "call ref!" => (k_here; k_dflt (show wpAny _ _ (call (Value.ref 712) [Value.ref _]) _ _ _); (refine Stop.out ?_)))
  (k_with "call ref!" => (k_here; k_dflt (show wpAny _ _ (call (Value.ref 705) [Value.ref _]) _ _ _); (refine Stop.out ?_)))
  (k_with "assign Tuple!" => (k_here; k_dflt (refine' unpackN_ ?kF ?kN (isTup_of ?kN2 ?km) ?kh ?kn ?ks ?_; (case kF => k_asm); (case kN => k_asm); (case kN2 => k_asm); (case km => k_mem); (case kh => assumption); (case kn => exact rfl); (case ks => exact rfl); k_whole; intro zh' zF' zN'; (try k_sweep))))
  (k_with "eval Attribute Name!" => (k_here; k_dflt (refine' lex_self ?k1 ?k2 ?k3 ?k4 ?k5 ?k6 ?k7 ?k8 ?_ ?a ?b; (case a => rfl); (case b => rfl); (case k1 => k_asm); (case k2 => k_asm); (case k3 => k_asm); (case k4 => rfl); (case k5 => k_mem); (case k6 => k_mem); (case k7 => with_reducible constructor); (case k8 => k_handed); k_whole)))
  (k_with "setAttr ref!" => (k_here; k_dflt (refine' lex_set ?k1 ?k2 ?k3 ?k4 ?k5 ?k6 ?_; (case k1 => k_asm); (case k2 => k_asm); (case k3 => k_asm); (case k4 => k_mem); (case k5 => k_updF); (case k6 => with_reducible constructor); k_whole; intro zh' zF' zN'; (try dsimp only at zN'); (try k_sweep))))
  trivial
section
variable {w : World} {base : Heap} {mean : ExcName → Option Value} {mg mb : Str → Option Value}
set_option maxHeartbeats 3000000 in
theorem gtok_spec (low : List Strm) : GtSpec w mean mg mb base low := by
  induction low with
  | nil =>
    intro A outer s R lx ld pb fs lk st tt n np top G hlt ok oks hll nd O H hdep hh0 k
    obtain ⟨ahd, adp, afr, agd, aun⟩ := A
    have eH : ahd = none := hh0
    have eA : afr = some outer := O.stack
    subst eA
    have hdep2 := hdep
    dsimp only [List.length_nil] at hdep2
    obtain ⟨inf, sx, sd, sk, txt, rest, tp, ln, lt', ta⟩ := top
    obtain ⟨hp, hl, hgd, hln, hlt1⟩ := ok
    dsimp only at hp hl hgd hln hlt1
    cases hres : lexS false rest ln with
    | mk r l =>
    obtain ⟨l, r'⟩ := l
    simp only [lexAll, lowObjs, List.map_cons, List.map_nil, List.nodup_cons, List.mem_cons, not_or, List.mem_nil_iff, List.not_mem_nil, not_false_eq_true, and_true] at nd
    obtain ⟨⟨n1, n2, n3, n4, n5⟩, ⟨n7, n8, n9, n10⟩, ⟨n12, n13, n14⟩, ⟨n16, n17⟩, n19, -⟩ := nd
    w_on
    w_top on
    have Xs := (G.keeps O.stays).X
    refine' call_S (binds := [(Str.ofString "self", .ref lx)]) G O H ?ho ?hcd ?hroom ?hbind ?hloc ?_ ?c2 ?c3 ?c4 ?c5
    walk_at "S enter"
    clear Xs
    intro g L' h₁ eg F N B G' lt
    obtain ⟨T', GL', ⟨bm1, bm2, M'⟩, X'⟩ := G'
    clear lt
    try dsimp only
    try k_fold
    dsimp only [lexAll, lowObjs, List.map] at N
    cases r with
    | some tok =>
      k_steps
      refine Stop.mk ?_
      k_dflt (refine' rtok1_K ?kB ?kG ?kF ?kN ?kA ?kf ?kk ?kd ?kq ?kq2 ?kl ?kl1 ?ke ?ke2 ?ke3 ?ke4 ?ku ?ku2 ?kp ?kll ?kg ?kln ?kr ?_; (case kA => exact rfl); (case kf => exact rfl); (case kk => exact rfl); (case kF => k_asm); (case kN => k_asm); (case kB => k_asm); (case kG => assumption); (case kd => k_room); (case kq => k_mem); (case ku => k_updF); (case kq2 => k_mem); (case ku2 => (intro o; (try dsimp only); k_updF)); (case kl => assumption); (case kl1 => assumption); (case ke => k_ne); (case ke2 => k_ne); (case ke3 => k_ne); (case ke4 => k_ne); (case kp => assumption); (case kll => assumption); (case kg => assumption); (case kln => assumption); (case kr => assumption); k_whole; intro h' tk' t1' t2' t3' t4' t5' F' N'; (try dsimp only at N'); (try k_sweep))
      k_steps
      all_goals walk_at "S end"
      (rename News _ _ _ _ => nE')
      exact k _ _ _ (gt_some hres) _ _ _ _ _ _ _ _ (.some tok _ _) (kept_of eg (by assumption)) (fun p hp => (nE' p hp).1)
    | none =>
      k_steps
      refine Stop.mk ?_
      k_dflt (refine' rtok0_K ?kB ?kG ?kF ?kN ?kA ?kf ?kk ?kd ?kq ?kq2 ?kl ?kl1 ?ke ?ke2 ?ke3 ?ke4 ?ku ?ku2 ?kp ?kll ?kg ?kln ?kr ?_; (case kA => exact rfl); (case kf => exact rfl); (case kk => exact rfl); (case kF => k_asm); (case kN => k_asm); (case kB => k_asm); (case kG => assumption); (case kd => k_room); (case kq => k_mem); (case ku => k_updF); (case kq2 => k_mem); (case ku2 => (intro o; (try dsimp only); k_updF)); (case kl => assumption); (case kl1 => assumption); (case ke => k_ne); (case ke2 => k_ne); (case ke3 => k_ne); (case ke4 => k_ne); (case kp => assumption); (case kll => assumption); (case kg => assumption); (case kln => assumption); (case kr => assumption); k_whole; intro h' tk' t2' t3' t4' F' N'; (try dsimp only at N'); (try k_sweep))
      k_steps
      all_goals walk_at "S end"
      (rename News _ _ _ _ => nE')
      exact k _ _ _ (gt_none hres) _ _ _ _ _ _ _ _ .none (kept_of eg (by assumption)) (fun p hp => (nE' p hp).1)
  | cons s2 low' ih =>
    intro A outer s R lx ld pb fs lk st tt n np top G hlt ok oks hll nd O H hdep hh0 k
    obtain ⟨ahd, adp, afr, agd, aun⟩ := A
    have eH : ahd = none := hh0
    have eA : afr = some outer := O.stack
    subst eA
    have hdep2 := hdep
    dsimp only [List.length_cons] at hdep2
    obtain ⟨inf, sx, sd, sk, txt, rest, tp, ln, lt', ta⟩ := top
    obtain ⟨hp, hl, hgd, hln, hlt1⟩ := ok
    dsimp only at hp hl hgd hln hlt1
    have ok2 := oks s2 (.head _)
    have oks2 : ∀ s ∈ low', s.Ok := fun s hs => oks s (.tail _ hs)
    have hll2 : low'.length ≤ 100 := by simp at hll; omega
    cases hres : lexS false rest ln with
    | mk r l =>
    obtain ⟨l, r'⟩ := l
    cases hgt : gt s2 low' with
    | mk r2 tl =>
    obtain ⟨t', low''⟩ := tl
    have nd' := nd
    simp only [lexAll, lowObjs, List.map_cons, List.nodup_cons, List.mem_cons, not_or, List.mem_map, not_exists, not_and] at nd
    obtain ⟨⟨n1, n2, n3, n4, n5, na1, na2, na3, na4⟩, ⟨n7, n8, n9, n10, nb1, nb2, nb3, nb4⟩, ⟨n12, n13, n14, nc1, nc2, nc3, nc4⟩, ⟨n16, n17, nd1, nd2, nd3, nd4⟩, ⟨n19, ne1, ne2, ne3, ne4⟩, ⟨nf1, nf2, nf3, nf4⟩, ⟨ng1, ng2, ng3⟩, ⟨nh1, nh2⟩, ni1, ni2⟩ := nd
    have nd3 : (lx :: ld :: fs :: pb :: s2.sx :: s2.sd :: (lowObjs w low').map (·.1)).Nodup := by
      simp only [List.map_cons, List.nodup_cons, List.mem_cons, not_or, List.mem_map, not_exists, not_and]
      exact ⟨⟨n1, n2, n3, na2, na3, na4⟩, ⟨n7, n8, nb2, nb3, nb4⟩, ⟨n12, nc2, nc3, nc4⟩, ⟨nd2, by assumption, by assumption⟩, ⟨nh1, nh2⟩, ni1, ni2⟩
    w_on
    w_top on
    have Xs := (G.keeps O.stays).X
    refine' call_S (binds := [(Str.ofString "self", .ref lx)]) G O H ?ho ?hcd ?hroom ?hbind ?hloc ?_ ?c2 ?c3 ?c4 ?c5
    walk_at "S enter"
    clear Xs
    intro g L' h₁ eg F N B G' lt
    obtain ⟨T', GL', ⟨bm1, bm2, M'⟩, X'⟩ := G'
    clear lt
    try dsimp only
    try k_fold
    dsimp only [lexAll, lowObjs, List.map] at N
    cases r with
    | some tok =>
      k_steps
      refine Stop.mk ?_
      k_dflt (refine' rtok1_K ?kB ?kG ?kF ?kN ?kA ?kf ?kk ?kd ?kq ?kq2 ?kl ?kl1 ?ke ?ke2 ?ke3 ?ke4 ?ku ?ku2 ?kp ?kll ?kg ?kln ?kr ?_; (case kA => exact rfl); (case kf => exact rfl); (case kk => exact rfl); (case kF => k_asm); (case kN => k_asm); (case kB => k_asm); (case kG => assumption); (case kd => k_room); (case kq => k_mem); (case ku => k_updF); (case kq2 => k_mem); (case ku2 => (intro o; (try dsimp only); k_updF)); (case kl => assumption); (case kl1 => assumption); (case ke => k_ne); (case ke2 => k_ne); (case ke3 => k_ne); (case ke4 => k_ne); (case kp => assumption); (case kll => assumption); (case kg => assumption); (case kln => assumption); (case kr => assumption); k_whole; intro h' tk' t1' t2' t3' t4' t5' F' N'; (try dsimp only at N'); (try k_sweep))
      k_steps
      all_goals walk_at "S end"
      (rename News _ _ _ _ => nE')
      exact k _ _ _ (gt_some hres) _ _ _ _ _ _ _ _ (.some tok _ _) (kept_of eg (by assumption)) (fun p hp => (nE' p hp).1)
    | none =>
      have hk := gt_pop (s' := s2) (low := low') (s := ⟨inf, sx, sd, sk, txt, rest, tp, ln, lt', ta⟩) hres
      rw [hgt] at hk
      cases r2 with
      | none =>
        have e := gt_low low' s2 hgt
        subst e
        k_steps
        refine Stop.mk ?_
        k_dflt (refine' rtok0_K ?kB ?kG ?kF ?kN ?kA ?kf ?kk ?kd ?kq ?kq2 ?kl ?kl1 ?ke ?ke2 ?ke3 ?ke4 ?ku ?ku2 ?kp ?kll ?kg ?kln ?kr ?_; (case kA => exact rfl); (case kf => exact rfl); (case kk => exact rfl); (case kF => k_asm); (case kN => k_asm); (case kB => k_asm); (case kG => assumption); (case kd => k_room); (case kq => k_mem); (case ku => k_updF); (case kq2 => k_mem); (case ku2 => (intro o; (try dsimp only); k_updF)); (case kl => assumption); (case kl1 => assumption); (case ke => k_ne); (case ke2 => k_ne); (case ke3 => k_ne); (case ke4 => k_ne); (case kp => assumption); (case kll => assumption); (case kg => assumption); (case kln => assumption); (case kr => assumption); k_whole; intro h' tk' t2' t3' t4' F' N'; (try dsimp only at N'); (try k_sweep))
        k_steps
        refine Stop.mk ?_
        k_dflt (refine' gtok0_K ?ki ?kB ?kG ?kF ?kN ?kA ?kf ?kk ?kl ?ko ?kos ?kll ?kd ?kh ?kv ?knd ?k1 ?k2 ?k3 ?k4 ?k5 ?k6 ?k7 ?_; (case kA => exact rfl); (case kf => exact rfl); (case kk => exact rfl); (case kF => k_asm); (case kN => k_asm); (case kB => k_asm); (case kG => assumption); (case ki => assumption); (case kl => assumption); (case kv => assumption); (case ko => assumption); (case kos => assumption); (case kh => assumption); (case kll => assumption); (case kd => k_room); (case k1 => k_mem); (case k2 => k_mem); (case k3 => k_mem); (case k4 => k_mem); (case k5 => k_mem); (case k6 => k_mem); (case k7 => (intro p hp; (repeat (first | exact hp | refine List.Mem.tail _ ?_)))); (case knd => assumption); k_whole; intro h' tk' n' t2' t3' t4' F' N'; (try dsimp only [lexAll, lowObjs, List.map] at N'); (try k_sweep))
        k_steps
        all_goals walk_at "S end"
        (rename News _ _ _ _ => nE')
        have hh9 : Holds _ _ := fun p hp => (nE' p hp).1
        refine' k _ _ _ hk _ _ _ _ _ _ _ _ .none (kept_of eg (by assumption)) ?kh
        case kh =>
          dsimp only [lexAll, lowObjs, List.map]
          exact hh9
      | some tok =>
        k_steps
        refine Stop.mk ?_
        k_dflt (refine' rtok0_K ?kB ?kG ?kF ?kN ?kA ?kf ?kk ?kd ?kq ?kq2 ?kl ?kl1 ?ke ?ke2 ?ke3 ?ke4 ?ku ?ku2 ?kp ?kll ?kg ?kln ?kr ?_; (case kA => exact rfl); (case kf => exact rfl); (case kk => exact rfl); (case kF => k_asm); (case kN => k_asm); (case kB => k_asm); (case kG => assumption); (case kd => k_room); (case kq => k_mem); (case ku => k_updF); (case kq2 => k_mem); (case ku2 => (intro o; (try dsimp only); k_updF)); (case kl => assumption); (case kl1 => assumption); (case ke => k_ne); (case ke2 => k_ne); (case ke3 => k_ne); (case ke4 => k_ne); (case kp => assumption); (case kll => assumption); (case kg => assumption); (case kln => assumption); (case kr => assumption); k_whole; intro h' tk' t2' t3' t4' F' N'; (try dsimp only at N'); (try k_sweep))
        k_steps
        refine Stop.mk ?_
        k_dflt (refine' gtok1_K ?ki ?kB ?kG ?kF ?kN ?kA ?kf ?kk ?kl ?ko ?kos ?kll ?kd ?kh ?kv ?knd ?k1 ?k2 ?k3 ?k4 ?k5 ?k6 ?k7 ?_; (case kA => exact rfl); (case kf => exact rfl); (case kk => exact rfl); (case kF => k_asm); (case kN => k_asm); (case kB => k_asm); (case kG => assumption); (case ki => assumption); (case kl => assumption); (case kv => assumption); (case ko => assumption); (case kos => assumption); (case kh => assumption); (case kll => assumption); (case kd => k_room); (case k1 => k_mem); (case k2 => k_mem); (case k3 => k_mem); (case k4 => k_mem); (case k5 => k_mem); (case k6 => k_mem); (case k7 => (intro p hp; (repeat (first | exact hp | refine List.Mem.tail _ ?_)))); (case knd => assumption); k_whole; intro h' tk' n' t1' t2' t3' t4' t5' F' N'; (try dsimp only [lexAll] at N'); (try k_sweep))
        k_steps
        all_goals walk_at "S end"
        (rename News _ _ _ _ => nE')
        have hh9 : Holds _ _ := fun p hp => (nE' p hp).1
        refine' k _ _ _ hk _ _ _ _ _ _ _ _ (.some tok _ _) (kept_of eg (by assumption)) ?kh
        case kh =>
          dsimp only [lexAll]
          exact hh9
end
end
section
open PySem PySem.W PySem.Calls PyProof.Rows
theorem reg_S6_1 : True := by
  k_with_none
  (k_with "S enter!" => (
  case ho => k_is
  case hcd => k_is
  case hroom => (first | exact room1 (by assumption) (by decide) | omega | (show _ < _; (try dsimp only); omega))
  case hbind => first | exact BindsTo.of_eq rfl | exact binds_K (by assumption) rfl (by k_is) rfl rfl rfl
  case hloc => exact locs rfl
  case c2 => rfl
  case c3 => rfl
  case c4 => rfl
  case c5 => decide))
  (k_with "S end!" => ((try dsimp only); repeat (k_unfold; (try dsimp only))))
  (k_with "binaryOp Mod str ref!" => (k_here; k_dflt (refine' lead_K ?kN ?km ?kx ?kq ?_; (case kN => k_asm); (case km => k_mem); (case kx => assumption); (case kq => assumption); k_whole; intro _ _)))
  trivial
section
variable {w : World} {A : Around} {outer : List Env} {s : Shared} {base : Heap} {mean : ExcName → Option Value} {mg mb : Str → Option Value} {R : Result → Shared → Prop} {lx ld pb fs : Addr} {t : Tok} {lk : LK} {st : Value} {tok : Value} {ins : Value} {x : Str} {ln : Nat} {lt' tn : Tok}
set_option maxHeartbeats 3000000 in
theorem leader_spec
    (G : Gr w mean mg mb base) (hlt : @LT.lt Nat _ ld lx) (O : Out A outer base s.heap [lx, ld]) (H : Holds s.heap [(lx, instObj 744 ld), (ld, lexD w lk ins (.str x tn) st pb (.int (ln : Int) lt') tok fs)]) (hdep : A.depth + 40 < recursionLimit)
    (hl : x.length ≤ 64) (hln : ln ≤ 1000)
    (k : ∀ h' tk tc, Kept [lx, ld] s.heap h' → Holds h' [(lx, instObj 744 ld), (ld, lexD w lk ins (.str x tn) st pb (.int (ln : Int) lt') tok fs)] → R (.ok (.ret (.str (lead x ln) tc))) { s with heap := h', toks := tk }) :
    codeAny (model PySem.Challenge.rw_ny0282_01.row.prog w) A (.call (.ref 727) ⟨[.ref lx], []⟩) R s := by
  obtain ⟨ahd, adp, afr, agd, aun⟩ := A
  have eA : afr = some outer := O.stack
  subst eA
  have hdep2 := hdep
  dsimp only at hdep2
  w_on
  w_top on
  have Xs := (G.keeps O.stays).X
  refine' call_S (binds := [(Str.ofString "self", .ref lx), (Str.ofString "infile", .none), (Str.ofString "lineno", .none)]) G O H ?ho ?hcd ?hroom ?hbind ?hloc ?_ ?c2 ?c3 ?c4 ?c5
  walk_at "S enter"
  clear Xs
  intro g L' h₁ eg F N B G' lt
  obtain ⟨T', GL', ⟨bm1, bm2, M'⟩, X'⟩ := G'
  clear lt
  try dsimp only
  (try generalize s.toks + _ = tk0)
  try k_fold
  k_steps
  all_goals walk_at "S end"
  (rename News _ _ _ _ => nE')
  exact k _ _ _ (kept_of eg (by assumption)) (fun p hp => (nE' p (.tail _ hp)).1)
end
end
section
open PySem PySem.W PySem.Calls PyProof.Rows
theorem reg_S7b_1 : True := by
  k_with_none
  (k_with "S enter!" => (
  case ho => k_is
  case hcd => k_is
  case hroom => (first | exact room1 (by assumption) (by decide) | omega | (show _ < _; (try dsimp only); omega))
  case hbind => first | exact BindsTo.of_eq rfl | exact binds_K (by assumption) rfl (by k_is) rfl rfl rfl
  case hloc => exact locs rfl
  case c2 => rfl
  case c3 => rfl
  case c4 => rfl
  case c5 => decide))
  (k_with "S end!" => ((try dsimp only); repeat (k_unfold; (try dsimp only))))
  trivial
section
variable {w : World} {A : Around} {outer : List Env} {s : Shared} {base : Heap} {mean : ExcName → Option Value} {mg mb : Str → Option Value} {R : Result → Shared → Prop} {sx sd : Addr} {t : Tok} {txt : List Nat}
set_option maxHeartbeats 3000000 in
theorem sinit_spec
    (G : Gr w mean mg mb base) (hlt : @LT.lt Nat _ sd sx) (O : Out A outer base s.heap [sx, sd]) (H : Holds s.heap [(sx, instObj 609 sd), (sd, dictOf [] 0)]) (hdep : A.depth + 20 < recursionLimit) (hl : txt.length ≤ 64)
    (k : ∀ h' tk sk tp, Kept [sx, sd] s.heap h' → Holds h' [(sx, instObj 609 sd), (sd, sioP w sk txt 0 tp)] → R (.ok (.ret .none)) { s with heap := h', toks := tk }) :
    codeAny (model PySem.Challenge.rw_ny0282_01.row.prog w) A (.call (.ref 379) ⟨[.ref sx, .str ⟨txt.toArray⟩ t], []⟩) R s := by
  obtain ⟨ahd, adp, afr, agd, aun⟩ := A
  have eA : afr = some outer := O.stack
  subst eA
  have hdep2 := hdep
  dsimp only at hdep2
  have hll : (⟨txt.toArray⟩ : Str).length ≤ 64 := by simp [Str.length]; omega
  w_on
  w_top on
  have Xs := (G.keeps O.stays).X
  refine' call_S (binds := [(Str.ofString "self", .ref sx), (Str.ofString "initial_value", .str ⟨txt.toArray⟩ t), (Str.ofString "newline", .str (Str.ofString "\n") 785)]) G O H ?ho ?hcd ?hroom ?hbind ?hloc ?_ ?c2 ?c3 ?c4 ?c5
  walk_at "S enter"
  clear Xs
  intro g L' h₁ eg F N B G' lt
  obtain ⟨T', GL', ⟨bm1, bm2, M'⟩, X'⟩ := G'
  try dsimp only
  generalize s.toks + _ = tk0
  try k_fold
  simp only [AllLt, and_true] at lt
  k_steps
  all_goals walk_at "S end"
  (rename News _ _ _ _ => nE')
  exact k _ _ ⟨_, _, _, _, _⟩ _ (kept_of eg (by assumption)) (fun p hp => (nE' p hp).1)
end
section
variable {w : World} {A₀ A : Around} {env : Env} {outer : List Env} {s : Shared} {base h₀ : Heap} {mean : ExcName → Option Value} {mg mb m : Str → Option Value} {news : List (Addr × Obj)} {gl : Obj → List (Addr × Obj)} {R : Result → Shared → Prop} {L sx sd : Addr} {t : Tok} {txt : List Nat} {A' : Around}
theorem sinit_K (B : Below A₀ base outer h₀) (G : Gr w mean mg mb base) (F : Fr h₀ L s.heap m) (N : News h₀ L s.heap news) (hA : A.frames = some (env :: outer)) (hf : env.frame = some L) (hke : env.scope.kind = .function) (hdep : A.depth + 20 < recursionLimit)
    (q1 : (sx, instObj 609 sd) ∈ news) (hlt : @LT.lt Nat _ sd sx) (u : UpdF sd (dictOf [] 0) news gl) (hl : txt.length ≤ 64)
    (h : ∀ h' tk sk tp, Fr h₀ L h' m → News h₀ L h' (gl (sioP w sk txt 0 tp)) → R (.ok (.ret (.ref sx))) { s with heap := h', toks := tk }) :
    NewBack w A (.str ⟨txt.toArray⟩ t) R (.ok (.ret (.ref sx))) s := by
  obtain ⟨O, H⟩ := out_of B F N hA hf hke (two_in q1 (Upd.mem' (updF_upd u (dictOf [] 0))).1)
  refine newBack_K F (G.keeps (B.stays)).X N q1 (sinit_spec G hlt O H hdep hl fun h' tk sk tp kp hh => ?_)
  obtain ⟨F', N'⟩ := back_two F N q1 u kp hh
  exact ⟨rfl, h h' tk sk tp F' N'⟩
end
end
section
open PySem PySem.W PySem.Calls PyProof.Rows
theorem reg_S7_1 : True := by
  k_with_none
  (k_with "S enter!" => (
  case ho => k_is
  case hcd => k_is
  case hroom => (first | exact room1 (by assumption) (by decide) | omega | (show _ < _; (try dsimp only); omega))
  case hbind => first | exact BindsTo.of_eq rfl | exact binds_K (by assumption) rfl (by k_is) rfl rfl rfl
  case hloc => exact locs rfl
  case c2 => rfl
  case c3 => rfl
  case c4 => rfl
  case c5 => decide))
  (k_with "S end!" => ((try dsimp only); repeat (k_unfold; (try dsimp only))))
  (k_with "getMethod ref!" => (k_here; (with_reducible show wpAny _ _ (getMethod (Value.ref _) (Str.ofString "appendleft") _) _ _ _); k_dflt (refine' dq_appendleft_m (News.get ?kN ?km) ?_; (case kN => k_asm); (case km => k_mem); k_whole)))
  (k_with "call builtin:collections.deque.appendleft!" => (k_here; k_dflt (refine' dq_appendleft_K ?kF ?kN ?ku ?kz ?_; (case kF => k_asm); (case kN => k_asm); (case ku => k_updF); (case kz => (first | (simp; done) | (simp; omega) | omega)); k_whole; intro zh' zF' zN'; (try dsimp only at zN'); (try k_sweep))))
  (k_with "call ref!" => (k_here; k_dflt (show wpAny _ _ (call (Value.ref 609) [_]) _ _ _); k_dflt (refine' call_609K ?kF ?kX ?_; (case kF => k_asm); (case kX => k_asm); k_whole; k_enter)))
  (k_with "call builtin:object.__new__!" => (k_here; k_dflt (refine' new_609K ?kF ?kX ?kN ?_; (case kF => k_asm); (case kX => k_asm); (case kN => k_asm); k_whole; intro zx' zd' zh' zF' zN' zl1 zl2; (try k_lt zl1); (try k_lt2 zl2); (try k_sweep))))
  (k_with "NewBack!" => (k_dflt (refine' sinit_K ?kB ?kG ?kF ?kN ?kA ?kf ?kk ?kd ?kq ?kl ?ku ?kll ?_; (case kA => exact rfl); (case kf => exact rfl); (case kk => exact rfl); (case kF => k_asm); (case kN => k_asm); (case kB => k_asm); (case kG => assumption); (case kd => k_room); (case kq => k_mem); (case ku => k_updF); (case kl => omega); (case kll => assumption); k_whole; intro zh' ztk' zsk' ztp' zF' zN'; (try dsimp only at zN'); (try k_sweep); (try dsimp only))))
  trivial
theorem mem_skip {α : Type} {p a b c d e : α} {l : List α} (h : p ∈ a :: b :: c :: l) : p ∈ a :: b :: c :: d :: e :: l := by
  simp only [List.mem_cons] at h ⊢
  rcases h with h | h | h | h
  · exact .inl h
  · exact .inr (.inl h)
  · exact .inr (.inr (.inl h))
  · exact .inr (.inr (.inr (.inr (.inr h))))
theorem fresh_of {S : List Addr} {h g : Heap} {a : Addr} (e : g = hideAll h S) (hn : g.get? a = none) (ha : a ∉ S) : h.get? a = none := by
  cases q : h.get? a with
  | none => rfl
  | some o => rw [e, hideAll_get S q ha] at hn; cases hn
section
variable {w : World} {A : Around} {outer : List Env} {s : Shared} {base : Heap} {mean : ExcName → Option Value} {mg mb : Str → Option Value} {R : Result → Shared → Prop} {lx ld pb fs sx : Addr} {t tn' : Tok} {lk : LK} {st : Value} {tok : Value} {txt : List Nat} {xn xi : Str} {ln : Nat} {lt' tn : Tok} {n np : Int} {vs : List Value}
set_option maxHeartbeats 3000000 in
theorem push_spec
    (G : Gr w mean mg mb base) (hlt : @LT.lt Nat _ ld lx) (n1 : ¬ lx = fs) (n2 : ¬ ld = fs) (O : Out A outer base s.heap [lx, ld, fs]) (H : Holds s.heap [(lx, instObj 744 ld), (ld, lexD w lk (.ref sx) (.str xi tn) st pb (.int (ln : Int) lt') tok fs), (fs, dqO n vs)]) (hdep : A.depth + 40 < recursionLimit)
    (hl : vs.length ≤ 100) (hx : txt.length ≤ 64)
    (k : ∀ h' tk sx' sd' ta sk tp t2, Kept [lx, ld, fs] s.heap h' → @LT.lt Nat _ sd' sx' → @LT.lt Nat _ sx' ta → s.heap.get? sx' = none → s.heap.get? sd' = none → s.heap.get? ta = none →
      Holds h' [(ta, { cls := .type "tuple", data := .seq #[.str xi tn, .ref sx, .int (ln : Int) lt'] }), (sx', instObj 609 sd'), (sd', sioP w sk txt 0 tp), (lx, instObj 744 ld), (ld, lexD w lk (.ref sx') (.str xn tn') st pb (.int 1 t2) tok fs), (fs, dqO (n + 1) (.ref ta :: vs))] →
      R (.ok (.ret .none)) { s with heap := h', toks := tk }) :
    codeAny (model PySem.Challenge.rw_ny0282_01.row.prog w) A (.call (.ref 691) ⟨[.ref lx, .str ⟨txt.toArray⟩ t, .str xn tn'], []⟩) R s := by
  obtain ⟨ahd, adp, afr, agd, aun⟩ := A
  have eA : afr = some outer := O.stack
  subst eA
  have hdep2 := hdep
  dsimp only at hdep2
  have n0 : ¬ lx = ld := fun e => by rw [e] at hlt; exact Nat.lt_irrefl _ hlt
  have hll : (⟨txt.toArray⟩ : Str).length ≤ 64 := by simp [Str.length]; omega
  w_on
  w_top on
  have Xs := (G.keeps O.stays).X
  refine' call_S (binds := [(Str.ofString "self", .ref lx), (Str.ofString "newstream", .str ⟨txt.toArray⟩ t), (Str.ofString "newfile", .str xn tn')]) G O H ?ho ?hcd ?hroom ?hbind ?hloc ?_ ?c2 ?c3 ?c4 ?c5
  walk_at "S enter"
  clear Xs
  intro g L' h₁ eg F N B G' lt
  obtain ⟨T', GL', ⟨bm1, bm2, M'⟩, X'⟩ := G'
  clear lt
  try dsimp only
  generalize s.toks + _ = tk0
  try k_fold
  k_steps
  all_goals walk_at "S end"
  (rename News _ _ _ _ => nE')
  have hh9 : Holds _ _ := fun p hp => (nE' p (mem_skip hp)).1
  have f1 := (nE' _ (.head _)).2.2
  have f2 := (nE' _ (.tail _ (.head _))).2.2
  have f3 := (nE' _ (.tail _ (.tail _ (.head _)))).2.2
  refine' k _ _ _ _ _ _ _ _ (kept_of eg (by assumption)) ?a1 ?a2 (fresh_of eg f2 ?a3) (fresh_of eg f3 ?a4) (fresh_of eg f1 ?a5) hh9
  case a1 => assumption
  case a2 => omega
  all_goals (simp only [List.map_cons, List.map_nil, List.mem_cons, List.not_mem_nil, or_false, not_or]; refine ⟨?_, ?_, ?_⟩ <;> exact Nat.ne_of_gt (by omega))
end
end
section
open PySem PySem.W PySem.Calls PyProof.Rows
theorem reg_S8_1 : True := by
  k_with_none
  (k_with "S enter!" => (
  case ho => k_is
  case hcd => k_is
  case hroom => (first | exact room1 (by assumption) (by decide) | omega | (show _ < _; (try dsimp only); omega))
  case hbind => first | exact BindsTo.of_eq rfl | exact binds_K (by assumption) rfl (by k_is) rfl rfl rfl
  case hloc => exact locs rfl
  case c2 => rfl
  case c3 => rfl
  case c4 => rfl
  case c5 => decide))
  (k_with "S end!" => ((try dsimp only); repeat (k_unfold; (try dsimp only))))
  (k_with "call ref!" => (k_here; k_dflt (show wpAny _ _ (call (Value.ref 609) [_]) _ _ _); k_dflt (refine' call_609K ?kF ?kX ?_; (case kF => k_asm); (case kX => k_asm); k_whole; k_enter)))
  (k_with "call builtin:object.__new__!" => (k_here; k_dflt (refine' new_609K ?kF ?kX ?kN ?_; (case kF => k_asm); (case kX => k_asm); (case kN => k_asm); k_whole; intro zx' zd' zh' zF' zN' zl1 zl2; (try k_lt zl1); (try k_lt2 zl2); (try k_sweep))))
  (k_with "NewBack!" => (k_dflt (refine' sinit_K ?kB ?kG ?kF ?kN ?kA ?kf ?kk ?kd ?kq ?kl ?ku ?kll ?_; (case kA => exact rfl); (case kf => exact rfl); (case kk => exact rfl); (case kF => k_asm); (case kN => k_asm); (case kB => k_asm); (case kG => assumption); (case kd => k_room); (case kq => k_mem); (case ku => k_updF); (case kl => omega); (case kll => assumption); k_whole; intro zh' ztk' zsk' ztp' zF' zN'; (try dsimp only at zN'); (try k_sweep); (try dsimp only))))
  (k_with "call type:collections.deque!" => (k_here; k_dflt (refine' dq_make_K ?kF ?kN ?_; (case kF => k_asm); (case kN => k_asm); k_whole; intro zd' zh' zF' zN' zl1; (try k_lt zl1); (try k_sweep))))
  trivial
noncomputable def mkLK (l l' : List Tok) : LK := ⟨fun i => l.getD i 0, fun i => l'.getD i 0⟩
/-- The lexer's dict as it is made. -/
noncomputable abbrev lexD0 (w : World) (k : LK) (ins inf st : Value) (pb : Addr) (ln tok : Value) (fs : Addr) : Obj :=
  dictOf [ent w (Str.ofString "instream") (k.k 0) ins, ent w (Str.ofString "infile") (k.k 1) inf, ent w (Str.ofString "posix") (k.k 2) (.bool true), ent w (Str.ofString "eof") (k.k 3) .none,
    ent w (Str.ofString "commenters") (k.k 4) (.str (Str.ofString "#") (k.v 4)),
    ent w (Str.ofString "wordchars") (k.k 5) (.str (Str.ofString "abcdfeghijklmnopqrstuvwxyzABCDEFGHIJKLMNOPQRSTUVWXYZ0123456789_ßàáâãäåæçèéêëìíîïðñòóôõöøùúûüýþÿÀÁÂÃÄÅÆÇÈÉÊËÌÍÎÏÐÑÒÓÔÕÖØÙÚÛÜÝÞ") (k.v 5)),
    ent w (Str.ofString "whitespace") (k.k 6) (.str (Str.ofString " \t\r\n") (k.v 6)), ent w (Str.ofString "whitespace_split") (k.k 7) (.bool false),
    ent w (Str.ofString "quotes") (k.k 8) (.str (Str.ofString "'\"") (k.v 8)), ent w (Str.ofString "escape") (k.k 9) (.str (Str.ofString "\\") (k.v 9)), ent w (Str.ofString "escapedquotes") (k.k 10) (.str (Str.ofString "\"") (k.v 10)),
    ent w (Str.ofString "state") (k.k 11) st, ent w (Str.ofString "pushback") (k.k 12) (.ref pb), ent w (Str.ofString "lineno") (k.k 13) ln, ent w (Str.ofString "debug") (k.k 14) (.int 0 (k.v 14)),
    ent w (Str.ofString "token") (k.k 15) tok, ent w (Str.ofString "filestack") (k.k 16) (.ref fs), ent w (Str.ofString "source") (k.k 17) .none, ent w (Str.ofString "_punctuation_chars") (k.k 18) (.str (Str.ofString "") (k.v 18))] 19
theorem mem_skip4 {α : Type} {p a b c d e f : α} {l : List α} (h : p ∈ a :: b :: c :: d :: l) : p ∈ a :: b :: c :: d :: e :: f :: l := by
  simp only [List.mem_cons] at h ⊢
  rcases h with h | h | h | h | h
  · exact .inl h
  · exact .inr (.inl h)
  · exact .inr (.inr (.inl h))
  · exact .inr (.inr (.inr (.inl h)))
  · exact .inr (.inr (.inr (.inr (.inr (.inr h)))))
theorem fresh_of2 {S : List Addr} {h g : Heap} {a : Addr} (e : g = hideAll h S) (hn : g.get? a = none) (ha : a ∉ S) : h.get? a = none := by
  cases q : h.get? a with
  | none => rfl
  | some o => rw [e, hideAll_get S q ha] at hn; cases hn
section
variable {w : World} {A : Around} {outer : List Env} {s : Shared} {base : Heap} {mean : ExcName → Option Value} {mg mb : Str → Option Value} {R : Result → Shared → Prop} {lx ld : Addr} {t t' : Tok} {txt : List Nat} {xn : Str}
set_option maxHeartbeats 3000000 in
theorem init_spec
    (G : Gr w mean mg mb base) (hlt : @LT.lt Nat _ ld lx) (O : Out A outer base s.heap [lx, ld]) (H : Holds s.heap [(lx, instObj 744 ld), (ld, dictOf [] 0)]) (hdep : A.depth + 40 < recursionLimit)
    (hx : txt.length ≤ 64)
    (k : ∀ h' tk sx sd pb fs sk lk tp t1 t2 t3, Kept [lx, ld] s.heap h' → @LT.lt Nat _ sd sx → @LT.lt Nat _ sx pb → @LT.lt Nat _ pb fs → s.heap.get? sx = none → s.heap.get? sd = none → s.heap.get? pb = none → s.heap.get? fs = none →
      Holds h' [(fs, dqO 0 []), (pb, dqO 0 []), (sx, instObj 609 sd), (sd, sioP w sk txt 0 tp), (lx, instObj 744 ld), (ld, lexD0 w lk (.ref sx) (.str xn t') (.str (Str.ofString " ") t1) pb (.int 1 t2) (.str (Str.ofString "") t3) fs)] →
      R (.ok (.ret .none)) { s with heap := h', toks := tk }) :
    codeAny (model PySem.Challenge.rw_ny0282_01.row.prog w) A (.call (.ref 668) ⟨[.ref lx, .str ⟨txt.toArray⟩ t, .str xn t'], [(Str.ofString "posix", .bool true)]⟩) R s := by
  obtain ⟨ahd, adp, afr, agd, aun⟩ := A
  have eA : afr = some outer := O.stack
  subst eA
  have hdep2 := hdep
  dsimp only at hdep2
  have n0 : ¬ lx = ld := fun e => by rw [e] at hlt; exact Nat.lt_irrefl _ hlt
  have hll : (⟨txt.toArray⟩ : Str).length ≤ 64 := by simp [Str.length]; omega
  w_on
  w_top on
  have Xs := (G.keeps O.stays).X
  refine' call_S (binds := [(Str.ofString "self", .ref lx), (Str.ofString "instream", .str ⟨txt.toArray⟩ t), (Str.ofString "infile", .str xn t'), (Str.ofString "posix", .bool true), (Str.ofString "punctuation_chars", .bool false)]) G O H ?ho ?hcd ?hroom ?hbind ?hloc ?_ ?c2 ?c3 ?c4 ?c5
  walk_at "S enter"
  clear Xs
  intro g L' h₁ eg F N B G' lt
  obtain ⟨T', GL', ⟨bm1, bm2, M'⟩, X'⟩ := G'
  clear lt
  try dsimp only
  generalize s.toks + _ = tk0
  try k_fold
  k_steps
  all_goals walk_at "S end"
  (rename News _ _ _ _ => nE')
  have hh9 : Holds _ _ := fun p hp => (nE' p (mem_skip4 hp)).1
  have f1 := (nE' _ (.head _)).2.2
  have f2 := (nE' _ (.tail _ (.head _))).2.2
  have f3 := (nE' _ (.tail _ (.tail _ (.head _)))).2.2
  have f4 := (nE' _ (.tail _ (.tail _ (.tail _ (.head _))))).2.2
  refine' k _ _ _ _ _ _ _ (mkLK [_, _, _, _, _, _, _, _, _, _, _, _, _, _, _, _, _, _, _] [_, _, _, _, _, _, _, _, _, _, _, _, _, _, _, _, _, _, _]) _ _ _ _ (kept_of eg (by assumption)) ?a1 ?a2 ?a0 (fresh_of2 eg f3 ?a3) (fresh_of2 eg f4 ?a4) (fresh_of2 eg f2 ?a5) (fresh_of2 eg f1 ?a6) hh9
  case a1 => assumption
  case a2 => omega
  case a0 => omega
  all_goals first | exact 0 | (simp only [List.map_cons, List.map_nil, List.mem_cons, List.not_mem_nil, or_false, not_or]; refine ⟨?_, ?_⟩ <;> exact Nat.ne_of_gt (by omega))
end
end
section
open PySem PySem.W PySem.Calls PyProof.Rows
theorem reg_S10_1 : True := by
  k_with_none
  (k_with "S enter!" => (
  case ho => k_is
  case hcd => k_is
  case hroom => (first | exact room1 (by assumption) (by decide) | omega | (show _ < _; (try dsimp only); omega))
  case hbind => first | exact BindsTo.of_eq rfl | exact binds_K (by assumption) rfl (by k_is) rfl rfl rfl
  case hloc => exact locs rfl
  case c2 => rfl
  case c3 => rfl
  case c4 => rfl
  case c5 => decide))
  (k_with "S end!" => ((try dsimp only); repeat (k_unfold; (try dsimp only))))
  trivial
open PySem.Builtin
section
variable {w : World} {A : Around} {E : Value → Shared → Prop} {s : Shared} {h₀ : Heap} {L a : Addr} {m : Str → Option Value} {news : List (Addr × Obj)} {o : Obj}
theorem re_sub_mK {pl : Sem Bool} {Q : Value × List Value → Shared → Prop} (F : Fr h₀ L s.heap m) (X₀ : (hd.heap_1 w.params).In h₀) (e : (hd.heap_1 w.params).lookup a = some o) (hc : o.cls = .type "re.Pattern") (hdd : o.dict = none) (h : Q (.builtin "re.Pattern.sub", [.ref a]) s) :
    wpAny (model PySem.Challenge.rw_ny0282_01.row.prog w) A (getMethod (.ref a) (Str.ofString "sub") pl) Q E s := re_sub_m (X₀.keeps F.keep _ _ e) hc hdd h
theorem sub_K {Q : Value → Shared → Prop} {x r : Str} {t tr : Tok} {code : Array Nat} {hit : Nat → Option (Nat × Nat)} (H : Hits w a x.cps code hit) (hr : r.length ≤ 4) (hb : r.cps.contains 92 = false) (F : Fr h₀ L s.heap m) (X₀ : (hd.heap_1 w.params).In h₀) (N : News h₀ L s.heap news)
    (e : (hd.heap_1 w.params).lookup a = some o) (hc : o.cls = .type "re.Pattern")
    (h : ∀ h' tk tc, Fr h₀ L h' m → News h₀ L h' news → Q (.str (Txt.join Str.empty (pieces x.cps r hit (x.cps.size + 1) 0)) tc) { s with heap := h', toks := tk }) :
    wpAny (model PySem.Challenge.rw_ny0282_01.row.prog w) A (call (.builtin "re.Pattern.sub") [.ref a, .str r tr, .str x t]) Q E s := by
  refine sub_call H hr hb (X₀.keeps F.keep) (X₀.keeps F.keep _ _ e) hc fun h' tk tc k => ?_
  have kp : Kept (([] : List (Addr × Obj)).map (·.1)) s.heap h' := fun b o e _ => k b o e
  have hs0 : ∀ p ∈ ([] : List (Addr × Obj)), p ∈ news := fun _ hp => nomatch hp
  exact h h' tk tc (fr_kept F N hs0 kp) (news_kept (post := []) F N hs0 kp (fun _ hp => nomatch hp) fun p hp => .inr ⟨hp, fun q => nomatch q⟩)
end
end
section
open PySem PySem.W PySem.Calls PyProof.Rows
theorem reg_S11_1 : True := by
  k_with_none
  (k_with "S enter!" => (
  case ho => k_is
  case hcd => k_is
  case hroom => (first | exact room1 (by assumption) (by decide) | omega | (show _ < _; (try dsimp only); omega))
  case hbind => first | exact BindsTo.of_eq rfl | exact binds_K (by assumption) rfl (by k_is) rfl rfl rfl
  case hloc => exact locs rfl
  case c2 => rfl
  case c3 => rfl
  case c4 => rfl
  case c5 => decide))
  (k_with "S end!" => ((try dsimp only); repeat (k_unfold; (try dsimp only))))
  trivial
section
variable {w : World} {A : Around} {E : Value → Shared → Prop} {s : Shared} {h₀ : Heap} {L : Addr} {m : Str → Option Value} {news : List (Addr × Obj)} {o : Obj}
theorem sub1_K {Q : Value → Shared → Prop} {x : Str} {t tr : Tok} (hx : x.cps.size ≤ 64) (F : Fr h₀ L s.heap m) (X₀ : (hd.heap_1 w.params).In h₀) (N : News h₀ L s.heap news)
    (e : (hd.heap_1 w.params).lookup 49 = some o) (hc : o.cls = .type "re.Pattern")
    (h : ∀ h' tk tc, Fr h₀ L h' m → News h₀ L h' news → Q (.str ⟨(dots true x.cps.toList).toArray⟩ tc) { s with heap := h', toks := tk }) :
    wpAny (model PySem.Challenge.rw_ny0282_01.row.prog w) A (call (.builtin "re.Pattern.sub") [.ref 49, .str (Str.ofString "..") tr, .str x t]) Q E s := by
  refine sub_K (hits1 w x.cps hx) (by decide +kernel) (by decide +kernel) F X₀ N e hc fun h' tk tc F' N' => ?_
  rw [sub1_val]
  exact h h' tk tc F' N'
theorem sub2_K {Q : Value → Shared → Prop} {x : Str} {t tr : Tok} (hx : x.cps.size ≤ 64) (F : Fr h₀ L s.heap m) (X₀ : (hd.heap_1 w.params).In h₀) (N : News h₀ L s.heap news)
    (e : (hd.heap_1 w.params).lookup 54 = some o) (hc : o.cls = .type "re.Pattern")
    (h : ∀ h' tk tc, Fr h₀ L h' m → News h₀ L h' news → Q (.str ⟨(crlf x.cps.toList).toArray⟩ tc) { s with heap := h', toks := tk }) :
    wpAny (model PySem.Challenge.rw_ny0282_01.row.prog w) A (call (.builtin "re.Pattern.sub") [.ref 54, .str (Str.ofString "\r\n") tr, .str x t]) Q E s := by
  refine sub_K (hits2 w x.cps hx) (by decide +kernel) (by decide +kernel) F X₀ N e hc fun h' tk tc F' N' => ?_
  rw [sub2_val]
  exact h h' tk tc F' N'
end
theorem reg_S11_2 : True := by
  (k_with "getMethod ref!" => (k_here; k_dflt (refine' re_sub_mK ?kF ?kX ?ke ?kc ?kd ?_; (case kF => k_asm); (case kX => k_asm); (case ke => k_is); (case kc => exact rfl); (case kd => exact rfl); k_whole)))
  (k_with "call builtin:re.Pattern.sub!" => (k_here; k_dflt (first
  | (refine' sub2_K ?kx ?kF ?kX ?kN ?ke ?kc ?_; (case kF => k_asm); (case kX => k_asm); (case kN => k_asm); (case kx => assumption); (case ke => k_is); (case kc => exact rfl); k_whole; intro zh' ztk' ztc' zF' zN'; (try k_sweep))
  | (refine' sub1_K ?kx ?kF ?kX ?kN ?ke ?kc ?_; (case kF => k_asm); (case kX => k_asm); (case kN => k_asm); (case kx => assumption); (case ke => k_is); (case kc => exact rfl); k_whole; intro zh' ztk' ztc' zF' zN'; (try k_sweep)))))
  trivial
section
variable {w : World} {A : Around} {outer : List Env} {s : Shared} {base : Heap} {mean : ExcName → Option Value} {mg mb : Str → Option Value} {R : Result → Shared → Prop} {t : Tok} {x : Str}
set_option maxHeartbeats 3000000 in
theorem quote_spec
    (G : Gr w mean mg mb base) (O : Out A outer base s.heap []) (H : Holds s.heap []) (hdep : A.depth + 40 < recursionLimit) (hx : x.cps.size ≤ 30)
    (k : ∀ h' tk tc, Kept [] s.heap h' → R (.ok (.ret (.str ⟨(dots true (crlf x.cps.toList)).toArray⟩ tc))) { s with heap := h', toks := tk }) :
    codeAny (model PySem.Challenge.rw_ny0282_01.row.prog w) A (.call (.ref 61) ⟨[.str x t], []⟩) R s := by
  obtain ⟨ahd, adp, afr, agd, aun⟩ := A
  have eA : afr = some outer := O.stack
  subst eA
  have hdep2 := hdep
  dsimp only at hdep2
  have hx1 : x.cps.size ≤ 64 := by omega
  have hx2 : (⟨(crlf x.cps.toList).toArray⟩ : Str).cps.size ≤ 64 := by
    have := crlf_len x.cps.toList
    simp at this ⊢
    omega
  w_on
  w_top on
  have Xs := (G.keeps O.stays).X
  refine' call_S (news := []) (binds := [(Str.ofString "data", .str x t)]) G O H ?ho ?hcd ?hroom ?hbind ?hloc ?_ ?c2 ?c3 ?c4 ?c5
  walk_at "S enter"
  clear Xs
  intro g L' h₁ eg F N B G' lt
  obtain ⟨T', GL', ⟨bm1, bm2, M'⟩, X'⟩ := G'
  clear lt
  try dsimp only
  try k_fold
  k_steps
  all_goals walk_at "S end"
  exact k _ _ _ (kept_of eg (by assumption))
end
end
section
open PySem PySem.W PySem.Calls PyProof.Rows
theorem reg_S12_1 : True := by
  k_with_none
  (k_with "S enter!" => (
  case ho => k_is
  case hcd => k_is
  case hroom => (first | exact room1 (by assumption) (by decide) | omega | (show _ < _; (try dsimp only); omega))
  case hbind => first | exact BindsTo.of_eq rfl | exact binds_K (by assumption) rfl (by k_is) rfl rfl rfl
  case hloc => exact locs rfl
  case c2 => rfl
  case c3 => rfl
  case c4 => rfl
  case c5 => decide))
  (k_with "S end!" => ((try dsimp only); repeat (k_unfold; (try dsimp only))))
  trivial
theorem call_SC {w : World} {A : Around} {outer : List Env} {s : Shared} {base : Heap} {mean : ExcName → Option Value} {mg mb : Str → Option Value} {news : List (Addr × Obj)} {R : Result → Shared → Prop} {name qual : Str} {params : Arguments} {body : List Stmt} {scope : Scope} {dV kV doc pm cdv ct oc : Value} {an od : Option Addr} {osl : Array (Option Value)} {f : Addr} {args : Args} {binds : List (Str × Value)}
    (G : Gr w mean mg mb base) (O : Out A outer base s.heap (news.map (·.1))) (H : Holds s.heap news)
    (ho : (hd.heap_1 w.params).lookup f = some ⟨oc, od, .func (fnOf name qual params body scope dV kV doc pm an cdv ct), osl⟩) (hcd : codeIn (hd.heap_1 w.params) cdv qual = true) (hroom : A.depth < recursionLimit)
    (hbind : BindsTo s (fnOf name qual params body scope dV kV doc pm an cdv ct) args binds) (hkind : (binds.all fun y => scope.names.lookup y.1 == some .local || scope.names.lookup y.1 == some .cell) = true)
    (hnd : ((cellsFrom 0 scope.names []).map (·.1)).Nodup)
    (h : ∀ g L' h₁ tk cells, g = hideAll s.heap (news.map (·.1)) → Fr g L' h₁ (bindL (envOfC qual scope L' f cdv).kindOf binds fun _ => none) → News g L' h₁ (cells ++ news) →
      CellsAre (bindC (envOfC qual scope L' f cdv).kindOf binds fun _ => none) (cellsFrom (L' + 1) scope.names []) cells → Below A base outer g → Gr w mean mg mb g → AllLt L' news →
      wpAny (model PySem.Challenge.rw_ny0282_01.row.prog w) (A.deeper (envOfC qual scope L' f cdv)) (execs body (envOfC qual scope L' f cdv))
        (fun fl s' => R (.ok (.ret (match fl with | .ret v => v | _ => .none))) s')
        (fun e s' => wpAny (model PySem.Challenge.rw_ny0282_01.row.prog w) (A.deeper (envOfC qual scope L' f cdv)) (leaving (envOfC qual scope L' f cdv) e) (fun _ s'' => R (.error e) s'') (fun e' s'' => R (.error e') s'') s')
        { s with heap := h₁, toks := tk })
    (hco : scope.isCoroutine = false) (hgen : scope.isGenerator = false) (hk : scope.kind = .function) : codeAny (model PySem.Challenge.rw_ny0282_01.row.prog w) A (.call (.ref f) args) R s := by
  have Gs := G.keeps O.stays
  refine codeAny_call_function hroom (Gs.X _ _ ho) rfl hco hgen rfl (codeRec_of Gs.X hcd) (hbind _ _ _ _ ?_)
  refine wpAny_newFunctionEnv_cells hk (kindsX hkind _) fun env' he s' x => ?_
  subst he
  refine ⟨Gs.T.nolimit.keeps x.toInCall.keep, codeAny_func ?_⟩
  obtain ⟨h₁, tk, rfl, _⟩ := x.done
  have hk₁ := x.toInCall.keep
  obtain ⟨cells, NC, Y⟩ := Cl.news (h₀ := s.heap) (Nat.le_refl _) fun n c hm => ⟨x.cell n c (lookup_of_mem_nodup (cellsFrom_names scope.names 0 (s.heap.objs.size + 1) [] [] rfl ▸ hnd) hm), x.above n c hm⟩
  have st : base.StaysIn (hideAll s.heap (news.map (·.1))) := fun b o e => hideAll_get _ (O.stays b o e) fun q => by
    rw [O.off b q] at e; cases e
  refine h _ s.heap.objs.size h₁ tk cells rfl ⟨x.toInCall.ns, fun b o e => hk₁ b o (of_hideAll _ e), Nat.le_of_eq (hideAll_size _ _)⟩ (fun p hp => ?_) Y ⟨O.stack, st, funFrames_hideAll O.frames O.ne⟩ (G.keeps st) (allLt_of fun p hp => Heap.lt_size (H p hp))
  rcases List.mem_append.mp hp with hp | hp
  · refine ⟨(NC p hp).1, (NC p hp).2.1, ?_⟩
    cases q : (hideAll s.heap (news.map (·.1))).get? p.1 with
    | none => rfl
    | some o => have := of_hideAll _ q; rw [(NC p hp).2.2] at this; cases this
  · exact ⟨hk₁ _ _ (H p hp), Nat.ne_of_lt (Heap.lt_size (H p hp)), hideAll_none _ (List.mem_map_of_mem hp)⟩
open PySem.Builtin PySem.Builtin.Str in
noncomputable def sg (n k : Int) : Nat := (Txt.charAt (Str.ofString "\r\n.#a ") ((n.fdiv (6 ^ k.toNat)).fmod 6)).getD 0
noncomputable abbrev sgn (n k : Int) : Str := ⟨#[sg n k]⟩
noncomputable def lett (n : Int) : List Nat := (rangeKs 0 8).map (sg n) ++ [10]
theorem sg_mem (n k : Int) : sg n k = 13 ∨ sg n k = 10 ∨ sg n k = 46 ∨ sg n k = 35 ∨ sg n k = 97 ∨ sg n k = 32 := by
  unfold sg
  have h0 := Int.fmod_nonneg_of_pos (n.fdiv (6 ^ k.toNat)) (b := 6) (by decide)
  have h1 := Int.fmod_lt_of_pos (n.fdiv (6 ^ k.toNat)) (b := 6) (by decide)
  generalize (n.fdiv (6 ^ k.toNat)).fmod 6 = r at *
  have : r = 0 ∨ r = 1 ∨ r = 2 ∨ r = 3 ∨ r = 4 ∨ r = 5 := by omega
  rcases this with rfl | rfl | rfl | rfl | rfl | rfl <;> decide +kernel
theorem lett_mem (n : Int) : ∀ c ∈ lett n, c = 13 ∨ c = 10 ∨ c = 46 ∨ c = 35 ∨ c = 97 ∨ c = 32 := by
  intro c hc
  unfold lett at hc
  rcases List.mem_append.mp hc with h | h
  · obtain ⟨k, _, rfl⟩ := List.mem_map.mp h
    exact sg_mem n k
  · simp at h; omega
theorem lett_len (n : Int) : (lett n).length = 9 := by
  unfold lett
  rw [List.length_append, List.length_map, rangeKs_length]
  rfl
theorem lett_last (n : Int) : (lett n).getLast? = some 10 := by simp [lett]
theorem lett_val (n : Int) : Txt.join (Str.ofString "") ((rangeKs 0 8).map (sgn n)) ++ Str.ofString "\n" = ⟨(lett n).toArray⟩ := by
  have e0 : Str.ofString "" = Str.empty := by decide +kernel
  have e1 : Str.ofString "\n" = ⟨#[10]⟩ := by decide +kernel
  rw [e0, e1, join_flat]
  show Str.append _ _ = _
  unfold Str.append lett
  congr 1
section
variable {w : World} {A : Around} {outer : List Env} {s : Shared} {base : Heap} {mean : ExcName → Option Value} {mg mb : Str → Option Value} {R : Result → Shared → Prop} {t : Tok} {n : Int}
theorem pow6 {k : Int} (h0 : 0 ≤ k) (h1 : k < 0 + ((8 : Nat) : Int)) : (6 : Int) ^ k.toNat ≠ 0 ∧ ((6 : Int) ^ k.toNat).natAbs < 1073741824 ∧ 0 < (6 : Int) ^ k.toNat := by
  have : k.toNat < 8 := by omega
  generalize k.toNat = j at *
  have : j = 0 ∨ j = 1 ∨ j = 2 ∨ j = 3 ∨ j = 4 ∨ j = 5 ∨ j = 6 ∨ j = 7 := by omega
  rcases this with rfl | rfl | rfl | rfl | rfl | rfl | rfl | rfl <;> decide
theorem reg_S12_2 : True := by
  (k_with "binaryOp FloorDiv int int!" => (refine floordiv_int (by assumption) ?_ (.inl (PyProof.noPylong_small (by assumption)))))
  (k_with "call builtin:str.join!" => (k_here; k_dflt (refine KT.join_1 (News.isList (by k_asm) (by k_mem)) (by assumption) (fun _ _ => rfl) (by decide) ?_; intro _ _ zktE)))
  trivial
theorem addP {prog : Program} {E : Value → Shared → Prop} {x y : Str} {t u : Tok} {Q : Value → Shared → Prop} (hx : (x.length == 0) = false) (hy : (y.length == 0) = false) (hsz : (x ++ y).length ≤ sizeLine) (h : Q (.str (x ++ y) s.toks) { s with toks := s.toks + 1 }) :
    wpAny (model prog w) A (binaryOp .Add (.str x t) (.str y u)) Q E s := PySem.P.add_str (by rw [hx, hy]; exact ⟨hsz, h⟩)
theorem eight {x : Str} {n : Nat} (h : x.length = n) (hn : n = 8) : (x.length == 0) = false ∧ (x ++ Str.ofString "\n").length ≤ sizeLine := by
  subst hn
  refine ⟨by rw [h]; rfl, ?_⟩
  have e : (x ++ Str.ofString "\n").length = x.length + (Str.ofString "\n").length := strLen_append x _
  rw [e, h]
  decide +kernel
theorem reg_S12_3 : True := by
  (k_with "binaryOp Add str str!" => ((have h8 := eight (by assumption) (rangeKs_length 0 8)); refine addP h8.1 (by decide +kernel) h8.2 ?_))
  (k_with "SC enter!" => (
  case ho => k_is
  case hcd => k_is
  case hroom => (first | exact room1 (by assumption) (by decide) | omega | (show _ < _; (try dsimp only); omega))
  case hbind => first | exact BindsTo.of_eq rfl | exact binds_K (by assumption) rfl (by k_is) rfl rfl rfl
  case hkind => exact rfl
  case hnd => decide +kernel
  case c2 => rfl
  case c3 => rfl
  case c4 => rfl))
  trivial
set_option maxHeartbeats 3000000 in
theorem letter_spec
    (G : Gr w mean mg mb base) (O : Out A outer base s.heap []) (H : Holds s.heap []) (hdep : A.depth + 40 < recursionLimit) (hh0 : A.handled = none)
    (k : ∀ h' tk tc, 0 < tk → Kept [] s.heap h' → R (.ok (.ret (.str ⟨(lett n).toArray⟩ tc))) { s with heap := h', toks := tk }) :
    codeAny (model PySem.Challenge.rw_ny0282_01.row.prog w) A (.call (.ref 753) ⟨[.int n t], []⟩) R s := by
  obtain ⟨ahd, adp, afr, agd, aun⟩ := A
  have eH : ahd = none := hh0
  have eA : afr = some outer := O.stack
  subst eA
  have hdep2 := hdep
  dsimp only at hdep2
  w_on
  w_top on
  have Xs := (G.keeps O.stays).X
  refine' call_SC (news := []) (binds := [(Str.ofString "number", .int n t)]) G O H ?ho ?hcd ?hroom ?hbind ?hkind ?hnd ?_ ?c2 ?c3 ?c4
  walk_at "SC enter"
  clear Xs
  intro g L' h₁ tk cells eg F N Y B G' lt
  obtain ⟨T', GL', ⟨bm1, bm2, M'⟩, X'⟩ := G'
  clear lt
  k_cells Y
  try simp only [List.cons_append, List.nil_append] at N
  try dsimp only
  (try generalize s.toks + _ = tk0)
  try k_fold
  k_steps
  refine LCg.CompSrc.range (n := 8) eH (by k_asm) (by k_asm) (by assumption) (by decide) (by rfl) (by rw [sizeLine_eq]; omega) ?_
  intro g'
  refine kct_range (fun k => sgn n k) (fun k' t' I' oI' C' oC' D' m' ys' h' tk' E' hlo' hhi' hC' hx' F' N' off' ne' mk' => ?_) ?_
  · simp only [LCg.Off3, and_true] at off'
    have hpw := pow6 hlo' hhi'
    obtain ⟨hpw1, hpw2, hpw3⟩ := hpw
    k_steps
    exact kct_el rfl rfl rfl
  · k_steps
    all_goals walk_at "S end"
    rw [lett_val]
    exact k _ _ _ (Nat.succ_pos _) (kept_of eg (by assumption))
end
end
section
open PySem PySem.W PySem.Calls PyProof.Rows
section
variable {w : World} {A₀ A : Around} {env : Env} {outer : List Env} {s : Shared} {base h₀ : Heap} {mean : ExcName → Option Value} {mg mb m : Str → Option Value} {news : List (Addr × Obj)} {Q : Value → Shared → Prop} {E : Value → Shared → Prop} {L : Addr} {t : Tok} {n : Int} {x : Str}
theorem kept0 {h h' : Heap} (F : Fr h₀ L h m) (N : News h₀ L h news) (kp : Kept [] h h') : Fr h₀ L h' m ∧ News h₀ L h' news := by
  have kp' : Kept (([] : List (Addr × Obj)).map (·.1)) h h' := kp
  have hs0 : ∀ p ∈ ([] : List (Addr × Obj)), p ∈ news := fun _ hp => nomatch hp
  exact ⟨fr_kept F N hs0 kp', news_kept (post := []) F N hs0 kp' (fun _ hp => nomatch hp) fun p hp => .inr ⟨hp, fun q => nomatch q⟩⟩
theorem letter_K (B : Below A₀ base outer h₀) (G : Gr w mean mg mb base) (F : Fr h₀ L s.heap m) (N : News h₀ L s.heap news) (hA : A.frames = some (env :: outer)) (hf : env.frame = some L) (hke : env.scope.kind = .function) (hdep : A.depth + 40 < recursionLimit) (hh0 : A.handled = none)
    (h : ∀ h' tk tc, 0 < tk → Fr h₀ L h' m → News h₀ L h' news → Q (.str ⟨(lett n).toArray⟩ tc) { s with heap := h', toks := tk }) :
    wpAny (model PySem.Challenge.rw_ny0282_01.row.prog w) A (call (.ref 753) [.int n t]) Q E s := by
  obtain ⟨O, H⟩ := out_of (pre := []) B F N hA hf hke (fun _ hp => nomatch hp)
  refine wpAny_call (letter_spec G O H hdep hh0 fun h' tk tc pos kp => ?_)
  obtain ⟨F', N'⟩ := kept0 F N kp
  exact h h' tk tc pos F' N'
theorem quote_K (B : Below A₀ base outer h₀) (G : Gr w mean mg mb base) (F : Fr h₀ L s.heap m) (N : News h₀ L s.heap news) (hA : A.frames = some (env :: outer)) (hf : env.frame = some L) (hke : env.scope.kind = .function) (hdep : A.depth + 40 < recursionLimit) (hx : x.cps.size ≤ 30)
    (h : ∀ h' tk tc, Fr h₀ L h' m → News h₀ L h' news → Q (.str ⟨(dots true (crlf x.cps.toList)).toArray⟩ tc) { s with heap := h', toks := tk }) :
    wpAny (model PySem.Challenge.rw_ny0282_01.row.prog w) A (call (.ref 61) [.str x t]) Q E s := by
  obtain ⟨O, H⟩ := out_of (pre := []) B F N hA hf hke (fun _ hp => nomatch hp)
  refine wpAny_call (quote_spec G O H hdep hx fun h' tk tc kp => ?_)
  obtain ⟨F', N'⟩ := kept0 F N kp
  exact h h' tk tc F' N'
theorem replaceP {y z : Str} {u v : Tok} (hu : 0 < u) (hv : 0 < v) (huv : u ≠ v) (hyz : (y == z) = false) (hb : x.length + (x.length + 1) * z.length ≤ 16777216)
    (hq : ∀ t' k, s.toks ≤ k → Q (.str (Txt.replace x y z) t') { s with toks := k }) : wpAny (model PySem.Challenge.rw_ny0282_01.row.prog w) A (call (.builtin "str.replace") [.str x t, .str y u, .str z v]) Q E s := by
  have e : (2 : Nat) ^ 24 = 16777216 := by decide
  have hl : Builtin.Str.tooLong (x.length + (Builtin.Str.occurrences x y 0 x.length (x.length + 1)).length * z.length) = false := by
    have h1 := StrLaws.occ_length_le x y 0 x.length (x.length + 1)
    have h2 : (Builtin.Str.occurrences x y 0 x.length (x.length + 1)).length * z.length ≤ (x.length + 1) * z.length := Nat.mul_le_mul_right _ h1
    unfold Builtin.Str.tooLong sizeLine
    exact decide_eq_false (by omega)
  have hu' : u ≠ 0 := Nat.pos_iff_ne_zero.mp hu
  have hv' : v ≠ 0 := Nat.pos_iff_ne_zero.mp hv
  refine call_gives F.slot_str_replace (typeIs_str _ _ _) F.entry_str_replace (F.args_str_replace_3 _ _ _)
    (gives_str_replace x y z t u v fun _ => ⟨by simp [hu', hv'], by simp [huv], hyz, hl⟩) ?_
  unfold Txt.replace at hq
  cases hc : ((Builtin.Str.occurrences x y 0 x.length (x.length + 1)).isEmpty || (y.length == 0 && z.length == 0))
  · rw [hc] at hq
    simp only [Bool.false_eq_true, if_false] at hq ⊢
    exact ⟨fits_replaced y hb, hq _ _ (Nat.le_succ _)⟩
  · rw [hc] at hq
    simp only [if_true] at hq ⊢
    exact hq t s.toks (Nat.le_refl _)
end
end
section
open PySem PySem.W PySem.Calls PyProof.Rows
section
variable {w : World} {A : Around} {s : Shared} {h₀ : Heap} {m : Str → Option Value} {news : List (Addr × Obj)} {Q : Value → Shared → Prop} {E : Value → Shared → Prop} {L : Addr} {t u v : Tok} {l : List Nat}
theorem rep2_K (hs : 0 < s.toks) (hu : 0 < u) (hv : 0 < v) (huv : u ≠ v) (hl : l.length ≤ 100) (h : ∀ t' k, 0 < k → Q (.str (toS (nl1 l)) t') { s with toks := k }) :
    wpAny (model PySem.Challenge.rw_ny0282_01.row.prog w) A (call (.builtin "str.replace") [.str (toS l) t, .str (Str.ofString "\r\n") u, .str (Str.ofString "\n") v]) Q E s := by
  refine replaceP hu hv huv (by decide +kernel) ?_ fun t' k hk => ?_
  · have : (Str.ofString "\n").length = 1 := by decide +kernel
    rw [this]; simp [Str.length]; omega
  · rw [replace2_val]; exact h t' k (Nat.lt_of_lt_of_le hs hk)
theorem rep1_K (hs : 0 < s.toks) (hu : 0 < u) (hv : 0 < v) (huv : u ≠ v) (hl : l.length ≤ 100) (h : ∀ t' k, 0 < k → Q (.str (toS (l.map fun x => if x = 13 then 10 else x)) t') { s with toks := k }) :
    wpAny (model PySem.Challenge.rw_ny0282_01.row.prog w) A (call (.builtin "str.replace") [.str (toS l) t, .str (Str.ofString "\r") u, .str (Str.ofString "\n") v]) Q E s := by
  refine replaceP hu hv huv (by decide +kernel) ?_ fun t' k hk => ?_
  · have : (Str.ofString "\n").length = 1 := by decide +kernel
    rw [this]; simp [Str.length]; omega
  · rw [replace1_val]; exact h t' k (Nat.lt_of_lt_of_le hs hk)
theorem split_K {y : Str} (c : Nat) (hy : y = ⟨#[c]⟩) (F : Fr h₀ L s.heap m) (N : News h₀ L s.heap news) (hl : l.length ≤ 100)
    (h : ∀ D ps h' k, ps.map (·.1) = (rowsC c [] l).map toS → Fr h₀ L h' m → News h₀ L h' ((D, listOf (strValues ps).toArray 0) :: news) → (∀ p ∈ news, p.1 < D) → Q (.ref D) { s with heap := h', toks := k }) :
    wpAny (model PySem.Challenge.rw_ny0282_01.row.prog w) A (call (.builtin "str.split") [.str (toS l) t, .str y u]) Q E s := by
  subst hy
  refine splitN1 F N rfl (fun ps h' k e F' N' => h _ ps h' k ?_ F' N' fun p hp => Heap.lt_size (N p hp).1) ?_
  · rw [e, split_val]
  · simp [Str.length, sizeLine_eq]; omega
theorem isTup_of' {h₀ h : Heap} {L t : Addr} {items : Array Value} {news : List (Addr × Obj)} (N : News h₀ L h news) (hm : (t, ({ cls := .type "tuple", data := .seq items } : Obj)) ∈ news) : IsTup h t items := ⟨_, N.get hm, rfl, _, rfl⟩
theorem nl1_len : ∀ l : List Nat, (nl1 l).length ≤ l.length
  | [] => Nat.le_refl _
  | [c] => Nat.le_refl _
  | c :: d :: r => by
    have := nl1_len r
    have := nl1_len (d :: r)
    unfold nl1
    split <;> simp at * <;> omega
end
end
section
open PySem PySem.W PySem.Calls PyProof.Rows
theorem szS {r : List Nat} (h : r.length ≤ 100) : (toS r).length ≤ sizeLine := by rw [sizeLine_eq]; simp [Str.length]; omega
theorem all5 {Fd Pp D I l : Addr} {ps2 ps fs : List (Str × Tok)} {X : List Str} {it : Obj} {TO : List (Addr × Obj)} (hp : ps2.map (·.1) = X) (h1 : @Ne Nat l Fd) (h2 : @LT.lt Nat _ l Pp) (h3 : @LT.lt Nat _ l D) (h4 : @LT.lt Nat _ l I) (h5 : ∀ p ∈ TO, p.1 ≠ l) : ∀ p ∈ (Fd, LCg.lst (strValues fs)) :: (Pp, listOf (strValues ps2).toArray 0) :: (D, listOf (strValues ps).toArray 0) :: (I, it) :: TO, p.1 ≠ l := by
  intro p hp
  simp only [List.mem_cons] at hp
  rcases hp with rfl | rfl | rfl | rfl | hp
  · exact fun e => h1 e.symm
  · exact Nat.ne_of_gt h2
  · exact Nat.ne_of_gt h3
  · exact Nat.ne_of_gt h4
  · exact h5 p hp
theorem closeT {j n m : Nat} {row : List Nat} {g : Option Nat} (h1 : (j : Int) = (n : Int) - 1) (h2 : (1 : Int) < (m : Int)) (hc : (1 : Int) < (m : Int) ↔ 35 ∈ row) : (!decide (g = some 32)) = (decide (j + 1 = n) && (decide (35 ∈ row) && decide (g ≠ some 32))) := by
  have e1 : j + 1 = n := by omega
  have e2 := hc.mp h2
  simp [e1, e2]
theorem closeF1 {j n m : Nat} {row : List Nat} {g : Option Nat} (h2 : ¬ (1 : Int) < (m : Int)) (hc : (1 : Int) < (m : Int) ↔ 35 ∈ row) : decide ((1 : Int) < (m : Int)) = (decide (j + 1 = n) && (decide (35 ∈ row) && decide (g ≠ some 32))) := by
  have e2 : 35 ∉ row := fun h => h2 (hc.mpr h)
  rw [decide_eq_false h2]; simp [e2]
theorem closeF2 {j n : Nat} {row : List Nat} {g : Option Nat} (h1 : ¬ (j : Int) = (n : Int) - 1) : decide ((j : Int) = (n : Int) - 1) = (decide (j + 1 = n) && (decide (35 ∈ row) && decide (g ≠ some 32))) := by
  have e1 : ¬ j + 1 = n := by omega
  rw [decide_eq_false h1]; simp [e1]
noncomputable abbrev mW (l D : Addr) (xn : Str) (tn : Tok) (u : Str → Option Value) : Str → Option Value := fun y => if y = Str.ofString "words" then some (.ref l) else if y = Str.ofString "rows" then some (.ref D) else if y = Str.ofString "name" then some (.str xn tn) else u y
theorem mW_of {l D : Addr} {xn : Str} {tn : Tok} {m : Str → Option Value} (h1 : m (Str.ofString "words") = some (.ref l)) (h2 : m (Str.ofString "rows") = some (.ref D)) (h3 : m (Str.ofString "name") = some (.str xn tn)) : m = mW l D xn tn m := by
  funext y
  unfold mW
  split
  · rename_i e; rw [e]; exact h1
  · split
    · rename_i e; rw [e]; exact h2
    · split
      · rename_i e; rw [e]; exact h3
      · rfl
theorem get_of {α : Type} {l : List α} {i : Nat} (h : i < l.length) : l[((i : Int)).toNat]? = some (l[i]'h) := by rw [Int.toNat_natCast]; exact List.getElem?_eq_getElem h
theorem dot_yes {r : List Nat} (hd : r.head? = some 46) : (Txt.slice (toS r) none (some 1) == Str.ofString ".") = true ∧ dotted r = 46 :: r := by
  refine ⟨by rw [slice_first, first_dot]; simp [hd], ?_⟩
  unfold dotted; rw [if_pos hd]
theorem dot_no {r : List Nat} (hd : ¬ r.head? = some 46) : (Txt.slice (toS r) none (some 1) == Str.ofString ".") = false ∧ dotted r = r := by
  refine ⟨by rw [slice_first, first_dot]; simp [hd], ?_⟩
  unfold dotted; rw [if_neg hd]
noncomputable abbrev part0 (row : List Nat) : List Nat := row.takeWhile (· ≠ 35)
theorem rowsC_len (c : Nat) : ∀ (l acc : List Nat), (rowsC c acc l).length ≤ l.length + 1
  | [], acc => Nat.le_refl _
  | x :: r, acc => by
    unfold rowsC
    have := rowsC_len c r []
    have := rowsC_len c r (acc ++ [x])
    split <;> simp <;> omega
theorem parts_facts (row : List Nat) (h : row.length ≤ 100) : (rowsC 35 [] row)[(0 : Int).toNat]? = some (part0 row) ∧ (part0 row).length ≤ 100 ∧ (rowsC 35 [] row).length ≤ 200 ∧ (rowsC 32 [] (part0 row)).length ≤ 200 := by
  have a := (cut35 row []).1
  rw [List.nil_append] at a
  have hl : (part0 row).length ≤ row.length := (List.takeWhile_sublist _).length_le
  have l1 := rowsC_len 35 row []
  have l2 := rowsC_len 32 (part0 row) []
  refine ⟨?_, by omega, by omega, by omega⟩
  rw [← a, List.head?_eq_getElem?]
  rfl
theorem row_ex {α : Type} {l : List α} {i : Nat} (h : i < l.length) : ∃ r, l[((i : Int)).toNat]? = some r := ⟨_, get_of h⟩
/-- What holds between the rows. -/
noncomputable def WInv (xn : Str) (tn : Tok) (ps : List (Str × Tok)) (rs : List (List Nat)) (l D : Addr) (i : Nat) (m : Str → Option Value) (nw : List (Addr × Obj)) : Prop :=
  ∃ (u : Str → Option Value) (vals : List Value) (c : Nat) (TO : List (Addr × Obj)), m = mW l D xn tn u ∧ nw = (l, listOf vals.toArray c) :: (D, listOf (strValues ps).toArray 0) :: TO ∧ (∀ p ∈ TO, p.1 ≠ l) ∧ (∀ p ∈ TO, p.2.cls = .type "list") ∧
    DatAll TO vals (tellW xn (wordsR (rs.take i) 1)) ∧ vals.length ≤ 200 * i
theorem start_words {h₀ h : Heap} {L T D l : Addr} {oT : Obj} {m : Str → Option Value} {ps : List (Str × Tok)} {xn : Str} {tn : Tok} (F : Fr h₀ L h m) (N : News h₀ L h [(T, oT), (D, listOf (strValues ps).toArray 0), (l, listOf #[] 0)]) (hl : @LT.lt Nat _ l D)
    (h1 : m (Str.ofString "words") = some (.ref l)) (h2 : m (Str.ofString "rows") = some (.ref D)) (h3 : m (Str.ofString "name") = some (.str xn tn)) :
    ∃ (l D : Addr), @LT.lt Nat _ l D ∧ Fr h₀ L h (mW l D xn tn m) ∧ News h₀ L h [(l, listOf ([] : List Value).toArray 0), (D, listOf (strValues ps).toArray 0)] := by
  refine ⟨l, D, hl, ?_, news_pick N⟩
  rw [← mW_of h1 h2 h3]; exact F
theorem winv_0 {xn : Str} {tn : Tok} {ps : List (Str × Tok)} {rs : List (List Nat)} {l D : Addr} {u : Str → Option Value} : WInv xn tn ps rs l D 0 (mW l D xn tn u) [(l, listOf ([] : List Value).toArray 0), (D, listOf (strValues ps).toArray 0)] := by
  refine ⟨u, [], 0, [], rfl, rfl, fun _ h => (nomatch h), fun _ h => (nomatch h), ?_, by simp⟩
  simp only [List.take_zero, wordsR, tellW, List.map_nil]
  exact .nil
theorem two_lt {l D I : Addr} {o o' : Obj} (h : ∀ p ∈ [(l, o), (D, o')], p.1 < I) : @LT.lt Nat _ l I ∧ @LT.lt Nat _ D I := ⟨h _ (.head _), h _ (.tail _ (.head _))⟩
noncomputable abbrev mJ (l D Pp Fd : Addr) (xn : Str) (tn : Tok) (i : Nat) (ti : Tok) (u : Str → Option Value) : Str → Option Value := fun y => if y = Str.ofString "words" then some (.ref l) else if y = Str.ofString "rows" then some (.ref D) else if y = Str.ofString "name" then some (.str xn tn) else
  if y = Str.ofString "parts" then some (.ref Pp) else if y = Str.ofString "found" then some (.ref Fd) else if y = Str.ofString "k" then some (.int (i : Int) ti) else u y
theorem mJ_of {l D Pp Fd : Addr} {xn : Str} {tn : Tok} {i : Nat} {ti : Tok} {m : Str → Option Value} (h1 : m (Str.ofString "words") = some (.ref l)) (h2 : m (Str.ofString "rows") = some (.ref D)) (h3 : m (Str.ofString "name") = some (.str xn tn))
    (h4 : m (Str.ofString "parts") = some (.ref Pp)) (h5 : m (Str.ofString "found") = some (.ref Fd)) (h6 : m (Str.ofString "k") = some (.int (i : Int) ti)) : m = mJ l D Pp Fd xn tn i ti m := by
  funext y
  unfold mJ
  split
  · rename_i e; rw [e]; exact h1
  · split
    · rename_i e; rw [e]; exact h2
    · split
      · rename_i e; rw [e]; exact h3
      · split
        · rename_i e; rw [e]; exact h4
        · split
          · rename_i e; rw [e]; exact h5
          · split
            · rename_i e; rw [e]; exact h6
            · rfl
/-- What holds between a row's words. -/
noncomputable def JInv (xn : Str) (tn : Tok) (ps ps2 fs : List (Str × Tok)) (done ws : List (List Nat × Nat)) (l D Pp Fd I : Addr) (it : Obj) (i : Nat) (ti : Tok) (b : Nat) (j : Nat) (m : Str → Option Value) (nw : List (Addr × Obj)) : Prop :=
  ∃ (u : Str → Option Value) (vals : List Value) (c : Nat) (TO : List (Addr × Obj)), m = mJ l D Pp Fd xn tn i ti u ∧ nw = (l, listOf vals.toArray c) :: (Fd, LCg.lst (strValues fs)) :: (Pp, listOf (strValues ps2).toArray 0) :: (D, listOf (strValues ps).toArray 0) :: (I, it) :: TO ∧ (∀ p ∈ TO, p.1 ≠ l) ∧ (∀ p ∈ TO, p.2.cls = .type "list") ∧
    DatAll TO vals (tellW xn (done ++ ws.take j)) ∧ vals.length ≤ b + j
theorem start_inner {h₀ h : Heap} {L Fd Sp Pp I l D : Addr} {oS it : Obj} {m : Str → Option Value} {ps ps2 fs : List (Str × Tok)} {xn : Str} {tn ti : Tok} {i : Nat} {vals : List Value} {c : Nat} {TO : List (Addr × Obj)} (F : Fr h₀ L h m)
    (N : News h₀ L h ((Fd, LCg.lst (strValues fs)) :: (Sp, oS) :: (Pp, listOf (strValues ps2).toArray 0) :: (I, it) :: (l, listOf vals.toArray c) :: (D, listOf (strValues ps).toArray 0) :: TO)) (hP : @LT.lt Nat _ l Pp) (hF : @Ne Nat l Fd)
    (h1 : m (Str.ofString "words") = some (.ref l)) (h2 : m (Str.ofString "rows") = some (.ref D)) (h3 : m (Str.ofString "name") = some (.str xn tn))
    (h4 : m (Str.ofString "parts") = some (.ref Pp)) (h5 : m (Str.ofString "found") = some (.ref Fd)) (h6 : m (Str.ofString "k") = some (.int (i : Int) ti)) :
    ∃ (Pp Fd : Addr), @LT.lt Nat _ l Pp ∧ @Ne Nat l Fd ∧ Fr h₀ L h (mJ l D Pp Fd xn tn i ti m) ∧ News h₀ L h ((l, listOf vals.toArray c) :: (Fd, LCg.lst (strValues fs)) :: (Pp, listOf (strValues ps2).toArray 0) :: (D, listOf (strValues ps).toArray 0) :: (I, it) :: TO) := by
  refine ⟨Pp, Fd, hP, hF, ?_, ?_⟩
  · rw [← mJ_of h1 h2 h3 h4 h5 h6]; exact F
  · intro p hp
    refine N p ?_
    simp only [List.mem_cons] at hp ⊢
    rcases hp with h | h | h | h | h | h
    · exact .inr (.inr (.inr (.inr (.inl h))))
    · exact .inl h
    · exact .inr (.inr (.inl h))
    · exact .inr (.inr (.inr (.inr (.inr (.inl h)))))
    · exact .inr (.inr (.inr (.inl h)))
    · exact .inr (.inr (.inr (.inr (.inr (.inr h)))))
theorem tell_snoc {xn : Str} {done ws : List (List Nat × Nat)} {j : Nat} {f : List Nat} {q : Nat} (h : ws[j]? = some (f, q)) : tellW xn (done ++ ws.take (j + 1)) = tellW xn (done ++ ws.take j) ++ [entD (f, lead xn q)] := by
  rw [List.take_add_one, h]
  simp [tellW]
theorem inner_end {h₀ h' : Heap} {L I2 e T l D Pp Fd I : Addr} {it it2 oT : Obj} {s₁ : Shared} {tk : Nat} {m' : Str → Option Value} {xn : Str} {tn ti tf tq : Tok} {ps ps2 fs : List (Str × Tok)} {done ws : List (List Nat × Nat)} {i b j c : Nat} {vals : List Value} {TO : List (Addr × Obj)} {f : List Nat} {q : Nat}
    (F : Fr h₀ L h' m') (N : News h₀ L h' ((e, listOf #[.str (toS f) tf, .str (lead xn q) tq] 0) :: (T, oT) :: (I2, it2) :: (l, listOf (vals ++ [Value.ref e]).toArray c) :: (Fd, LCg.lst (strValues fs)) :: (Pp, listOf (strValues ps2).toArray 0) :: (D, listOf (strValues ps).toArray 0) :: (I, it) :: TO))
    (h1 : m' (Str.ofString "words") = some (.ref l)) (h2 : m' (Str.ofString "rows") = some (.ref D)) (h3 : m' (Str.ofString "name") = some (.str xn tn))
    (h4 : m' (Str.ofString "parts") = some (.ref Pp)) (h5 : m' (Str.ofString "found") = some (.ref Fd)) (h6 : m' (Str.ofString "k") = some (.int (i : Int) ti))
    (hit : it2.cls = .type "range_iterator") (hI : @LT.lt Nat _ I I2) (hl : @LT.lt Nat _ l e) (hT1 : ∀ p ∈ TO, p.1 ≠ l) (hT2 : ∀ p ∈ TO, p.2.cls = .type "list") (hD : DatAll TO vals (tellW xn (done ++ ws.take j))) (hv : vals.length ≤ b + j) (hw : ws[j]? = some (f, q)) :
    UnrEnd h₀ L s₁ I2 it2 (JInv xn tn ps ps2 fs done ws l D Pp Fd I it i ti b (j + 1)) { s₁ with heap := h', toks := tk } := by
  have hne : (Value.type "list") ≠ it2.cls := by rw [hit]; decide
  refine unr_end ((l, listOf (vals ++ [Value.ref e]).toArray c) :: (Fd, LCg.lst (strValues fs)) :: (Pp, listOf (strValues ps2).toArray 0) :: (D, listOf (strValues ps).toArray 0) :: (I, it) :: (e, listOf #[.str (toS f) tf, .str (lead xn q) tq] 0) :: TO) F N (.tail _ (.tail _ (.head _))) ?_ ?_ ?_
  · intro p hp
    simp only [List.mem_cons] at hp ⊢
    rcases hp with h | h | h | h | h | h | h <;> simp [h]
  · intro p hp
    simp only [List.mem_cons] at hp
    rcases hp with rfl | rfl | rfl | rfl | rfl | rfl | h
    · exact .inr hne
    · exact .inr hne
    · exact .inr hne
    · exact .inr hne
    · exact .inl (Nat.ne_of_lt hI)
    · exact .inr hne
    · exact .inr (by rw [hT2 p h]; exact hne)
  · refine ⟨m', _, _, _, mJ_of h1 h2 h3 h4 h5 h6, rfl, ?_, ?_, ?_, ?_⟩
    · intro p hp
      rcases List.mem_cons.mp hp with rfl | hp
      · exact Nat.ne_of_gt hl
      · exact hT1 p hp
    · intro p hp
      rcases List.mem_cons.mp hp with rfl | hp
      · rfl
      · exact hT2 p hp
    · rw [tell_snoc hw]
      refine (hD.mono fun p hp => .tail _ hp).append (.one ?_)
      exact .list (vs := [.str (toS f) tf, .str (lead xn q) tq]) (.head _) (.cons (.str _ _) (.cons (.str _ _) .nil))
    · simp only [List.length_append, List.length_cons, List.length_nil]; omega
theorem jinv_0 {TO : List (Addr × Obj)} {vals : List Value} {xn : Str} {done ws : List (List Nat × Nat)} (h : DatAll TO vals (tellW xn done)) : DatAll TO vals (tellW xn (done ++ ws.take 0)) := by simpa using h
theorem le_add0 {a b : Nat} (h : a ≤ b) : a ≤ b + 0 := h
theorem j_lt {a b j : Nat} (h : a = b) (hj : j < a) : j < b := h ▸ hj
theorem last_fact (p : List Nat) : (Txt.slice (toS p) (some (-1)) none == Str.ofString " ") = decide (p.getLast? = some 32) := by rw [slice_last, last_blank]
noncomputable def lnJ (j n : Nat) (c : Bool) (i : Nat) : Nat := if j + 1 = n ∧ c = true then i + 2 else i + 1
theorem lnJ_le (j n : Nat) (c : Bool) (i : Nat) : lnJ j n c i ≤ i + 2 := by unfold lnJ; split <;> omega
theorem lnJ_t {j n i : Nat} {c : Bool} (h : (decide (j + 1 = n) && c) = true) : ((i : Int) + 2) = ((lnJ j n c i : Nat) : Int) := by
  unfold lnJ
  simp only [Bool.and_eq_true, decide_eq_true_eq] at h
  rw [if_pos h]; rfl
theorem lnJ_f {j n i : Nat} {c : Bool} (h : (decide (j + 1 = n) && c) = false) : ((i : Int) + 1) = ((lnJ j n c i : Nat) : Int) := by
  unfold lnJ
  rw [if_neg]; · rfl
  · rintro ⟨a, b⟩; simp [a, b] at h
theorem int_eq {a b : Int} {t : Tok} (h : a = b) : Value.int a t = Value.int b t := by rw [h]
theorem lnJ_ex {j n : Nat} {c : Bool} {i : Nat} (h : i ≤ 900) : ∃ q, q = lnJ j n c i ∧ q ≤ 1000 := ⟨_, rfl, by have := lnJ_le j n c i; omega⟩
theorem wl_len : ∀ (found : List (List Nat)) (c : Bool) (ln : Nat), (wl found c ln).length = found.length
  | [], _, _ => rfl
  | [x], _, _ => rfl
  | x :: y :: r, c, ln => by
    show ((x, ln) :: wl (y :: r) c ln).length = _
    rw [List.length_cons, wl_len (y :: r) c ln]; rfl
theorem wl_get : ∀ (found : List (List Nat)) (c : Bool) (i j : Nat) (f : List Nat), found[j]? = some f → (wl found c (i + 1))[j]? = some (f, lnJ j found.length c i)
  | [], _, _, _, _, h => by simp at h
  | [x], c, i, j, f, h => by
    cases j with
    | zero =>
      simp at h; subst h
      cases c <;> rfl
    | succ j => simp at h
  | x :: y :: r, c, i, j, f, h => by
    show ((x, i + 1) :: wl (y :: r) c (i + 1))[j]? = _
    cases j with
    | zero =>
      simp at h; subst h
      have : lnJ 0 (x :: y :: r).length c i = i + 1 := by unfold lnJ; rw [if_neg (by simp)]
      rw [this]; rfl
    | succ j =>
      have ih := wl_get (y :: r) c i j f (by simpa using h)
      rw [List.getElem?_cons_succ, ih]
      unfold lnJ
      simp
theorem close_fact {ps : List (Str × Tok)} {row : List Nat} (h : ps.map (·.1) = (rowsC 35 [] row).map toS) : (1 : Int) < (ps.length : Int) ↔ 35 ∈ row := by
  have e := congrArg List.length h
  simp only [List.length_map] at e
  have := (cut35 row []).2
  rw [← this, ← e]
  omega
theorem five_lt {a b c d e I : Addr} {oa ob oc od oe : Obj} {TO : List (Addr × Obj)} (h : ∀ p ∈ (a, oa) :: (b, ob) :: (c, oc) :: (d, od) :: (e, oe) :: TO, p.1 < I) : @LT.lt Nat _ a I ∧ @LT.lt Nat _ b I ∧ @LT.lt Nat _ c I ∧ @LT.lt Nat _ d I ∧ @LT.lt Nat _ e I :=
  ⟨h _ (.head _), h _ (.tail _ (.head _)), h _ (.tail _ (.tail _ (.head _))), h _ (.tail _ (.tail _ (.tail _ (.head _)))), h _ (.tail _ (.tail _ (.tail _ (.tail _ (.head _)))))⟩
theorem wordsR_snoc : ∀ (rs : List (List Nat)) (i ln : Nat) {r : List Nat}, rs[i]? = some r → wordsR (rs.take (i + 1)) ln = wordsR (rs.take i) ln ++ rw' [] (dotted r) (ln + i)
  | [], i, ln, r, h => by simp at h
  | x :: rs, 0, ln, r, h => by
    simp at h; subst h
    simp [wordsR]
  | x :: rs, i + 1, ln, r, h => by
    have ih := wordsR_snoc rs i (ln + 1) (r := r) (by simpa using h)
    simp only [List.take_succ_cons, wordsR]
    rw [ih, List.append_assoc, Nat.add_right_comm, Nat.add_assoc]
theorem row_words {rs : List (List Nat)} {i : Nat} {r row : List Nat} {n : Nat} (hr : rs[((i : Int)).toNat]? = some r) (hrow : row = dotted r) (hn : n = ((rowsC 32 [] (part0 row)).filter ne0).length) :
    wordsR (rs.take i) 1 ++ (wl ((rowsC 32 [] (part0 row)).filter ne0) (decide (35 ∈ row) && decide ((part0 row).getLast? ≠ some 32)) (i + 1)).take n = wordsR (rs.take (i + 1)) 1 := by
  rw [Int.toNat_natCast] at hr
  rw [wordsR_snoc rs i 1 hr, ← hrow, Nat.add_comm 1 i]
  have := wl_eq row [] (i + 1) (fun h => nomatch h)
  rw [List.nil_append] at this
  rw [this]
  congr 1
  refine List.take_of_length_le ?_
  rw [wl_len, hn]
  exact Nat.le_refl _
theorem outer_end {h₀ h' : Heap} {L l D Pp Fd I : Addr} {it oF oP : Obj} {s₁ : Shared} {tk : Nat} {m' : Str → Option Value} {xn : Str} {tn : Tok} {ps : List (Str × Tok)} {rs : List (List Nat)} {i c n : Nat} {vals : List Value} {TO : List (Addr × Obj)} {ws : List (List Nat × Nat)}
    (F : Fr h₀ L h' m') (N : News h₀ L h' ((l, listOf vals.toArray c) :: (Fd, oF) :: (Pp, oP) :: (D, listOf (strValues ps).toArray 0) :: (I, it) :: TO))
    (h1 : m' (Str.ofString "words") = some (.ref l)) (h2 : m' (Str.ofString "rows") = some (.ref D)) (h3 : m' (Str.ofString "name") = some (.str xn tn))
    (hit : it.cls = .type "range_iterator") (hT1 : ∀ p ∈ TO, p.1 ≠ l) (hT2 : ∀ p ∈ TO, p.2.cls = .type "list") (hD : DatAll TO vals (tellW xn ws)) (hv : vals.length ≤ 200 * i + n) (hn : n ≤ 200) (hw : ws = wordsR (rs.take (i + 1)) 1) :
    UnrEnd h₀ L s₁ I it (WInv xn tn ps rs l D (i + 1)) { s₁ with heap := h', toks := tk } := by
  have hne : (Value.type "list") ≠ it.cls := by rw [hit]; decide
  refine unr_end ((l, listOf vals.toArray c) :: (D, listOf (strValues ps).toArray 0) :: TO) F N (.tail _ (.tail _ (.tail _ (.tail _ (.head _))))) ?_ ?_ ?_
  · intro p hp
    simp only [List.mem_cons] at hp ⊢
    rcases hp with h | h | h <;> simp [h]
  · intro p hp
    simp only [List.mem_cons] at hp
    rcases hp with rfl | rfl | h
    · exact .inr hne
    · exact .inr hne
    · exact .inr (by rw [hT2 p h]; exact hne)
  · refine ⟨m', _, _, _, mW_of h1 h2 h3, rfl, hT1, hT2, hw ▸ hD, ?_⟩
    omega
theorem rowsC_mem (c : Nat) : ∀ (l acc : List Nat), ∀ r ∈ rowsC c acc l, r.length ≤ acc.length + l.length
  | [], acc, r, h => by simp [rowsC] at h; subst h; simp
  | x :: l, acc, r, h => by
    unfold rowsC at h
    split at h
    · rcases List.mem_cons.mp h with rfl | h
      · simp
      · have := rowsC_mem c l [] r h
        simp at this ⊢; omega
    · have := rowsC_mem c l (acc ++ [x]) r h
      simp at this ⊢; omega
theorem rs_facts {n : Int} {rs : List (List Nat)} (h : rs = rowsC 10 [] ((nl1 (lett n)).map fun x => if x = 13 then 10 else x)) : rs.length ≤ 20 ∧ (∀ (i : Nat) (r : List Nat), rs[i]? = some r → r.length ≤ 50) ∧ rs = rowsN [] (norm (lett n)) := by
  have h1 := lett_len n
  have h2 := nl1_len (lett n)
  have h3 := rowsC_len 10 ((nl1 (lett n)).map fun x => if x = 13 then 10 else x) []
  rw [List.length_map] at h3
  refine ⟨by rw [h]; omega, fun i r hr => ?_, ?_⟩
  · have := rowsC_mem 10 _ [] r (by rw [h] at hr; exact List.mem_of_getElem? hr)
    simp at this; omega
  · rw [h, rowsN_eq, norm_nl1]
theorem dotted_len {r : List Nat} (h : r.length ≤ 50) : (dotted r).length ≤ 100 := by
  unfold dotted; split
  · simp; omega
  · omega
theorem take_words {n : Int} {rs : List (List Nat)} {m : Nat} (h : rs = rowsN [] (norm (lett n))) (hm : m = rs.length) : wordsR (rs.take m) 1 = wordsL (lett n) ∧ m = rowsL (lett n) := by
  subst hm
  rw [List.take_length]
  exact ⟨by rw [h]; rfl, by rw [h]; rfl⟩
theorem words_end {h g h' : Heap} {L T e T2 l D : Addr} {oT2 oD : Obj} {xn : Str} {q c : Nat} {t' : Tok} {vals : List Value} {TO : List (Addr × Obj)} {m : Str → Option Value} (eg : g = hideAll h (([] : List (Addr × Obj)).map (·.1))) (F : Fr g L h' m)
    (N : News g L h' ((T, ({ cls := .type "tuple", data := .seq #[.ref l, .ref e] } : Obj)) :: (e, listOf #[.none, .str (lead xn q) t'] 0) :: (T2, oT2) :: (l, listOf vals.toArray c) :: (D, oD) :: TO)) :
    Kept [] h h' ∧ Holds h' ((T, ({ cls := .type "tuple", data := .seq #[.ref l, .ref e] } : Obj)) :: (e, listOf #[.none, .str (lead xn q) t'] 0) :: (l, listOf vals.toArray c) :: TO) ∧ h.get? T = none ∧ h.get? e = none ∧ h.get? l = none ∧ (∀ p ∈ TO, h.get? p.1 = none) := by
  have e0 : g = h := by rw [eg]; rfl
  subst e0
  have kp : Kept [] g h' := kept_of (S := []) rfl F
  refine ⟨kp, fun p hp => (N p ?_).1, (N _ (.head _)).2.2, (N _ (.tail _ (.head _))).2.2, (N _ (.tail _ (.tail _ (.tail _ (.head _))))).2.2, fun p hp => (N p (.tail _ (.tail _ (.tail _ (.tail _ (.tail _ hp)))))).2.2⟩
  simp only [List.mem_cons] at hp ⊢
  rcases hp with h | h | h | h <;> simp [h]
end
section
open PySem PySem.W PySem.Calls PyProof.Rows
theorem reg_S15_1 : True := by
  k_with_none
  (k_with "S enter!" => (
  case ho => k_is
  case hcd => k_is
  case hroom => (first | exact room1 (by assumption) (by decide) | omega | (show _ < _; (try dsimp only); omega))
  case hbind => first | exact BindsTo.of_eq rfl | exact binds_K (by assumption) rfl (by k_is) rfl rfl rfl
  case hloc => exact locs rfl
  case c2 => rfl
  case c3 => rfl
  case c4 => rfl
  case c5 => decide))
  (k_with "S end!" => ((try dsimp only); repeat (k_unfold; (try dsimp only))))
  (k_with "call ref!" => (refine Stop.out ?_))
  (k_with "call builtin:str.replace!" => (refine Stop.out ?_))
  (k_with "call builtin:str.split!" => (k_here; k_dflt (refine' split_K 10 (show Str.ofString "\n" = ⟨#[10]⟩ by decide +kernel) ?kF ?kN ?kl ?_; (case kF => k_asm); (case kN => k_asm); (case kl => assumption); k_whole; intro zD' zps' zh' zk' zhps' zF' zN' zl1; (try k_lt zl1); (try k_sweep))))
  (k_with "call builtin:str.split!" => (k_here; k_dflt (refine' split_K 35 (show Str.ofString "#" = ⟨#[35]⟩ by decide +kernel) ?kF ?kN ?kl ?_; (case kF => k_asm); (case kN => k_asm); (case kl => assumption); k_whole; intro zD' zps' zh' zk' zhps' zF' zN' zl1; (try k_lt zl1); (try k_sweep))))
  (k_with "call builtin:str.split!" => (k_here; k_dflt (refine' split_K 32 (show Str.ofString " " = ⟨#[32]⟩ by decide +kernel) ?kF ?kN ?kl ?_; (case kF => k_asm); (case kN => k_asm); (case kl => assumption); k_whole; intro zD' zps' zh' zk' zhps' zF' zN' zl1; (try k_lt zl1); (try k_sweep))))
  (k_with "execs cons!" => ((with_reducible show wpAny _ _ (execs (Stmt.For _ _ _ _ _ :: _) _) _ _ _); (refine Stop.out ?_)))
  (k_with "unpackItems ref!" => (refine Stop.out ?_))
  (k_with "pyIter ref!" => (refine Stop.out ?_))
  (k_with "call builtin:len!" => (k_here; k_dflt (refine' len_lst ?kN ?km ?kz ?_; (case kN => k_asm); (case km => k_mem); (case kz => assumption); k_whole)))
  (k_with "subscriptTail Name Name ref int!" => (k_here; (with_reducible show wpAny _ _ (subscriptTail _ _ (Value.ref _) (Value.int _ _)) _ _ _); k_dflt (refine' item_lst ?kN ?km ?kp ?k0 ?kz ?kr ?_ ?ks ?kg; (case kN => k_asm); (case km => k_mem); (case kp => assumption); (case kr => assumption); (case k0 => (try dsimp only); omega); (case kz => (try dsimp only); omega); (case ks => with_unfolding_all rfl); (case kg => (intro _; with_unfolding_all rfl)); k_whole; intro zt')))
  (k_with "subscriptTail Name Constant ref int!" => (k_here; (with_reducible show wpAny _ _ (subscriptTail _ _ (Value.ref _) (Value.int _ _)) _ _ _); k_dflt (refine' item_lst ?kN ?km ?kp ?k0 ?kz ?kr ?_ ?ks ?kg; (case kN => k_asm); (case km => k_mem); (case kp => assumption); (case kr => assumption); (case k0 => (try dsimp only); omega); (case kz => (try dsimp only); omega); (case ks => with_unfolding_all rfl); (case kg => (intro _; with_unfolding_all rfl)); k_whole; intro zt')))
  (k_with "last subscriptTail!" => ((with_reducible show wpAny _ _ (subscriptTail _ (Expr.Slice none (some _) none _) (Value.str _ _) (Value.ref _)) _ _ _); k_dflt (refine slice_strN_ns (hsz := ?hsz) (s := ⟨_, _, _, _, _⟩) ?kF ?kN ?_; (case kF => k_asm); (case kN => k_asm); (case hsz => exact szS (by assumption)); intro _ _ _ _ _)))
  (k_with "last subscriptTail!" => ((with_reducible show wpAny _ _ (subscriptTail _ (Expr.Slice (some _) none none _) (Value.str _ _) (Value.ref _)) _ _ _); k_dflt (refine slice_strN_sn (hsz := ?hsz) (s := ⟨_, _, _, _, _⟩) ?kF ?kN ?_; (case kF => k_asm); (case kN => k_asm); (case hsz => exact szS (by assumption)); intro _ _ _ _ _)))
  (k_with "binaryOp Add str str!" => (k_here; k_dflt (refine dot_K ?kr ?_; (case kr => assumption); intro _ _)))
  (k_with "compareOp Eq str str!" => (refine eqS_K _ (by assumption) ?_))
  (k_with "compareOp NotEq str str!" => (refine neS_K _ (by assumption) ?_))
  (k_with "eval IfExp!" => (refine Stop.out ?_))
  (k_with "CompSrcT!" => (refine Stop.out ?_))
  (k_with "binaryOp Mod str ref!" => (k_here; k_dflt (refine' lead_K ?kN ?km ?kx ?kq ?_; (case kN => k_asm); (case km => k_mem); (case kx => assumption); (case kq => assumption); k_whole; intro _ _)))
  (k_with "eval BoolOp!" => ((with_reducible show wpAny _ _ (eval (Expr.BoolOp _ (_ :: _ :: _ :: _) _) _) _ _ _); (refine Stop.out ?_)))
  (k_with "call builtin:list.append!" => (refine Stop.out ?_))
  trivial
section
variable {w : World} {A : Around} {outer : List Env} {s : Shared} {base : Heap} {mean : ExcName → Option Value} {mg mb : Str → Option Value} {R : Result → Shared → Prop} {t tn : Tok} {n : Int} {xn : Str}
set_option maxHeartbeats 3000000 in
theorem words_spec
    (G : Gr w mean mg mb base) (O : Out A outer base s.heap []) (H : Holds s.heap []) (hdep : A.depth + 100 < recursionLimit) (hh0 : A.handled = none) (hxn : xn.length ≤ 64)
    (k : ∀ h' tk T l e vals c TO t', Kept [] s.heap h' → Holds h' ((T, ({ cls := .type "tuple", data := .seq #[.ref l, .ref e] } : Obj)) :: (e, listOf #[.none, .str (lead xn (rowsL (lett n))) t'] 0) :: (l, listOf vals.toArray c) :: TO) → (∀ p ∈ TO, p.1 ≠ l) → (∀ p ∈ TO, p.2.cls = .type "list") →
      @LT.lt Nat _ l e → @LT.lt Nat _ e T → s.heap.get? T = none → s.heap.get? e = none → s.heap.get? l = none → (∀ p ∈ TO, s.heap.get? p.1 = none) → DatAll TO vals (tellW xn (wordsL (lett n))) → R (.ok (.ret (.ref T))) { s with heap := h', toks := tk }) :
    codeAny (model PySem.Challenge.rw_ny0282_01.row.prog w) A (.call (.ref 765) ⟨[.int n t, .str xn tn], []⟩) R s := by
  obtain ⟨ahd, adp, afr, agd, aun⟩ := A
  have eH : ahd = none := hh0
  have eA : afr = some outer := O.stack
  subst eA
  have hdep2 := hdep
  dsimp only at hdep2
  have hl1 : (lett n).length ≤ 100 := by rw [lett_len]; decide
  have hl2 : (nl1 (lett n)).length ≤ 100 := Nat.le_trans (nl1_len _) hl1
  have hl3 : ((nl1 (lett n)).map fun x => if x = 13 then 10 else x).length ≤ 100 := by rw [List.length_map]; exact hl2
  obtain ⟨rs, hrs⟩ : ∃ rs, rs = rowsC 10 [] ((nl1 (lett n)).map fun x => if x = 13 then 10 else x) := ⟨_, rfl⟩
  have hrf := rs_facts hrs
  obtain ⟨hz0, hzr, hrsN⟩ := hrf
  w_on
  w_top on
  have Xs := (G.keeps O.stays).X
  refine' call_S (news := []) (binds := [(Str.ofString "number", .int n t), (Str.ofString "name", .str xn tn)]) G O H ?ho ?hcd ?hroom ?hbind ?hloc ?_ ?c2 ?c3 ?c4 ?c5
  walk_at "S enter"
  clear Xs
  intro g L' h₁ eg F N B G' lt
  obtain ⟨T', GL', ⟨bm1, bm2, M'⟩, X'⟩ := G'
  clear lt
  try dsimp only
  try k_fold
  k_steps
  refine Stop.mk ?_
  k_dflt (refine' letter_K ?kB ?kG ?kF ?kN ?kA ?kf ?kk ?kd ?kh ?_; (case kA => exact rfl); (case kf => exact rfl); (case kk => exact rfl); (case kF => k_asm); (case kN => k_asm); (case kB => k_asm); (case kG => assumption); (case kd => k_room); (case kh => assumption); k_whole; intro h' tk' tc' hpos' F' N'; (try k_sweep))
  k_steps
  refine Stop.mk ?_
  k_dflt (first | (refine rep2_K ?ks ?ku ?kv ?kw ?kl ?_; (case ks => exact Nat.succ_pos _); (case ku => assumption); (case kv => exact Nat.succ_pos _); (case kw => exact Nat.ne_of_lt (Nat.lt_succ_self _)); (case kl => assumption); intro _ _ hk1') | (refine rep1_K ?ks ?ku ?kv ?kw ?kl ?_; (case ks => exact Nat.succ_pos _); (case ku => assumption); (case kv => exact Nat.succ_pos _); (case kw => exact Nat.ne_of_lt (Nat.lt_succ_self _)); (case kl => assumption); intro _ _ _))
  k_steps
  refine Stop.mk ?_
  k_dflt (first | (refine rep2_K ?ks ?ku ?kv ?kw ?kl ?_; (case ks => exact Nat.succ_pos _); (case ku => assumption); (case kv => exact Nat.succ_pos _); (case kw => exact Nat.ne_of_lt (Nat.lt_succ_self _)); (case kl => assumption); intro _ _ hk1') | (refine rep1_K ?ks ?ku ?kv ?kw ?kl ?_; (case ks => exact Nat.succ_pos _); (case ku => assumption); (case kv => exact Nat.succ_pos _); (case kw => exact Nat.ne_of_lt (Nat.lt_succ_self _)); (case kl => assumption); intro _ _ _))
  k_steps
  refine Stop.mk ?_
  k_dflt (refine' unpackItemsN_ ?k1 ?k2 (isTup_of' ?kN2 ?km) ?k4 ?k5 ?_; (case k1 => k_asm); (case k2 => k_asm); (case kN2 => k_asm); (case km => k_mem); (case k4 => assumption); (case k5 => exact rfl); k_whole)
  k_steps
  refine Stop.mk ?_
  (try dsimp only)
  refine wpAny_execs_cons ?_
  (rename Fr _ _ _ _ => lF')
  (with_unfolding_all refine' For_invVF lF' ?k1 ?k2 ?_)
  case k1 => exact rfl
  case k2 => exact rfl
  rename (List.map _ _ = List.map _ _) => hps
  have hz1 := congrArg List.length hps
  simp only [List.length_map] at hz1
  rw [← hrs] at hps hz1
  rename List (Str × Tok) => ps
  have hz2 : ps.length ≤ 1000 := by omega
  k_steps
  refine Stop.mk ?_
  (try dsimp only)
  (rename Fr _ _ _ _ => lF')
  (rename News _ _ _ _ => lN')
  (rename IsRange _ _ _ _ _ _ _ _ => hR)
  have hn0 : Builtin.Range.rangeSize 0 (ps.length : Int) 1 = ((ps.length : Nat) : Int) := by rw [rangeSize_nat]; omega
  refine Exists.elim (start_words (xn := xn) (tn := tn) lF' lN' ?qa ?qb ?qc ?qd) ?_
  case qa => assumption
  case qb => exact rfl
  case qc => exact rfl
  case qd => exact rfl
  clear lF' lN'
  intro l hq
  obtain ⟨D, hlD, F0, N0⟩ := hq
  refine iter_rangeI0Q (WInv xn tn ps rs l D) (by assumption) hR (small_one (by omega) (by omega) (by omega) (by omega)) hn0 F0 N0 winv_0 ?_ ?_
  · clear hR F0 N0
    intro I it i m' nw t h tk hfr hi hInv hit F N Qo hQo
    obtain ⟨u, vals, c, TO, rfl, rfl, hT1, hT2, hDat, hvl⟩ := hInv
    have hlD2 := two_lt hfr
    clear hfr
    have hi2 : i < rs.length := by omega
    have hrX := row_ex hi2
    obtain ⟨r, hr⟩ := hrX
    have hr0 : r.length ≤ 50 := hzr _ _ hr
    have hr1 : r.length ≤ 100 := Nat.le_trans hr0 (by decide)
    have hr2 : (dotted r).length ≤ 100 := dotted_len hr0
    k_steps
    refine Stop.mk ?_
    (try dsimp only)
    (rename Fr _ _ _ _ => lF')
    (rename News _ _ _ _ => lN')
    refine cut_V (fun v => ∃ t, v = .str (toS (dotted r)) t) lF' lN' ?_ ?_
    · refine wpAny_IfExp ?_
      cases hdd : decide (r.head? = some 46) with
      | true =>
        obtain ⟨e1, e2⟩ := dot_yes (of_decide_eq_true hdd)
        rw [e2]
        k_steps
        exact Stop.mk ⟨_, _, ⟨_, rfl⟩, rfl, by assumption, by assumption⟩
      | false =>
        obtain ⟨e1, e2⟩ := dot_no (of_decide_eq_false hdd)
        rw [e2]
        k_steps
        exact Stop.mk ⟨_, _, ⟨_, rfl⟩, rfl, by assumption, by assumption⟩
    · rintro _ h' tk' ⟨t', rfl⟩ F' N'
      clear lF' lN'
      obtain ⟨row, hrow⟩ : ∃ row, row = dotted r := ⟨_, rfl⟩
      rw [← hrow] at hr2
      rw [← hrow]
      obtain ⟨hp0, hp1, hp2, hp3⟩ := parts_facts row hr2
      k_steps
      refine Stop.mk ?_
      (try dsimp only)
      (rename Fr _ _ _ _ => lF')
      (rename News _ _ _ _ => lN')
      rename (List.map _ _ = List.map toS (rowsC 32 [] (part0 row))) => hw
      obtain ⟨hw1, hw2, hw3, hw4⟩ := sz_of hw (Nat.le_trans hp3 (by decide))
      refine LCt.CompSrcT.ledger (by assumption) lF' lN' (.head _) hw2 ?_
      intro g'
      refine compT_ind (CInv _ (rowsC 32 [] (part0 row))) ?_ ?_ _ 0 [] _ (Nat.zero_add _) cinv_0
      · clear lF' lN'
        intro i2 ys nw2 v I2 oI C oC D2 m₂ h2 tk2 E' hi2' hInv hP hC hx F2 N2 off ne
        obtain ⟨rfl, fs, rfl, hfs⟩ := hInv
        obtain ⟨r2, t2, hr2', rfl⟩ := word_ex hw hP
        have ee := empty_eq r2
        have off0 := off
        simp only [LCg.Off3] at off
        cases hn : ne0 r2 with
        | true =>
          rw [hn] at ee
          k_steps
          exact ⟨_, _, _, rfl, by assumption, by assumption, off0, .inr ⟨_, .head _, rfl, _, rfl⟩, cinv_yes hr2' hn hfs⟩
        | false =>
          rw [hn] at ee
          k_steps
          exact ⟨_, _, _, rfl, by assumption, by assumption, off0, .inr ⟨_, .head _, rfl, _, rfl⟩, cinv_no hr2' hn hfs⟩
      · clear lF' lN'
        intro ys nw2 hInv
        obtain ⟨rfl, fs, rfl, hfs⟩ := cinv_end hw1 hInv
        obtain ⟨hf1, hf2, hf3, hf4⟩ := sz_of hfs (Nat.le_trans (List.length_filter_le _ _) (Nat.le_trans hp3 (by decide)))
        k_steps
        refine Stop.mk ?_
        (try dsimp only)
        refine wpAny_execs_cons ?_
        (rename Fr _ _ _ _ => lF')
        (with_unfolding_all refine' For_invVF lF' ?k1 ?k2 ?_)
        case k1 => exact rfl
        case k2 => exact rfl
        k_steps
        refine Stop.mk ?_
        (try dsimp only)
        (rename Fr _ _ _ _ => lF')
        (rename News _ _ _ _ => lN')
        (rename IsRange _ _ _ _ _ _ _ _ => hR)
        refine Exists.elim (start_inner (xn := xn) (tn := tn) (i := i) (ti := t) (l := l) (D := D) lF' lN' ?qa ?qb ?qc ?qd ?qe ?qf ?qg ?qh) ?_
        case qa => omega
        case qb => omega
        case qc => exact rfl
        case qd => exact rfl
        case qe => exact rfl
        case qf => exact rfl
        case qg => exact rfl
        case qh => exact rfl
        clear lF' lN'
        intro Pp hq
        obtain ⟨Fd, hlP, hlF, F0, N0⟩ := hq
        have hm0 : Builtin.Range.rangeSize 0 (fs.length : Int) 1 = ((fs.length : Nat) : Int) := by rw [rangeSize_nat]; omega
        rename (List.map _ _ = List.map toS (rowsC 35 [] row)) => hpp
        have hq5 := sz_of hpp (Nat.le_trans hp2 (by decide))
        have hq6 := hq5.2.2.1
        refine iter_rangeI0Q (JInv xn tn ps _ fs (wordsR (rs.take i) 1) (wl ((rowsC 32 [] (part0 row)).filter ne0) (decide (35 ∈ row) && decide ((part0 row).getLast? ≠ some 32)) (i + 1)) l D Pp Fd I it i t (200 * i)) (by assumption) hR (small_one (by omega) (by omega) (by omega) (by omega)) hm0 F0 N0 ⟨_, vals, c, TO, rfl, rfl, hT1, hT2, jinv_0 hDat, le_add0 hvl⟩ ?_ ?_
        · clear hR F0 N0 hT1 hT2 hDat hvl
          intro I2 it2 j m2 nw2 tj h2 tk2 hfr2 hj hInv2 hit2 F2 N2 Qi hQi
          obtain ⟨u2, vals2, c2, TO2, rfl, rfl, hT1, hT2, hDat, hvl⟩ := hInv2
          have h5 := five_lt hfr2
          clear hfr2
          have hj2 := j_lt hf4 hj
          have hfX := row_ex hj2
          obtain ⟨f, hf⟩ := hfX
          have hlb := last_fact (part0 row)
          have hc := close_fact hpp
          have hqX := lnJ_ex (j := j) (n := fs.length) (c := (decide (35 ∈ row) && decide ((part0 row).getLast? ≠ some 32))) (i := i) (by omega)
          obtain ⟨q, hq, hq1⟩ := hqX
          have hall := all5 (fs := fs) (ps := ps) (it := it) hpp hlF hlP hlD hlD2.1 hT1
          obtain ⟨cl, hcl⟩ : ∃ cl, cl = (decide (j + 1 = fs.length) && (decide (35 ∈ row) && decide ((part0 row).getLast? ≠ some 32))) := ⟨_, rfl⟩
          k_steps
          refine Stop.mk ?_
          (try dsimp only)
          (rename Fr _ _ _ _ => lF')
          (rename News _ _ _ _ => lN')
          refine cut_V (fun v => v = .bool cl) lF' lN' ?_ ?_
          · refine BoolOp_and ?_
            k_steps
            · refine Stop.mk ⟨_, _, ?_, rfl, by assumption, by assumption⟩
              rw [hcl]
              exact congrArg Value.bool (closeT (by assumption) (by assumption) hc)
            · refine Stop.mk ⟨_, _, ?_, rfl, by assumption, by assumption⟩
              rw [hcl]
              exact congrArg Value.bool (closeF1 (by assumption) hc)
            · refine Stop.mk ⟨_, _, ?_, rfl, by assumption, by assumption⟩
              rw [hcl]
              exact congrArg Value.bool (closeF2 (by assumption))
          · rintro _ h' tk' rfl F' N'
            clear lF' lN'
            k_steps
            refine Stop.mk ?_
            (try dsimp only)
            (rename Fr _ _ _ _ => lF')
            (rename News _ _ _ _ => lN')
            refine cut_V (fun v => ∃ t, v = .int (q : Int) t) lF' lN' ?_ ?_
            · refine wpAny_IfExp ?_
              cases cl with
              | true =>
                k_steps
                exact Stop.mk ⟨_, _, ⟨_, int_eq ((lnJ_t hcl.symm).trans (congrArg Nat.cast hq.symm))⟩, rfl, by assumption, by assumption⟩
              | false =>
                k_steps
                exact Stop.mk ⟨_, _, ⟨_, int_eq ((lnJ_f hcl.symm).trans (congrArg Nat.cast hq.symm))⟩, rfl, by assumption, by assumption⟩
            · rintro _ h' tk' ⟨t', rfl⟩ F' N'
              clear lF' lN'
              have hws := wl_get _ (decide (35 ∈ row) && decide ((part0 row).getLast? ≠ some 32)) i j f hf
              rw [← hf4, ← hq] at hws
              k_steps
              refine Stop.mk ?_
              k_dflt (refine' app_K ?kF ?kN ?ku ?kz ?_; (case kF => k_asm); (case kN => k_asm); (case ku => k_updF); (case kz => omega); k_whole; intro h' F' N'; (try dsimp only at N'); (try k_sweep))
              k_steps
              refine hQi _ _ ?_
              dsimp only [UnrPost]
              (rename Fr _ _ _ _ => lF')
              (rename News _ _ _ _ => lN')
              refine' inner_end lF' lN' ?q1 ?q2 ?q3 ?q4 ?q5 ?q6 hit2 h5.2.2.2.2 ?q7 hT1 hT2 hDat hvl hws
              case q1 => exact rfl
              case q2 => exact rfl
              case q3 => exact rfl
              case q4 => exact rfl
              case q5 => exact rfl
              case q6 => exact rfl
              case q7 => omega
        · clear hR F0 N0 hT1 hT2 hDat hvl
          intro m2 nw2 h2 tk2 hInv2 F2 N2
          obtain ⟨u2, vals2, c2, TO2, rfl, rfl, hT1, hT2, hDat, hvl⟩ := hInv2
          have hrw := row_words hr hrow hf4
          rw [hrw] at hDat
          have hf5 : fs.length ≤ 200 := by rw [hf4]; exact Nat.le_trans (List.length_filter_le _ _) hp3
          k_steps
          refine hQo _ _ ?_
          dsimp only [UnrPost]
          (rename Fr _ _ _ _ => lF')
          (rename News _ _ _ _ => lN')
          refine' outer_end lF' lN' ?q1 ?q2 ?q3 hit hT1 hT2 hDat hvl hf5 rfl
          case q1 => exact rfl
          case q2 => exact rfl
          case q3 => exact rfl
  · clear hR F0 N0
    intro m' nw h tk hInv F N
    obtain ⟨u, vals, c, TO, rfl, rfl, hT1, hT2, hDat, hvl⟩ := hInv
    have htw := take_words hrsN hz1
    rw [htw.1] at hDat
    k_steps
    all_goals walk_at "S end"
    (rename Fr _ _ _ _ => lF')
    (rename News _ _ _ _ => lN')
    have hwe := words_end eg lF' lN'
    rw [htw.2] at hwe
    refine' k _ _ _ _ _ _ _ _ _ hwe.1 hwe.2.1 hT1 hT2 ?a1 ?a2 hwe.2.2.1 hwe.2.2.2.1 hwe.2.2.2.2.1 hwe.2.2.2.2.2 hDat
    case a1 => omega
    case a2 => omega
end
end
section
open PySem PySem.W PySem.Calls PyProof.Rows
/-- A stream and the words that it still yields. -/
noncomputable def RelS (x : Str) (e : Nat) (s : Strm) (ds : List Dat) : Prop := x.length ≤ 64 ∧ ∃ tn ws, s.inf = .str x tn ∧ Rem s.rest s.ln ws e ∧ ds = tellW x ws
noncomputable def RelAll (x0 : Str) (e0 : Nat) : Strm → List Strm → List Dat → List (List Dat) → Prop
  | s, [], d, [] => RelS x0 e0 s d
  | s, s' :: low, d, d' :: dl => (∃ x e, RelS x e s d) ∧ RelAll x0 e0 s' low d' dl
  | _, _, _, _ => False
theorem RelAll.any {x0 : Str} {e0 : Nat} {s : Strm} {d : List Dat} : ∀ {low : List Strm} {dl : List (List Dat)}, RelAll x0 e0 s low d dl → ∃ x e, RelS x e s d
  | [], [], h => ⟨_, _, h⟩
  | _ :: _, _ :: _, h => h.1
  | [], _ :: _, h => h.elim
  | _ :: _, [], h => h.elim
theorem RelAll.set {x0 : Str} {e0 : Nat} {s t : Strm} {d d' : List Dat} {x : Str} {e : Nat} : ∀ {low : List Strm} {dl : List (List Dat)}, RelAll x0 e0 s low d dl → (∀ x e, RelS x e s d → RelS x e t d') → RelAll x0 e0 t low d' dl
  | [], [], h, k => k _ _ h
  | _ :: _, _ :: _, h, k => ⟨let ⟨x, e, q⟩ := h.1; ⟨x, e, k _ _ q⟩, h.2⟩
  | [], _ :: _, h, _ => h.elim
  | _ :: _, [], h, _ => h.elim
/-- What is told: a word, or that there is none. -/
noncomputable def rdat : Option (List Nat) → Dat
  | some tok => .str (toS tok)
  | none => .none
theorem rem_get {rest : List Nat} {ln e : Nat} {ws : List (List Nat × Nat)} (h : Rem rest ln ws e) {r : Option (List Nat)} {l : Nat} {q : List Nat} (hl : lexS false rest ln = (r, l, q)) :
    (∃ tok ws', r = some tok ∧ ws = (tok, l) :: ws' ∧ Rem q l ws' e) ∨ (r = none ∧ ws = [] ∧ l = e) := by
  cases h with
  | nil h => rw [hl] at h; cases h; exact .inr ⟨rfl, rfl, rfl⟩
  | cons h t => rw [hl] at h; cases h; exact .inl ⟨_, _, rfl, rfl, t⟩
theorem gt_rel {x0 : Str} {e0 : Nat} : ∀ (low : List Strm) (s : Strm) {d : List Dat} {dl : List (List Dat)} {r : Option (List Nat)} {t : Strm} {low' : List Strm}, RelAll x0 e0 s low d dl → gt s low = (r, t, low') →
    ∃ x tn d' dl', t.inf = .str x tn ∧ x.length ≤ 64 ∧ getD (endD x0 e0) d dl = (.list [rdat r, .str (lead x t.ln)], d', dl') ∧ (r ≠ none → RelAll x0 e0 t low' d' dl')
  | [], s, d, dl, r, t, low', h, hg => by
    cases dl with
    | cons a b => exact h.elim
    | nil =>
      obtain ⟨hx, tn, ws, hi, hr, rfl⟩ := h
      cases hl : lexS false s.rest s.ln with
      | mk r' p =>
        obtain ⟨l, q⟩ := p
        rcases rem_get hr hl with ⟨tok, ws', rfl, rfl, hr'⟩ | ⟨rfl, rfl, rfl⟩
        · rw [gt_some hl] at hg; cases hg
          exact ⟨x0, tn, tellW x0 ws', [], hi, hx, rfl, fun _ => ⟨hx, tn, ws', hi, hr', rfl⟩⟩
        · rw [gt_none hl] at hg; cases hg
          exact ⟨x0, tn, [], [], hi, hx, rfl, fun q => absurd rfl q⟩
  | s' :: low, s, d, dl, r, t, low', h, hg => by
    cases dl with
    | nil => exact h.elim
    | cons d2 dl =>
      obtain ⟨⟨x, e, hx, tn, ws, hi, hr, rfl⟩, h2⟩ := h
      cases hl : lexS false s.rest s.ln with
      | mk r' p =>
        obtain ⟨l, q⟩ := p
        rcases rem_get hr hl with ⟨tok, ws', rfl, rfl, hr'⟩ | ⟨rfl, rfl, rfl⟩
        · rw [gt_some hl] at hg; cases hg
          exact ⟨x, tn, tellW x ws', d2 :: dl, hi, hx, rfl, fun _ => ⟨⟨x, e, hx, tn, ws', hi, hr', rfl⟩, h2⟩⟩
        · rw [gt_pop hl] at hg
          obtain ⟨x', tn', d', dl', q1, q2, q3, q4⟩ := gt_rel low s' h2 hg
          exact ⟨x', tn', d', dl', q1, q2, q3, q4⟩
/-- The lexer's streams lie well. -/
structure LexOk (w : World) (lx ld pb fs : Addr) (top : Strm) (low : List Strm) : Prop where
  lt : @LT.lt Nat _ ld lx
  ok : top.Ok
  oks : ∀ s ∈ low, s.Ok
  nd : (lx :: ld :: fs :: pb :: top.sx :: top.sd :: (lowObjs w low).map (·.1)).Nodup
theorem ok_lex {s : Strm} (h : s.Ok) {r : Option (List Nat)} {l : Nat} {q : List Nat} (hl : lexS false s.rest s.ln = (r, l, q)) : ({ s with rest := q, ln := l } : Strm).Ok := by
  obtain ⟨a, b⟩ := lexS_facts _ _ _ hl
  exact ⟨a.trans h.suf, h.len, h.good.suffix a, Nat.le_trans b h.lnb, h.lt⟩
theorem gt_ok {w : World} {lx ld pb fs : Addr} : ∀ (low : List Strm) (s : Strm) {r : Option (List Nat)} {t : Strm} {low' : List Strm}, LexOk w lx ld pb fs s low → gt s low = (r, t, low') → LexOk w lx ld pb fs t low' ∧ low'.length ≤ low.length
  | [], s, r, t, low', h, hg => by
    cases hl : lexS false s.rest s.ln with
    | mk r' p =>
      obtain ⟨l, q⟩ := p
      cases r' with
      | some tok => rw [gt_some hl] at hg; cases hg; exact ⟨⟨h.lt, ok_lex h.ok hl, h.oks, h.nd⟩, Nat.le_refl _⟩
      | none => rw [gt_none hl] at hg; cases hg; exact ⟨⟨h.lt, ok_lex h.ok hl, h.oks, h.nd⟩, Nat.le_refl _⟩
  | s' :: low, s, r, t, low', h, hg => by
    cases hl : lexS false s.rest s.ln with
    | mk r' p =>
      obtain ⟨l, q⟩ := p
      cases r' with
      | some tok => rw [gt_some hl] at hg; cases hg; exact ⟨⟨h.lt, ok_lex h.ok hl, h.oks, h.nd⟩, Nat.le_refl _⟩
      | none =>
        rw [gt_pop hl] at hg
        have h' : LexOk w lx ld pb fs s' low := by
          refine ⟨h.lt, h.oks s' (.head _), fun u hu => h.oks u (.tail _ hu), ?_⟩
          have nd := h.nd
          simp only [lowObjs, List.map_cons, List.nodup_cons, List.mem_cons, not_or] at nd ⊢
          obtain ⟨⟨a1, a2, a3, -, -, -, a4, a5, a6⟩, ⟨b1, b2, -, -, -, b4, b5, b6⟩, ⟨c1, -, -, -, c4, c5, c6⟩, ⟨-, -, -, e4, e5, e6⟩, -, -, -, f1, f2⟩ := nd
          exact ⟨⟨a1, a2, a3, a4, a5, a6⟩, ⟨b1, b2, b4, b5, b6⟩, ⟨c1, c4, c5, c6⟩, ⟨e4, e5, e6⟩, f1, f2⟩
        have := gt_ok low s' h' hg
        exact ⟨this.1, Nat.le_trans this.2 (by simp)⟩
/-- An object of the law's own: a list, or a loop's. -/
noncomputable def Plain (o : Obj) : Prop := o.cls = .type "list" ∨ o.cls = .type "enumerate" ∨ o.cls = .type "list_iterator"
theorem low_cls {w : World} : ∀ (low : List Strm), ∀ p ∈ lowObjs w low, ¬ Plain p.2
  | [], p, h => nomatch h
  | s :: low, p, h => by
    simp only [lowObjs, List.mem_cons] at h
    rcases h with rfl | rfl | rfl | h
    · rintro (h | h | h) <;> simp at h
    · rintro (h | h | h) <;> simp at h
    · rintro (h | h | h) <;> simp at h
    · exact low_cls low p h
theorem all_cls {w : World} {lk : LK} {lx ld pb fs : Addr} {n np : Int} {st : Value} {tt : Tok} {top : Strm} {low : List Strm} : ∀ p ∈ lexAll w lk lx ld pb fs n np st tt top low, ¬ Plain p.2 := by
  intro p h
  simp only [lexAll, List.mem_cons] at h
  rcases h with rfl | rfl | rfl | rfl | rfl | rfl | h
  · rintro (h | h | h) <;> simp at h
  · rintro (h | h | h) <;> simp at h
  · rintro (h | h | h) <;> simp at h
  · rintro (h | h | h) <;> simp at h
  · rintro (h | h | h) <;> simp at h
  · rintro (h | h | h) <;> simp at h
  · exact low_cls low p h
theorem plain_off {h₀ h : Heap} {L : Addr} {news pre : List (Addr × Obj)} (N : News h₀ L h news) (hsub : ∀ p ∈ pre, p ∈ news) (hpre : ∀ p ∈ pre, ¬ Plain p.2) {p : Addr × Obj} (hp : p ∈ news) (pl : Plain p.2) : p.1 ∉ pre.map (·.1) := by
  intro hq
  obtain ⟨x, hx, ex⟩ := List.mem_map.mp hq
  have a := (N x (hsub x hx)).1
  have b := (N p hp).1
  rw [ex, b] at a
  exact hpre x hx (Option.some.inj a ▸ pl)
section
variable {w : World} {A₀ A : Around} {env : Env} {outer : List Env} {s : Shared} {base h₀ : Heap} {mean : ExcName → Option Value} {mg mb m : Str → Option Value} {news hdr TO : List (Addr × Obj)} {Q : Value → Shared → Prop} {E : Value → Shared → Prop} {L lx ld pb fs : Addr} {lk : LK} {st tt : Tok} {n np : Int} {top top' : Strm} {low low' : List Strm}
theorem gtokR_K (B : Below A₀ base outer h₀) (G : Gr w mean mg mb base) (F : Fr h₀ L s.heap m) (N : News h₀ L s.heap (hdr ++ (lexAll w lk lx ld pb fs n np (.str (Str.ofString " ") st) tt top low ++ TO))) (hA : A.frames = some (env :: outer)) (hf : env.frame = some L) (hke : env.scope.kind = .function)
    (ok : LexOk w lx ld pb fs top low) (hll : low.length ≤ 100) (hdep : A.depth + 200 < recursionLimit) (hh0 : A.handled = none) (hpl : ∀ p ∈ hdr, Plain p.2) (hpl2 : ∀ p ∈ TO, Plain p.2)
    (h : ∀ r top' low', gt top low = (r, top', low') → ∀ h' tk v st' n' t2 t3 t4, GtV r v st' → Fr h₀ L h' m → News h₀ L h' (hdr ++ (lexAll w lk lx ld pb fs n' np st' t3 { top' with lt := t2, tp := t4 } low' ++ TO)) → Q v { s with heap := h', toks := tk }) :
    wpAny (model PySem.Challenge.rw_ny0282_01.row.prog w) A (call (.ref 705) [.ref lx]) Q E s := by
  have hsub : ∀ p ∈ lexAll w lk lx ld pb fs n np (.str (Str.ofString " ") st) tt top low, p ∈ hdr ++ (lexAll w lk lx ld pb fs n np (.str (Str.ofString " ") st) tt top low ++ TO) := fun p hp => List.mem_append_right _ (List.mem_append_left _ hp)
  obtain ⟨O, H⟩ := out_of B F N hA hf hke hsub
  refine wpAny_call (gtok_spec low G ok.lt ok.ok ok.oks hll ok.nd O H (by omega) hh0 fun r t l e h' tk v st' n' t2 t3 t4 gv kp hh => ?_)
  refine h r t l e h' tk v st' n' t2 t3 t4 gv (fr_kept F N hsub kp) (news_kept F N hsub kp (fun p hp => ⟨hh p hp, .inl (all_addr e _ (List.mem_map_of_mem hp))⟩) fun p hp => ?_)
  rcases List.mem_append.mp hp with hp | hp
  · exact .inr ⟨List.mem_append_left _ hp, plain_off N hsub all_cls (List.mem_append_left _ hp) (hpl p hp)⟩
  · rcases List.mem_append.mp hp with hp | hp
    · exact .inl hp
    · have := List.mem_append_right hdr (List.mem_append_right (lexAll w lk lx ld pb fs n np (.str (Str.ofString " ") st) tt top low) hp)
      exact .inr ⟨this, plain_off N hsub all_cls this (hpl2 p hp)⟩
theorem leaderR_K {ins inf stv tok : Value} {x : Str} {tn lt' : Tok} {ln : Nat} (B : Below A₀ base outer h₀) (G : Gr w mean mg mb base) (F : Fr h₀ L s.heap m) (N : News h₀ L s.heap news) (hA : A.frames = some (env :: outer)) (hf : env.frame = some L) (hke : env.scope.kind = .function)
    (hlt : @LT.lt Nat _ ld lx) (hdep : A.depth + 200 < recursionLimit) (q1 : (lx, instObj 744 ld) ∈ news) (q2 : (ld, lexD w lk ins inf stv pb (.int (ln : Int) lt') tok fs) ∈ news) (hi : inf = .str x tn) (hx : x.length ≤ 64) (hln : ln ≤ 1000)
    (h : ∀ h' tk tc, Fr h₀ L h' m → News h₀ L h' news → Q (.str (lead x ln) tc) { s with heap := h', toks := tk }) :
    wpAny (model PySem.Challenge.rw_ny0282_01.row.prog w) A (call (.ref 727) [.ref lx]) Q E s := by
  subst hi
  have hsub : ∀ p ∈ [(lx, instObj 744 ld), (ld, lexD w lk ins (.str x tn) stv pb (.int (ln : Int) lt') tok fs)], p ∈ news := by
    intro p hp
    simp only [List.mem_cons, List.not_mem_nil, or_false] at hp
    rcases hp with rfl | rfl
    · exact q1
    · exact q2
  obtain ⟨O, H⟩ := out_of B F N hA hf hke hsub
  refine wpAny_call (leader_spec G hlt O H (by omega) hx hln fun h' tk tc kp hh => ?_)
  refine h h' tk tc (fr_kept F N hsub kp) (news_kept F N hsub kp (fun p hp => ⟨hh p hp, .inl (List.mem_map_of_mem hp)⟩) fun p hp => ?_)
  by_cases z : p.1 ∈ ([(lx, instObj 744 ld), (ld, lexD w lk ins (.str x tn) stv pb (.int (ln : Int) lt') tok fs)] : List (Addr × Obj)).map (·.1)
  · obtain ⟨y, hy, ey⟩ := List.mem_map.mp z
    have a := (N y (hsub y hy)).1
    have b := (N p hp).1
    rw [ey, b] at a
    have e : y = p := Prod.ext ey (Option.some.inj a).symm
    exact .inl (e ▸ hy)
  · exact .inr ⟨hp, z⟩
theorem pushR_K {txt : List Nat} {xn xi : Str} {t tn tn' : Tok} (B : Below A₀ base outer h₀) (G : Gr w mean mg mb base) (F : Fr h₀ L s.heap m) (N : News h₀ L s.heap (hdr ++ (lexAll w lk lx ld pb fs n np (.str (Str.ofString " ") st) tt top low ++ TO))) (hA : A.frames = some (env :: outer)) (hf : env.frame = some L) (hke : env.scope.kind = .function)
    (ok : LexOk w lx ld pb fs top low) (hll : low.length ≤ 100) (hdep : A.depth + 200 < recursionLimit) (hpl : ∀ p ∈ hdr, Plain p.2) (hpl2 : ∀ p ∈ TO, Plain p.2) (hi : top.inf = .str xi tn) (hx : txt.length ≤ 64) (hg : Good txt)
    (h : ∀ h' tk (top' : Strm) ta n', top'.inf = .str xn tn' → top'.rest = txt → top'.ln = 1 → LexOk w lx ld pb fs top' ({ top with ta := ta } :: low) → Fr h₀ L h' m → News h₀ L h' (hdr ++ (lexAll w lk lx ld pb fs n' np (.str (Str.ofString " ") st) tt top' ({ top with ta := ta } :: low) ++ TO)) → Q .none { s with heap := h', toks := tk }) :
    wpAny (model PySem.Challenge.rw_ny0282_01.row.prog w) A (call (.ref 691) [.ref lx, .str ⟨txt.toArray⟩ t, .str xn tn']) Q E s := by
  obtain ⟨inf, sx, sd, sk, txt0, rest, tp, ln, lt', ta0⟩ := top
  dsimp only at hi
  subst hi
  have nd := ok.nd
  simp only [List.nodup_cons, List.mem_cons, not_or] at nd
  obtain ⟨⟨a1, a2, a3, a4, a5, a6⟩, ⟨b1, b2, b3, b4, b5⟩, ⟨c1, c2, c3, c4⟩, ⟨e1, e2, e3⟩, ⟨f1, f2⟩, f3, f4⟩ := nd
  have hsub : ∀ p ∈ [(lx, instObj 744 ld), (ld, lexD w lk (.ref sx) (.str xi tn) (.str (Str.ofString " ") st) pb (.int (ln : Int) lt') (.str (Str.ofString "") tt) fs), (fs, dqO n (low.map fun s => .ref s.ta))], p ∈ hdr ++ (lexAll w lk lx ld pb fs n np (.str (Str.ofString " ") st) tt ⟨.str xi tn, sx, sd, sk, txt0, rest, tp, ln, lt', ta0⟩ low ++ TO) := by
    intro p hp
    refine List.mem_append_right _ (List.mem_append_left _ ?_)
    simp only [List.mem_cons, List.not_mem_nil, or_false] at hp
    simp only [lexAll, List.mem_cons]
    rcases hp with rfl | rfl | rfl
    · exact .inl rfl
    · exact .inr (.inl rfl)
    · exact .inr (.inr (.inl rfl))
  have hcl : ∀ p ∈ [(lx, instObj 744 ld), (ld, lexD w lk (.ref sx) (.str xi tn) (.str (Str.ofString " ") st) pb (.int (ln : Int) lt') (.str (Str.ofString "") tt) fs), (fs, dqO n (low.map fun s => .ref s.ta))], ¬ Plain p.2 := by
    intro p hp
    simp only [List.mem_cons, List.not_mem_nil, or_false] at hp
    rcases hp with rfl | rfl | rfl
    · rintro (h | h | h) <;> simp at h
    · rintro (h | h | h) <;> simp at h
    · rintro (h | h | h) <;> simp at h
  obtain ⟨O, H⟩ := out_of B F N hA hf hke hsub
  refine wpAny_call (push_spec G ok.lt a2 b1 O H (by omega) (by simpa using hll) hx fun h' tk sx' sd' ta sk' tp' t2 kp l1 l2 g1 g2 g3 hh => ?_)
  have old : ∀ p ∈ hdr ++ (lexAll w lk lx ld pb fs n np (.str (Str.ofString " ") st) tt ⟨.str xi tn, sx, sd, sk, txt0, rest, tp, ln, lt', ta0⟩ low ++ TO), p.1 ≠ sx' ∧ p.1 ≠ sd' ∧ p.1 ≠ ta := by
    intro p hp
    have := (N p hp).1
    refine ⟨fun e => ?_, fun e => ?_, fun e => ?_⟩
    · rw [e, g1] at this; cases this
    · rw [e, g2] at this; cases this
    · rw [e, g3] at this; cases this
  have oldA : ∀ a ∈ (lexAll w lk lx ld pb fs n np (.str (Str.ofString " ") st) tt ⟨.str xi tn, sx, sd, sk, txt0, rest, tp, ln, lt', ta0⟩ low).map (·.1), a ≠ sx' ∧ a ≠ sd' ∧ a ≠ ta := by
    intro a ha
    obtain ⟨p, hp, rfl⟩ := List.mem_map.mp ha
    exact old p (List.mem_append_right _ (List.mem_append_left _ hp))
  simp only [lexAll, List.map_cons, List.mem_cons] at oldA
  have o1 := oldA lx (.inl rfl)
  have o2 := oldA ld (.inr (.inl rfl))
  have o3 := oldA fs (.inr (.inr (.inl rfl)))
  have o4 := oldA pb (.inr (.inr (.inr (.inl rfl))))
  have o5 := oldA sx (.inr (.inr (.inr (.inr (.inl rfl)))))
  have o6 := oldA sd (.inr (.inr (.inr (.inr (.inr (.inl rfl))))))
  have o7 : ∀ a ∈ (lowObjs w low).map (·.1), a ≠ sx' ∧ a ≠ sd' ∧ a ≠ ta := fun a ha => oldA a (.inr (.inr (.inr (.inr (.inr (.inr ha))))))
  have lexok : LexOk w lx ld pb fs (⟨.str xn tn', sx', sd', sk', txt, txt, tp', 1, t2, 0⟩ : Strm) (⟨.str xi tn, sx, sd, sk, txt0, rest, tp, ln, lt', ta⟩ :: low) := by
    refine ⟨ok.lt, ⟨List.suffix_refl _, hx, hg, by show 1 + txt.length ≤ 1000; omega, l1⟩, fun u hu => ?_, ?_⟩
    · rcases List.mem_cons.mp hu with rfl | hu
      · exact ⟨ok.ok.suf, ok.ok.len, ok.ok.good, ok.ok.lnb, ok.ok.lt⟩
      · exact ok.oks u hu
    · simp only [lowObjs, List.map_cons, List.nodup_cons, List.mem_cons, not_or]
      exact ⟨⟨a1, a2, a3, o1.1, o1.2.1, o1.2.2, a4, a5, a6⟩, ⟨b1, b2, o2.1, o2.2.1, o2.2.2, b3, b4, b5⟩, ⟨c1, o3.1, o3.2.1, o3.2.2, c2, c3, c4⟩, ⟨o4.1, o4.2.1, o4.2.2, e1, e2, e3⟩,
        ⟨Nat.ne_of_gt l1, Nat.ne_of_lt l2, fun e => o5.1 e.symm, fun e => o6.1 e.symm, fun q => (o7 _ q).1 rfl⟩, ⟨Nat.ne_of_lt (Nat.lt_trans l1 l2), fun e => o5.2.1 e.symm, fun e => o6.2.1 e.symm, fun q => (o7 _ q).2.1 rfl⟩,
        ⟨fun e => o5.2.2 e.symm, fun e => o6.2.2 e.symm, fun q => (o7 _ q).2.2 rfl⟩, ⟨f1, f2⟩, f3, f4⟩
  have hpost : ∀ p ∈ [(ta, ({ cls := .type "tuple", data := .seq #[.str xi tn, .ref sx, .int (ln : Int) lt'] } : Obj)), (sx', instObj 609 sd'), (sd', sioP w sk' txt 0 tp'), (lx, instObj 744 ld), (ld, lexD w lk (.ref sx') (.str xn tn') (.str (Str.ofString " ") st) pb (.int 1 t2) (.str (Str.ofString "") tt) fs), (fs, dqO (n + 1) (.ref ta :: low.map fun s => .ref s.ta))],
      h'.get? p.1 = some p.2 ∧ (p.1 ∈ [(lx, instObj 744 ld), (ld, lexD w lk (.ref sx) (.str xi tn) (.str (Str.ofString " ") st) pb (.int (ln : Int) lt') (.str (Str.ofString "") tt) fs), (fs, dqO n (low.map fun s => .ref s.ta))].map (·.1) ∨ s.heap.get? p.1 = none) := by
    intro p hp
    refine ⟨hh p hp, ?_⟩
    simp only [List.mem_cons, List.not_mem_nil, or_false] at hp
    rcases hp with rfl | rfl | rfl | rfl | rfl | rfl
    · exact .inr g3
    · exact .inr g1
    · exact .inr g2
    · exact .inl (.head _)
    · exact .inl (.tail _ (.head _))
    · exact .inl (.tail _ (.tail _ (.head _)))
  have e0 : sioR w sk' txt txt tp' = sioP w sk' txt 0 tp' := by
    show sioP w sk' txt (txt.length - txt.length) tp' = _
    rw [Nat.sub_self]
  refine h h' tk ⟨.str xn tn', sx', sd', sk', txt, txt, tp', 1, t2, 0⟩ ta (n + 1) rfl rfl rfl lexok (fr_kept F N hsub kp) (news_kept F N hsub kp hpost fun p hp => ?_)
  rcases List.mem_append.mp hp with hp | hp
  · exact .inr ⟨List.mem_append_left _ hp, plain_off N hsub hcl (List.mem_append_left _ hp) (hpl p hp)⟩
  · rcases List.mem_append.mp hp with hp | hp
    · have inL : ∀ q ∈ lexAll w lk lx ld pb fs n np (.str (Str.ofString " ") st) tt ⟨.str xi tn, sx, sd, sk, txt0, rest, tp, ln, lt', ta0⟩ low, q ∈ hdr ++ (lexAll w lk lx ld pb fs n np (.str (Str.ofString " ") st) tt ⟨.str xi tn, sx, sd, sk, txt0, rest, tp, ln, lt', ta0⟩ low ++ TO) := fun q hq => List.mem_append_right _ (List.mem_append_left _ hq)
      simp only [lexAll, lowObjs, List.map_cons, List.mem_cons] at hp inL
      simp only [List.map_cons, List.map_nil, List.mem_cons, List.not_mem_nil, or_false, not_or]
      rcases hp with rfl | rfl | rfl | rfl | rfl | rfl | rfl | rfl | rfl | hp
      · exact .inl (.inr (.inr (.inr (.inl rfl))))
      · exact .inl (.inr (.inr (.inr (.inr (.inl rfl)))))
      · exact .inl (.inr (.inr (.inr (.inr (.inr rfl)))))
      · exact .inr ⟨inL _ (.inr (.inr (.inr (.inl rfl)))), fun e => a3 e.symm, fun e => b2 e.symm, fun e => c1 e.symm⟩
      · exact .inl (.inr (.inl rfl))
      · exact .inl (.inr (.inr (.inl (by rw [e0]))))
      · exact .inl (.inl rfl)
      · exact .inr ⟨inL _ (.inr (.inr (.inr (.inr (.inl rfl))))), fun e => a4 e.symm, fun e => b3 e.symm, fun e => c2 e.symm⟩
      · exact .inr ⟨inL _ (.inr (.inr (.inr (.inr (.inr (.inl rfl)))))), fun e => a5 e.symm, fun e => b4 e.symm, fun e => c3 e.symm⟩
      · have hm := List.mem_map_of_mem (f := (·.1)) hp
        exact .inr ⟨inL _ (.inr (.inr (.inr (.inr (.inr (.inr hp)))))), fun e => a6 (e ▸ hm), fun e => b5 (e ▸ hm), fun e => c4 (e ▸ hm)⟩
    · have := List.mem_append_right hdr (List.mem_append_right (lexAll w lk lx ld pb fs n np (.str (Str.ofString " ") st) tt ⟨.str xi tn, sx, sd, sk, txt0, rest, tp, ln, lt', ta0⟩ low) hp)
      exact .inr ⟨this, plain_off N hsub hcl this (hpl2 p hp)⟩
end
end
section
open PySem PySem.W PySem.Calls PyProof.Rows
section
variable {w : World} {A₀ A : Around} {env : Env} {outer : List Env} {s : Shared} {base h₀ : Heap} {mean : ExcName → Option Value} {mg mb m : Str → Option Value} {news : List (Addr × Obj)} {Q : Value → Shared → Prop} {E : Value → Shared → Prop} {L : Addr} {t tn : Tok} {txt : List Nat} {xn : Str}
/-- A lexer made. -/
theorem lexmake_K (B : Below A₀ base outer h₀) (G : Gr w mean mg mb base) (F : Fr h₀ L s.heap m) (X₀ : (hd.heap_1 w.params).In h₀) (N : News h₀ L s.heap news) (hA : A.frames = some (env :: outer)) (hf : env.frame = some L) (hke : env.scope.kind = .function) (hdep : A.depth + 100 < recursionLimit) (hx : txt.length ≤ 64)
    (h : ∀ h' tk lx ld sx sd pb fs sk lk tp t1 t2 t3, Fr h₀ L h' m → News h₀ L h' ((lx, instObj 744 ld) :: (ld, lexD0 w lk (.ref sx) (.str xn tn) (.str (Str.ofString " ") t1) pb (.int 1 t2) (.str (Str.ofString "") t3) fs) :: (fs, dqO 0 []) :: (pb, dqO 0 []) :: (sx, instObj 609 sd) :: (sd, sioP w sk txt 0 tp) :: news) →
      @LT.lt Nat _ ld lx → @LT.lt Nat _ sd sx → (lx :: ld :: fs :: pb :: sx :: sd :: ([] : List Addr)).Nodup → (@Ne Nat fs ld ∧ @Ne Nat pb ld ∧ @Ne Nat sx ld ∧ @Ne Nat sd ld) → (∀ p ∈ news, p.1 < ld) → Q (.ref lx) { s with heap := h', toks := tk }) :
    wpAny (model PySem.Challenge.rw_ny0282_01.row.prog w) A (call (.ref 744) [.str ⟨txt.toArray⟩ t, .str xn tn] [(Str.ofString "posix", .bool true)]) Q E s := by
  have X' := X₀
  refine call_cls F X₀ N (by k_is) (by k_is) (by k_is) fun lx ld h' F' N' l1 l2 => ?_
  have hsub : ∀ p ∈ [(lx, instObj 744 ld), (ld, dictOf [] 0)], p ∈ (lx, instObj 744 ld) :: (ld, dictOf [] 0) :: news := by
    intro p hp
    simp only [List.mem_cons, List.not_mem_nil, or_false] at hp ⊢
    rcases hp with rfl | rfl
    · exact .inl rfl
    · exact .inr (.inl rfl)
  refine init_spec (outer := env :: outer) G l2 (out_of B F' N' (by exact hA) hf hke hsub).1 (out_of B F' N' hA hf hke hsub).2 (by show A.depth + 1 + 40 < recursionLimit; omega) hx fun h2 tk sx sd pb fs sk lk tp t1 t2 t3 kp a1 a2 a3 g1 g2 g3 g4 hh => ?_
  have old : ∀ p ∈ (lx, instObj 744 ld) :: (ld, dictOf [] 0) :: news, p.1 ≠ sx ∧ p.1 ≠ sd ∧ p.1 ≠ pb ∧ p.1 ≠ fs := by
    intro p hp
    have := (N' p hp).1
    refine ⟨fun e => ?_, fun e => ?_, fun e => ?_, fun e => ?_⟩
    · rw [e, g1] at this; cases this
    · rw [e, g2] at this; cases this
    · rw [e, g3] at this; cases this
    · rw [e, g4] at this; cases this
  have o1 := old _ (.head _)
  have o2 := old _ (.tail _ (.head _))
  refine ⟨rfl, ?_⟩
  refine h h2 tk lx ld sx sd pb fs sk lk tp t1 t2 t3 (fr_kept F' N' hsub kp) (news_kept F' N' hsub kp (post := [(fs, dqO 0 []), (pb, dqO 0 []), (sx, instObj 609 sd), (sd, sioP w sk txt 0 tp), (lx, instObj 744 ld), (ld, lexD0 w lk (.ref sx) (.str xn tn) (.str (Str.ofString " ") t1) pb (.int 1 t2) (.str (Str.ofString "") t3) fs)]) (fun p hp => ⟨hh p hp, ?_⟩) fun p hp => ?_) l2 a1 ?_ ⟨fun e => o2.2.2.2 e.symm, fun e => o2.2.2.1 e.symm, fun e => o2.1 e.symm, fun e => o2.2.1 e.symm⟩ l1
  · simp only [List.mem_cons, List.not_mem_nil, or_false] at hp
    rcases hp with rfl | rfl | rfl | rfl | rfl | rfl
    · exact .inr g4
    · exact .inr g3
    · exact .inr g1
    · exact .inr g2
    · exact .inl (.head _)
    · exact .inl (.tail _ (.head _))
  · simp only [List.mem_cons] at hp
    simp only [List.map_cons, List.map_nil, List.mem_cons, List.not_mem_nil, or_false, not_or]
    rcases hp with rfl | rfl | rfl | rfl | rfl | rfl | hp
    · exact .inl (.inr (.inr (.inr (.inr (.inl rfl)))))
    · exact .inl (.inr (.inr (.inr (.inr (.inr rfl)))))
    · exact .inl (.inl rfl)
    · exact .inl (.inr (.inl rfl))
    · exact .inl (.inr (.inr (.inl rfl)))
    · exact .inl (.inr (.inr (.inr (.inl rfl))))
    · have := l1 p hp
      exact .inr ⟨.inr (.inr hp), Nat.ne_of_lt (Nat.lt_trans this l2), Nat.ne_of_lt this⟩
  · simp only [List.nodup_cons, List.mem_cons, not_or, List.not_mem_nil, not_false_eq_true, List.nodup_nil, and_true, or_false]
    exact ⟨⟨Nat.ne_of_gt l2, o1.2.2.2, o1.2.2.1, o1.1, o1.2.1⟩, ⟨o2.2.2.2, o2.2.2.1, o2.1, o2.2.1⟩, ⟨Nat.ne_of_gt a3, Nat.ne_of_gt (Nat.lt_trans a2 a3), Nat.ne_of_gt (Nat.lt_trans a1 (Nat.lt_trans a2 a3))⟩, ⟨Nat.ne_of_gt a2, Nat.ne_of_gt (Nat.lt_trans a1 a2)⟩, Nat.ne_of_gt a1⟩
end
section
variable {prog : Program} {w : World} {A : Around} {E : Value → Shared → Prop} {s : Shared} {h₀ : Heap} {L tl nl e : Addr} {m : Str → Option Value} {news : List (Addr × Obj)}
/-- One truth out of several ways. -/
theorem cut_B {Q : Bool → Shared → Prop} {e : Sem Bool} (b : Bool) (F : Fr h₀ L s.heap m) (N : News h₀ L s.heap news) (h1 : wpAny (model prog w) A e (fun v s' => Stop (∃ h' tk, v = b ∧ s' = { s with heap := h', toks := tk } ∧ Fr h₀ L h' m ∧ News h₀ L h' news)) E s)
    (h2 : ∀ h' tk, Fr h₀ L h' m → News h₀ L h' news → Q b { s with heap := h', toks := tk }) : wpAny (model prog w) A e Q E s :=
  wpAny_mono h1 (fun v s' hp => by obtain ⟨h', tk, rfl, rfl, F', N'⟩ := hp.out; exact h2 h' tk F' N') fun _ _ e => e
theorem news_tail {p : Addr × Obj} {h : Heap} (N : News h₀ L h (p :: news)) : News h₀ L h news := fun q hq => N q (.tail _ hq)
/-- The names of the reader. -/
noncomputable abbrev mR (tl lx : Addr) (u : Str → Option Value) : Str → Option Value := fun y => if y = Str.ofString "told" then some (.ref tl) else if y = Str.ofString "lexer" then some (.ref lx) else u y
theorem mR_of {tl lx : Addr} {m : Str → Option Value} (h1 : m (Str.ofString "told") = some (.ref tl)) (h2 : m (Str.ofString "lexer") = some (.ref lx)) : m = mR tl lx m := by
  funext y
  unfold mR
  split
  · rename_i e; rw [e]; exact h1
  · split
    · rename_i e; rw [e]; exact h2
    · rfl
theorem app_R {pre X TO : List (Addr × Obj)} {oe lo : Obj} {vals : List Value} {c : Nat} {Q : Value → Shared → Prop} (F : Fr h₀ L s.heap m) (N : News h₀ L s.heap ((e, oe) :: (pre ++ (tl, listOf vals.toArray c) :: (nl, lo) :: (X ++ TO)))) (hz : vals.length ≤ 100000)
    (h1 : @LT.lt Nat _ tl e) (h2 : ∀ p ∈ pre, p.1 ≠ tl) (h3 : @LT.lt Nat _ nl tl) (h4 : ∀ p ∈ X, p.1 ≠ tl) (h5 : ∀ p ∈ TO, p.1 ≠ tl)
    (h : ∀ h', Fr h₀ L h' m → News h₀ L h' (pre ++ (tl, listOf (vals ++ [Value.ref e]).toArray (c + 1)) :: (nl, lo) :: (X ++ (e, oe) :: TO)) → Q .none { s with heap := h' }) : wpAny (model prog w) A (call (.builtin "list.append") [.ref tl, .ref e]) Q E s := by
  refine app_S F N (n := c) (vals := vals) (.tail _ (List.mem_append_right _ (.head _))) hz fun h' F' T => h h' F' (T _ fun p hp => ?_)
  have ne1 : e ≠ tl := Nat.ne_of_gt h1
  have ne3 : nl ≠ tl := Nat.ne_of_lt h3
  rcases List.mem_append.mp hp with hp | hp
  · exact .inr ⟨.tail _ (List.mem_append_left _ hp), h2 p hp⟩
  · rcases List.mem_cons.mp hp with rfl | hp
    · exact .inl rfl
    · rcases List.mem_cons.mp hp with rfl | hp
      · exact .inr ⟨.tail _ (List.mem_append_right _ (.tail _ (.head _))), ne3⟩
      · rcases List.mem_append.mp hp with hp | hp
        · exact .inr ⟨.tail _ (List.mem_append_right _ (.tail _ (.tail _ (List.mem_append_left _ hp)))), h4 p hp⟩
        · rcases List.mem_cons.mp hp with rfl | hp
          · exact .inr ⟨.head _, ne1⟩
          · exact .inr ⟨.tail _ (List.mem_append_right _ (.tail _ (.tail _ (List.mem_append_right _ hp)))), h5 p hp⟩
end
/-- What holds between the reader's deeds. -/
noncomputable def RSt (w : World) (lk : LK) (tl nl lx ld pb fs : Addr) (lo : Obj) (x0 : Str) (e0 b b2 : Nat) (st : SD) (m : Str → Option Value) (nw : List (Addr × Obj)) : Prop :=
  ∃ u vals c TO n np sv tt top low, m = mR tl lx u ∧ nw = (tl, listOf vals.toArray c) :: (nl, lo) :: (lexAll w lk lx ld pb fs n np sv tt top low ++ TO) ∧ (∀ p ∈ TO, p.1 ≠ tl ∧ p.1 ≠ nl ∧ p.2.cls = .type "list") ∧ DatAll TO vals st.out ∧ vals.length ≤ b ∧
    (ended st.out = false → (∃ s1, sv = .str (Str.ofString " ") s1) ∧ LexOk w lx ld pb fs top low ∧ low.length ≤ b2 ∧ RelAll x0 e0 top low st.top st.low)
theorem lex_off {w : World} {h₀ h : Heap} {L lx ld pb fs tl : Addr} {lk : LK} {n np : Int} {sv : Value} {tt : Tok} {top : Strm} {low : List Strm} {news : List (Addr × Obj)} {vals : List Value} {c : Nat} (N : News h₀ L h news) (hm : (tl, listOf vals.toArray c) ∈ news) (hs : ∀ p ∈ lexAll w lk lx ld pb fs n np sv tt top low, p ∈ news) :
    ∀ p ∈ lexAll w lk lx ld pb fs n np sv tt top low, p.1 ≠ tl := fun p hp q =>
  plain_off N hs all_cls hm (.inl rfl) (List.mem_map.mpr ⟨p, hp, q⟩)
theorem plain_ne {h₀ h : Heap} {L tl : Addr} {news : List (Addr × Obj)} {vals : List Value} {c : Nat} {p : Addr × Obj} (N : News h₀ L h news) (hm : (tl, listOf vals.toArray c) ∈ news) (hp : p ∈ news) (hc : p.2.cls ≠ .type "list") : p.1 ≠ tl := by
  intro q
  have h1 := (N p hp).1
  have h2 := (N _ hm).1
  rw [q] at h1
  exact hc (congrArg Obj.cls (Option.some.inj (h1.symm.trans h2)))
/-- The start. -/
theorem start_read {w : World} {h₀ h : Heap} {L tl nl lx ld pb fs sx sd T : Addr} {oT lo : Obj} {m : Str → Option Value} {lk : LK} {sk : SK} {x0 : Str} {tn t1 t2 t3 tp : Tok} {l : List Nat} (F : Fr h₀ L h m)
    (N : News h₀ L h ((T, oT) :: (tl, listOf #[] 0) :: (lx, instObj 744 ld) :: (ld, lexD w lk (.ref sx) (.str x0 tn) (.str (Str.ofString " ") t1) pb (.int 1 t2) (.str (Str.ofString "") t3) fs) :: (fs, dqO 0 []) :: (pb, dqO 0 []) :: (sx, instObj 609 sd) :: (sd, sioP w sk (sent l) 0 tp) :: [(nl, lo)]))
    (h1 : m (Str.ofString "told") = some (.ref tl)) (h2 : m (Str.ofString "lexer") = some (.ref lx)) (l1 : @LT.lt Nat _ ld lx) (l2 : @LT.lt Nat _ sd sx) (nd : (lx :: ld :: fs :: pb :: sx :: sd :: ([] : List Addr)).Nodup)
    (hm : ∀ c ∈ l, c = 13 ∨ c = 10 ∨ c = 46 ∨ c = 35 ∨ c = 97 ∨ c = 32) (hl : l.getLast? = some 10) (hn : l.length ≤ 9) (hx : x0.length ≤ 64) (hnt : @LT.lt Nat _ nl tl) :
    ∃ nw, (News h₀ L h nw ∧ @LT.lt Nat _ nl tl) ∧ RSt w lk tl nl lx ld pb fs lo x0 (rowsL l) 0 0 ⟨tellW x0 (wordsL l), [], []⟩ m nw := by
  have hg := sent_good hm hl
  have hs := sent_len hn
  have e0 : sioR w sk (sent l) (sent l) tp = sioP w sk (sent l) 0 tp := by
    show sioP w sk (sent l) ((sent l).length - (sent l).length) tp = _
    rw [Nat.sub_self]
  refine ⟨_, ⟨?_, hnt⟩, m, [], 0, [], 0, 0, _, t3, ⟨.str x0 tn, sx, sd, sk, sent l, sent l, tp, 1, t2, 0⟩, [], mR_of h1 h2, rfl, fun _ hp => (nomatch hp), .nil, Nat.le_refl _, fun _ => ⟨⟨t1, rfl⟩, ⟨l1, ⟨List.suffix_refl _, Nat.le_trans hs (by decide), hg, by show 1 + (sent l).length ≤ 1000; omega, l2⟩, fun _ hp => (nomatch hp), nd⟩, Nat.le_refl _, hx, tn, wordsL l, rfl, sent_rem hl, rfl⟩⟩
  intro p hp
  refine N p ?_
  simp only [lexAll, lowObjs, List.map_nil, List.append_nil, List.mem_cons, List.not_mem_nil, or_false] at hp ⊢
  rw [e0] at hp
  rcases hp with h | h | h | h | h | h | h | h
  · exact .inr (.inl h)
  · exact .inr (.inr (.inr (.inr (.inr (.inr (.inr (.inr h)))))))
  · exact .inr (.inr (.inl h))
  · exact .inr (.inr (.inr (.inl h)))
  · exact .inr (.inr (.inr (.inr (.inl h))))
  · exact .inr (.inr (.inr (.inr (.inr (.inl h)))))
  · exact .inr (.inr (.inr (.inr (.inr (.inr (.inl h))))))
  · exact .inr (.inr (.inr (.inr (.inr (.inr (.inr (.inl h)))))))
theorem ints_get : ∀ {vs : List Value} {xs : List Int}, IntsAre vs xs → ∀ {i : Nat} {v : Value}, vs[i]? = some v → ∃ x t, v = .int x t ∧ xs[i]? = some x
  | _, _, .nil, i, v, h => by simp at h
  | _, _, .cons n t r, 0, v, h => by simp at h; exact ⟨n, t, h.symm, by simp⟩
  | _, _, .cons n t r, i + 1, v, h => by
    obtain ⟨x, t', e, hx⟩ := ints_get r (i := i) (by simpa using h)
    exact ⟨x, t', e, by simpa using hx⟩
theorem rst_keep {w : World} {lk : LK} {tl nl lx ld pb fs : Addr} {lo : Obj} {x0 : Str} {e0 b b2 : Nat} {st : SD} {m : Str → Option Value} {nw : List (Addr × Obj)} (h : RSt w lk tl nl lx ld pb fs lo x0 e0 b b2 st m nw) : (nl, lo) ∈ nw := by
  obtain ⟨u, vals, c, TO, n, np, sv, tt, top, low, -, rfl, -⟩ := h
  exact .tail _ (.head _)
theorem lett_ok (i : Int) : WOk (wordsL (lett i)) := wordsL_ok fun c hc => by
  rcases lett_mem i c hc with h | h | h | h | h | h <;> rw [h] <;> decide
/-- The state after some deeds. -/
noncomputable abbrev S0 (n : Int) : SD := ⟨tellW (Str.ofString "0") (wordsL (lett n)), [], []⟩
noncomputable abbrev eD (n : Int) : Dat := endD (Str.ofString "0") (rowsL (lett n))
theorem at_told (n : Int) (ys : List Int) (k : Nat) : AllTold (runD lett (eD n) k ys (S0 n)) :=
  runD_told lett_ok (told_end (ok_of _) _) ys k ⟨tellW_told (ok_of _) (lett_ok n), fun _ h => (nomatch h), fun _ h => (nomatch h)⟩
theorem sub4 {a b c d : Addr × Obj} {X TO : List (Addr × Obj)} : ∀ p ∈ TO, p ∈ a :: b :: c :: d :: (X ++ TO) := fun _ h => .tail _ (.tail _ (.tail _ (.tail _ (List.mem_append_right _ h))))
theorem sub2 {c d : Addr × Obj} {X TO : List (Addr × Obj)} : ∀ p ∈ TO, p ∈ c :: d :: (X ++ TO) := fun _ h => .tail _ (.tail _ (List.mem_append_right _ h))
section
variable {w : World} {lk : LK} {tl nl lx ld pb fs : Addr} {x0 : Str} {e0 : Nat}
theorem push_rel {top top' : Strm} {low : List Strm} {ta : Addr} {d : List Dat} {dl : List (List Dat)} {l : List Nat} {i : Nat} {tn : Tok} (h : RelAll x0 e0 top low d dl) (hi : top'.inf = .str (nameK i) tn) (hr : top'.rest = sent l) (hn : top'.ln = 1) (hl : l.getLast? = some 10) (hk : i < 200) :
    RelAll x0 e0 top' ({ top with ta := ta } :: low) (tellW (nameK i) (wordsL l)) (d :: dl) :=
  ⟨⟨nameK i, rowsL l, nameK_len i hk, tn, wordsL l, hi, by rw [hr, hn]; exact sent_rem hl, rfl⟩, h.set (x := x0) (e := e0) fun x e q => q⟩
theorem turn_end {h₀ h' : Heap} {L I : Addr} {oE oI : Obj} {s₁ : Shared} {tk : Nat} {m' : Str → Option Value} {vals vs : List Value} {c nc b b2 : Nat} {TO : List (Addr × Obj)} {n np : Int} {sv : Value} {tt : Tok} {top : Strm} {low : List Strm} {st : SD} (F : Fr h₀ L h' m')
    (N : News h₀ L h' ((I + 1, oE) :: (I, oI) :: (tl, listOf vals.toArray c) :: (nl, listOf vs.toArray nc) :: (lexAll w lk lx ld pb fs n np sv tt top low ++ TO)))
    (h1 : m' (Str.ofString "told") = some (.ref tl)) (h2 : m' (Str.ofString "lexer") = some (.ref lx)) (cE : oE.cls = .type "enumerate") (cI : oI.cls = .type "list_iterator")
    (hT : ∀ p ∈ TO, p.1 ≠ tl ∧ p.1 ≠ nl ∧ p.2.cls = .type "list") (hD : DatAll TO vals st.out) (hv : vals.length ≤ b) (hE : ended st.out = false → (∃ s1, sv = .str (Str.ofString " ") s1) ∧ LexOk w lx ld pb fs top low ∧ low.length ≤ b2 ∧ RelAll x0 e0 top low st.top st.low) :
    UnrEndW h₀ L s₁ [(I + 1, oE), (I, oI)] (fun m nw => RSt w lk tl nl lx ld pb fs (listOf vs.toArray nc) x0 e0 b b2 st m nw) { s₁ with heap := h', toks := tk } := by
  refine unrW_end ((tl, listOf vals.toArray c) :: (nl, listOf vs.toArray nc) :: (lexAll w lk lx ld pb fs n np sv tt top low ++ TO)) F N (.head _) (.tail _ (.head _)) (fun p hp => .tail _ (.tail _ hp)) cE cI ?_ ⟨m', vals, c, TO, n, np, sv, tt, top, low, mR_of h1 h2, rfl, hT, hD, hv, hE⟩
  intro p hp
  have cl : ∀ p : Addr × Obj, p.2.cls = .type "list" → p.2.cls ≠ .type "enumerate" ∧ p.2.cls ≠ .type "list_iterator" := fun p e => by rw [e]; exact ⟨by decide, by decide⟩
  rcases List.mem_cons.mp hp with rfl | hp
  · exact cl _ rfl
  · rcases List.mem_cons.mp hp with rfl | hp
    · exact cl _ rfl
    · rcases List.mem_append.mp hp with hp | hp
      · exact ⟨fun e => all_cls p hp (.inr (.inl e)), fun e => all_cls p hp (.inr (.inr e))⟩
      · exact cl _ (hT p hp).2.2
theorem step_push {n : Int} {i : Nat} {x : Int} {st : SD} (he : ended st.out = false) (hx : x.fmod 3 = 1) : stepD lett (eD n) i x st = ⟨tellW (nameK i) (wordsL (lett (x.fdiv 3))), st.top :: st.low, st.out⟩ := by
  unfold stepD; rw [if_neg (by rw [he]; decide), if_pos hx]
theorem step_rd {n : Int} {i : Nat} {x : Int} {st : SD} (he : ended st.out = false) (hx : ¬ x.fmod 3 = 1) : stepD lett (eD n) i x st = rd (eD n) st := by
  unfold stepD; rw [if_neg (by rw [he]; decide), if_neg hx]
/-- A word told. -/
theorem told_dat {TO : List (Addr × Obj)} {vals : List Value} {out : List Dat} {e : Addr} {r : Option (List Nat)} {v sv : Value} {y : Str} {ty : Tok} (hD : DatAll TO vals out) (gv : GtV r v sv) : DatAll ((e, listOf #[v, .str y ty] 0) :: TO) (vals ++ [Value.ref e]) (out ++ [.list [rdat r, .str y]]) := by
  refine (hD.mono fun p hp => .tail _ hp).append (.one ?_)
  refine .list (vs := [v, .str y ty]) (.head _) (.cons ?_ (.cons (.str _ _) .nil))
  cases gv with
  | none => exact .none
  | some tok t t' => exact .str _ _
theorem rd_facts {n : Int} {st : SD} {top t : Strm} {low low' : List Strm} {r : Option (List Nat)} {v sv : Value} (hrel : RelAll (Str.ofString "0") (rowsL (lett n)) top low st.top st.low) (ok : LexOk w lx ld pb fs top low) (hg : gt top low = (r, t, low')) (gv : GtV r v sv) :
    ∃ x tn, t.inf = .str x tn ∧ x.length ≤ 64 ∧ t.ln ≤ 1000 ∧ (rd (eD n) st).out = st.out ++ [.list [rdat r, .str (lead x t.ln)]] ∧ LexOk w lx ld pb fs t low' ∧ low'.length ≤ low.length ∧
      (ended (rd (eD n) st).out = false → (∃ s1, sv = .str (Str.ofString " ") s1) ∧ RelAll (Str.ofString "0") (rowsL (lett n)) t low' (rd (eD n) st).top (rd (eD n) st).low) := by
  obtain ⟨x, tn, d', dl', q1, q2, q3, q4⟩ := gt_rel low top hrel hg
  obtain ⟨q5, q6⟩ := gt_ok low top ok hg
  have e : rd (eD n) st = ⟨d', dl', st.out ++ [.list [rdat r, .str (lead x t.ln)]]⟩ := by unfold rd; rw [q3]
  refine ⟨x, tn, q1, q2, Nat.le_trans (Nat.le_add_right _ _) q5.ok.lnb, by rw [e], q5, q6, fun he => ?_⟩
  rw [e] at he ⊢
  cases gv with
  | none =>
    have := ended_snoc st.out x t.ln
    rw [show (Dat.list [rdat none, .str (lead x t.ln)]) = endD x t.ln from rfl, this] at he
    cases he
  | some tok t1 t2 => exact ⟨⟨_, rfl⟩, q4 (fun z => nomatch z)⟩
theorem lok_set {t : Strm} {low : List Strm} {a b : Tok} (h : LexOk w lx ld pb fs t low) : LexOk w lx ld pb fs { t with lt := a, tp := b } low := ⟨h.lt, ⟨h.ok.suf, h.ok.len, h.ok.good, h.ok.lnb, h.ok.lt⟩, h.oks, h.nd⟩
theorem rel_set {x0 : Str} {e0 : Nat} {t : Strm} {low : List Strm} {d : List Dat} {dl : List (List Dat)} {a b : Tok} (h : RelAll x0 e0 t low d dl) : RelAll x0 e0 { t with lt := a, tp := b } low d dl := h.set (x := x0) (e := e0) fun x e q => q
/-- The end. -/
theorem read_end {h g h' : Heap} {L : Addr} {m : Str → Option Value} {pre X TO : List (Addr × Obj)} {vals vs : List Value} {c nc : Nat} (eg : g = hideAll h ([(nl, listOf vs.toArray nc)].map (·.1))) (F : Fr g L h' m) (N : News g L h' (pre ++ (tl, listOf vals.toArray c) :: (nl, listOf vs.toArray nc) :: (X ++ TO)))
    (h1 : @LT.lt Nat _ nl tl) (hT : ∀ p ∈ TO, p.1 ≠ tl ∧ p.1 ≠ nl ∧ p.2.cls = .type "list") :
    Kept [nl] h h' ∧ Holds h' ((tl, listOf vals.toArray c) :: (nl, listOf vs.toArray nc) :: TO) ∧ h.get? tl = none ∧ (∀ p ∈ TO, h.get? p.1 = none) := by
  refine ⟨kept_of eg F, fun p hp => (N p ?_).1, fresh_of2 eg (N (tl, listOf vals.toArray c) (List.mem_append_right _ (.head _))).2.2 ?_, fun p hp => fresh_of2 eg (N p (List.mem_append_right _ (.tail _ (.tail _ (List.mem_append_right _ hp))))).2.2 ?_⟩
  · rcases List.mem_cons.mp hp with rfl | hp
    · exact List.mem_append_right _ (.head _)
    · rcases List.mem_cons.mp hp with rfl | hp
      · exact List.mem_append_right _ (.tail _ (.head _))
      · exact List.mem_append_right _ (.tail _ (.tail _ (List.mem_append_right _ hp)))
  · simp only [List.map_cons, List.map_nil, List.mem_cons, List.not_mem_nil, or_false]
    exact Nat.ne_of_gt h1
  · simp only [List.map_cons, List.map_nil, List.mem_cons, List.not_mem_nil, or_false]
    exact (hT p hp).2.1
end
theorem ended_all {f : Int → List Nat} {e : Dat} {xs : List Int} {i : Nat} {st st0 : SD} (hst : st = runD f e 0 (xs.take i) st0) (h : ended st.out = true) : st = runD f e 0 (xs ++ List.replicate 0 0) st0 := by
  rw [List.replicate_zero, List.append_nil]
  subst hst
  exact (runD_drop st0 h).symm
theorem plain4 {a b c d : Addr} {oE oI : Obj} {v1 v2 : Array Value} {n1 n2 : Nat} (cE : oE.cls = .type "enumerate") (cI : oI.cls = .type "list_iterator") : ∀ p ∈ [(a, oE), (b, oI), (c, listOf v1 n1), (d, listOf v2 n2)], Plain p.2 := by
  intro p hp
  simp only [List.mem_cons, List.not_mem_nil, or_false] at hp
  rcases hp with rfl | rfl | rfl | rfl
  · exact .inr (.inl cE)
  · exact .inr (.inr cI)
  · exact .inl rfl
  · exact .inl rfl
theorem plain2 {c d : Addr} {v1 v2 : Array Value} {n1 n2 : Nat} : ∀ p ∈ [(c, listOf v1 n1), (d, listOf v2 n2)], Plain p.2 := by
  intro p hp
  simp only [List.mem_cons, List.not_mem_nil, or_false] at hp
  rcases hp with rfl | rfl
  · exact .inl rfl
  · exact .inl rfl
theorem plainT {tl nl : Addr} {TO : List (Addr × Obj)} (hT : ∀ p ∈ TO, p.1 ≠ tl ∧ p.1 ≠ nl ∧ p.2.cls = .type "list") : ∀ p ∈ TO, Plain p.2 := fun p hp => .inl (hT p hp).2.2
theorem off_pre {h₀ h : Heap} {L tl I : Addr} {oE oI : Obj} {news : List (Addr × Obj)} {vals : List Value} {c : Nat} (N : News h₀ L h news) (hm : (tl, listOf vals.toArray c) ∈ news) (h1 : (I + 1, oE) ∈ news) (h2 : (I, oI) ∈ news) (cE : oE.cls = .type "enumerate") (cI : oI.cls = .type "list_iterator") : ∀ p ∈ [(I + 1, oE), (I, oI)], p.1 ≠ tl := by
  intro p hp
  simp only [List.mem_cons, List.not_mem_nil, or_false] at hp
  rcases hp with rfl | rfl
  · exact plain_ne N hm h1 (by rw [cE]; decide)
  · exact plain_ne N hm h2 (by rw [cI]; decide)
theorem told_T {tl nl e : Addr} {oe : Obj} {TO : List (Addr × Obj)} (hT : ∀ p ∈ TO, p.1 ≠ tl ∧ p.1 ≠ nl ∧ p.2.cls = .type "list") (h1 : @LT.lt Nat _ tl e) (h2 : @LT.lt Nat _ nl tl) (hc : oe.cls = .type "list") : ∀ p ∈ (e, oe) :: TO, p.1 ≠ tl ∧ p.1 ≠ nl ∧ p.2.cls = .type "list" := by
  intro p hp
  rcases List.mem_cons.mp hp with rfl | hp
  · exact ⟨Nat.ne_of_gt h1, Nat.ne_of_gt (Nat.lt_trans h2 h1), hc⟩
  · exact hT p hp
theorem run_more (n : Int) (xs : List Int) (j : Nat) (he : ended (runD lett (eD n) 0 (xs ++ List.replicate j 0) (S0 n)).out = false) : runD lett (eD n) 0 (xs ++ List.replicate (j + 1) 0) (S0 n) = rd (eD n) (runD lett (eD n) 0 (xs ++ List.replicate j 0) (S0 n)) := by
  rw [List.replicate_succ', ← List.append_assoc, runD_app]
  show stepD lett (eD n) _ 0 _ = _
  exact step_rd he (by decide)
/-- How much is left. -/
noncomputable def meas (st : SD) : Nat := if ended st.out = true then 0 else mu st + 1
theorem meas_rd {n : Int} {st : SD} (he : ended st.out = false) : meas (rd (eD n) st) < meas st := by
  have e1 : meas st = mu st + 1 := if_neg (by rw [he]; decide)
  rw [e1]
  rcases rd_mu (e := eD n) _ _ st rfl with h | h
  · have e2 : meas (rd (eD n) st) = 0 := if_pos h
    omega
  · unfold meas; split <;> omega
theorem wl8 (i : Int) : (wordsL (lett i)).length ≤ 8 := wordsL_len (lett_last i) (Nat.le_of_eq (lett_len i))
theorem mu0 (n : Int) : mu (S0 n) ≤ 8 := by
  have := wl8 n
  simp [mu, tellW_len]; exact this
theorem meas_start (n : Int) {xs : List Int} (h : xs.length ≤ 10) : meas (runD lett (eD n) 0 (xs ++ List.replicate 0 0) (S0 n)) ≤ 100 := by
  rw [List.replicate_zero, List.append_nil]
  unfold meas
  have := mu0 n
  rcases runD_mu (f := lett) (e := eD n) _ _ rfl wl8 xs 0 (S0 n) with q | q
  · rw [if_pos q]; omega
  · split <;> omega
theorem rst_mono {w : World} {lk : LK} {tl nl lx ld pb fs : Addr} {lo : Obj} {x0 : Str} {e0 b b2 b' b2' : Nat} {st : SD} {m : Str → Option Value} {nw : List (Addr × Obj)} (h : RSt w lk tl nl lx ld pb fs lo x0 e0 b b2 st m nw) (h1 : b ≤ b') (h2 : b2 ≤ b2') : RSt w lk tl nl lx ld pb fs lo x0 e0 b' b2' st m nw := by
  obtain ⟨u, vals, c, TO, n, np, sv, tt, top, low, a1, a2, a3, a4, a5, a6⟩ := h
  exact ⟨u, vals, c, TO, n, np, sv, tt, top, low, a1, a2, a3, a4, Nat.le_trans a5 h1, fun he => let ⟨q1, q2, q3, q4⟩ := a6 he; ⟨q1, q2, Nat.le_trans q3 h2, q4⟩⟩
theorem meas_ended {st : SD} (h : ended st.out = true) : meas st = 0 := if_pos h
end
section
open PySem PySem.W PySem.Calls PyProof.Rows
theorem reg_S16_1 : True := by
  k_with_none
  (k_with "S enter!" => (
  case ho => k_is
  case hcd => k_is
  case hroom => (first | exact room1 (by assumption) (by decide) | omega | (show _ < _; (try dsimp only); omega))
  case hbind => first | exact BindsTo.of_eq rfl | exact binds_K (by assumption) rfl (by k_is) rfl rfl rfl
  case hloc => exact locs rfl
  case c2 => rfl
  case c3 => rfl
  case c4 => rfl
  case c5 => decide))
  (k_with "S end!" => ((try dsimp only); repeat (k_unfold; (try dsimp only))))
  trivial
theorem lett_sz (n : Int) : (⟨(lett n).toArray⟩ : Str).cps.size ≤ 30 := by
  have := lett_len n
  simp; omega
theorem sent_sz (n : Int) : (sent (lett n)).length ≤ 64 := Nat.le_trans (sent_len (Nat.le_of_eq (lett_len n))) (by decide)
theorem reg_S16_2 : True := by
  (k_with "call ref!" => (refine Stop.out ?_))
  (k_with "execs cons!" => ((with_reducible show wpAny _ _ (execs (Stmt.For _ _ _ _ _ :: _) _) _ _ _); (refine Stop.out ?_)))
  (k_with "execs cons!" => ((with_reducible show wpAny _ _ (execs (Stmt.While _ _ _ _ :: _) _) _ _ _); (refine Stop.out ?_)))
  (k_with "call type:enumerate!" => (refine Stop.out ?_))
  (k_with "assign Tuple!" => (k_here; k_dflt (refine' unpackN_ ?kF ?kN (isTup_of ?kN2 ?km) ?kh ?kn ?ks ?_; (case kF => k_asm); (case kN => k_asm); (case kN2 => k_asm); (case km => k_mem); (case kh => assumption); (case kn => exact rfl); (case ks => exact rfl); k_whole; intro zh' zF' zN'; (try k_sweep))))
  (k_with "unpackItems ref!" => (k_here; k_dflt (refine' unpackItemsN_ ?k1 ?k2 (isTup_of ?kN2 ?km) ?k4 ?k5 ?_; (case k1 => k_asm); (case k2 => k_asm); (case kN2 => k_asm); (case km => k_mem); (case k4 => assumption); (case k5 => exact rfl); k_whole); intro zh' zF' zN'; (try k_sweep)))
  (k_with "isTrue BoolOp!" => ((with_reducible show wpAny _ _ (isTrue (Expr.BoolOp _ (_ :: _ :: _) _) _ _) _ _ _); (refine Stop.out ?_)))
  (k_with "call builtin:list.append!" => (refine Stop.out ?_))
  (k_with "compareOp NotEq ref ref!" => (refine Stop.out ?_))
  (k_with "compareOp Eq ref ref!" => (refine Stop.out ?_))
  (k_with "subscriptTail!" => (refine Stop.out ?_))
  (k_with "assign Tuple!" => (k_here; k_dflt (refine' unpackN_ ?kF ?kN ?kt ?kh ?kn ?ks ?_; (case kF => k_asm); (case kN => k_asm); (case kt => with_reducible assumption); (case kh => assumption); (case kn => exact rfl); (case ks => exact rfl); k_whole; intro zh' zF' zN'; (try k_sweep))))
  (k_with "call type:str!" => (refine name_K (by assumption) ?_; intro _ _))
  trivial
section
variable {w : World} {A : Around} {outer : List Env} {s : Shared} {base : Heap} {mean : ExcName → Option Value} {mg mb : Str → Option Value} {R : Result → Shared → Prop} {t : Tok} {n : Int} {nl : Addr} {vs : List Value} {xs : List Int} {nc : Nat}
set_option maxHeartbeats 3000000 in
theorem lread_spec
    (G : Gr w mean mg mb base) (O : Out A outer base s.heap [nl]) (H : Holds s.heap [(nl, listOf vs.toArray nc)]) (hdep : A.depth + 300 < recursionLimit) (hh0 : A.handled = none) (hu : A.units + 100 < cLine) (hvs : IntsAre vs xs) (hxl : xs.length ≤ 10) 
    (k : ∀ h' tk l vals c TO j, Kept [nl] s.heap h' → Holds h' ((l, listOf vals.toArray c) :: (nl, listOf vs.toArray nc) :: TO) → s.heap.get? l = none → (∀ p ∈ TO, s.heap.get? p.1 = none) → DatAll TO vals (runD lett (eD n) 0 (xs ++ List.replicate j 0) (S0 n)).out →
      ended (runD lett (eD n) 0 (xs ++ List.replicate j 0) (S0 n)).out = true → R (.ok (.ret (.ref l))) { s with heap := h', toks := tk }) :
    codeAny (model PySem.Challenge.rw_ny0282_01.row.prog w) A (.call (.ref 760) ⟨[.int n t, .ref nl], []⟩) R s := by
  obtain ⟨ahd, adp, afr, agd, aun⟩ := A
  have eH : ahd = none := hh0
  have eA : afr = some outer := O.stack
  subst eA
  have hdep2 := hdep
  dsimp only at hdep2
  w_on
  w_top on
  have Xs := (G.keeps O.stays).X
  refine' call_S (news := [(nl, listOf vs.toArray nc)]) (binds := [(Str.ofString "first", .int n t), (Str.ofString "numbers", .ref nl)]) G O H ?ho ?hcd ?hroom ?hbind ?hloc ?_ ?c2 ?c3 ?c4 ?c5
  walk_at "S enter"
  clear Xs
  intro g L' h₁ eg F N B G' lt
  obtain ⟨T', GL', ⟨bm1, bm2, M'⟩, X'⟩ := G'
  try dsimp only
  (try generalize s.toks + _ = tk0)
  try k_fold
  k_steps
  refine Stop.mk ?_
  k_dflt (refine' letter_K ?kB ?kG ?kF ?kN ?kA ?kf ?kk ?kd ?kh ?_; (case kA => exact rfl); (case kf => exact rfl); (case kk => exact rfl); (case kF => k_asm); (case kN => k_asm); (case kB => k_asm); (case kG => assumption); (case kd => k_room); (case kh => assumption); k_whole; intro h' tk' tc' hpos' F' N'; (try k_sweep))
  k_steps
  refine Stop.mk ?_
  k_dflt (refine' quote_K ?kB ?kG ?kF ?kN ?kA ?kf ?kk ?kd ?kx ?_; (case kA => exact rfl); (case kf => exact rfl); (case kk => exact rfl); (case kF => k_asm); (case kN => k_asm); (case kB => k_asm); (case kG => assumption); (case kd => k_room); (case kx => exact lett_sz _); k_whole; intro h' tk' tc' F' N'; (try k_sweep))
  k_steps
  refine Stop.mk ?_
  k_dflt (refine' lexmake_K ?kB ?kG ?kF ?kX ?kN ?kA ?kf ?kk ?kd ?kx ?_; (case kA => exact rfl); (case kf => exact rfl); (case kk => exact rfl); (case kF => k_asm); (case kX => k_asm); (case kN => k_asm); (case kB => k_asm); (case kG => assumption); (case kd => k_room); (case kx => exact sent_sz _); k_whole; intro h' tk' lx' ld' sx' sd' pb' fs' sk' lk' tp' t1' t2' t3' F' N' l1' l2' nd' n4' l3'; (try k_lt l3'); (try k_sweep))
  k_steps
  refine Stop.mk ?_
  (try dsimp only)
  refine wpAny_execs_cons ?_
  (rename Fr _ _ _ _ => lF')
  (with_unfolding_all refine' For_turns lF' ?_)
  k_steps
  refine Stop.mk ?_
  (try dsimp only)
  (rename Fr _ _ _ _ => lF')
  (rename News _ _ _ _ => lN')
  refine Exists.elim (start_read (x0 := Str.ofString "0") (l := lett n) lF' lN' ?qa ?qb ?qc ?qd ?qe (lett_mem n) (lett_last n) (Nat.le_of_eq (lett_len n)) (by decide +kernel) ?qf) ?_
  case qa => exact rfl
  case qb => exact rfl
  case qc => assumption
  case qd => assumption
  case qe => assumption
  case qf => omega
  clear lN'
  intro nw0 hq
  obtain ⟨⟨N0, hnt⟩, hI0⟩ := hq
  have hu2 : aun + 3 + 64 < cLine := by dsimp only at hu; omega
  have hvl := IntsAre.length hvs
  refine enum_IG (fun i m nw => RSt w _ _ nl _ _ _ _ (listOf vs.toArray nc) (Str.ofString "0") (rowsL (lett n)) i i (runD lett (eD n) 0 (xs.take i) (S0 n)) m nw) (by assumption) lF' N0 (rst_keep hI0) rfl rfl hI0 (fun i m nw h => rst_keep h) ?_ ?_
  · clear lF' N0 hI0
    intro I i v m' nw T t h tk oE oI hv hInv hT cE cI F N Q1 E1 hQ hE1 hPO
    have hX := ints_get hvs hv
    obtain ⟨x, tx, rfl, hx⟩ := hX
    have hat := at_told n (xs.take i) 0
    have hrt := runD_take (f := lett) (e := eD n) (S0 n) hx
    obtain ⟨st, hst⟩ : ∃ st, st = runD lett (eD n) 0 (xs.take i) (S0 n) := ⟨_, rfl⟩
    rw [← hst] at hat hrt hInv
    obtain ⟨u, vals, c, TO, n1, np, sv, tt, top, low, rfl, rfl, hT1, hD, hv1, hE⟩ := hInv
    have hok := hat.out
    have hi10 : i < 10 := Nat.lt_of_lt_of_le (List.getElem?_eq_some_iff.mp hx).1 hxl
    have hi200 : i < 200 := Nat.lt_trans hi10 (by decide)
    k_steps
    refine Stop.mk ?_
    (try dsimp only)
    (rename Fr _ _ _ _ => lF')
    (rename News _ _ _ _ => lN')
    refine cut_B (ended st.out) lF' lN' ?_ ?_
    · have hlc := last_cases hD hok
      rcases hlc with ⟨e1, e2, e3⟩ | ⟨vi, e, x1, y1, ty, n2, e2, hm2, e3, e4⟩
      · have hb : (!decide (st.out = [])) = false := by rw [e1]; rfl
        refine isTrue_and ?_
        k_steps
        refine Stop.mk ?_
        (try dsimp only)
        (rename News _ _ _ _ => lN2)
        refine told_ne lN2 (.tail _ (.tail _ (.head _))) hD sub4 hok false hb (by exact hu2) ?_
        k_steps
        exact Stop.mk ⟨_, _, e3.symm, rfl, by assumption, news_tail (by assumption)⟩
      · have hb : (!decide (st.out = [])) = true := by rw [decide_eq_false e4]; rfl
        refine isTrue_and ?_
        k_steps
        refine Stop.mk ?_
        (try dsimp only)
        (rename News _ _ _ _ => lN2)
        refine told_ne lN2 (.tail _ (.tail _ (.head _))) hD sub4 hok true hb (by exact hu2) ?_
        k_steps
        refine Stop.mk ?_
        (try dsimp only)
        refine told_last lN2 (.tail _ (.tail _ (.tail _ (.head _)))) e2 ?_ (by with_unfolding_all rfl) (by intro _; with_unfolding_all rfl)
        k_steps
        refine Stop.mk ?_
        (try dsimp only)
        refine told_first lN2 (.tail _ (sub4 _ hm2)) ?_ (by with_unfolding_all rfl)
        rcases e3 with ⟨rfl, hen⟩ | ⟨⟨q, tq, rfl⟩, hen⟩
        · k_steps
          exact Stop.mk ⟨_, _, hen.symm, rfl, by assumption, news_tail (by assumption)⟩
        · k_steps
          exact Stop.mk ⟨_, _, hen.symm, rfl, by assumption, news_tail (by assumption)⟩
    · intro h' tk' F' N'
      clear lF' lN'
      cases hen : ended st.out with
      | true =>
        have hea := ended_all hst hen
        k_steps
        refine hQ _ _ ?_
        dsimp only [UnrPostW]
        k_steps
        all_goals walk_at "S end"
        (rename Fr _ _ _ _ => lF')
        (rename News _ _ _ _ => lN')
        have hre := read_end (pre := [_, _]) eg lF' lN' hnt hT1
        rw [hea] at hD hen
        exact k _ _ _ _ _ _ 0 hre.1 hre.2.1 hre.2.2.1 hre.2.2.2 hD hen
      | false =>
        obtain ⟨⟨s1, rfl⟩, hok1, hll, hrel⟩ := hE hen
        have hll2 : low.length ≤ 100 := by omega
        k_steps
        · refine Stop.mk ?_
          k_dflt (refine' letter_K ?kB ?kG ?kF ?kN ?kA ?kf ?kk ?kd ?kh ?_; (case kA => exact rfl); (case kf => exact rfl); (case kk => exact rfl); (case kF => k_asm); (case kN => k_asm); (case kB => k_asm); (case kG => assumption); (case kd => k_room); (case kh => assumption); k_whole; intro h' tk' tc' hpos' F' N'; (try k_sweep))
          k_steps
          refine Stop.mk ?_
          k_dflt (refine' quote_K ?kB ?kG ?kF ?kN ?kA ?kf ?kk ?kd ?kx ?_; (case kA => exact rfl); (case kf => exact rfl); (case kk => exact rfl); (case kF => k_asm); (case kN => k_asm); (case kB => k_asm); (case kG => assumption); (case kd => k_room); (case kx => exact lett_sz _); k_whole; intro h' tk' tc' F' N'; (try k_sweep))
          k_steps
          refine Stop.mk ?_
          (try dsimp only)
          (rename Fr _ _ _ _ => lF')
          (rename News _ _ _ _ => lN')
          obtain ⟨xi, ei, hxi, ti, wsi, hii, -⟩ := hrel.any
          refine pushR_K (hdr := [_, _, _, _]) (by assumption) (by assumption) lF' lN' rfl rfl rfl hok1 hll2 (by k_room) (plain4 cE cI) (plainT hT1) hii (sent_sz _) (sent_good (lett_mem _) (lett_last _)) ?_
          intro h2 tk2 top' ta n' f1 f2 f3 f4 F2 N2
          clear lF' lN'
          k_steps
          refine hQ _ _ ?_
          dsimp only [UnrPostW]
          (rename Fr _ _ _ _ => lF')
          (rename News _ _ _ _ => lN')
          (rename @Eq Int _ 1 => hx1)
          rw [hrt, step_push hen hx1]
          refine turn_end lF' lN' rfl rfl cE cI hT1 hD (by omega) fun _ => ⟨⟨_, rfl⟩, f4, ?_, push_rel hrel f1 f2 f3 (lett_last _) hi200⟩
          simp only [List.length_cons]; omega
        · refine Stop.mk ?_
          (try dsimp only)
          (rename Fr _ _ _ _ => lF')
          (rename News _ _ _ _ => lN')
          refine gtokR_K (hdr := [_, _, _, _]) (by assumption) (by assumption) lF' lN' rfl rfl rfl hok1 hll2 (by k_room) (by assumption) (plain4 cE cI) (plainT hT1) ?_
          intro r top' low' hgt h2 tk2 v sv n' t2 t3 t4 gv F2 N2
          obtain ⟨x1, tn1, r1, r2, r3, r4, r5, r6, r7⟩ := rd_facts hrel hok1 hgt gv
          clear lF' lN'
          k_steps
          refine Stop.mk ?_
          (try dsimp only)
          (rename Fr _ _ _ _ => lF')
          (rename News _ _ _ _ => lN')
          refine leaderR_K (by assumption) (by assumption) lF' lN' rfl rfl rfl hok1.lt (by k_room) (List.mem_append_right _ (List.mem_append_left _ (.head _))) (List.mem_append_right _ (List.mem_append_left _ (.tail _ (.head _)))) r1 r2 r3 ?_
          intro h3 tk3 tc F3 N3
          clear lF' lN'
          k_steps
          refine Stop.mk ?_
          (try dsimp only)
          (rename Fr _ _ _ _ => lF')
          (rename News _ _ _ _ => lN')
          rename ∀ (p : Addr × Obj), p ∈ [_, _, _, _] ++ _ → _ => l9
          have l10 := l9 _ (.tail _ (.tail _ (.head _)))
          refine app_R (pre := [_, _]) (X := lexAll w _ _ _ _ _ n' np sv t3 { top' with lt := t2, tp := t4 } low') (TO := TO) (vals := vals) lF' lN' (by omega) l10 (off_pre lN' (.tail _ (.tail _ (.tail _ (.head _)))) (.tail _ (.head _)) (.tail _ (.tail _ (.head _))) cE cI) hnt (lex_off lN' (.tail _ (.tail _ (.tail _ (.head _)))) fun p hp => .tail _ (List.mem_append_right _ (List.mem_append_left _ hp))) (fun p hp => (hT1 p hp).1) ?_
          intro h4 F4 N4
          clear lF' lN'
          k_steps
          refine hQ _ _ ?_
          dsimp only [UnrPostW]
          (rename Fr _ _ _ _ => lF')
          (rename News _ _ _ _ => lN')
          (rename ¬ @Eq Int _ 1 => hx1)
          rw [hrt, step_rd hen hx1]
          refine turn_end lF' lN' rfl rfl cE cI (told_T hT1 l10 hnt rfl) (by rw [r4]; exact told_dat hD gv) (by simp only [List.length_append, List.length_cons, List.length_nil]; omega) fun hz => ⟨(r7 hz).1, lok_set r5, by omega, rel_set (r7 hz).2⟩
  · intro m' nw h tk hInv F N
    have hI2 := rst_mono hInv (Nat.le_trans (Nat.le_of_eq hvl) hxl) (Nat.le_trans (Nat.le_of_eq hvl) hxl)
    have ht : runD lett (eD n) 0 (xs.take vs.length) (S0 n) = runD lett (eD n) 0 (xs ++ List.replicate 0 0) (S0 n) := by rw [hvl, List.take_length, List.replicate_zero, List.append_nil]
    rw [ht] at hI2
    clear hInv ht lF' N0 hI0
    k_steps
    refine Stop.mk ?_
    (try dsimp only)
    refine wpAny_execs_cons ?_
    refine While_inv2G (fun q m nw => ∃ j b, b + q ≤ 1000 ∧ q = meas (runD lett (eD n) 0 (xs ++ List.replicate j 0) (S0 n)) ∧ RSt w _ _ nl _ _ _ _ (listOf vs.toArray nc) (Str.ofString "0") (rowsL (lett n)) b 10 (runD lett (eD n) 0 (xs ++ List.replicate j 0) (S0 n)) m nw) F N ⟨0, 10, ?_, rfl, hI2⟩ ?_
    · have := meas_start n hxl; omega
    · clear hI2 F N
      rintro q m1 nw1 h1 tk1 F1 N1 ⟨j, b, hb, hq, hR⟩ Q3 Q4 E3 hQ3 hQ4 hE3 hPO3
      have hat := at_told n (xs ++ List.replicate j 0) 0
      have hmore := run_more n xs j
      obtain ⟨st, hst⟩ : ∃ st, st = runD lett (eD n) 0 (xs ++ List.replicate j 0) (S0 n) := ⟨_, rfl⟩
      rw [← hst] at hat hmore hR hq
      obtain ⟨u, vals, c, TO, n1, np, sv, tt, top, low, rfl, rfl, hT1, hD, hv1, hE⟩ := hR
      have hok := hat.out
      refine cut_B (!ended st.out) F1 N1 ?_ ?_
      · have hlc := last_cases hD hok
        rcases hlc with ⟨e1, e2, e3⟩ | ⟨vi, e, x1, y1, ty, n2, e2, hm2, e3, e4⟩
        · have hb : decide (st.out = []) = true := by rw [e1]; rfl
          refine isTrue_or ?_
          k_steps
          refine Stop.mk ?_
          (try dsimp only)
          (rename News _ _ _ _ => lN2)
          refine told_eq lN2 (.head _) hD sub2 hok true hb (by exact hu2) ?_
          k_steps
          exact Stop.mk ⟨_, _, by rw [e3]; rfl, rfl, by assumption, news_tail (by assumption)⟩
        · have hb : decide (st.out = []) = false := decide_eq_false e4
          refine isTrue_or ?_
          k_steps
          refine Stop.mk ?_
          (try dsimp only)
          (rename News _ _ _ _ => lN2)
          refine told_eq lN2 (.head _) hD sub2 hok false hb (by exact hu2) ?_
          k_steps
          refine Stop.mk ?_
          (try dsimp only)
          refine told_last lN2 (.tail _ (.head _)) e2 ?_ (by with_unfolding_all rfl) (by intro _; with_unfolding_all rfl)
          k_steps
          refine Stop.mk ?_
          (try dsimp only)
          refine told_first lN2 (.tail _ (sub2 _ hm2)) ?_ (by with_unfolding_all rfl)
          rcases e3 with ⟨rfl, hen⟩ | ⟨⟨q, tq, rfl⟩, hen⟩
          · k_steps
            exact Stop.mk ⟨_, _, by rw [hen]; rfl, rfl, by assumption, news_tail (by assumption)⟩
          · k_steps
            exact Stop.mk ⟨_, _, by rw [hen]; rfl, rfl, by assumption, news_tail (by assumption)⟩
      · intro h' tk' F' N'
        clear F1 N1
        cases hen : ended st.out with
        | true =>
          simp only [Bool.not_true, Bool.false_eq_true, if_false]
          refine hQ4 _ ?_
          (try dsimp only)
          k_steps
          all_goals walk_at "S end"
          (rename Fr _ _ _ _ => lF')
          (rename News _ _ _ _ => lN')
          have hre := read_end (pre := []) eg lF' lN' hnt hT1
          rw [hst] at hD hen
          exact k _ _ _ _ _ _ j hre.1 hre.2.1 hre.2.2.1 hre.2.2.2 hD hen
        | false =>
          obtain ⟨⟨s1, rfl⟩, hok1, hll, hrel⟩ := hE hen
          have hll2 : low.length ≤ 100 := by omega
          simp only [Bool.not_false, if_true]
          k_steps
          refine Stop.mk ?_
          (try dsimp only)
          (rename Fr _ _ _ _ => lF')
          (rename News _ _ _ _ => lN')
          refine gtokR_K (hdr := [_, _]) (by assumption) (by assumption) lF' lN' rfl rfl rfl hok1 hll2 (by k_room) (by assumption) plain2 (plainT hT1) ?_
          intro r top' low' hgt h2 tk2 v sv n' t2 t3 t4 gv F2 N2
          obtain ⟨x1, tn1, r1, r2, r3, r4, r5, r6, r7⟩ := rd_facts hrel hok1 hgt gv
          clear lF' lN'
          k_steps
          refine Stop.mk ?_
          (try dsimp only)
          (rename Fr _ _ _ _ => lF')
          (rename News _ _ _ _ => lN')
          refine leaderR_K (by assumption) (by assumption) lF' lN' rfl rfl rfl hok1.lt (by k_room) (List.mem_append_right _ (List.mem_append_left _ (.head _))) (List.mem_append_right _ (List.mem_append_left _ (.tail _ (.head _)))) r1 r2 r3 ?_
          intro h3 tk3 tc F3 N3
          clear lF' lN'
          k_steps
          refine Stop.mk ?_
          (try dsimp only)
          (rename Fr _ _ _ _ => lF')
          (rename News _ _ _ _ => lN')
          rename ∀ (p : Addr × Obj), p ∈ [_, _] ++ _ → _ => l9
          have l10 := l9 _ (.head _)
          refine app_R (pre := []) (X := lexAll w _ _ _ _ _ n' np sv t3 { top' with lt := t2, tp := t4 } low') (TO := TO) (vals := vals) lF' lN' (by omega) l10 (fun _ hp => nomatch hp) hnt (lex_off lN' (.tail _ (.head _)) fun p hp => .tail _ (List.mem_append_right _ (List.mem_append_left _ hp))) (fun p hp => (hT1 p hp).1) ?_
          intro h4 F4 N4
          clear lF' lN'
          k_steps
          refine hQ3 _ _ ?_
          (try dsimp only)
          (rename Fr _ _ _ _ => lF')
          (rename News _ _ _ _ => lN')
          have hme := meas_rd (n := n) hen
          refine ⟨_, _, _, _, meas (rd (eD n) st), rfl, lF', lN', by rw [hq]; exact hme, j + 1, b + 1, by omega, by rw [hmore hen], ?_⟩
          rw [hmore hen]
          exact ⟨_, _, _, _, _, _, _, _, _, _, mR_of rfl rfl, rfl, told_T hT1 l10 hnt rfl, by rw [r4]; exact told_dat hD gv, by simp only [List.length_append, List.length_cons, List.length_nil]; omega, fun hz => ⟨(r7 hz).1, lok_set r5, by omega, rel_set (r7 hz).2⟩⟩
end
end
section
open PySem PySem.W PySem.Calls PyProof.Rows
section
variable {w : World} {A₀ A : Around} {env : Env} {outer : List Env} {s : Shared} {base h₀ : Heap} {mean : ExcName → Option Value} {mg mb m : Str → Option Value} {news : List (Addr × Obj)} {Q : Value → Shared → Prop} {E : Value → Shared → Prop} {L : Addr} {t tn : Tok} {n : Int} {xn : Str}
/-- _law_words called: the words, and the end, new on the ledger. -/
theorem words_K (B : Below A₀ base outer h₀) (G : Gr w mean mg mb base) (F : Fr h₀ L s.heap m) (N : News h₀ L s.heap news) (hA : A.frames = some (env :: outer)) (hf : env.frame = some L) (hke : env.scope.kind = .function) (hdep : A.depth + 100 < recursionLimit) (hh0 : A.handled = none) (hxn : xn.length ≤ 64)
    (h : ∀ h' tk T l e vals c TO t', Fr h₀ L h' m → News h₀ L h' ((T, ({ cls := .type "tuple", data := .seq #[.ref l, .ref e] } : Obj)) :: (e, listOf #[.none, .str (lead xn (rowsL (lett n))) t'] 0) :: (l, listOf vals.toArray c) :: (news ++ TO)) →
      @LT.lt Nat _ l e → @LT.lt Nat _ e T → (∀ p ∈ news, p.1 ≠ l ∧ p.1 ≠ e ∧ p.1 ≠ T) → (∀ p ∈ TO, p.1 ≠ l ∧ p.2.cls = .type "list") → (∀ p ∈ TO, ∀ q ∈ news, p.1 ≠ q.1) → DatAll TO vals (tellW xn (wordsL (lett n))) → Q (.ref T) { s with heap := h', toks := tk }) :
    wpAny (model PySem.Challenge.rw_ny0282_01.row.prog w) A (call (.ref 765) [.int n t, .str xn tn]) Q E s := by
  obtain ⟨O, H⟩ := out_of (pre := []) B F N hA hf hke (fun _ hp => nomatch hp)
  refine wpAny_call (words_spec G O H hdep hh0 hxn fun h' tk T l e vals c TO t' kp hh o1 o2 l1 l2 g1 g2 g3 g4 D => ?_)
  have kp' : Kept (([] : List (Addr × Obj)).map (·.1)) s.heap h' := kp
  have hs0 : ∀ p ∈ ([] : List (Addr × Obj)), p ∈ news := fun _ hp => nomatch hp
  have nw : ∀ (a : Addr), s.heap.get? a = none → ∀ p ∈ news, p.1 ≠ a := fun a ha p hp q => by
    have := (N p hp).1
    rw [q, ha] at this; cases this
  refine h h' tk T l e vals c TO t' (fr_kept F N hs0 kp') (news_kept (post := (T, ({ cls := .type "tuple", data := .seq #[.ref l, .ref e] } : Obj)) :: (e, listOf #[.none, .str (lead xn (rowsL (lett n))) t'] 0) :: (l, listOf vals.toArray c) :: TO) F N hs0 kp' (fun p hp => ⟨hh p hp, .inr ?_⟩) fun p hp => ?_) l1 l2 (fun p hp => ⟨nw l g3 p hp, nw e g2 p hp, nw T g1 p hp⟩) (fun p hp => ⟨o1 p hp, o2 p hp⟩) (fun p hp q hq e => nw p.1 (g4 p hp) q hq e.symm) D
  · simp only [List.mem_cons] at hp
    rcases hp with rfl | rfl | rfl | hp
    · exact g1
    · exact g2
    · exact g3
    · exact g4 p hp
  · simp only [List.mem_cons, List.mem_append] at hp ⊢
    rcases hp with hp | hp | hp | hp | hp
    · exact .inl (.inl hp)
    · exact .inl (.inr (.inl hp))
    · exact .inl (.inr (.inr (.inl hp)))
    · exact .inr ⟨hp, fun q => nomatch q⟩
    · exact .inl (.inr (.inr (.inr hp)))
end
theorem allLt_mem {d : Nat} : ∀ {l : List (Addr × Obj)}, AllLt d l → ∀ p ∈ l, @LT.lt Nat _ p.1 d
  | [], _, _, h => nomatch h
  | q :: r, ⟨a, b⟩, p, h => by
    rcases List.mem_cons.mp h with rfl | h
    · exact a
    · exact allLt_mem b p h
/-- A list of words that waits. -/
structure WL where
  a : Addr
  vals : List Value
  c : Nat
  ds : List Dat
noncomputable def wlO (l : List WL) : List (Addr × Obj) := l.map fun u => (u.a, listOf u.vals.toArray u.c)
theorem wlO_addr {l : List WL} {p : Addr × Obj} (h : p ∈ wlO l) : p.1 ∈ l.map (·.a) ∧ p.2.cls = .type "list" := by
  obtain ⟨u, hu, rfl⟩ := List.mem_map.mp h
  exact ⟨List.mem_map_of_mem hu, rfl⟩
noncomputable abbrev wtV (top : WL) (low : List WL) : List Value := (low.map fun u => Value.ref u.a).reverse ++ [Value.ref top.a]
theorem wtV_push (t top : WL) (low : List WL) : wtV top low ++ [Value.ref t.a] = wtV t (top :: low) := by simp [wtV]
noncomputable abbrev dLed (du wt : Addr) (vals : List Value) (c : Nat) (top : WL) (low : List WL) (cw : Nat) (TO : List (Addr × Obj)) : List (Addr × Obj) :=
  (du, listOf vals.toArray c) :: (wt, listOf (wtV top low).toArray cw) :: (top.a, listOf top.vals.toArray top.c) :: (wlO low ++ TO)
structure DOk (du wt : Addr) (top : WL) (low : List WL) (TO : List (Addr × Obj)) : Prop where
  nd : (du :: wt :: top.a :: low.map (·.a)).Nodup
  off : ∀ p ∈ TO, p.1 ∉ du :: wt :: top.a :: low.map (·.a)
  cls : ∀ p ∈ TO, p.2.cls = .type "list"
section
variable {h₀ h h' : Heap} {L du wt : Addr} {vals : List Value} {c cw : Nat} {top : WL} {low : List WL} {TO pre news : List (Addr × Obj)}
theorem DOk.off_du (k : DOk du wt top low TO) : ∀ p ∈ (wt, listOf (wtV top low).toArray cw) :: (top.a, listOf top.vals.toArray top.c) :: (wlO low ++ TO), p.1 ≠ du := by
  intro p hp
  have nd := (List.nodup_cons.mp k.nd).1
  have aux : p.1 ∈ wt :: top.a :: low.map (·.a) → p.1 ≠ du := fun hm e => nd (e ▸ hm)
  rcases List.mem_cons.mp hp with rfl | hp
  · exact aux (.head _)
  · rcases List.mem_cons.mp hp with rfl | hp
    · exact aux (.tail _ (.head _))
    · rcases List.mem_append.mp hp with hp | hp
      · exact aux (.tail _ (.tail _ (wlO_addr hp).1))
      · exact fun e => k.off p hp (e ▸ .head _)
theorem DOk.off_wt (k : DOk du wt top low TO) : ∀ p ∈ (du, listOf vals.toArray c) :: (top.a, listOf top.vals.toArray top.c) :: (wlO low ++ TO), p.1 ≠ wt := by
  intro p hp
  have nd := (List.nodup_cons.mp k.nd)
  have nd2 := (List.nodup_cons.mp nd.2).1
  have aux : p.1 ∈ top.a :: low.map (·.a) → p.1 ≠ wt := fun hm e => nd2 (e ▸ hm)
  rcases List.mem_cons.mp hp with rfl | hp
  · exact fun e => nd.1 (e ▸ .head _)
  · rcases List.mem_cons.mp hp with rfl | hp
    · exact aux (.head _)
    · rcases List.mem_append.mp hp with hp | hp
      · exact aux (.tail _ (wlO_addr hp).1)
      · exact fun e => k.off p hp (e ▸ .tail _ (.head _))
theorem DOk.off_top (k : DOk du wt top low TO) : ∀ p ∈ (du, listOf vals.toArray c) :: (wt, listOf (wtV top low).toArray cw) :: (wlO low ++ TO), p.1 ≠ top.a := by
  intro p hp
  have nd := (List.nodup_cons.mp k.nd)
  have nd2 := (List.nodup_cons.mp nd.2)
  have nd3 := (List.nodup_cons.mp nd2.2).1
  rcases List.mem_cons.mp hp with rfl | hp
  · exact fun e => nd.1 (e ▸ .tail _ (.head _))
  · rcases List.mem_cons.mp hp with rfl | hp
    · exact fun e => nd2.1 (e ▸ .head _)
    · rcases List.mem_append.mp hp with hp | hp
      · exact fun e => nd3 (e ▸ (wlO_addr hp).1)
      · exact fun e => k.off p hp (e ▸ .tail _ (.tail _ (.head _)))
theorem DOk.pop {t2 : WL} {low2 : List WL} (k : DOk du wt top (t2 :: low2) TO) : DOk du wt t2 low2 TO := by
  have nd := k.nd
  simp only [List.map_cons, List.nodup_cons, List.mem_cons, not_or] at nd
  obtain ⟨⟨a1, a2, a3, a4⟩, ⟨b1, b2, b3⟩, ⟨c1, c2⟩, d1, d2⟩ := nd
  refine ⟨?_, fun p hp q => k.off p hp ?_, k.cls⟩
  · simp only [List.nodup_cons, List.mem_cons, not_or]
    exact ⟨⟨a1, a3, a4⟩, ⟨b2, b3⟩, d1, d2⟩
  · simp only [List.map_cons, List.mem_cons] at q ⊢
    rcases q with q | q | q | q
    · exact .inl q
    · exact .inr (.inl q)
    · exact .inr (.inr (.inr (.inl q)))
    · exact .inr (.inr (.inr (.inr q)))
theorem DOk.push {t : WL} {TO' : List (Addr × Obj)} (k : DOk du wt top low TO) (h1 : t.a ∉ du :: wt :: top.a :: low.map (·.a)) (h2 : ∀ p ∈ TO, p.1 ≠ t.a) (h3 : ∀ p ∈ TO', p.1 ≠ t.a ∧ p.2.cls = .type "list") (h4 : ∀ p ∈ TO', p.1 ∉ du :: wt :: top.a :: low.map (·.a)) : DOk du wt t (top :: low) (TO ++ TO') := by
  have nd := k.nd
  simp only [List.nodup_cons, List.mem_cons, not_or] at nd h1
  obtain ⟨⟨a1, a2, a3⟩, ⟨b1, b2⟩, c1, c2⟩ := nd
  obtain ⟨t1, t2, t3, t4⟩ := h1
  have aux : ∀ p : Addr × Obj, p.1 ≠ t.a → p.1 ∉ du :: wt :: top.a :: low.map (·.a) → p.1 ∉ du :: wt :: t.a :: (top :: low).map (·.a) := by
    intro p q1 q2 q3
    simp only [List.map_cons, List.mem_cons, not_or] at q2 q3
    rcases q3 with q | q | q | q | q
    · exact q2.1 q
    · exact q2.2.1 q
    · exact q1 q
    · exact q2.2.2.1 q
    · exact q2.2.2.2 q
  refine ⟨?_, fun p hp => ?_, fun p hp => ?_⟩
  · simp only [List.map_cons, List.nodup_cons, List.mem_cons, not_or]
    exact ⟨⟨a1, fun e => t1 e.symm, a2, a3⟩, ⟨fun e => t2 e.symm, b1, b2⟩, ⟨t3, t4⟩, c1, c2⟩
  · rcases List.mem_append.mp hp with hp | hp
    · exact aux p (h2 p hp) (k.off p hp)
    · exact aux p (h3 p hp).1 (h4 p hp)
  · rcases List.mem_append.mp hp with hp | hp
    · exact k.cls p hp
    · exact (h3 p hp).2
theorem pre_off {D : Addr} {v : List Value} {n : Nat} (N : News h₀ L h news) (hm : (D, listOf v.toArray n) ∈ news) (hs : ∀ p ∈ pre, p ∈ news) (hp : ∀ p ∈ pre, p.2.cls ≠ .type "list") : ∀ p ∈ pre, p.1 ≠ D := by
  intro p hp' e
  have a := (N p (hs p hp')).1
  have b := (N _ hm).1
  rw [e] at a
  exact hp p hp' (congrArg Obj.cls (Option.some.inj (a.symm.trans b)))
/-- One more told. -/
theorem due_app {v : Value} (k : DOk du wt top low TO) (N : News h₀ L h (pre ++ dLed du wt vals c top low cw TO)) (hp : ∀ p ∈ pre, p.2.cls ≠ .type "list") (T : Turned h₀ L h' (pre ++ dLed du wt vals c top low cw TO) du (listOf (vals ++ [v]).toArray (c + 1))) : News h₀ L h' (pre ++ dLed du wt (vals ++ [v]) (c + 1) top low cw TO) := by
  refine T _ fun p hp' => ?_
  rcases List.mem_append.mp hp' with q | q
  · exact .inr ⟨List.mem_append_left _ q, pre_off N (List.mem_append_right _ (.head _)) (fun p hp => List.mem_append_left _ hp) hp p q⟩
  · rcases List.mem_cons.mp q with rfl | q
    · exact .inl rfl
    · exact .inr ⟨List.mem_append_right _ (.tail _ q), k.off_du p q⟩
/-- A list that is empty leaves. -/
theorem wt_pop {t2 : WL} {low2 : List WL} (k : DOk du wt top (t2 :: low2) TO) (N : News h₀ L h (pre ++ dLed du wt vals c top (t2 :: low2) cw TO)) (hp : ∀ p ∈ pre, p.2.cls ≠ .type "list")
    (T : Turned h₀ L h' (pre ++ dLed du wt vals c top (t2 :: low2) cw TO) wt (listOf (wtV t2 low2).toArray (cw + 1))) : News h₀ L h' (pre ++ dLed du wt vals c t2 low2 (cw + 1) TO) := by
  refine T _ fun p hp' => ?_
  rcases List.mem_append.mp hp' with q | q
  · exact .inr ⟨List.mem_append_left _ q, pre_off N (List.mem_append_right _ (.tail _ (.head _))) (fun p hp => List.mem_append_left _ hp) hp p q⟩
  · have ow := k.off_wt (vals := vals) (c := c)
    rcases List.mem_cons.mp q with rfl | q
    · exact .inr ⟨List.mem_append_right _ (.head _), ow _ (.head _)⟩
    · rcases List.mem_cons.mp q with rfl | q
      · exact .inl rfl
      · exact .inr ⟨List.mem_append_right _ (.tail _ (.tail _ (.tail _ q))), ow _ (.tail _ (.tail _ q))⟩
/-- A word leaves. -/
theorem top_pop {q : List Value} {ds : List Dat} (k : DOk du wt top low TO) (N : News h₀ L h (pre ++ dLed du wt vals c top low cw TO)) (hp : ∀ p ∈ pre, p.2.cls ≠ .type "list")
    (T : Turned h₀ L h' (pre ++ dLed du wt vals c top low cw TO) top.a (listOf q.toArray (top.c + 1))) : News h₀ L h' (pre ++ dLed du wt vals c ⟨top.a, q, top.c + 1, ds⟩ low cw TO) := by
  refine T _ fun p hp' => ?_
  rcases List.mem_append.mp hp' with z | z
  · exact .inr ⟨List.mem_append_left _ z, pre_off N (List.mem_append_right _ (.tail _ (.tail _ (.head _)))) (fun p hp => List.mem_append_left _ hp) hp p z⟩
  · have ot := k.off_top (vals := vals) (c := c) (cw := cw)
    rcases List.mem_cons.mp z with rfl | z
    · exact .inr ⟨List.mem_append_right _ (.head _), ot _ (.head _)⟩
    · rcases List.mem_cons.mp z with rfl | z
      · exact .inr ⟨List.mem_append_right _ (.tail _ (.head _)), ot _ (.tail _ (.head _))⟩
      · rcases List.mem_cons.mp z with rfl | z
        · exact .inl rfl
        · exact .inr ⟨List.mem_append_right _ (.tail _ (.tail _ (.tail _ z))), ot _ (.tail _ (.tail _ z))⟩
theorem DOk.set {q : List Value} {n : Nat} {ds : List Dat} (k : DOk du wt top low TO) : DOk du wt ⟨top.a, q, n, ds⟩ low TO := ⟨k.nd, k.off, k.cls⟩
/-- One more list waits. -/
theorem wt_push {t : WL} {news' : List (Addr × Obj)} {TO' : List (Addr × Obj)} (k : DOk du wt top low TO) (N : News h₀ L h (pre ++ dLed du wt vals c top low cw TO)) (hp : ∀ p ∈ pre, p.2.cls ≠ .type "list") (h1 : t.a ≠ wt) (h4 : ∀ p ∈ TO', p.1 ≠ wt)
    (ht : (t.a, listOf t.vals.toArray t.c) ∈ news') (hs : ∀ p ∈ pre ++ dLed du wt vals c top low cw TO, p ∈ news') (hs' : ∀ p ∈ TO', p ∈ news')
    (T : Turned h₀ L h' news' wt (listOf (wtV top low ++ [Value.ref t.a]).toArray (cw + 1))) : News h₀ L h' (pre ++ dLed du wt vals c t (top :: low) (cw + 1) (TO ++ TO')) := by
  refine T _ fun p hp' => ?_
  have ow := k.off_wt (vals := vals) (c := c)
  rcases List.mem_append.mp hp' with q | q
  · exact .inr ⟨hs p (List.mem_append_left _ q), pre_off N (List.mem_append_right _ (.tail _ (.head _))) (fun p hp => List.mem_append_left _ hp) hp p q⟩
  · rcases List.mem_cons.mp q with rfl | q
    · exact .inr ⟨hs _ (List.mem_append_right _ (.head _)), ow _ (.head _)⟩
    · rcases List.mem_cons.mp q with rfl | q
      · left; rw [wtV_push]
      · rcases List.mem_cons.mp q with rfl | q
        · exact .inr ⟨ht, h1⟩
        · rcases List.mem_append.mp q with q | q
          · rcases List.mem_cons.mp q with rfl | q
            · exact .inr ⟨hs _ (List.mem_append_right _ (.tail _ (.tail _ (.head _)))), ow _ (.tail _ (.head _))⟩
            · exact .inr ⟨hs _ (List.mem_append_right _ (.tail _ (.tail _ (.tail _ (List.mem_append_left _ q))))), ow _ (.tail _ (.tail _ (List.mem_append_left _ q)))⟩
          · rcases List.mem_append.mp q with q | q
            · exact .inr ⟨hs _ (List.mem_append_right _ (.tail _ (.tail _ (.tail _ (List.mem_append_right _ q))))), ow _ (.tail _ (.tail _ (List.mem_append_right _ q)))⟩
            · exact .inr ⟨hs' _ q, h4 p q⟩
end
/-- The names of _law_due. -/
noncomputable abbrev mD (wt du en : Addr) (u : Str → Option Value) : Str → Option Value := fun y => if y = Str.ofString "waiting" then some (.ref wt) else if y = Str.ofString "due" then some (.ref du) else if y = Str.ofString "end" then some (.ref en) else u y
theorem mD_of {wt du en : Addr} {m : Str → Option Value} (h1 : m (Str.ofString "waiting") = some (.ref wt)) (h2 : m (Str.ofString "due") = some (.ref du)) (h3 : m (Str.ofString "end") = some (.ref en)) : m = mD wt du en m := by
  funext y
  unfold mD
  split
  · rename_i e; rw [e]; exact h1
  · split
    · rename_i e; rw [e]; exact h2
    · split
      · rename_i e; rw [e]; exact h3
      · rfl
theorem mD_fr {h₀ h : Heap} {L wt du en : Addr} {m : Str → Option Value} (F : Fr h₀ L h m) (h1 : m (Str.ofString "waiting") = some (.ref wt)) (h2 : m (Str.ofString "due") = some (.ref du)) (h3 : m (Str.ofString "end") = some (.ref en)) : ∃ M, Fr h₀ L h (mD wt du en M) := ⟨m, by rw [← mD_of h1 h2 h3]; exact F⟩
/-- What holds between the deeds. -/
noncomputable def DSt (e0 : Dat) (du wt en nl yl : Addr) (lo lo2 : Obj) (b b2 : Nat) (st : SD) (m : Str → Option Value) (nw : List (Addr × Obj)) : Prop :=
  ∃ u vals c cw TO top low, m = mD wt du en u ∧ nw = dLed du wt vals c top low cw ((nl, lo) :: TO) ∧ DOk du wt top low ((nl, lo) :: TO) ∧ (yl, lo2) ∈ TO ∧ DatIn TO (.ref en) e0 ∧ (∀ p ∈ TO, p.1 ≠ nl) ∧ DatAll TO vals st.out ∧ vals.length ≤ b ∧ low.length ≤ b2 ∧
    (ended st.out = false → st.top = top.ds ∧ st.low = low.map (·.ds) ∧ ∀ u ∈ top :: low, DatAll TO u.vals u.ds ∧ u.ds.length ≤ 8)
theorem dst_keep {e0 : Dat} {du wt en nl yl : Addr} {lo lo2 : Obj} {b b2 : Nat} {st : SD} {m : Str → Option Value} {nw : List (Addr × Obj)} (h : DSt e0 du wt en nl yl lo lo2 b b2 st m nw) : (yl, lo2) ∈ nw := by
  obtain ⟨u, vals, c, cw, TO, top, low, -, rfl, -, h, -⟩ := h
  exact .tail _ (.tail _ (.tail _ (List.mem_append_right _ (.tail _ h))))
theorem start_due {h₀ h : Heap} {L yl du wt en wd nl : Addr} {o4 o5 : Addr × Obj} {lo lo2 : Obj} {m : Str → Option Value} {vals : List Value} {c q : Nat} {x0 : Str} {t' : Tok} {TO : List (Addr × Obj)} {ds : List Dat} (F : Fr h₀ L h m)
    (N : News h₀ L h ((yl, lo2) :: o4 :: (du, listOf #[] 0) :: (wt, listOf #[.ref wd] 0) :: o5 :: (en, listOf #[.none, .str (lead x0 q) t'] 0) :: (wd, listOf vals.toArray c) :: (nl, lo) :: TO))
    (h1 : m (Str.ofString "waiting") = some (.ref wt)) (h2 : m (Str.ofString "due") = some (.ref du)) (h3 : m (Str.ofString "end") = some (.ref en))
    (l1 : @LT.lt Nat _ wd wt) (l2 : @LT.lt Nat _ wt du) (l3 : @LT.lt Nat _ du yl) (l4 : @LT.lt Nat _ nl wt) (l5 : @Ne Nat nl wd) (l6 : @LT.lt Nat _ wd en) (l7 : @LT.lt Nat _ en wt) (l8 : @Ne Nat nl en) (hT : AllLt wt TO) (hT2 : ∀ p ∈ TO, p.1 ≠ wd ∧ p.2.cls = .type "list") (hT3 : ∀ p ∈ TO, p.1 ≠ nl)
    (hlo : lo.cls = .type "list") (hlo2 : lo2.cls = .type "list") (D : DatAll TO vals ds) (hds : ds.length ≤ 8) :
    ∃ nw, (News h₀ L h nw ∧ @LT.lt Nat _ nl du) ∧ DSt (endD x0 q) du wt en nl yl lo lo2 0 0 ⟨ds, [], []⟩ m nw := by
  refine ⟨dLed du wt [] 0 ⟨wd, vals, c, ds⟩ [] 0 ((nl, lo) :: (yl, lo2) :: (en, listOf #[.none, .str (lead x0 q) t'] 0) :: TO), ⟨?_, Nat.lt_trans l4 l2⟩, m, [], 0, 0, _, ⟨wd, vals, c, ds⟩, [], mD_of h1 h2 h3, rfl, ⟨?_, ?_, ?_⟩, .head _, ?_, ?_, .nil, Nat.le_refl _, Nat.le_refl _, fun _ => ⟨rfl, rfl, fun u hu => ?_⟩⟩
  · intro p hp
    refine N p ?_
    simp only [wlO, List.map_nil, List.nil_append, List.mem_cons] at hp ⊢
    rcases hp with h | h | h | h | h | h | h
    · exact .inr (.inr (.inl h))
    · exact .inr (.inr (.inr (.inl h)))
    · exact .inr (.inr (.inr (.inr (.inr (.inr (.inl h))))))
    · exact .inr (.inr (.inr (.inr (.inr (.inr (.inr (.inl h)))))))
    · exact .inl h
    · exact .inr (.inr (.inr (.inr (.inr (.inl h)))))
    · exact .inr (.inr (.inr (.inr (.inr (.inr (.inr (.inr h)))))))
  · simp only [List.map_nil, List.nodup_cons, List.mem_cons, List.not_mem_nil, not_or, not_false_eq_true, List.nodup_nil, and_true, or_false]
    exact ⟨⟨Nat.ne_of_gt l2, Nat.ne_of_gt (Nat.lt_trans l1 l2)⟩, Nat.ne_of_gt l1⟩
  · intro p hp
    simp only [List.map_nil, List.mem_cons, List.not_mem_nil, not_or, not_false_eq_true, or_false]
    simp only [List.mem_cons] at hp
    rcases hp with rfl | rfl | rfl | hp
    · exact ⟨Nat.ne_of_lt (Nat.lt_trans l4 l2), Nat.ne_of_lt l4, l5⟩
    · exact ⟨Nat.ne_of_gt l3, Nat.ne_of_gt (Nat.lt_trans l2 l3), Nat.ne_of_gt (Nat.lt_trans l1 (Nat.lt_trans l2 l3))⟩
    · exact ⟨Nat.ne_of_lt (Nat.lt_trans l7 l2), Nat.ne_of_lt l7, Nat.ne_of_gt l6⟩
    · have := allLt_mem hT p hp
      exact ⟨Nat.ne_of_lt (Nat.lt_trans this l2), Nat.ne_of_lt this, (hT2 p hp).1⟩
  · intro p hp
    simp only [List.mem_cons] at hp
    rcases hp with rfl | rfl | rfl | hp
    · exact hlo
    · exact hlo2
    · rfl
    · exact (hT2 p hp).2
  · exact .list (vs := [.none, .str (lead x0 q) t']) (.tail _ (.head _)) (.cons .none (.cons (.str _ _) .nil))
  · intro p hp
    simp only [List.mem_cons] at hp
    rcases hp with rfl | rfl | hp
    · exact Nat.ne_of_gt (Nat.lt_trans l4 (Nat.lt_trans l2 l3))
    · exact fun e => l8 e.symm
    · exact hT3 p hp
  · rw [List.mem_singleton.mp hu]
    exact ⟨D.mono fun p hp => .tail _ (.tail _ hp), hds⟩
theorem sub5 {du wt a b : Addr} {oE oI lo : Obj} {nl : Addr} {vals : List Value} {c cw : Nat} {top : WL} {low : List WL} {TO : List (Addr × Obj)} : ∀ p ∈ TO, p ∈ (a, oE) :: (b, oI) :: dLed du wt vals c top low cw ((nl, lo) :: TO) := fun p h => .tail _ (.tail _ (.tail _ (.tail _ (.tail _ (List.mem_append_right _ (.tail _ h))))))
theorem dturn_end {e0 : Dat} {du wt en nl yl : Addr} {lo lo2 : Obj} {b b2 : Nat} {st : SD} {h₀ h' : Heap} {L I : Addr} {oE oI : Obj} {s₁ : Shared} {tk : Nat} {m' : Str → Option Value} {vals : List Value} {c cw : Nat} {TO : List (Addr × Obj)} {top : WL} {low : List WL} (F : Fr h₀ L h' m')
    (N : News h₀ L h' ([(I + 1, oE), (I, oI)] ++ dLed du wt vals c top low cw ((nl, lo) :: TO)))
    (h1 : m' (Str.ofString "waiting") = some (.ref wt)) (h2 : m' (Str.ofString "due") = some (.ref du)) (h3 : m' (Str.ofString "end") = some (.ref en)) (cE : oE.cls = .type "enumerate") (cI : oI.cls = .type "list_iterator")
    (k : DOk du wt top low ((nl, lo) :: TO)) (a1 : (yl, lo2) ∈ TO) (a2 : DatIn TO (.ref en) e0) (a3 : ∀ p ∈ TO, p.1 ≠ nl) (a4 : DatAll TO vals st.out) (a5 : vals.length ≤ b) (a6 : low.length ≤ b2) (a7 : ended st.out = false → st.top = top.ds ∧ st.low = low.map (·.ds) ∧ ∀ u ∈ top :: low, DatAll TO u.vals u.ds ∧ u.ds.length ≤ 8) :
    UnrEndW h₀ L s₁ [(I + 1, oE), (I, oI)] (fun m nw => DSt e0 du wt en nl yl lo lo2 b b2 st m nw) { s₁ with heap := h', toks := tk } := by
  refine unrW_end (dLed du wt vals c top low cw ((nl, lo) :: TO)) F N (.head _) (.tail _ (.head _)) (fun p hp => .tail _ (.tail _ hp)) cE cI ?_ ⟨m', vals, c, cw, TO, top, low, mD_of h1 h2 h3, rfl, k, a1, a2, a3, a4, a5, a6, a7⟩
  intro p hp
  have cl : ∀ p : Addr × Obj, p.2.cls = .type "list" → p.2.cls ≠ .type "enumerate" ∧ p.2.cls ≠ .type "list_iterator" := fun p e => by rw [e]; exact ⟨by decide, by decide⟩
  refine cl p ?_
  rcases List.mem_cons.mp hp with rfl | hp
  · rfl
  · rcases List.mem_cons.mp hp with rfl | hp
    · rfl
    · rcases List.mem_cons.mp hp with rfl | hp
      · rfl
      · rcases List.mem_append.mp hp with hp | hp
        · exact (wlO_addr hp).2
        · exact k.cls p hp
theorem pre_cls {a b : Addr} {oE oI : Obj} (cE : oE.cls = .type "enumerate") (cI : oI.cls = .type "list_iterator") : ∀ p ∈ [(a, oE), (b, oI)], p.2.cls ≠ .type "list" := by
  intro p hp
  simp only [List.mem_cons, List.not_mem_nil, or_false] at hp
  rcases hp with rfl | rfl
  · rw [cE]; decide
  · rw [cI]; decide
/-- The end. -/
theorem due_end {h g h' : Heap} {L du wt nl : Addr} {m : Str → Option Value} {pre TO : List (Addr × Obj)} {vals vs : List Value} {c cw nc : Nat} {top : WL} {low : List WL} (eg : g = hideAll h ([(nl, listOf vs.toArray nc)].map (·.1))) (F : Fr g L h' m) (N : News g L h' (pre ++ dLed du wt vals c top low cw ((nl, listOf vs.toArray nc) :: TO)))
    (h1 : @LT.lt Nat _ nl du) (hT : ∀ p ∈ TO, p.1 ≠ nl) :
    Kept [nl] h h' ∧ Holds h' ((du, listOf vals.toArray c) :: (nl, listOf vs.toArray nc) :: TO) ∧ h.get? du = none ∧ (∀ p ∈ TO, h.get? p.1 = none) := by
  have mem : ∀ p ∈ (nl, listOf vs.toArray nc) :: TO, p ∈ pre ++ dLed du wt vals c top low cw ((nl, listOf vs.toArray nc) :: TO) := fun p hp => List.mem_append_right _ (.tail _ (.tail _ (.tail _ (List.mem_append_right _ hp))))
  have fresh : ∀ {a : Addr}, g.get? a = none → a ≠ nl → h.get? a = none := fun {a} hn hne => by
    cases q : h.get? a with
    | none => rfl
    | some o => rw [eg, hideAll_get _ q (by simpa using hne)] at hn; cases hn
  refine ⟨kept_of eg F, fun p hp => (N p ?_).1, fresh (N (du, listOf vals.toArray c) (List.mem_append_right _ (.head _))).2.2 (Nat.ne_of_gt h1), fun p hp => fresh (N p (mem p (.tail _ hp))).2.2 (hT p hp)⟩
  rcases List.mem_cons.mp hp with rfl | hp
  · exact List.mem_append_right _ (.head _)
  · exact mem p hp
theorem push_off {du wt l : Addr} {vals : List Value} {c cw : Nat} {top : WL} {low : List WL} {TO pre : List (Addr × Obj)} (h : ∀ p ∈ pre ++ dLed du wt vals c top low cw TO, p.1 ≠ l) : l ∉ du :: wt :: top.a :: low.map (·.a) := by
  intro q
  simp only [List.mem_cons, List.mem_map] at q
  rcases q with q | q | q | ⟨u, hu, q⟩
  · exact h _ (List.mem_append_right _ (.head _)) q.symm
  · exact h _ (List.mem_append_right _ (.tail _ (.head _))) q.symm
  · exact h _ (List.mem_append_right _ (.tail _ (.tail _ (.head _)))) q.symm
  · exact h (u.a, listOf u.vals.toArray u.c) (List.mem_append_right _ (.tail _ (.tail _ (.tail _ (List.mem_append_left _ (List.mem_map_of_mem hu)))))) q
theorem ys_eq (xs : List Int) : xs ++ (List.replicate (Int.toNat 99) [0]).flatten = xs ++ List.replicate 99 (0 : Int) := by
  have : (List.replicate (Int.toNat 99) [(0 : Int)]).flatten = List.replicate 99 0 := by decide
  rw [this]
theorem ended_at {f : Int → List Nat} {e : Dat} {xs : List Int} {q i : Nat} {st st0 : SD} (hst : st = runD f e 0 ((xs ++ List.replicate q 0).take i) st0) (h : ended st.out = true) : st = runD f e 0 (xs ++ List.replicate q 0) st0 := by
  subst hst
  exact (runD_drop st0 h).symm
theorem tup0 {prog : Program} {w : World} {A : Around} {E : Value → Shared → Prop} {s : Shared} {h₀ : Heap} {L T : Addr} {news : List (Addr × Obj)} {Q : Value → Shared → Prop} {x y : Value} {u : Tok} {value slice : Expr} (N : News h₀ L s.heap news) (hm : (T, ({ cls := .type "tuple", data := .seq #[x, y] } : Obj)) ∈ news) (h : Q x s)
    (hs : subscripted slice false (.ref T) (.int 0 u) = operate [.ref T, .int 0 u] (getItem (.ref T) (.int 0 u)) := by with_unfolding_all rfl) : wpAny (model prog w) A (subscriptTail value slice (.ref T) (.int 0 u)) Q E s :=
  item_tupleT (l := [x, y]) (j := 0) (x := x) (isTup_of' N hm) (by decide) (by decide) (by rfl) rfl h hs
theorem lt200 {xs : List Int} {i : Nat} {x : Int} (h : (xs ++ List.replicate 99 (0 : Int))[i]? = some x) (hx : xs.length ≤ 10) : i < 200 := by
  have := (List.getElem?_eq_some_iff.mp h).1
  simp only [List.length_append, List.length_replicate] at this
  omega
theorem st_ex (n : Int) (ys : List Int) : ∃ st, st = runD lett (eD n) 0 ys (S0 n) := ⟨_, rfl⟩
/-- A value made apart. -/
theorem cut_new {prog : Program} {w : World} {A : Around} {E : Value → Shared → Prop} {s : Shared} {Q : Value → Shared → Prop} {e : Sem Value} {h₀ : Heap} {L wt du : Addr} {m : Str → Option Value} {news : List (Addr × Obj)} (ys : List Int) (F : Fr h₀ L s.heap m) (N : News h₀ L s.heap news) (hd : @LT.lt Nat _ wt du)
    (h1 : wpAny (model prog w) A e (fun v s' => Stop (∃ h' tk, s' = { s with heap := h', toks := tk } ∧ ∃ yl ws, v = .ref yl ∧ IntsAre ws ys ∧ Fr h₀ L h' m ∧ News h₀ L h' ((yl, listOf ws.toArray 0) :: news) ∧ @LT.lt Nat _ du yl)) E s)
    (h2 : ∀ yl ws h' tk, IntsAre ws ys → Fr h₀ L h' m → News h₀ L h' ((yl, listOf ws.toArray 0) :: news) → @LT.lt Nat _ du yl → Q (.ref yl) { s with heap := h', toks := tk }) : wpAny (model prog w) A e Q E s :=
  wpAny_mono h1 (fun v s' hp => by obtain ⟨h', tk, rfl, yl, ws, rfl, a, b, c, d⟩ := hp.out; exact h2 yl ws h' tk a b c d) fun _ _ e => e
theorem news_first {h₀ h : Heap} {L : Addr} {a b c d : Addr × Obj} {news : List (Addr × Obj)} (N : News h₀ L h (a :: b :: c :: d :: news)) : News h₀ L h (a :: news) := fun p hp => by
  rcases List.mem_cons.mp hp with rfl | hp
  · exact N _ (.head _)
  · exact N _ (.tail _ (.tail _ (.tail _ (.tail _ hp))))
theorem wtV_len (top : WL) (low : List WL) : (wtV top low).length = low.length + 1 := by simp [wtV]
/-- What holds as the empty lists leave. -/
noncomputable def WSt (du wt en nl : Addr) (lo : Obj) (pre : List (Addr × Obj)) (M : Str → Option Value) (vals : List Value) (c : Nat) (TO : List (Addr × Obj)) (e0 : Dat) (tp : List Dat) (lw : List (List Dat)) (b q : Nat) (m : Str → Option Value) (nw : List (Addr × Obj)) : Prop :=
  ∃ top low cw, q = low.length ∧ m = mD wt du en M ∧ nw = pre ++ dLed du wt vals c top low cw ((nl, lo) :: TO) ∧ DOk du wt top low ((nl, lo) :: TO) ∧ low.length ≤ b ∧ getD e0 top.ds (low.map (·.ds)) = getD e0 tp lw ∧ ∀ u ∈ top :: low, DatAll TO u.vals u.ds ∧ u.ds.length ≤ 8 ∧ ∀ d ∈ u.ds, Told d
theorem wst_told {TO : List (Addr × Obj)} {st : SD} {top : WL} {low : List WL} (h1 : st.top = top.ds) (h2 : st.low = low.map (·.ds)) (h3 : ∀ u ∈ top :: low, DatAll TO u.vals u.ds ∧ u.ds.length ≤ 8) (h4 : AllTold st) : ∀ u ∈ top :: low, DatAll TO u.vals u.ds ∧ u.ds.length ≤ 8 ∧ ∀ d ∈ u.ds, Told d := by
  intro u hu
  refine ⟨(h3 u hu).1, (h3 u hu).2, ?_⟩
  rcases List.mem_cons.mp hu with rfl | hu
  · exact h1 ▸ h4.top
  · exact h4.low u.ds (h2 ▸ List.mem_map_of_mem hu)
theorem sub6 {pre : List (Addr × Obj)} {du wt nl : Addr} {lo : Obj} {vals : List Value} {c cw : Nat} {top : WL} {low : List WL} {TO : List (Addr × Obj)} : ∀ p ∈ TO, p ∈ pre ++ dLed du wt vals c top low cw ((nl, lo) :: TO) := fun p h => List.mem_append_right _ (.tail _ (.tail _ (.tail _ (List.mem_append_right _ (.tail _ h)))))
theorem datAll_cons {TO : List (Addr × Obj)} {vals : List Value} {d : Dat} {ds : List Dat} (h : DatAll TO vals (d :: ds)) : ∃ v vs, vals = v :: vs ∧ DatIn TO v d ∧ DatAll TO vs ds := by
  cases h with
  | cons a b => exact ⟨_, _, rfl, a, b⟩
theorem bq_false {top : WL} {low : List WL} (h : (decide (low ≠ []) && decide (top.ds = [])) = false) (hd : top.ds = []) : low = [] := by
  rw [decide_eq_true hd, Bool.and_true] at h
  exact Decidable.not_not.mp (of_decide_eq_false h)
theorem bq_true {top : WL} {low : List WL} (h : (decide (low ≠ []) && decide (top.ds = [])) = true) : top.ds = [] ∧ ∃ t l, low = t :: l := by
  simp only [Bool.and_eq_true, decide_eq_true_eq] at h
  refine ⟨h.2, ?_⟩
  cases low with
  | nil => exact absurd rfl h.1
  | cons t l => exact ⟨t, l, rfl⟩
theorem getD_cons (e d : Dat) (ds : List Dat) (low : List (List Dat)) : getD e (d :: ds) low = (d, ds, low) := by cases low <;> rfl
theorem rd_of {e0 : Dat} {st : SD} {tp : List Dat} {lw : List (List Dat)} {d : Dat} {t : List Dat} {l : List (List Dat)} (h : getD e0 tp lw = getD e0 st.top st.low) (h2 : getD e0 tp lw = (d, t, l)) : rd e0 st = ⟨t, l, st.out ++ [d]⟩ := by
  unfold rd; rw [← h, h2]
/-- The facts behind a push. -/
theorem push_facts {du wt nl l3 : Addr} {lo : Obj} {pre : List (Addr × Obj)} {vals vals3 : List Value} {c cw c3 : Nat} {top : WL} {low : List WL} {TO TO3 : List (Addr × Obj)} {ds3 : List Dat} {e3 T3 : Addr} (ok : DOk du wt top low ((nl, lo) :: TO))
    (p3 : ∀ p ∈ pre ++ dLed du wt vals c top low cw ((nl, lo) :: TO), p.1 ≠ l3 ∧ p.1 ≠ e3 ∧ p.1 ≠ T3) (p4 : ∀ p ∈ TO3, p.1 ≠ l3 ∧ p.2.cls = .type "list") (p5 : ∀ p ∈ TO3, ∀ q ∈ pre ++ dLed du wt vals c top low cw ((nl, lo) :: TO), p.1 ≠ q.1) :
    DOk du wt ⟨l3, vals3, c3, ds3⟩ (top :: low) (((nl, lo) :: TO) ++ TO3) ∧ l3 ≠ wt ∧ (∀ p ∈ TO3, p.1 ≠ wt) ∧ ∀ p ∈ TO3, p.1 ≠ nl := by
  have hw : (wt, listOf (wtV top low).toArray cw) ∈ pre ++ dLed du wt vals c top low cw ((nl, lo) :: TO) := List.mem_append_right _ (.tail _ (.head _))
  have hn : ∀ p ∈ (nl, lo) :: TO, p ∈ pre ++ dLed du wt vals c top low cw ((nl, lo) :: TO) := fun p hp => List.mem_append_right _ (.tail _ (.tail _ (.tail _ (List.mem_append_right _ hp))))
  refine ⟨ok.push (t := ⟨l3, vals3, c3, ds3⟩) (push_off fun p hp => (p3 p hp).1) (fun p hp => (p3 p (hn p hp)).1) p4 fun p hp => push_off fun q hq => (p5 p hp q hq).symm, fun e => (p3 _ hw).1 e.symm, fun p hp => p5 p hp _ hw, fun p hp => p5 p hp _ (hn _ (.head _))⟩
end
section
open PySem PySem.W PySem.Calls PyProof.Rows
theorem reg_S17_1 : True := by
  k_with_none
  (k_with "S enter!" => (
  case ho => k_is
  case hcd => k_is
  case hroom => (first | exact room1 (by assumption) (by decide) | omega | (show _ < _; (try dsimp only); omega))
  case hbind => first | exact BindsTo.of_eq rfl | exact binds_K (by assumption) rfl (by k_is) rfl rfl rfl
  case hloc => exact locs rfl
  case c2 => rfl
  case c3 => rfl
  case c4 => rfl
  case c5 => decide))
  (k_with "S end!" => ((try dsimp only); repeat (k_unfold; (try dsimp only))))
  (k_with "execs cons!" => ((with_reducible show wpAny _ _ (execs (Stmt.For _ _ _ _ _ :: _) _) _ _ _); (refine Stop.out ?_)))
  (k_with "execs cons!" => ((with_reducible show wpAny _ _ (execs (Stmt.While _ _ _ _ :: _) _) _ _ _); (refine Stop.out ?_)))
  (k_with "call type:enumerate!" => (refine Stop.out ?_))
  (k_with "call ref!" => (k_here; k_dflt (show wpAny _ _ (call (Value.ref 765) [Value.int _ _, Value.str _ _]) _ _ _); (refine Stop.out ?_)))
  (k_with "isTrue BoolOp!" => ((with_reducible show wpAny _ _ (isTrue (Expr.BoolOp _ (_ :: _ :: _) _) _ _) _ _ _); (refine Stop.out ?_)))
  (k_with "call builtin:list.append!" => (refine Stop.out ?_))
  (k_with "call builtin:list.pop!" => (refine Stop.out ?_))
  (k_with "call builtin:len!" => (refine Stop.out ?_))
  (k_with "compareOp Gt int int!" => (refine Stop.out ?_))
  (k_with "compareOp NotEq ref ref!" => (refine Stop.out ?_))
  (k_with "compareOp Eq ref ref!" => (refine Stop.out ?_))
  (k_with "subscriptTail!" => (refine Stop.out ?_))
  (k_with "eval BinOp!" => ((with_reducible show wpAny _ _ (eval (Expr.BinOp (Expr.Call _ _ _ _) _ _ _) _) _ _ _); (refine Stop.out ?_)))
  (k_with "eval IfExp!" => (refine Stop.out ?_))
  (k_with "call type:str!" => (refine name_K (by assumption) ?_; intro _ _))
  (k_with "unpackItems ref!" => (k_here; k_dflt (refine' unpackItemsN_ ?k1 ?k2 (isTup_of' ?kN2 ?km) ?k4 ?k5 ?_; (case k1 => k_asm); (case k2 => k_asm); (case kN2 => k_asm); (case km => k_mem); (case k4 => assumption); (case k5 => exact rfl); k_whole); intro zh' zF' zN'; (try k_sweep)))
  (k_with "assign Tuple!" => (k_here; k_dflt (refine' unpackN_ ?kF ?kN (isTup_of' ?kN2 ?km) ?kh ?kn ?ks ?_; (case kF => k_asm); (case kN => k_asm); (case kN2 => k_asm); (case km => k_mem); (case kh => assumption); (case kn => exact rfl); (case ks => exact rfl); k_whole; intro zh' zF' zN'; (try k_sweep))))
  (k_with "assign Tuple!" => (k_here; k_dflt (refine' unpackN_ ?kF ?kN ?kt ?kh ?kn ?ks ?_; (case kF => k_asm); (case kN => k_asm); (case kt => with_reducible assumption); (case kh => assumption); (case kn => exact rfl); (case ks => exact rfl); k_whole; intro zh' zF' zN'; (try k_sweep))))
  trivial
section
variable {w : World} {A : Around} {outer : List Env} {s : Shared} {base : Heap} {mean : ExcName → Option Value} {mg mb : Str → Option Value} {R : Result → Shared → Prop} {t : Tok} {n : Int} {nl : Addr} {vs : List Value} {xs : List Int} {nc : Nat}
set_option maxHeartbeats 3000000 in
theorem due_spec
    (G : Gr w mean mg mb base) (O : Out A outer base s.heap [nl]) (H : Holds s.heap [(nl, listOf vs.toArray nc)]) (hdep : A.depth + 300 < recursionLimit) (hh0 : A.handled = none) (hu : A.units + 100 < cLine) (hvs : IntsAre vs xs) (hxl : xs.length ≤ 10) 
    (k : ∀ h' tk l vals c TO j, Kept [nl] s.heap h' → Holds h' ((l, listOf vals.toArray c) :: (nl, listOf vs.toArray nc) :: TO) → s.heap.get? l = none → (∀ p ∈ TO, s.heap.get? p.1 = none) → DatAll TO vals (runD lett (eD n) 0 (xs ++ List.replicate j 0) (S0 n)).out →
      ended (runD lett (eD n) 0 (xs ++ List.replicate j 0) (S0 n)).out = true → R (.ok (.ret (.ref l))) { s with heap := h', toks := tk }) :
    codeAny (model PySem.Challenge.rw_ny0282_01.row.prog w) A (.call (.ref 772) ⟨[.int n t, .ref nl], []⟩) R s := by
  obtain ⟨ahd, adp, afr, agd, aun⟩ := A
  have eH : ahd = none := hh0
  have eA : afr = some outer := O.stack
  subst eA
  have hdep2 := hdep
  dsimp only at hdep2
  have hu2 : aun + 3 + 64 < cLine := by dsimp only at hu; omega
  w_on
  w_top on
  have Xs := (G.keeps O.stays).X
  refine' call_S (news := [(nl, listOf vs.toArray nc)]) (binds := [(Str.ofString "first", .int n t), (Str.ofString "numbers", .ref nl)]) G O H ?ho ?hcd ?hroom ?hbind ?hloc ?_ ?c2 ?c3 ?c4 ?c5
  walk_at "S enter"
  clear Xs
  intro g L' h₁ eg F N B G' lt
  obtain ⟨T', GL', ⟨bm1, bm2, M'⟩, X'⟩ := G'
  clear lt
  try dsimp only
  (try generalize s.toks + _ = tk0)
  try k_fold
  k_steps
  refine Stop.mk ?_
  (try dsimp only)
  (rename Fr _ _ _ _ => lF')
  (rename News _ _ _ _ => lN')
  refine words_K (xn := Str.ofString "0") (by assumption) (by assumption) lF' lN' rfl rfl rfl (by k_room) (by assumption) (by decide +kernel) ?_
  intro h2 tk2 T l e vals c TO t' F2 N2 q1 q2 q3 q4 q5 qD
  clear lF' lN'
  have q3' := q3 _ (.head _)
  have q5' := fun p hp => q5 p hp _ (.head _)
  dsimp only at q3' q5'
  clear q3 q5
  simp only [List.cons_append, List.nil_append] at N2
  k_steps
  refine Stop.mk ?_
  (try dsimp only)
  refine wpAny_execs_cons ?_
  (rename Fr _ _ _ _ => lF')
  (with_unfolding_all refine' For_turns lF' ?_)
  (rename _ ∧ _ ∧ _ ∧ _ ∧ AllLt _ TO => l9)
  (rename _ ∧ _ ∧ _ ∧ _ ∧ _ ∧ AllLt _ TO => l10)
  have l11 := l10.1
  k_steps
  refine Stop.mk ?_
  (try dsimp only)
  (rename News _ _ _ _ => lN')
  refine cut_new (xs ++ List.replicate 99 0) lF' lN' l11 ?_ ?_
  · refine wpAny_BinOp ?_
    k_steps
    (rename IntsAre _ (_ ++ _) => hys)
    rw [ys_eq] at hys
    (rename News _ _ _ _ => lN2)
    exact Stop.mk ⟨_, _, rfl, _, _, rfl, hys, by assumption, news_first lN2, by omega⟩
  intro yl ws h' tk' hys F' N' l12
  clear lF' lN'
  k_steps
  refine Stop.mk ?_
  (try dsimp only)
  (rename Fr _ _ _ _ => lF')
  (rename News _ _ _ _ => lN')
  refine Exists.elim (start_due (x0 := Str.ofString "0") (q := rowsL (lett n)) (ds := tellW (Str.ofString "0") (wordsL (lett n))) lF' lN' ?qa ?qb ?qc ?qd ?qe ?qf ?qg q3'.1 q1 ?qh q3'.2.1 l9.2.2.2.2 q4 q5' rfl rfl qD ?qi) ?_
  case qa => exact rfl
  case qb => exact rfl
  case qc => exact rfl
  case qd => omega
  case qe => omega
  case qf => omega
  case qg => omega
  case qh => omega
  case qi => rw [tellW_len]; exact wl8 n
  clear lN'
  intro nw0 hq
  obtain ⟨⟨N0, hnt⟩, hI0⟩ := hq
  have hyl := IntsAre.length hys
  refine enum_IG (fun i m nw => DSt (eD n) _ _ _ nl _ (listOf vs.toArray nc) (listOf _ 0) i i (runD lett (eD n) 0 ((xs ++ List.replicate 99 0).take i) (S0 n)) m nw) (by assumption) lF' N0 (dst_keep hI0) rfl rfl hI0 (fun i m nw h => dst_keep h) ?_ ?_
  · clear lF' N0 hI0
    intro I i v m' nw T t h tk oE oI hv hInv hT cE cI F N Q1 E1 hQ hE1 hPO
    have hX := ints_get hys hv
    obtain ⟨x, tx, rfl, hx⟩ := hX
    have hat := at_told n ((xs ++ List.replicate 99 0).take i) 0
    have hrt := runD_take (f := lett) (e := eD n) (S0 n) hx
    have hi200 := lt200 hx hxl
    have hsx := st_ex n ((xs ++ List.replicate 99 0).take i)
    obtain ⟨st, hst⟩ := hsx
    rw [← hst] at hat hrt hInv
    obtain ⟨u, vals, c, cw, TO, top, low, rfl, rfl, ok, hy, hen', hnl, hD, hv1, hl1, hE⟩ := hInv
    have hok := hat.out
    k_steps
    refine Stop.mk ?_
    (try dsimp only)
    (rename Fr _ _ _ _ => lF')
    (rename News _ _ _ _ => lN')
    refine cut_B (ended st.out) lF' lN' ?_ ?_
    · have hlc := last_cases hD hok
      rcases hlc with ⟨e1, e2, e3⟩ | ⟨vi, e, x1, y1, ty, n2, e2, hm2, e3, e4⟩
      · have hb : (!decide (st.out = [])) = false := by rw [e1]; rfl
        refine isTrue_and ?_
        k_steps
        refine Stop.mk ?_
        (try dsimp only)
        (rename News _ _ _ _ => lN2)
        refine told_ne lN2 (.tail _ (.tail _ (.head _))) hD sub5 hok false hb (by exact hu2) ?_
        k_steps
        exact Stop.mk ⟨_, _, e3.symm, rfl, by assumption, news_tail (by assumption)⟩
      · have hb : (!decide (st.out = [])) = true := by rw [decide_eq_false e4]; rfl
        refine isTrue_and ?_
        k_steps
        refine Stop.mk ?_
        (try dsimp only)
        (rename News _ _ _ _ => lN2)
        refine told_ne lN2 (.tail _ (.tail _ (.head _))) hD sub5 hok true hb (by exact hu2) ?_
        k_steps
        refine Stop.mk ?_
        (try dsimp only)
        refine told_last lN2 (.tail _ (.tail _ (.tail _ (.head _)))) e2 ?_ (by with_unfolding_all rfl) (by intro _; with_unfolding_all rfl)
        k_steps
        refine Stop.mk ?_
        (try dsimp only)
        refine told_first lN2 (.tail _ (sub5 _ hm2)) ?_ (by with_unfolding_all rfl)
        rcases e3 with ⟨rfl, hen⟩ | ⟨⟨q, tq, rfl⟩, hen⟩
        · k_steps
          exact Stop.mk ⟨_, _, hen.symm, rfl, by assumption, news_tail (by assumption)⟩
        · k_steps
          exact Stop.mk ⟨_, _, hen.symm, rfl, by assumption, news_tail (by assumption)⟩
    · intro h' tk' F' N'
      clear lF' lN'
      cases hen : ended st.out with
      | true =>
        have hea := ended_at hst hen
        k_steps
        refine hQ _ _ ?_
        dsimp only [UnrPostW]
        k_steps
        all_goals walk_at "S end"
        (rename Fr _ _ _ _ => lF')
        (rename News _ _ _ _ => lN')
        have hre := due_end (pre := [_, _]) eg lF' lN' hnt hnl
        rw [hea] at hD hen
        exact k _ _ _ _ _ _ 99 hre.1 hre.2.1 hre.2.2.1 hre.2.2.2 hD hen
      | false =>
        obtain ⟨hs1, hs2, hs3⟩ := hE hen
        k_steps
        · refine Stop.mk ?_
          (try dsimp only)
          (rename Fr _ _ _ _ => lF')
          (rename News _ _ _ _ => lNB)
          refine words_K (xn := nameK i) (by assumption) (by assumption) lF' lNB rfl rfl rfl (by k_room) (by assumption) (nameK_len i hi200) ?_
          intro h3 tk3 T3 l3 e3 vals3 c3 TO3 t3 F3 N3 p1 p2 p3 p4 p5 pD
          clear lF'
          have hpf := push_facts (pre := [(I + 1, oE), (I, oI)]) (vals3 := vals3) (c3 := c3) (ds3 := tellW (nameK i) (wordsL (lett (x.fdiv 3)))) ok p3 p4 p5
          obtain ⟨g1, g2, g3, g4⟩ := hpf
          clear p3 p4 p5
          k_steps
          refine Stop.mk ?_
          (try dsimp only)
          (rename News _ _ _ _ => lN')
          refine tup0 lN' (.head _) ?_ (by with_unfolding_all rfl)
          k_steps
          refine Stop.mk ?_
          (try dsimp only)
          (rename Fr _ _ _ _ => lF')
          (rename News _ _ _ _ => lN')
          refine app_S (vals := wtV top low) (n := cw) lF' lN' (.tail _ (.tail _ (.tail _ (List.mem_append_left _ (.tail _ (.tail _ (.tail _ (.head _)))))))) (by rw [wtV_len]; omega) ?_
          intro h4 F4 T4
          have N4 := wt_push (pre := [(I + 1, oE), (I, oI)]) (t := ⟨l3, vals3, c3, tellW (nameK i) (wordsL (lett (x.fdiv 3)))⟩) (TO' := TO3) ok lNB (pre_cls cE cI) g2 g3 (.tail _ (.tail _ (.head _))) (fun p hp => .tail _ (.tail _ (.tail _ (List.mem_append_left TO3 hp)))) (fun p hp => .tail _ (.tail _ (.tail _ (List.mem_append_right _ hp)))) T4
          clear lF' lN' lNB T4
          k_steps
          refine hQ _ _ ?_
          dsimp only [UnrPostW]
          (try dsimp only)
          (rename Fr _ _ _ _ => lF')
          (rename News _ _ _ _ => lN')
          (rename @Eq Int _ 1 => hx1)
          rw [hrt, step_push hen hx1]
          refine dturn_end (TO := TO ++ TO3) lF' lN' rfl rfl rfl cE cI g1 (List.mem_append_left _ hy) (hen'.mono fun p hp => List.mem_append_left _ hp) ?_ (hD.mono fun p hp => List.mem_append_left _ hp) (by omega) (by simp only [List.length_cons]; omega) fun _ => ⟨rfl, by rw [hs1, hs2]; rfl, ?_⟩
          · intro p hp
            rcases List.mem_append.mp hp with hp | hp
            · exact hnl p hp
            · exact g4 p hp
          · intro u hu
            rcases List.mem_cons.mp hu with rfl | hu
            · exact ⟨pD.mono fun p hp => List.mem_append_right _ hp, by rw [tellW_len]; exact wl8 _⟩
            · exact ⟨(hs3 u hu).1.mono fun p hp => List.mem_append_left _ hp, (hs3 u hu).2⟩
        · refine Stop.mk ?_
          (try dsimp only)
          refine wpAny_execs_cons ?_
          (rename Fr _ _ _ _ => lF')
          (rename News _ _ _ _ => lN')
          (rename ¬ @Eq Int _ 1 => hx1)
          have hMx := mD_fr lF' rfl rfl rfl
          obtain ⟨M, hMF⟩ := hMx
          refine While_inv2G (hE := hPO) (WSt _ _ _ nl (listOf vs.toArray nc) [(I + 1, oE), (I, oI)] M vals c TO (eD n) st.top st.low low.length) hMF lN' ⟨top, low, cw, rfl, rfl, rfl, ok, Nat.le_refl _, by rw [hs1, hs2], wst_told hs1 hs2 hs3 hat⟩ ?_
          clear lF' lN' hMF ok hs3 hs1 hs2
          rintro q m1 nw1 h1 tk1 F1 N1 ⟨top2, low2, cw2, rfl, rfl, rfl, ok2, hb2, hg2, hw2⟩ Q3 Q4 E3 hQ3 hQ4 hE3 hPO3
          have hwl := wtV_len top2 low2
          have ht2 := hw2 top2 (.head _)
          refine cut_B (decide (low2 ≠ []) && decide (top2.ds = [])) F1 N1 ?_ ?_
          · refine isTrue_and ?_
            k_steps
            refine Stop.mk ?_
            (try dsimp only)
            refine len_S (vals := wtV top2 low2) (n := cw2) N1 (List.mem_append_right _ (.tail _ (.head _))) (by omega) ?_
            k_steps
            refine Stop.mk ?_
            (try dsimp only)
            cases low2 with
            | nil =>
              refine gt_by false (by rw [hwl]; rfl) ?_
              k_steps
              exact Stop.mk ⟨_, _, rfl, rfl, by assumption, by assumption⟩
            | cons t3 low3 =>
              refine gt_by true (by rw [hwl]; simp only [List.length_cons, decide_eq_true_eq]; omega) ?_
              k_steps
              refine Stop.mk ?_
              (try dsimp only)
              (rename News _ _ _ _ => lN')
              refine told_last (vals := wtV top2 (t3 :: low3)) (c := cw2) lN' (List.mem_append_right _ (.tail _ (.head _))) rfl ?_ (by with_unfolding_all rfl) (by intro _; with_unfolding_all rfl)
              k_steps
              refine Stop.mk ?_
              (try dsimp only)
              (rename News _ _ _ _ => lN2)
              cases hz : decide (top2.ds = []) with
              | true =>
                refine told_eq (vals := top2.vals) (c := top2.c) lN2 (List.mem_append_right _ (.tail _ (.tail _ (.head _)))) ht2.1 sub6 ht2.2.2 true hz (by exact hu2) ?_
                k_steps
                exact Stop.mk ⟨_, _, rfl, rfl, by assumption, news_tail (by assumption)⟩
              | false =>
                refine told_eq (vals := top2.vals) (c := top2.c) lN2 (List.mem_append_right _ (.tail _ (.tail _ (.head _)))) ht2.1 sub6 ht2.2.2 false hz (by exact hu2) ?_
                k_steps
                exact Stop.mk ⟨_, _, rfl, rfl, by assumption, news_tail (by assumption)⟩
          · intro h' tk' F' N'
            clear F1 N1
            cases hq : (decide (low2 ≠ []) && decide (top2.ds = [])) with
            | true =>
              have hqq := bq_true hq
              obtain ⟨hd, t3, low3, rfl⟩ := hqq
              simp only [if_true]
              k_steps
              refine Stop.mk ?_
              (try dsimp only)
              (rename Fr _ _ _ _ => lF')
              (rename News _ _ _ _ => lN')
              refine pop_S (vals := wtV top2 (t3 :: low3)) (n := cw2) (vi := wtV t3 low3) lF' lN' (List.mem_append_right _ (.tail _ (.head _))) (by rw [wtV_push]) (by omega) ?_
              intro h2 F2 T2
              have N2 := wt_pop ok2 lN' (pre_cls cE cI) T2
              clear lF' lN' T2
              k_steps
              refine hQ3 _ _ ?_
              (try dsimp only)
              (rename Fr _ _ _ _ => lF')
              refine ⟨_, _, _, _, low3.length, rfl, lF', N2, Nat.lt_succ_self _, t3, low3, cw2 + 1, rfl, rfl, rfl, ok2.pop, Nat.le_trans (Nat.le_succ _) hb2, ?_, fun u hu => hw2 u (.tail _ hu)⟩
              rw [← hg2, hd]; rfl
            | false =>
              simp only [Bool.false_eq_true, if_false]
              refine hQ4 _ ?_
              (try dsimp only)
              k_steps
              refine Stop.mk ?_
              (try dsimp only)
              refine wpAny_IfExp ?_
              cases hd : top2.ds with
              | nil =>
                have hl := bq_false hq hd
                subst hl
                rw [hd] at hg2
                have hrd := rd_of (e0 := eD n) hg2 rfl
                k_steps
                refine Stop.mk ?_
                (try dsimp only)
                (rename News _ _ _ _ => lN2)
                refine told_ne (vals := top2.vals) (c := top2.c) lN2 (List.mem_append_right _ (.tail _ (.tail _ (.head _)))) ht2.1 sub6 ht2.2.2 false (by rw [hd]; rfl) (by exact hu2) ?_
                k_steps
                refine Stop.mk ?_
                (try dsimp only)
                (rename Fr _ _ _ _ => lF')
                (rename News _ _ _ _ => lN')
                refine app_S (vals := vals) (n := c) lF' (news_tail lN') (List.mem_append_right _ (.head _)) (by omega) ?_
                intro h4 F4 T4
                have N4 := due_app ok2 (news_tail lN') (pre_cls cE cI) T4
                clear lF' lN' T4
                k_steps
                refine hQ _ _ ?_
                dsimp only [UnrPostW]
                (try dsimp only)
                (rename Fr _ _ _ _ => lF')
                (rename News _ _ _ _ => lN')
                rw [hrt, step_rd hen hx1, hrd]
                refine dturn_end lF' lN' rfl rfl rfl cE cI ok2 hy hen' hnl (hD.append (.one hen')) (by simp only [List.length_append, List.length_cons, List.length_nil]; omega) (Nat.zero_le _) fun hz => ?_
                exact absurd ((ended_snoc st.out _ _).symm.trans hz) (by decide)
              | cons d ds =>
                rw [hd] at hg2
                have hrd := rd_of (e0 := eD n) hg2 (getD_cons _ _ _ _)
                have hdc := ht2.1
                rw [hd] at hdc
                have hdv := datAll_cons hdc
                obtain ⟨v, vs2, hv2, hv3, hv4⟩ := hdv
                k_steps
                refine Stop.mk ?_
                (try dsimp only)
                (rename News _ _ _ _ => lN')
                refine told_last (vals := wtV top2 low2) (c := cw2) lN' (List.mem_append_right _ (.tail _ (.head _))) rfl ?_ (by with_unfolding_all rfl) (by intro _; with_unfolding_all rfl)
                k_steps
                refine Stop.mk ?_
                (try dsimp only)
                (rename News _ _ _ _ => lN2)
                refine told_ne (vals := top2.vals) (c := top2.c) lN2 (List.mem_append_right _ (.tail _ (.tail _ (.head _)))) ht2.1 sub6 ht2.2.2 true (by rw [hd]; rfl) (by exact hu2) ?_
                k_steps
                refine Stop.mk ?_
                (try dsimp only)
                refine told_last (vals := wtV top2 low2) (c := cw2) (news_tail lN2) (List.mem_append_right _ (.tail _ (.head _))) rfl ?_ (by with_unfolding_all rfl) (by intro _; with_unfolding_all rfl)
                k_steps
                refine Stop.mk ?_
                (try dsimp only)
                (rename Fr _ _ _ _ => lF')
                have hlen : top2.vals.length ≤ 100000 := by
                  have a1 := ht2.1.length
                  have a2 := ht2.2.1
                  omega
                refine pop0_S (vals := top2.vals) (n := top2.c) (q := vs2) lF' (news_tail lN2) (List.mem_append_right _ (.tail _ (.tail _ (.head _)))) hv2 hlen ?_
                intro h2 F2 T2
                have N2 := top_pop (ds := ds) ok2 (news_tail lN2) (pre_cls cE cI) T2
                clear lF' lN2 T2
                k_steps
                refine Stop.mk ?_
                (try dsimp only)
                (rename Fr _ _ _ _ => lF')
                (rename News _ _ _ _ => lN')
                refine app_S (vals := vals) (n := c) lF' lN' (List.mem_append_right _ (.head _)) (by omega) ?_
                intro h4 F4 T4
                have N4 := due_app ok2.set lN' (pre_cls cE cI) T4
                clear lF' lN' T4
                k_steps
                refine hQ _ _ ?_
                dsimp only [UnrPostW]
                (try dsimp only)
                (rename Fr _ _ _ _ => lF')
                (rename News _ _ _ _ => lN')
                rw [hrt, step_rd hen hx1, hrd]
                refine dturn_end lF' lN' rfl rfl rfl cE cI ok2.set hy hen' hnl (hD.append (.one hv3)) (by simp only [List.length_append, List.length_cons, List.length_nil]; omega) (by omega) fun hz => ⟨rfl, rfl, fun u hu => ?_⟩
                rcases List.mem_cons.mp hu with rfl | hu
                · have a2 := ht2.2.1
                  rw [hd] at a2
                  exact ⟨hv4, Nat.le_trans (Nat.le_succ _) a2⟩
                · exact ⟨(hw2 u (.tail _ hu)).1, (hw2 u (.tail _ hu)).2.1⟩
  · intro m' nw h tk hInv F N
    clear hI0 N0 lF'
    obtain ⟨u, vals, c, cw, TO, top, low, rfl, rfl, ok, hy, hen', hnl, hD, hv1, hl1, hE⟩ := hInv
    have hen : ended (runD lett (eD n) 0 (xs ++ List.replicate 99 0) (S0 n)).out = true := run_ends _ _ rfl wl8 hxl (S0 n) (mu0 n) 99 (by decide)
    have ht : (xs ++ List.replicate 99 (0 : Int)).take ws.length = xs ++ List.replicate 99 0 := by rw [hyl, List.take_length]
    rw [ht] at hD
    k_steps
    all_goals walk_at "S end"
    (rename Fr _ _ _ _ => lF')
    (rename News _ _ _ _ => lN')
    have hre := due_end (pre := []) eg lF' lN' hnt hnl
    exact k _ _ _ _ _ _ 99 hre.1 hre.2.1 hre.2.2.1 hre.2.2.2 hD hen
end
end
section
open PySem PySem.W PySem.Calls PyProof.Rows
/-- What both tell. -/
noncomputable def TellSpec (w : World) (mean : ExcName → Option Value) (mg mb : Str → Option Value) (f : Addr) : Prop :=
  ∀ {A : Around} {outer : List Env} {s : Shared} {base : Heap} {R : Result → Shared → Prop} {t : Tok} {n : Int} {nl : Addr} {vs : List Value} {xs : List Int} {nc : Nat},
    Gr w mean mg mb base → Out A outer base s.heap [nl] → Holds s.heap [(nl, listOf vs.toArray nc)] → A.depth + 300 < recursionLimit → A.handled = none → A.units + 100 < cLine → IntsAre vs xs → xs.length ≤ 10 →
    (∀ h' tk l vals c TO j, Kept [nl] s.heap h' → Holds h' ((l, listOf vals.toArray c) :: (nl, listOf vs.toArray nc) :: TO) → s.heap.get? l = none → (∀ p ∈ TO, s.heap.get? p.1 = none) → DatAll TO vals (runD lett (eD n) 0 (xs ++ List.replicate j 0) (S0 n)).out →
      ended (runD lett (eD n) 0 (xs ++ List.replicate j 0) (S0 n)).out = true → R (.ok (.ret (.ref l))) { s with heap := h', toks := tk }) →
    codeAny (model PySem.Challenge.rw_ny0282_01.row.prog w) A (.call (.ref f) ⟨[.int n t, .ref nl], []⟩) R s
section
variable {w : World} {A₀ A : Around} {env : Env} {outer : List Env} {s : Shared} {base h₀ : Heap} {mean : ExcName → Option Value} {mg mb m : Str → Option Value} {news : List (Addr × Obj)} {Q : Value → Shared → Prop} {E : Value → Shared → Prop} {L f nl : Addr} {t : Tok} {n : Int} {vs : List Value} {xs : List Int} {nc : Nat}
theorem tell_K (S : TellSpec w mean mg mb f) (B : Below A₀ base outer h₀) (G : Gr w mean mg mb base) (F : Fr h₀ L s.heap m) (N : News h₀ L s.heap news) (hA : A.frames = some (env :: outer)) (hf : env.frame = some L) (hke : env.scope.kind = .function)
    (hm : (nl, listOf vs.toArray nc) ∈ news) (hdep : A.depth + 300 < recursionLimit) (hh0 : A.handled = none) (hu : A.units + 100 < cLine) (hi : IntsAre vs xs) (hx : xs.length ≤ 10)
    (h : ∀ h' tk l vals c TO j, Fr h₀ L h' m → News h₀ L h' ((l, listOf vals.toArray c) :: (news ++ TO)) → DatAll TO vals (runD lett (eD n) 0 (xs ++ List.replicate j 0) (S0 n)).out → ended (runD lett (eD n) 0 (xs ++ List.replicate j 0) (S0 n)).out = true → Q (.ref l) { s with heap := h', toks := tk }) :
    wpAny (model PySem.Challenge.rw_ny0282_01.row.prog w) A (call (.ref f) [.int n t, .ref nl]) Q E s := by
  have hsub : ∀ p ∈ [(nl, listOf vs.toArray nc)], p ∈ news := fun p hp => by rw [List.mem_singleton.mp hp]; exact hm
  obtain ⟨O, H⟩ := out_of B F N hA hf hke hsub
  refine wpAny_call (S G O H hdep hh0 hu hi hx fun h' tk l vals c TO j kp hh g1 g2 D he => ?_)
  have kp' : Kept ([(nl, listOf vs.toArray nc)].map (·.1)) s.heap h' := kp
  refine h h' tk l vals c TO j (fr_kept F N hsub kp') (news_kept (post := (l, listOf vals.toArray c) :: (nl, listOf vs.toArray nc) :: TO) F N hsub kp' (fun p hp => ⟨hh p hp, ?_⟩) fun p hp => ?_) D he
  · simp only [List.mem_cons] at hp
    rcases hp with rfl | rfl | hp
    · exact .inr g1
    · exact .inl (.head _)
    · exact .inr (g2 p hp)
  · simp only [List.mem_cons, List.mem_append] at hp ⊢
    rcases hp with rfl | hp | hp
    · exact .inl (.inl rfl)
    · by_cases z : p.1 = nl
      · have a := (N p hp).1
        have b := (N _ hm).1
        rw [z, b] at a
        exact .inl (.inr (.inl (Prod.ext z (Option.some.inj a).symm)))
      · exact .inr ⟨hp, by simpa using z⟩
    · exact .inl (.inr (.inr hp))
theorem tell_same {xs : List Int} {i j : Nat} (hi : ended (runD lett (eD n) 0 (xs ++ List.replicate i 0) (S0 n)).out = true) (hj : ended (runD lett (eD n) 0 (xs ++ List.replicate j 0) (S0 n)).out = true) :
    (runD lett (eD n) 0 (xs ++ List.replicate i 0) (S0 n)).out = (runD lett (eD n) 0 (xs ++ List.replicate j 0) (S0 n)).out := by rw [run_same hi hj]
open Classical in
/-- The two lists told are equal. -/
theorem tell_eq {a b : Addr} {va vb : List Value} {ca cb i j : Nat} {TA TB : List (Addr × Obj)} (N : News h₀ L s.heap news) (ha : (a, listOf va.toArray ca) ∈ news) (hb : (b, listOf vb.toArray cb) ∈ news) (sa : ∀ p ∈ TA, p ∈ news) (sb : ∀ p ∈ TB, p ∈ news)
    (Da : DatAll TA va (runD lett (eD n) 0 (xs ++ List.replicate i 0) (S0 n)).out) (Db : DatAll TB vb (runD lett (eD n) 0 (xs ++ List.replicate j 0) (S0 n)).out) (ea : ended (runD lett (eD n) 0 (xs ++ List.replicate i 0) (S0 n)).out = true) (eb : ended (runD lett (eD n) 0 (xs ++ List.replicate j 0) (S0 n)).out = true)
    (hu : A.units + 64 < cLine) (h : Q (.bool true) s) : wpAny (model PySem.Challenge.rw_ny0282_01.row.prog w) A (compareOp .Eq (.ref a) (.ref b)) Q E s := by
  have e := tell_same ea eb
  have h1 := (at_told n (xs ++ List.replicate i 0) 0).out
  have h2 := (at_told n (xs ++ List.replicate j 0) 0).out
  exact kqd_eq N ha rfl rfl Da sa hb rfl rfl Db sb (fun d hd => told_ok (h1 d hd)) (fun d hd => told_ok (h2 d hd)) hu (by rw [decide_eq_true e]; exact h)
end
theorem tell_read {w : World} {mean : ExcName → Option Value} {mg mb : Str → Option Value} : TellSpec w mean mg mb 760 := fun G O H a b c d e k => lread_spec G O H a b c d e k
theorem tell_due {w : World} {mean : ExcName → Option Value} {mg mb : Str → Option Value} : TellSpec w mean mg mb 772 := fun G O H a b c d e k => due_spec G O H a b c d e k
theorem take5 (ns : List Int) : (ns.take 5 ++ [0, 4776568, 0, 4258117, 0]).length ≤ 10 := by
  simp only [List.length_append, List.length_take, List.length_cons, List.length_nil]; omega
end
section
open PySem PySem.W PySem.Calls PyProof.Rows
local macro_rules | `(tactic| k_qdec) => `(tactic| decide +kernel)
theorem reg_S18_1 : True := by
  k_with_none
  (k_with "call ref!" => (k_here; k_dflt (show wpAny _ _ (call (Value.ref 760) [_, _]) _ _ _); (refine Stop.out ?_)))
  (k_with "call ref!" => (k_here; k_dflt (show wpAny _ _ (call (Value.ref 772) [_, _]) _ _ _); (refine Stop.out ?_)))
  (k_with "compareOp Eq ref ref!" => (refine Stop.out ?_))
  trivial
set_option maxHeartbeats 8000000 in
theorem law_holds : PySem.Challenge.rw_ny0282_01.Holds := hd (by
  k_go0
  all_goals try k_fold
  k_steps
  refine Stop.mk ?_
  (try dsimp only)
  (rename Fr _ _ _ _ => lF')
  (rename News _ _ _ _ => lN')
  (rename Below _ _ _ _ => K9)
  (rename Top _ _ _ _ _ _ => T9)
  (rename Glob _ _ _ _ _ _ _ _ => GL9)
  (rename BMod _ _ _ _ _ => M9)
  (rename Frag.In _ _ => X9)
  have G9 : Gr _ _ _ _ _ := ⟨T9, GL9, ⟨_, _, M9⟩, X9⟩
  (rename IntsAre _ (_ ++ _) => hys)
  refine tell_K tell_read K9 G9 lF' lN' rfl rfl rfl (.head _) (by k_room) rfl (by exact Nat.le_of_ble_eq_true rfl) hys (take5 _) ?_
  intro h1 tk1 l1 vals1 c1 TO1 j1 F1 N1 D1 E1
  clear lF' lN'
  k_steps
  refine Stop.mk ?_
  (try dsimp only)
  (rename Fr _ _ _ _ => lF')
  (rename News _ _ _ _ => lN')
  refine tell_K tell_due K9 G9 lF' lN' rfl rfl rfl (.tail _ (.head _)) (by k_room) rfl (by exact Nat.le_of_ble_eq_true rfl) hys (take5 _) ?_
  intro h2 tk2 l2 vals2 c2 TO2 j2 F2 N2 D2 E2
  clear lF' lN'
  k_steps
  refine Stop.mk ?_
  (try dsimp only)
  (rename News _ _ _ _ => lN')
  refine tell_eq lN' (.tail _ (List.mem_append_left _ (.head _))) (.head _) (fun p hp => .tail _ (List.mem_append_left _ (.tail _ (List.mem_append_right _ hp)))) (fun p hp => .tail _ (List.mem_append_right _ hp)) D1 D2 E1 E2 (by exact Nat.le_of_ble_eq_true rfl) ?_
  k_steps
  all_goals (try k_data)
  all_goals w_report)
end
end Mine
set_option maxHeartbeats 8000000 in
theorem PySem.Challenge.cw_ny0282_01_holds : PySem.Challenge.rw_ny0282_01.Holds := by
  exact Mine.law_holds
