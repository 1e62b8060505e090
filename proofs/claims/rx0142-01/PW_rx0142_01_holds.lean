import PyProof.Rows.All
import Wide.All
import OpenK.AllK
import Wide.FinOn
import PySem.Challenge.RW_rx0142_01
open PySem PySem.W PyProof.Rows
set_option Elab.async false
section -- H1
set_option maxRecDepth 100000
set_option maxHeartbeats 0
namespace Mine
abbrev pw : Program := PySem.Challenge.pw_rx0142_01

def buildT : List Obj → Nat → BT → Option (BT × Nat)
  | [], n, t => some (t, n)
  | o :: r, n, t => match ((t.ins n o).get n).isSome with
    | true => buildT r (n + 1) (t.ins n o)
    | false => none
theorem buildT_spec (life : Life) : ∀ (l : List Obj) (n : Nat) (t t' : BT) (n' : Nat), buildT l n t = some (t', n') → absHeap t' n' life = l.foldl Heap.push (absHeap t n life)
  | [], n, t, t', n', h => by
    unfold buildT at h
    cases h
    rfl
  | o :: r, n, t, t', n', h => by
    unfold buildT at h
    cases e : ((t.ins n o).get n).isSome with
    | false => rw [e] at h; cases h
    | true =>
      rw [e] at h
      have := buildT_spec life r (n + 1) _ t' n' h
      rw [this, absHeap_ins e]
      rfl
theorem foldl_push (life : Life) : ∀ (l : List Obj) (a : Array Obj), l.foldl Heap.push ⟨a, life⟩ = ⟨a ++ l.toArray, life⟩
  | [], a => by simp
  | o :: r, a => by
    show r.foldl Heap.push (Heap.push ⟨a, life⟩ o) = _
    rw [show Heap.push ⟨a, life⟩ o = ⟨a.push o, life⟩ from rfl, foldl_push life r]
    congr 1
    simp
def toT (s : Shared) : Option SharedT := match buildT s.heap.objs.toList 0 .nil with
  | some (t, n) => some ⟨t, n, s.heap.life, s.gens, s.drawn, s.toks, s.os⟩
  | none => none
theorem toT_abs {s : Shared} {S : SharedT} (h : toT s = some S) : S.abs = s := by
  unfold toT at h
  cases e : buildT s.heap.objs.toList 0 .nil with
  | none => rw [e] at h; cases h
  | some x =>
    obtain ⟨t, n⟩ := x
    rw [e] at h
    cases h
    have := buildT_spec s.heap.life _ _ _ _ _ e
    rw [show absHeap .nil 0 s.heap.life = ⟨#[], s.heap.life⟩ from rfl, foldl_push] at this
    show (⟨absHeap t n s.heap.life, s.gens, s.drawn, s.toks, s.os⟩ : Shared) = s
    rw [this]
    simp
def runT (stp : SharedT → Thread → Option (SharedT × Thread)) (n₀ : Nat) (ann : Option Value) : Nat → SharedT → Thread → Option SharedT
  | 0, _, _ => none
  | n + 1, s, t => match through t with
    | true => some s
    | false => match stepOk n₀ ann t with
      | false => none
      | true => match stp s t with
        | some (s', t') => runT stp n₀ ann n s' t'
        | none => none
theorem runT_spec {tb : String → Option Builtin} {p : Program} {w : World} {n₀ : Nat} {ann : Option Value} : ∀ (n : Nat) (s s' : SharedT) (t : Thread),
    runT (stepT (denote tb) p w) n₀ ann n s t = some s' → topRun tb p w n₀ ann n s.abs t = some s'.abs
  | 0, _, _, _, h => by cases h
  | n + 1, s, s', t, h => by
    unfold runT at h
    unfold topRun
    cases e : through t with
    | true => rw [e] at h; cases h; rfl
    | false =>
      rw [e] at h
      cases k : stepOk n₀ ann t with
      | false => rw [k] at h; cases h
      | true =>
        rw [k] at h
        cases q : stepT (denote tb) p w s t with
        | none => rw [q] at h; cases h
        | some r =>
          obtain ⟨s₂, t₂⟩ := r
          rw [q] at h
          dsimp only
          rw [stepT_spec q]
          exact runT_spec n s₂ s' t₂ h
def endsT {α : Type} (stp : World → SharedT → Thread → Option (SharedT × Thread)) (p : Program) (w : World) (N : Nat) (obs : Shared → α) (s₀ : Shared) : Option α :=
  match s₀.heap.isNs mainGlobals && s₀.gens.size == 0 with
  | true => match toT s₀ with
    | some S => match runT (stp w) s₀.heap.objs.size (s₀.heap.nsMap mainGlobals "__annotations__") N S (topStub p) with
      | some S₁ => match staticsOk (importedModules p.main.body) s₀.heap S₁.abs.heap && namesBound p S₁.abs.heap && gensDone S₁.abs && laidKept s₀.heap S₁.abs.heap with
        | true => some (obs S₁.abs)
        | false => none
      | none => none
    | none => none
  | false => none
theorem endsT_spec {α : Type} {tb : String → Option Builtin} {p : Program} {w : World} {N : Nat} {obs : Shared → α} {v : α}
    (h : (fencedOpening tb p w N).bind (endsT (fun w => stepT (denote tb) p w) p w N obs) = some v) : (openEnds tb p w N).map obs = some v := by
  unfold openEnds
  obtain ⟨s₀, h1, h2⟩ := Option.bind_eq_some_iff.mp h
  rw [h1]
  show ((topFrom tb p w N s₀).map obs) = some v
  unfold endsT at h2
  unfold topFrom
  cases e : s₀.heap.isNs mainGlobals && s₀.gens.size == 0 with
  | false => rw [e] at h2; cases h2
  | true =>
    rw [e] at h2
    cases q : toT s₀ with
    | none => rw [q] at h2; cases h2
    | some S =>
      rw [q] at h2
      dsimp only at h2 ⊢
      cases r : runT (stepT (denote tb) p w) s₀.heap.objs.size (s₀.heap.nsMap mainGlobals "__annotations__") N S (topStub p) with
      | none => rw [r] at h2; cases h2
      | some S₁ =>
        rw [r] at h2
        dsimp only at h2
        have := runT_spec _ _ _ _ r
        rw [toT_abs q] at this
        rw [this]
        dsimp only [Option.bind_some]
        cases c : staticsOk (importedModules p.main.body) s₀.heap S₁.abs.heap && namesBound p S₁.abs.heap && gensDone S₁.abs && laidKept s₀.heap S₁.abs.heap with
        | false => rw [c] at h2; cases h2
        | true => rw [c] at h2; exact h2

-- the text's own parts, read off the given program
def topSt (i : Nat) : Stmt := pw.main.body[i]?.getD (.Pass default)
def clsSt (c i : Nat) : Stmt := match topSt c with
  | .ClassDef _ _ _ body _ _ _ _ _ _ _ => body[i]?.getD (.Pass default)
  | _ => .Pass default
def stPar : Stmt → Arguments
  | .FunctionDef _ a _ _ _ _ _ _ _ _ => a
  | _ => default
def stBody : Stmt → List Stmt
  | .FunctionDef _ _ b _ _ _ _ _ _ _ => b
  | _ => []
def stScope : Stmt → Scope
  | .FunctionDef _ _ _ _ _ _ sc _ _ _ => sc
  | _ => default
def fdOf (name qual : Str) (st : Stmt) (dflt mod : Value) (cd : Addr) : FuncData :=
  { name := name, qualname := qual, params := stPar st, body := .stmts (stBody st), scope := stScope st, globals := 3, closure := [], defaults := dflt, kwdefaults := .none, doc := .none, pyModule := mod, annotations := none, code := .ref cd, closureTuple := .none, builtins := 0 }
def fnO (fd : FuncData) : Obj := { cls := .type "function", dict := none, data := .func fd, slots := #[] }
def fdInt2AP : FuncData := fdOf "Int2AP" "Int2AP" (topSt 3) .none (.str "cpy313.imaplib" 289) 44
def fdTranslate : FuncData := fdOf "translate" "translate" (topSt 6) .none (.str "cpy313.fnmatch" 301) 56
def fdEscape : FuncData := fdOf "escape" "escape" (topSt 9) .none (.str "re" 350) 68
def fdTr : FuncData := fdOf "_translate" "_translate" (topSt 11) .none (.str "cpy313.fnmatch" 505) 75
def fdJoin : FuncData := fdOf "_join_translated_parts" "_join_translated_parts" (topSt 12) .none (.str "cpy313.fnmatch" 505) 82
def fdNI : FuncData := fdOf "__init__" "_NodeInfo.__init__" (clsSt 16 1) .none (.str "cpy313.graphlib" 539) 97
def fdInit : FuncData := fdOf "__init__" "TopologicalSorter.__init__" (clsSt 18 0) (.ref 128) (.str "cpy313.graphlib" 539) 134
def fdGet : FuncData := fdOf "_get_nodeinfo" "TopologicalSorter._get_nodeinfo" (clsSt 18 1) .none (.str "cpy313.graphlib" 539) 141
def fdAdd : FuncData := fdOf "add" "TopologicalSorter.add" (clsSt 18 2) .none (.str "cpy313.graphlib" 539) 148
def fdPrep : FuncData := fdOf "prepare" "TopologicalSorter.prepare" (clsSt 18 3) .none (.str "cpy313.graphlib" 539) 153
def fdReady : FuncData := fdOf "get_ready" "TopologicalSorter.get_ready" (clsSt 18 4) .none (.str "cpy313.graphlib" 539) 160
def fdAct : FuncData := fdOf "is_active" "TopologicalSorter.is_active" (clsSt 18 5) .none (.str "cpy313.graphlib" 539) 167
def fdDone : FuncData := fdOf "done" "TopologicalSorter.done" (clsSt 18 7) .none (.str "cpy313.graphlib" 539) 181
def fdCyc : FuncData := fdOf "_find_cycle" "TopologicalSorter._find_cycle" (clsSt 18 8) .none (.str "cpy313.graphlib" 539) 188
def fdWord : FuncData := fdOf "_law_word" "_law_word" (topSt 20) .none (.str "law_rx0142_01" 721) 207
def fdFits : FuncData := fdOf "_law_fits" "_law_fits" (topSt 21) .none (.str "law_rx0142_01" 721) 214
def fdLaw : FuncData := fdOf "law" "law" (topSt 22) .none (.str "law_rx0142_01" 721) 219

def ent (p : Params) (n : Str) (t : Tok) (v : Value) : DictEntry := ⟨PyData.keyHash p n, .str n t, v⟩
def nsNI (p : Params) : Obj := { cls := .type "dict", dict := none, data := .dict #[ent p "__module__" 554 (.str "cpy313.graphlib" 539), ent p "__firstlineno__" 558 (.int 121 557), ent p "__slots__" 562 (.ref 91), ent p "__init__" 570 (.ref 98),
  ent p "__static_attributes__" 574 (.ref 99), ent p "node" 576 (.ref 103), ent p "npredecessors" 578 (.ref 104), ent p "successors" 580 (.ref 105), ent p "__doc__" 581 .none] 5 }
def clsNI : Obj := { cls := .type "type", dict := none, data := .cls { name := "_NodeInfo", bases := [.type "object"], mro := [.ref 102, .type "object"], ns := 101, qualname := "_NodeInfo", hasDict := false, slotNames := ["node", "npredecessors", "successors"] }, slots := #[none, none, some (.str "_NodeInfo" 547), some (.str "_NodeInfo" 555), some (.builtin "object.__new__"), some (.bool false)] }
def mdO (n : Str) (t : Tok) (i : Int) : Obj := { cls := .type "member_descriptor", dict := none, data := .fields #[.str n t, .ref 102, .builtin "proto.slot", .builtin "proto.slot#set", .int i 0] }
def nsTS (p : Params) : Obj := { cls := .type "dict", dict := none, data := .dict #[ent p "__module__" 609 (.str "cpy313.graphlib" 539), ent p "__firstlineno__" 613 (.int 130 612), ent p "__init__" 623 (.ref 135), ent p "_get_nodeinfo" 632 (.ref 142),
  ent p "add" 644 (.ref 149), ent p "prepare" 650 (.ref 154), ent p "get_ready" 660 (.ref 161), ent p "is_active" 667 (.ref 168), ent p "__bool__" 674 (.ref 175), ent p "done" 688 (.ref 182), ent p "_find_cycle" 701 (.ref 189), ent p "static_order" 708 (.ref 196),
  ent p "__static_attributes__" 713 (.ref 197), ent p "__dict__" 715 (.ref 200), ent p "__weakref__" 717 (.ref 201), ent p "__doc__" 718 .none] 4 }
def clsTS : Obj := { cls := .type "type", dict := none, data := .cls { name := "TopologicalSorter", bases := [.type "object"], mro := [.ref 199, .type "object"], ns := 198, qualname := "TopologicalSorter", hasDict := true, slotNames := [] }, slots := #[none, none, some (.str "TopologicalSorter" 602), some (.str "TopologicalSorter" 610), some (.builtin "object.__new__"), some (.bool true)] }
def KF (p : Params) : Frag := [(101, nsNI p), (102, clsNI), (103, mdO "node" 575 2), (104, mdO "npredecessors" 577 1), (105, mdO "successors" 579 0), (198, nsTS p), (199, clsTS),
  (98, fnO fdNI), (135, fnO fdInit), (142, fnO fdGet), (149, fnO fdAdd), (154, fnO fdPrep), (161, fnO fdReady), (168, fnO fdAct), (182, fnO fdDone), (189, fnO fdCyc),
  (45, fnO fdInt2AP), (57, fnO fdTranslate), (69, fnO fdEscape), (76, fnO fdTr), (83, fnO fdJoin), (208, fnO fdWord), (215, fnO fdFits), (220, fnO fdLaw),
  (128, { cls := .type "tuple", data := .seq #[.none] })]
def kfKeys : List Addr := [101, 102, 103, 104, 105, 198, 199, 98, 135, 142, 149, 154, 161, 168, 182, 189, 45, 57, 69, 76, 83, 208, 215, 220, 128]

-- names of the module and of the builtins
def gTab : List (Str × Option Value) := [("Int2AP", some (.ref 45)), ("translate", some (.ref 57)), ("escape", some (.ref 69)), ("_translate", some (.ref 76)), ("_join_translated_parts", some (.ref 83)), ("_special_chars_map", some (.ref 59)),
  ("_NODE_OUT", some (.int (-1) 542)), ("_NODE_DONE", some (.int (-2) 545)), ("_NodeInfo", some (.ref 102)), ("TopologicalSorter", some (.ref 199)), ("_law_word", some (.ref 208)), ("_law_fits", some (.ref 215)), ("law", some (.ref 220)),
  ("int", none), ("abs", none), ("divmod", none), ("object", none), ("isinstance", none), ("str", none), ("len", none), ("range", none), ("tuple", none), ("bool", none), ("set", none), ("iter", none), ("StopIteration", none), ("max", none), ("sorted", none), ("zip", none)]
def bTab : List (Str × Option Value) := [("int", some (.type "int")), ("abs", some (.builtin "abs")), ("divmod", some (.builtin "divmod")), ("object", some (.type "object")), ("isinstance", some (.builtin "isinstance")), ("str", some (.type "str")), ("len", some (.builtin "len")),
  ("range", some (.type "range")), ("tuple", some (.type "tuple")), ("bool", some (.type "bool")), ("set", some (.type "set")), ("iter", some (.builtin "iter")), ("StopIteration", some (.type "StopIteration")), ("max", some (.builtin "max")), ("sorted", some (.builtin "sorted")), ("zip", some (.type "zip"))]
def cTab : List (Addr × Str × Tok) := [(44, "Int2AP", 292), (56, "translate", 342), (68, "escape", 499), (75, "_translate", 508), (82, "_join_translated_parts", 527), (97, "_NodeInfo.__init__", 564), (134, "TopologicalSorter.__init__", 615), (141, "TopologicalSorter._get_nodeinfo", 625),
  (148, "TopologicalSorter.add", 634), (153, "TopologicalSorter.prepare", 646), (160, "TopologicalSorter.get_ready", 652), (167, "TopologicalSorter.is_active", 662), (181, "TopologicalSorter.done", 676), (188, "TopologicalSorter._find_cycle", 690), (207, "_law_word", 724), (214, "_law_fits", 730), (219, "law", 738)]
def qualAt (h : Heap) (a : Addr) : Option Value := match h.get? a with
  | some o => (match o.data with
    | .fields vs => vs[1]?
    | _ => none)
  | none => none
theorem codeRec_at {h : Heap} {a : Addr} {q : Str} {t : Tok} (e : qualAt h a = some (.str q t)) : h.CodeRec (.ref a) q := by
  unfold qualAt at e
  cases ho : h.get? a with
  | none => rw [ho] at e; cases e
  | some o =>
    rw [ho] at e
    dsimp only at e
    split at e
    · rename_i vs hd
      exact ⟨a, o, vs, t, rfl, ho, hd, e⟩
    · cases e
def mapObs (h : Heap) : Option (List (Int × Value)) := match h.get? 59 with
  | some ⟨.type "dict", none, .dict es _, sl⟩ => (match sl.toList with
    | [] => some (es.toList.map fun e => (e.hash, match e.key with | .int k t => .int k t | _ => .none))
    | _ => none)
  | _ => none
def mapVal : List (Int × Value) := [(40, .int 40 353), (41, .int 41 359), (91, .int 91 365), (93, .int 93 371), (123, .int 123 377), (125, .int 125 383), (63, .int 63 389), (42, .int 42 395), (43, .int 43 401), (45, .int 45 407), (124, .int 124 413), (94, .int 94 419),
  (36, .int 36 425), (92, .int 92 431), (46, .int 46 437), (38, .int 38 443), (126, .int 126 449), (35, .int 35 455), (32, .int 32 461), (9, .int 9 467), (10, .int 10 473), (13, .int 13 479), (11, .int 11 485), (12, .int 12 491)]

structure Facts (w : World) (h : Heap) : Prop where
  K : (KF w.params).In h
  g : ∃ m, h.Ns 3 m ∧ ∀ x ∈ gTab, m x.1 = x.2
  b : ∃ m, h.Ns 0 m ∧ ∀ x ∈ bTab, m x.1 = x.2
  c : ∀ x ∈ cTab, h.CodeRec (.ref x.1) x.2.1
  t : ∃ es ep, h.get? 59 = some { cls := .type "dict", dict := none, data := .dict es ep } ∧ es.toList.map (fun e => (e.hash, match e.key with | .int k t => .int k t | _ => .none)) = mapVal
theorem Facts.keeps {w : World} {h h' : Heap} (x : Facts w h) (k : ∀ b o, h.get? b = some o → h'.get? b = some o) : Facts w h' where
  K := x.K.keeps k
  g := let ⟨m, a, b⟩ := x.g; ⟨m, a.keeps k, b⟩
  b := let ⟨m, a, b⟩ := x.b; ⟨m, a.keeps k, b⟩
  c := fun y hy => (x.c y hy).keeps k
  t := let ⟨es, ep, a, b⟩ := x.t; ⟨es, ep, k _ _ a, b⟩
abbrev ObsT := List (Option Obj) × Bool × List (Option Value) × Bool × List (Option Value) × List (Option Value) × Option (List (Int × Value))
def obsH (s : Shared) : ObsT := (kfKeys.map s.heap.get?, s.heap.isNs 3, gTab.map (fun x => s.heap.nsMap 3 x.1), s.heap.isNs 0, bTab.map (fun x => s.heap.nsMap 0 x.1), cTab.map (fun x => qualAt s.heap x.1), mapObs s.heap)
def valH (w : World) : ObsT := ((KF w.params).map fun p => some p.2, true, gTab.map (·.2), true, bTab.map (·.2), cTab.map (fun x => some (.str x.2.1 x.2.2)), some mapVal)
theorem map_all {α β : Type} {f g : α → β} : ∀ {l : List α}, l.map f = l.map g → ∀ x ∈ l, f x = g x
  | [], _, _, hx => nomatch hx
  | y :: r, e, x, hx => by
    simp only [List.map_cons, List.cons.injEq] at e
    rcases List.mem_cons.mp hx with rfl | hx
    · exact e.1
    · exact map_all e.2 x hx
theorem facts_of (w : World) (s : Shared) (e : obsH s = valH w) : Facts w s.heap := by
  obtain ⟨e1, e2, e3, e4, e5, e6, e7⟩ : _ ∧ _ ∧ _ ∧ _ ∧ _ ∧ _ ∧ _ := by simpa only [obsH, valH, Prod.mk.injEq] using e
  refine ⟨Frag.in_of (as := kfKeys) rfl e1, ⟨_, .of_isNs e2, map_all e3⟩, ⟨_, .of_isNs e4, map_all e5⟩, fun x hx => codeRec_at (map_all e6 x hx), ?_⟩
  unfold mapObs at e7
  split at e7
  · rename_i es ep sl ho
    split at e7
    · rename_i hs
      have : sl = #[] := Array.ext' hs
      subst this
      exact ⟨es, ep, ho, Option.some.inj e7⟩
    · cases e7
  · cases e7
def hookH : Hook := ⟨ObsT, obsH, valH, Facts, facts_of, fun _ _ _ x k => x.keeps k⟩

abbrev qv : Program := view pw [0, 1, 3, 5, 6, 8, 9, 11, 12, 14, 15, 16, 17, 18, 20, 21, 22]
abbrev looseV : List Str := ["_twin_re_1", "_special_chars_map", "_NodeInfo"]
abbrev rowR := PySem.Challenge.rw_rx0142_01.row
abbrev XtV : Shared → Bool := fun s => xlAt qv [] s && recOk rowR.records s
end Mine
end -- H1
section -- H3
set_option maxRecDepth 100000
set_option maxHeartbeats 0
namespace Mine
abbrev LeftAt (w : World) : Prop := (openEnds treeTable pw w 5466).map (fun s => (openSeen qv looseV (importedModules pw.main.body) XtV true s, obsH s)) = some (openGood qv looseV, valH w)
abbrev r1 : String := "comprehension-iter-twice"
abbrev r2 : String := "special-get-raises"
theorem left00 : ∀ w : World, LeftAt ((w.withFollow r1 false).withFollow r2 false) := by
  intro w
  refine endsT_spec ?_
  unfold fencedOpening
  rw [PySem.W.Fast.te10274390034422433532, PySem.W.Fast.te14289696077712309145, PySem.W.Fast.te1435165496053646825, PySem.W.Fast.te14364793385576792824, PySem.W.Fast.te10156331382660048174, PySem.W.Fast.te11892475500146522536, PySem.W.Fast.te4187177175401517315]
  kernel_rfl
theorem left01 : ∀ w : World, LeftAt ((w.withFollow r1 false).withFollow r2 true) := by
  intro w
  refine endsT_spec ?_
  unfold fencedOpening
  rw [PySem.W.Fast.te10274390034422433532, PySem.W.Fast.te14289696077712309145, PySem.W.Fast.te1435165496053646825, PySem.W.Fast.te14364793385576792824, PySem.W.Fast.te10156331382660048174, PySem.W.Fast.te11892475500146522536, PySem.W.Fast.te4187177175401517315]
  kernel_rfl
theorem left10 : ∀ w : World, LeftAt ((w.withFollow r1 true).withFollow r2 false) := by
  intro w
  refine endsT_spec ?_
  unfold fencedOpening
  rw [PySem.W.Fast.te10274390034422433532, PySem.W.Fast.te14289696077712309145, PySem.W.Fast.te1435165496053646825, PySem.W.Fast.te14364793385576792824, PySem.W.Fast.te10156331382660048174, PySem.W.Fast.te11892475500146522536, PySem.W.Fast.te4187177175401517315]
  kernel_rfl
theorem left11 : ∀ w : World, LeftAt ((w.withFollow r1 true).withFollow r2 true) := by
  intro w
  refine endsT_spec ?_
  unfold fencedOpening
  rw [PySem.W.Fast.te10274390034422433532, PySem.W.Fast.te14289696077712309145, PySem.W.Fast.te1435165496053646825, PySem.W.Fast.te14364793385576792824, PySem.W.Fast.te10156331382660048174, PySem.W.Fast.te11892475500146522536, PySem.W.Fast.te4187177175401517315]
  kernel_rfl
theorem leftAll : LeftO pw qv looseV XtV obsH valH 5466 :=
  byRow2 r2 (P := LeftAt) (byRow2 r1 (P := fun w => LeftAt (w.withFollow r2 false)) left00 left10) (byRow2 r1 (P := fun w => LeftAt (w.withFollow r2 true)) left01 left11)
end Mine
end -- H3
section -- H2
set_option maxRecDepth 100000
set_option maxHeartbeats 1000000
set_option pp.deepTerms false
set_option pp.maxSteps 400
namespace Mine
def LawOk : Prop := ∀ (w : World) (s : Shared) (l : Addr) (vs : List Value) (ns : List Int) (R : Result → Shared → Prop), Facts w s.heap → s.heap.NoLimit → s.heap.IsList l vs.toArray → IntsAre vs ns → ns.length ≤ 63 → s.gens = #[] →
  (∀ h' tk, (∀ b o, s.heap.get? b = some o → h'.get? b = some o) → R (.ok (.ret (.bool true))) { s with heap := h', toks := tk }) → codeAny (model pw w) callerA (.call (.ref 220) ⟨[.ref l], []⟩) R s
theorem ns_unique {h : Heap} {a : Addr} {m m' : Str → Option Value} (x : h.Ns a m) (y : h.Ns a m') : m = m' := by
  obtain ⟨o1, es1, ep1, q1, q2, _, q4⟩ := x
  obtain ⟨o2, es2, ep2, r1, r2, _, r4⟩ := y
  rw [q1] at r1
  cases r1
  rw [q2] at r2
  cases r2
  funext z
  rw [← q4, ← r4]
theorem law_at {w : World} {h : Heap} {mg : Str → Option Value} {fa : Addr} (Y : Facts w h) (g : h.Ns 3 mg) (hmg : mg "law" = some (.ref fa)) : fa = 220 := by
  obtain ⟨m9, g1, g2⟩ := Y.g
  have h1 := g2 ("law", some (.ref 220)) (by simp [gTab])
  rw [ns_unique g1 g] at h1
  exact Value.ref.inj (Option.some.inj (hmg.symm.trans h1))
theorem said_ok : OpenLaw.wellSaid PySem.Challenge.rw_rx0142_01 = true := by
  unfold OpenLaw.wellSaid
  unfold OpenRow.wellSaid
  unfold OpenRow.partSaid
  unfold looksOpen
  repeat' with_reducible refine look_both ?_ ?_
  all_goals decide +kernel
theorem t1 : LawOk → PySem.Challenge.rw_rx0142_01.Holds := by
  intro ok
  w_on
  refine holds_law said_ok fun said => ?_
  refine holds_open (q := qv) (loose := looseV) (Xt := XtV) (XP := XL qv []) (Yf := obsH) (Ya := valH) (YP := Facts) (N := 5466) leftAll facts_of (fun _ _ _ x k => x.keeps k) (fun s e => xl_of s (Bool.and_eq_true_iff.mp e).1) XL.keeps (by rfl) (by rfl) (by rfl) (fun s e => recFacts_of (Bool.and_eq_true_iff.mp e).2) (by rfl) (by assumption) (by decide +kernel) ⟨rfl, rfl, rfl, rfl, rfl, by decide +kernel⟩ ?hw ?hc
  · w_witness2
  · intro w s₀ s₁ mg mb G Y fa o pm cd doc dV kV ho hd hcd hD hmg hg args vals as hpre hlay hrd hwl hlo
    refine Ground.open G ?_
    intro T B D TE TW
    clear D TE TW B
    wrow_args hpre hlay hrd hwl hlo
    refine enter_call ?_
    clear hd hcd hD
    have e2 : fa = 220 := law_at Y T.g hmg
    clear hmg G
    subst e2
    refine ok w s₁ _ _ _ _ Y T.nolimit (by assumption) (by assumption) (by omega) hg fun h' tk k => ?_
    have hpost : rowR.claim.post [ofPy (PyData.list (List.map PyData.int ‹List Int›))] (.bool true) [ofPy (PyData.list (List.map PyData.int ‹List Int›))] = true := by
      refine postW_of (X := true) ?_ ?_ rfl
      · rfl
      · first | wtm_val | (show WTm.value _ (.eq .res (.lit (.bool true))) _ = _; simp [WTm.value]) | kernel_rfl
    exact ⟨.inl ⟨_, _, [], rfl, fun _ => rfl, ReadsW.bool true, hpost, fun _ => ⟨List.nodup_nil, fun _ hm => (nomatch hm)⟩⟩, .of_keep k, rfl, .of_eq hg⟩
end Mine
end -- H2
section -- B1
set_option maxRecDepth 100000
set_option maxHeartbeats 1000000
namespace Mine
abbrev MM (w : World) : Model := model pw w
abbrev Sub (h h' : Heap) : Prop := ∀ b o, h.get? b = some o → h'.get? b = some o
theorem limUp {h h' : Heap} (x : h.NoLimit) (k : Sub h h') : h'.NoLimit := let ⟨m, a, b⟩ := x; ⟨m, a.keeps k, b⟩
structure Cx (w : World) (h : Heap) : Prop where
  F : Facts w h
  lim : h.NoLimit
theorem Cx.up {w : World} {h h' : Heap} (x : Cx w h) (k : Sub h h') : Cx w h' := ⟨x.F.keeps k, limUp x.lim k⟩
structure Rm (A : Around) (k : Nat) : Prop where
  hh : A.handled = none
  dep : A.depth + k < 1000
  un : A.units + 20 * k < 9900
theorem Rm.deep {A : Around} {k : Nat} {env : Env} (x : Rm A (k + 1)) : Rm (A.deeper env) k := ⟨x.hh, by have := x.dep; show A.depth + 1 + k < 1000; omega, by have := x.un; show A.units + 3 + 20 * k < 9900; omega⟩
theorem Rm.in1 {A : Around} {k : Nat} (x : Rm A (k + 1)) : Rm A.in1 k := ⟨x.hh, by have := x.dep; show A.depth + k < 1000; omega, by have := x.un; show A.units + 1 + 20 * k < 9900; omega⟩
theorem Rm.le {A : Around} {k j : Nat} (x : Rm A k) (h : j ≤ k) : Rm A j := ⟨x.hh, by have := x.dep; omega, by have := x.un; omega⟩

abbrev Loc := List (Str × Value)
structure Fm (s₀ : Shared) (L : Addr) (l : Loc) (own : List (Addr × Obj)) (s : Shared) : Prop where
  same : ∃ h tk, s = { s₀ with heap := h, toks := tk }
  loc : ∃ m, Fr s₀.heap L s.heap m ∧ ∀ p ∈ l, m p.1 = some p.2
  N : News s₀.heap L s.heap own
  nd : (own.map (·.1)).Nodup
namespace Fm
variable {s₀ s : Shared} {L : Addr} {l : Loc} {own : List (Addr × Obj)}
theorem of_inCall {m : Str → Option Value} (x : InCall s₀ L m s) (h : ∀ p ∈ l, m p.1 = some p.2) : Fm s₀ L l [] s := ⟨x.same, ⟨m, ⟨x.ns, x.keep, x.fresh⟩, h⟩, .nil, List.nodup_nil⟩
theorem keep (x : Fm s₀ L l own s) : Sub s₀.heap s.heap := let ⟨_, f, _⟩ := x.loc; f.keep
theorem fresh (x : Fm s₀ L l own s) : s₀.heap.objs.size ≤ L := let ⟨_, f, _⟩ := x.loc; f.above
theorem of (x : Fm s₀ L l own s) {h' : Heap} {m : Str → Option Value} {l' : Loc} {own' : List (Addr × Obj)} {tk : Nat} (F : Fr s₀.heap L h' m) (hl : ∀ p ∈ l', m p.1 = some p.2) (N : News s₀.heap L h' own') (nd : (own'.map (·.1)).Nodup) :
    Fm s₀ L l' own' { s with heap := h', toks := tk } := ⟨let ⟨_, _, e⟩ := x.same; ⟨h', tk, by rw [e]⟩, ⟨m, F, hl⟩, N, nd⟩
theorem tok (x : Fm s₀ L l own s) (t : Nat) : Fm s₀ L l own { s with toks := t } :=
  ⟨let ⟨h, _, e⟩ := x.same; ⟨h, t, by rw [e]⟩, x.loc, x.N, x.nd⟩
theorem up {h' : Heap} {tk : Nat} (x : Fm s₀ L l own s) (k : Sub s.heap h') : Fm s₀ L l own { s with heap := h', toks := tk } :=
  let ⟨m, f, hl⟩ := x.loc
  ⟨let ⟨_, _, e⟩ := x.same; ⟨h', tk, by rw [e]⟩, ⟨m, ⟨f.ns.keeps k, fun b o e => k b o (f.keep b o e), f.above⟩, hl⟩, fun p hp => ⟨k _ _ (x.N p hp).1, (x.N p hp).2⟩, x.nd⟩
theorem up' {h' : Heap} (x : Fm s₀ L l own s) (k : Sub s.heap h') : Fm s₀ L l own { s with heap := h' } := x.up (tk := s.toks) k
theorem less {own' : List (Addr × Obj)} (x : Fm s₀ L l own s) (h : own'.Sublist own) : Fm s₀ L l own' s :=
  ⟨x.same, x.loc, fun p hp => x.N p (h.subset hp), x.nd.sublist (h.map _)⟩
theorem weak {l' : Loc} (x : Fm s₀ L l own s) (h : ∀ p ∈ l', l.lookup p.1 = some p.2) : Fm s₀ L l' own s :=
  let ⟨m, f, hl⟩ := x.loc
  ⟨x.same, ⟨m, f, fun p hp => hl p (by
    have := h p hp
    obtain ⟨l1, l2, e, _⟩ := List.lookup_eq_some_iff.mp this
    rw [e]; simp)⟩, x.N, x.nd⟩
theorem push (x : Fm s₀ L l own s) (o : Obj) (hf : o.isFreed = false := by rfl) : Fm s₀ L l ((s.heap.objs.size, o) :: own) { s with heap := s.heap.push o } := by
  obtain ⟨m, f, hl⟩ := x.loc
  refine ⟨let ⟨_, tk, e⟩ := x.same; ⟨_, tk, by rw [e]⟩, ⟨m, f.push o, hl⟩, x.N.push f o hf, ?_⟩
  rw [List.map_cons, List.nodup_cons]
  refine ⟨fun hm => ?_, x.nd⟩
  obtain ⟨p, hp, e⟩ := List.mem_map.mp hm
  exact absurd (Heap.lt_size (x.N p hp).1) (by rw [e]; exact Nat.lt_irrefl _)
theorem set {h' : Heap} {y : Str} {v : Value} {m' : Str → Option Value} {tk : Nat} (x : Fm s₀ L l own s) (hm : ∀ m, s.heap.Ns L m → (∀ p ∈ l, m p.1 = some p.2) → m' y = some v ∧ ∀ p ∈ l, p.1 ≠ y → m' p.1 = some p.2) (hn : h'.Ns L m') (hs : Heap.SameBut L s.heap h') :
    Fm s₀ L ((y, v) :: l.filter (fun p => p.1 != y)) own { s with heap := h', toks := tk } := by
  obtain ⟨m, f, hl⟩ := x.loc
  obtain ⟨h1, h2⟩ := hm m f.ns hl
  refine ⟨let ⟨_, _, e⟩ := x.same; ⟨h', tk, by rw [e]⟩, ⟨m', f.set hn hs, fun p hp => ?_⟩, x.N.set hs, x.nd⟩
  rcases List.mem_cons.mp hp with rfl | hp
  · exact h1
  · obtain ⟨ha, hb⟩ := List.mem_filter.mp hp
    exact h2 p ha (by simpa using hb)
theorem upd {h' : Heap} {tk : Nat} {pre post : List (Addr × Obj)} {a : Addr} {o o' : Obj} (x : Fm s₀ L l (pre ++ (a, o) :: post) s) (hs : Heap.ExtBut a s.heap h') (ho : h'.get? a = some o') :
    Fm s₀ L l (pre ++ (a, o') :: post) { s with heap := h', toks := tk } := by
  obtain ⟨m, f, hl⟩ := x.loc
  have ha := (x.N (a, o) (by simp)).2
  have nd := x.nd
  have e1 : (pre ++ (a, o') :: post).map (·.1) = (pre ++ (a, o) :: post).map (·.1) := by simp
  refine ⟨let ⟨_, _, e⟩ := x.same; ⟨h', tk, by rw [e]⟩, ⟨m, ⟨f.ns.at' fun o e => hs L o (Ne.symm ha.1) e, fun b o e => ?_, f.above⟩, hl⟩, fun p hp => ?_, by rw [e1]; exact nd⟩
  · refine hs b o (fun eb => ?_) (f.keep b o e)
    rw [eb] at e
    exact absurd (e.symm.trans ha.2) (by simp)
  · have key : ∀ q ∈ pre ++ post, q.1 ≠ a := fun q hq e => by
      rw [List.map_append, List.map_cons] at nd
      have h3 := List.nodup_append.mp nd
      rcases List.mem_append.mp hq with hq | hq
      · exact h3.2.2 q.1 (List.mem_map_of_mem hq) a (.head _) e
      · exact (List.nodup_cons.mp h3.2.1).1 (List.mem_map.mpr ⟨q, hq, e⟩)
    rcases List.mem_append.mp hp with hp | hp
    · have := x.N p (List.mem_append.mpr (.inl hp))
      exact ⟨hs _ _ (key p (List.mem_append.mpr (.inl hp))) this.1, this.2⟩
    · rcases List.mem_cons.mp hp with rfl | hp
      · exact ⟨ho, ha⟩
      · have := x.N p (List.mem_append.mpr (.inr (.tail _ hp)))
        exact ⟨hs _ _ (key p (List.mem_append.mpr (.inr hp))) this.1, this.2⟩
theorem done (x : Fm s₀ L l own s) : ∃ h' tk, s = { s₀ with heap := h', toks := tk } ∧ Sub s₀.heap h' := by
  have := x.keep
  obtain ⟨h, tk, rfl⟩ := x.same
  exact ⟨h, tk, rfl, this⟩
end Fm

section
variable {w : World} {A : Around} {s s₀ : Shared} {E : Value → Shared → Prop} {Q : Value → Shared → Prop} {L a : Addr} {m : Loc} {own : List (Addr × Obj)} {fd : FuncData} {env : Env}
theorem of_lk {l l' : Loc} (h : (l'.map fun p => l.lookup p.1) = l'.map fun p => some p.2) : ∀ p ∈ l', l.lookup p.1 = some p.2 := map_all h
theorem callF {fd : FuncData} {body : List Stmt} {vals : List Value} (binds : List (Str × Value)) (i : Nat) (C : Cx w s.heap) (hd : Rm A 1)
    (ho : (KF w.params).lookup a = some (fnO fd)) (hc : cTab[i]?.map (fun x => (Value.ref x.1, x.2.1)) = some (fd.code, fd.qualname)) (hbody : fd.body = .stmts body) (hbind : bindArgs fd ⟨vals, []⟩ = pure binds)
    (hcell : (fd.scope.names.all fun x => x.2 != .cell) = true) (hloc : (binds.all fun x => fd.scope.names.lookup x.1 == some .local) = true)
    (h : ∀ s₁, Fm s s.heap.objs.size binds [] s₁ →
      wpAny (MM w) (A.deeper (callEnv fd s.heap.objs.size a)) (execs body (callEnv fd s.heap.objs.size a)) (fun f s' => Q (match f with | .ret v => v | _ => .none) s') (fun _ _ => False) s₁)
    (hnd : (binds.map fun p => binds.reverse.lookup p.1) = binds.map fun p => some p.2 := by rfl) (hco : fd.scope.isCoroutine = false := by rfl) (hgen : fd.scope.isGenerator = false := by rfl) (hk : fd.scope.kind = .function := by rfl) :
    wpAny (MM w) A (call (.ref a) vals) Q E s := by
  refine wpAny_call (codeAny_call_straight (by have := hd.dep; show A.depth < 1000; omega) (C.F.K _ _ ho) rfl C.lim ?_ hbody hbind (fun x hx => ?_) (fun x hx => ?_) (fun s₁ x₁ => wpAny_mono (h s₁ (.of_inCall x₁ (of_lk hnd))) (fun f s' q => q) (fun _ _ f => f.elim)) hco hgen hk)
  · obtain ⟨y, hy, e⟩ := Option.map_eq_some_iff.mp hc
    obtain ⟨e1, e2⟩ := Prod.mk.inj e
    rw [← e1, ← e2]
    exact C.F.c y (List.mem_of_getElem? hy)
  · have := List.all_eq_true.mp hcell x hx
    simpa using this
  · have := List.all_eq_true.mp hloc x hx
    simpa using this

-- names
theorem nL {x : Str} {v : Value} (y : Fm s₀ env.locals m own s) (hk : env.scope.kind = .function) (hl : env.kindOf x = some .local) (hv : m.lookup x = some v) (h : Q v s) : wpAny (MM w) A (loadName env x) Q E s := by
  obtain ⟨m', f, hm⟩ := y.loc
  obtain ⟨l1, l2, e, _⟩ := List.lookup_eq_some_iff.mp hv
  exact wpAny_loadName_local hk hl f.ns (hm (x, v) (by rw [e]; simp)) h
theorem eL {x : Str} {pos : Pos} {v : Value} (y : Fm s₀ env.locals m own s) (hk : env.scope.kind = .function) (hl : env.kindOf x = some .local) (hv : m.lookup x = some v) (h : Q v s) (hd : (x == ("__debug__" : Str)) = false := by rfl) :
    wpAny (MM w) A (eval (.Name x pos) env) Q E s := wpAny_Name (nL y hk hl hv h) hd
theorem sL {x : Str} {v : Value} {Q : Unit → Shared → Prop} (y : Fm s₀ env.locals m own s) (hl : env.kindOf x = some .local) (hp : env.scope.kind = .function)
    (h : ∀ s', Fm s₀ env.locals ((x, v) :: m.filter (fun p => p.1 != x)) own s' → Q () s') : wpAny (MM w) A (storeName env x v) Q E s := by
  obtain ⟨m', f, hm⟩ := y.loc
  refine wpAny_storeName_local hl f.ns (fun h' hn hs => ?_) (by rw [hp]; rfl)
  refine h _ (y.set (tk := s.toks + 1) (fun m2 h2 h3 => ?_) hn hs)
  refine ⟨if_pos rfl, fun p hp hne => ?_⟩
  show (if p.1 = x then some v else m' p.1) = some p.2
  rw [if_neg hne]
  exact hm p hp
theorem eG {x : Str} {pos : Pos} {v : Value} (C : Cx w s.heap) (i : Nat) (hk : env.scope.kind = .function) (hx : env.kindOf x = some .globalImplicit) (hg : env.globals = 3) (hi : gTab[i]? = some (x, some v)) (h : Q v s) (hd : (x == ("__debug__" : Str)) = false := by rfl) :
    wpAny (MM w) A (eval (.Name x pos) env) Q E s := by
  obtain ⟨mg, h1, h2⟩ := C.F.g
  exact Calls.Name_function_global hk hx (Calls.loadGlobal_global (mg := mg) (by rw [hg]; exact h1) (h2 _ (List.mem_of_getElem? hi)) h) hd
theorem eB {x : Str} {pos : Pos} {v : Value} (C : Cx w s.heap) (i j : Nat) (hk : env.scope.kind = .function) (hx : env.kindOf x = some .globalImplicit) (hg : env.globals = 3) (hb : env.builtins = 0) (hi : gTab[i]? = some (x, none)) (hj : bTab[j]? = some (x, some v)) (h : Q v s)
    (hd : (x == ("__debug__" : Str)) = false := by rfl) : wpAny (MM w) A (eval (.Name x pos) env) Q E s := by
  obtain ⟨mg, h1, h2⟩ := C.F.g
  obtain ⟨mb, h3, h4⟩ := C.F.b
  exact Calls.Name_function_global hk hx (Calls.loadGlobal_builtin (mg := mg) (mb := mb) (by rw [hg]; exact h1) (h2 _ (List.mem_of_getElem? hi)) (by rw [hb]; exact h3) (h4 _ (List.mem_of_getElem? hj)) h) hd
theorem eBytes {l : List UInt8} {k : Nat} {pos : Pos} (h : ∀ t k', Q (.bytes l.toArray t) { s with toks := k' }) : wpAny (MM w) A (eval (.Constant (.bytes l) k pos) env) Q E s := fun _ _ _ => h _ _
theorem eInt {i : Int} {k : Nat} {pos : Pos} (h : ∀ t k', Q (.int i t) { s with toks := k' }) : wpAny (MM w) A (eval (.Constant (.int i) k pos) env) Q E s := wpAny_Constant_int (h _ _)
theorem eStr {x : Str} {k : Nat} {pos : Pos} (h : ∀ t k', Q (.str x t) { s with toks := k' }) : wpAny (MM w) A (eval (.Constant (.str x) k pos) env) Q E s := wpAny_Constant_str (h _ _)
-- calls by a name
theorem eCall {f : Str} {p pos : Pos} {args : List Expr} (h : wpAny (MM w) A (eval (.Name f p) env) (fun v s₁ => wpAny (MM w) A (callWith pos v [] (backTo pos (starEach args env)) []) Q E s₁) E s) :
    wpAny (MM w) A (eval (.Call (.Name f p) args [] pos) env) Q E s := wpAny_Call_NameR h
theorem cB {id : String} {pos : Pos} {first : List Value} {e : Expr} {rest : List Expr} (h : wpAny (MM w) A (spliced (backTo pos (starEach (e :: rest) env))) (fun vs s₁ => wpAny (MM w) A (call (.builtin id) (first ++ vs)) Q E s₁) E s)
    (he : starEach (e :: rest) env = (false, eval e env) :: starEach rest env := by rfl) (hp : (backTo pos (starEach (e :: rest) env)).any (·.1) = false := by rfl) : wpAny (MM w) A (callWith pos (.builtin id) first (backTo pos (starEach (e :: rest) env)) []) Q E s := by
  refine Calls.callWith_builtin hp ?_
  rw [he] at h ⊢
  exact Calls.evalArgs_plain h
theorem cT {T : String} {pos : Pos} {first : List Value} {e : Expr} {rest : List Expr} (h : wpAny (MM w) A (spliced (backTo pos (starEach (e :: rest) env))) (fun vs s₁ => wpAny (MM w) A (call (.type T) (first ++ vs)) Q E s₁) E s)
    (he : starEach (e :: rest) env = (false, eval e env) :: starEach rest env := by rfl) (hp : (backTo pos (starEach (e :: rest) env)).any (·.1) = false := by rfl) : wpAny (MM w) A (callWith pos (.type T) first (backTo pos (starEach (e :: rest) env)) []) Q E s := by
  refine PySem.callWith_type hp ?_
  rw [he] at h ⊢
  exact Calls.evalArgs_plain h
theorem cF {f : Addr} {fd : FuncData} {pos : Pos} {first : List Value} {e : Expr} {rest : List Expr} (hK : (KF w.params).lookup f = some (fnO fd))
    (h : wpAny (MM w) A (spliced (backTo pos (starEach (e :: rest) env))) (fun vs s₁ => (KF w.params).In s₁.heap ∧ wpAny (MM w) A (call (.ref f) (first ++ vs)) Q E s₁) E s)
    (he : starEach (e :: rest) env = (false, eval e env) :: starEach rest env := by rfl) : wpAny (MM w) A (callWith pos (.ref f) first (backTo pos (starEach (e :: rest) env)) []) Q E s := by
  refine Calls.callWith_function (o := fnO fd) (fd := fd) ?_
  rw [he] at h ⊢
  exact Calls.evalArgs_plain (wpAny_mono h (fun vs s' q => ⟨⟨q.1 _ _ hK, rfl⟩, q.2⟩) fun _ _ x => x)
theorem aN {pos : Pos} {Q : List Value → Shared → Prop} (h : Q [] s) : wpAny (MM w) A (spliced (backTo pos (starEach [] env))) Q E s := wpAny_items_nil h
theorem aC {pos : Pos} {e : Expr} {rest : List Expr} {Q : List Value → Shared → Prop} (h : wpAny (MM w) A (eval e env) (fun v s₁ => wpAny (MM w) A (spliced (backTo pos (starEach rest env))) (fun vs s₂ => Q (v :: vs) s₂) E s₁) E s)
    (he : starEach (e :: rest) env = (false, eval e env) :: starEach rest env := by rfl) : wpAny (MM w) A (spliced (backTo pos (starEach (e :: rest) env))) Q E s := wpAny_items_cons h he
end
end Mine
end -- B1
section -- B2
set_option maxRecDepth 100000
set_option maxHeartbeats 1000000
namespace Mine
section
variable {w : World} {A : Around} {s s₀ : Shared} {E : Value → Shared → Prop} {Q : Value → Shared → Prop} {L a : Addr} {m : Loc} {own : List (Addr × Obj)} {fd : FuncData} {env : Env}
theorem fSliceB {b : Array UInt8} {t : Tok} {lo hi : Option Int} {l u : Value} {value slice : Expr} (x : Fm s₀ L m own s) (hl : IsPart l lo) (hu : IsPart u hi) (hne : KBy.whole b lo hi = false) (hz : (KBy.picked b lo hi).size ≤ 16777216)
    (h : ∀ s' t', Fm s₀ L m own s' → Q (.bytes (KBy.picked b lo hi) t') s')
    (hs : subscripted slice false (.bytes b t) (.ref s.heap.objs.size) = operate [.ref s.heap.objs.size, .bytes b t] (getItem (.bytes b t) (.ref s.heap.objs.size)) := by with_unfolding_all rfl)
    (ht : ∀ r, letTemporaryGo value (.bytes b t) r = pure () := by intro _; with_unfolding_all rfl) :
    wpAny (MM w) A (subscriptTail value slice (.bytes b t) (.ref s.heap.objs.size)) Q E { s with heap := s.heap.push { cls := .type "slice", data := .fields #[l, u, .none] } } := by
  obtain ⟨m, F, hm⟩ := x.loc
  exact KBy.slice_N F x.N hl hu hne hz (fun h' t' k F' N' => h _ _ (x.of F' hm N' x.nd)) hs ht
theorem fDivmod {a b : Int} {t u : Tok} (x : Fm s₀ L m own s) (hb : b ≠ 0) (h : ∀ s' r o ta tb, Fm s₀ L m ((r, o) :: own) s' → IsTup s'.heap r #[.int (a.fdiv b) ta, .int (a.fmod b) tb] → Q (.ref r) s')
    (hp : Builtin.divisionGoesByPylong a b = false ∨ PySem.PylongRoom (MM w) A s := by first | exact Or.inl (PyProof.noPylong_of_log2 (by decide +kernel)) | exact Or.inl (PyProof.noPylong_small (by omega))) :
    wpAny (MM w) A (call (.builtin "divmod") [.int a t, .int b u]) Q E s := by
  have xp := x.push { cls := .type "tuple", data := .seq #[.int (a.fdiv b) s.toks, .int (a.fmod b) (s.toks + 1)] }
  exact divmod_int hb (h _ _ _ _ _ (xp.tok _) (xp.N.isTup (.head _))) hp
theorem fUnpack {elts : List Expr} {k} {pos : Pos} {t : Addr} {items : Array Value} {Q : Unit → Shared → Prop} (x : Fm s₀ L m own s) (ht : IsTup s.heap t items) (hh : A.handled = none) (hn : (assignEach elts env).length = items.size)
    (hstar : (assignEach elts env).findIdx? (·.1) = none) (h : ∀ s', Fm s₀ L m own s' → wpAny (MM w) A (assignInOrder ((assignEach elts env).map (·.2)) items.toList) Q E s') : wpAny (MM w) A (assign (.Tuple elts k pos) env (.ref t)) Q E s := by
  obtain ⟨m, F, hm⟩ := x.loc
  exact unpackN_ F x.N ht hh hn hstar fun h' F' N' => h _ (x.of (tk := s.toks) F' hm N' x.nd)
theorem eM {o : Expr} {name : Str} {apos pos : Pos} {args : List Expr} {pl : Sem Bool}
    (h : wpAny (MM w) A (eval o env) (fun ov s₁ => wpAny (MM w) A (getMethod ov name pl) (fun fx s₂ => wpAny (MM w) A (callWith pos fx.1 fx.2 (backTo pos (starEach args env)) []) Q E s₂) E s₁) E s)
    (he : eval (.Call (.Attribute o name apos) args [] pos) env = (do
      let ov ← eval o env
      standAt apos.atName
      let (f, first) ← holding [ov] (getMethod ov name pl)
      callWith pos f first (backTo pos (starEach args env)) []) := by rfl) : wpAny (MM w) A (eval (.Call (.Attribute o name apos) args [] pos) env) Q E s :=
  methodCall_KW (kws := []) h he
theorem isiStr {x : Str} {t : Tok} (h : Q (.bool true) s) : wpAny (MM w) A (call (.builtin "isinstance") [.str x t, .type "str"]) Q E s :=
  call_isinstance (isinstance_true (by show typeOf _ = _; kernel_rfl) F.sub_str_str) ⟨typeIs_str _ _ _, h⟩
structure After (s s' : Shared) : Prop where
  same : ∃ h tk, s' = { s with heap := h, toks := tk }
  keep : Sub s.heap s'.heap
theorem After.of {h' : Heap} {tk : Nat} (k : Sub s.heap h') : After s { s with heap := h', toks := tk } := ⟨⟨h', tk, rfl⟩, k⟩
theorem After.refl : After s s := ⟨⟨_, _, rfl⟩, fun _ _ e => e⟩
theorem After.trans {s' s'' : Shared} (x : After s s') (y : After s' s'') : After s s'' := by
  obtain ⟨⟨h1, t1, rfl⟩, k1⟩ := x
  obtain ⟨⟨h2, t2, rfl⟩, k2⟩ := y
  exact ⟨⟨_, _, rfl⟩, fun b o e => k2 b o (k1 b o e)⟩
theorem Fm.aft (x : Fm s₀ L m own s) : After s₀ s := ⟨x.same, x.keep⟩
theorem Fm.go {s' : Shared} (x : Fm s₀ L m own s) (y : After s s') : Fm s₀ L m own s' := by
  obtain ⟨⟨h1, t1, rfl⟩, k1⟩ := y
  exact x.up k1
theorem Cx.go {s' : Shared} (x : Cx w s.heap) (y : After s s') : Cx w s'.heap := x.up y.keep
theorem asgPair {x y : Str} {p1 p2 tp vp pos : Pos} {k k2 : Nat} {e1 e2 : Expr} {Q : Flow → Shared → Prop} (hh : A.handled = none) (hk : env.scope.kind = .function) (hx : env.kindOf x = some .local) (hy : env.kindOf y = some .local)
    (h : wpAny (MM w) A (eval e1 env) (fun v1 s₁ => wpAny (MM w) A (eval e2 env) (fun v2 s₂ => ∃ s₀ m own, Fm s₀ env.locals m own s₂ ∧ ∀ s', Fm s₀ env.locals ((x, v1) :: ((y, v2) :: m.filter (fun p => p.1 != y)).filter (fun p => p.1 != x)) own s' → Q .next s') E s₁) E s)
    (hs1 : starEach [e1, e2] env = (false, eval e1 env) :: starEach [e2] env := by rfl) (hs2 : starEach [e2] env = (false, eval e2 env) :: starEach [] env := by rfl)
    (hs : swapsWithSole [.Tuple [.Name x p1, .Name y p2] k tp] (.Tuple [e1, e2] k2 vp) pos.line env = pure false := by rfl)
    (hw : swappedStores [.Tuple [.Name x p1, .Name y p2] k tp] (.Tuple [e1, e2] k2 vp) env = pure (some [x, y]) := by rfl) :
    wpAny (MM w) A (exec (.Assign [.Tuple [.Name x p1, .Name y p2] k tp] (.Tuple [e1, e2] k2 vp) pos) env) Q E s := by
  refine Assign_Tuple_swapped (names := [x, y]) (wpAny_Tuple (aC (wpAny_mono h (fun v1 s₁ h₁ => aC (wpAny_mono h₁ (fun v2 s₂ h₂ => aN ⟨(by show 2 ≤ sizeLine; decide), ?_⟩) fun _ _ q => q) hs2) fun _ _ q => q) hs1)) hs hw
  obtain ⟨s₀, m, own, x₂, hq⟩ := h₂
  have x₃ := x₂.push { cls := .type "tuple", data := .seq [v1, v2].toArray }
  have ht : IsTup (s₂.heap.push { cls := .type "tuple", data := .seq [v1, v2].toArray }) s₂.heap.objs.size [v1, v2].toArray := ⟨_, Heap.get?_push_size _ rfl, rfl, 0, rfl⟩
  show wpAny (MM w) A (unpackItems (.ref s₂.heap.objs.size) [v1, v2].toArray.size none) _ E { s₂ with heap := s₂.heap.push { cls := .type "tuple", data := .seq [v1, v2].toArray } }
  refine unpackItems_tuple (s := { s₂ with heap := s₂.heap.push { cls := .type "tuple", data := .seq [v1, v2].toArray } }) hh ht fun h' ex => ?_
  obtain ⟨mm, F, hm⟩ := x₃.loc
  have x₄ : Fm s₀ env.locals m own { s₂ with heap := h' } := (x₃.of (tk := s₂.toks) (F.extBut ex (Nat.le_refl _)) hm (x₃.N.extBut ex (Nat.le_refl _)) x₃.nd).less (List.sublist_cons_self _ _)
  show wpAny (MM w) A (assignInOrder [fun v => bindName env y v, fun v => bindName env x v] [v2, v1]) _ E { s₂ with heap := h' }
  exact assignInOrder_cons (bindName_ (sL x₄ hy hk fun s₅ x₅ => assignInOrder_cons (bindName_ (sL x₅ hx hk fun s₆ x₆ => assignInOrder_nil (hq _ x₆)))))
theorem Fm.goNew {s' : Shared} {a : Addr} {o : Obj} (x : Fm s₀ L m own s) (y : After s s') (h1 : s'.heap.get? a = some o) (h2 : s.heap.get? a = none) : Fm s₀ L m ((a, o) :: own) s' := by
  have z := x.go y
  obtain ⟨mm, F, hm⟩ := x.loc
  obtain ⟨oL, _, _, hL, _⟩ := F.ns
  refine ⟨z.same, z.loc, fun p hp => ?_, ?_⟩
  · rcases List.mem_cons.mp hp with rfl | hp
    · refine ⟨h1, fun e => ?_, ?_⟩
      · rw [← e, h2] at hL; cases hL
      · cases hq : s₀.heap.get? a with
        | none => rfl
        | some o' => have := x.keep _ _ hq; rw [h2] at this; cases this
    · exact z.N p hp
  · rw [List.map_cons, List.nodup_cons]
    refine ⟨fun hm => ?_, x.nd⟩
    obtain ⟨p, hp, e⟩ := List.mem_map.mp hm
    have := (x.N p hp).1
    rw [e, h2] at this
    cases this
theorem cT0 {T : String} {pos : Pos} {first : List Value} (h : wpAny (MM w) A (call (.type T) (first ++ [])) Q E s) : wpAny (MM w) A (callWith pos (.type T) first (backTo pos (starEach [] env)) []) Q E s := by
  refine PySem.callWith_type (by rfl) ?_
  exact PySem.evalArgs_none h
theorem cB0 {id : String} {pos : Pos} {first : List Value} (h : wpAny (MM w) A (call (.builtin id) (first ++ [])) Q E s) : wpAny (MM w) A (callWith pos (.builtin id) first (backTo pos (starEach [] env)) []) Q E s := by
  refine Calls.callWith_builtin (by rfl) ?_
  exact PySem.evalArgs_none h
theorem cF0 {f : Addr} {fd : FuncData} {pos : Pos} {first : List Value} (C : Cx w s.heap) (hK : (KF w.params).lookup f = some (fnO fd)) (h : wpAny (MM w) A (call (.ref f) (first ++ [])) Q E s) :
    wpAny (MM w) A (callWith pos (.ref f) first (backTo pos (starEach [] env)) []) Q E s := by
  refine Calls.callWith_function (o := fnO fd) (fd := fd) ?_
  exact PySem.evalArgs_none ⟨⟨C.F.K _ _ hK, rfl⟩, h⟩
end
end Mine
end -- B2
section -- B4
set_option maxRecDepth 100000
set_option maxHeartbeats 1000000
namespace Mine
def hide (h : Heap) (as : List Addr) : Heap := ⟨h.objs.mapIdx fun i o => if i ∈ as then { o with data := .freed } else o, h.life⟩
theorem hide_size (h : Heap) (as : List Addr) : (hide h as).objs.size = h.objs.size := by simp [hide]
theorem hide_in {h : Heap} {as : List Addr} {a : Addr} (hm : a ∈ as) : (hide h as).get? a = none := by
  unfold Heap.get? hide
  rw [Array.getElem?_mapIdx]
  cases h.objs[a]? with
  | none => rfl
  | some o => simp [hm]
theorem hide_out {h : Heap} {as : List Addr} {a : Addr} (hm : a ∉ as) : (hide h as).get? a = h.get? a := by
  unfold Heap.get? hide
  rw [Array.getElem?_mapIdx]
  cases h.objs[a]? with
  | none => rfl
  | some o => simp [hm]
theorem hide_sub (h : Heap) (as : List Addr) : Sub (hide h as) h := fun b o e => by
  by_cases hm : b ∈ as
  · rw [hide_in hm] at e; cases e
  · rwa [hide_out hm] at e
section
variable {w : World} {A : Around} {s s₀ : Shared} {E : Value → Shared → Prop} {Q : Value → Shared → Prop} {L a : Addr} {m : Loc} {own : List (Addr × Obj)} {fd : FuncData} {env : Env}
abbrev hid (s : Shared) (own : List (Addr × Obj)) : Shared := { s with heap := hide s.heap (own.map (·.1)) }
structure Owns (h : Heap) (own : List (Addr × Obj)) : Prop where
  at_ : ∀ p ∈ own, h.get? p.1 = some p.2
  nd : (own.map (·.1)).Nodup
theorem codeFO {fd : FuncData} {body : List Stmt} {vals : List Value} {R : Result → Shared → Prop} (binds : List (Str × Value)) (i : Nat) (C₀ : Cx w (hid s own).heap) (O : Owns s.heap own) (hd : Rm A 1)
    (ho : (KF w.params).lookup a = some (fnO fd)) (hc : cTab[i]?.map (fun x => (Value.ref x.1, x.2.1)) = some (fd.code, fd.qualname)) (hbody : fd.body = .stmts body) (hbind : bindArgs fd ⟨vals, []⟩ = pure binds)
    (hcell : (fd.scope.names.all fun x => x.2 != .cell) = true) (hloc : (binds.all fun x => fd.scope.names.lookup x.1 == some .local) = true)
    (h : ∀ s₁, Fm (hid s own) s.heap.objs.size binds own s₁ →
      wpAny (MM w) (A.deeper (callEnv fd s.heap.objs.size a)) (execs body (callEnv fd s.heap.objs.size a)) (fun f s' => R (.ok (.ret (match f with | .ret v => v | _ => .none))) s') (fun _ _ => False) s₁)
    (hnd : (binds.map fun p => binds.reverse.lookup p.1) = binds.map fun p => some p.2 := by rfl) (hco : fd.scope.isCoroutine = false := by rfl) (hgen : fd.scope.isGenerator = false := by rfl) (hk : fd.scope.kind = .function := by rfl) :
    codeAny (MM w) A (.call (.ref a) ⟨vals, []⟩) R s := by
  have C : Cx w s.heap := C₀.up (hide_sub _ _)
  refine (codeAny_call_straight (by have := hd.dep; show A.depth < 1000; omega) (C.F.K _ _ ho) rfl C.lim ?_ hbody hbind (fun x hx => ?_) (fun x hx => ?_) (fun s₁ x₁ => wpAny_mono (h s₁ ?_) (fun f s' q => q) (fun _ _ f => f.elim)) hco hgen hk)
  · obtain ⟨y, hy, e⟩ := Option.map_eq_some_iff.mp hc
    obtain ⟨e1, e2⟩ := Prod.mk.inj e
    rw [← e1, ← e2]
    exact C.F.c y (List.mem_of_getElem? hy)
  · have := List.all_eq_true.mp hcell x hx
    simpa using this
  · have := List.all_eq_true.mp hloc x hx
    simpa using this
  · refine ⟨let ⟨hh, tk, e⟩ := x₁.same; ⟨hh, tk, by rw [e]⟩, ⟨_, ⟨x₁.ns, fun b o e => x₁.keep b o (hide_sub _ _ b o e), by show (hide _ _).objs.size ≤ _; rw [hide_size]; exact Nat.le_refl _⟩, of_lk hnd⟩, fun p hp => ⟨x₁.keep _ _ (O.at_ p hp), Nat.ne_of_lt (Heap.lt_size (O.at_ p hp)), hide_in (List.mem_map_of_mem hp)⟩, O.nd⟩
theorem callFO {fd : FuncData} {body : List Stmt} {vals : List Value} (binds : List (Str × Value)) (i : Nat) (C₀ : Cx w (hid s own).heap) (O : Owns s.heap own) (hd : Rm A 1)
    (ho : (KF w.params).lookup a = some (fnO fd)) (hc : cTab[i]?.map (fun x => (Value.ref x.1, x.2.1)) = some (fd.code, fd.qualname)) (hbody : fd.body = .stmts body) (hbind : bindArgs fd ⟨vals, []⟩ = pure binds)
    (hcell : (fd.scope.names.all fun x => x.2 != .cell) = true) (hloc : (binds.all fun x => fd.scope.names.lookup x.1 == some .local) = true)
    (h : ∀ s₁, Fm (hid s own) s.heap.objs.size binds own s₁ →
      wpAny (MM w) (A.deeper (callEnv fd s.heap.objs.size a)) (execs body (callEnv fd s.heap.objs.size a)) (fun f s' => Q (match f with | .ret v => v | _ => .none) s') (fun _ _ => False) s₁)
    (hnd : (binds.map fun p => binds.reverse.lookup p.1) = binds.map fun p => some p.2 := by rfl) (hco : fd.scope.isCoroutine = false := by rfl) (hgen : fd.scope.isGenerator = false := by rfl) (hk : fd.scope.kind = .function := by rfl) :
    wpAny (MM w) A (call (.ref a) vals) Q E s :=
  wpAny_call (codeFO binds i C₀ O hd ho hc hbody hbind hcell hloc h hnd hco hgen hk)
theorem Rm.under {A : Around} {k : Nat} {c : Code} (x : Rm A (k + 1)) (h1 : c.weight ≤ 1) (h2 : c.cUnits ≤ 20) : Rm (A.under c) k :=
  ⟨x.hh, by have := x.dep; show A.depth + c.weight + k < 1000; omega, by have := x.un; show A.units + c.cUnits + 20 * k < 9900; omega⟩
structure AfterO (s : Shared) (own : List (Addr × Obj)) (s' : Shared) (own' : List (Addr × Obj)) : Prop where
  same : ∃ h tk, s' = { s with heap := h, toks := tk }
  keep : Sub (hid s own).heap s'.heap
  new : ∀ p ∈ own', s'.heap.get? p.1 = some p.2 ∧ (hid s own).heap.get? p.1 = none
  nd : (own'.map (·.1)).Nodup
theorem codeFB {fd : FuncData} {body : List Stmt} {vals : List Value} {R : Result → Shared → Prop} (i : Nat) (C₀ : Cx w (hid s own).heap) (O : Owns s.heap own) (hd : Rm A 1)
    (ho : (KF w.params).lookup a = some (fnO fd)) (hc : cTab[i]?.map (fun x => (Value.ref x.1, x.2.1)) = some (fd.code, fd.qualname)) (hbody : fd.body = .stmts body)
    (hcell : (fd.scope.names.all fun x => x.2 != .cell) = true)
    (h : wpAny (MM w) A.in1 (bindArgs fd ⟨vals, []⟩) (fun binds s₁ => ∃ own₁, AfterO s own s₁ own₁ ∧ Sub s.heap s₁.heap ∧ s.heap.objs.size ≤ s₁.heap.objs.size ∧ (binds.all fun x => fd.scope.names.lookup x.1 == some .local) = true ∧ (binds.map fun p => binds.reverse.lookup p.1) = (binds.map fun p => some p.2) ∧
      ∀ L' s₂, L' = s₁.heap.objs.size → Fm (hid s own) L' binds own₁ s₂ →
        wpAny (MM w) (A.deeper (callEnv fd L' a)) (execs body (callEnv fd L' a)) (fun f s' => R (.ok (.ret (match f with | .ret v => v | _ => .none))) s') (fun _ _ => False) s₂) (fun _ _ => False) s)
    (hco : fd.scope.isCoroutine = false := by rfl) (hgen : fd.scope.isGenerator = false := by rfl) (hk : fd.scope.kind = .function := by rfl) : codeAny (MM w) A (.call (.ref a) ⟨vals, []⟩) R s := by
  have C : Cx w s.heap := C₀.up (hide_sub _ _)
  refine codeAny_call_function (by have := hd.dep; show A.depth < 1000; omega) (C.F.K _ _ ho) rfl hco hgen hbody ?_ (wpAny_mono h (fun binds s₁ h₁ => ?_) fun _ _ f => f.elim)
  · obtain ⟨y, hy, e⟩ := Option.map_eq_some_iff.mp hc
    obtain ⟨e1, e2⟩ := Prod.mk.inj e
    rw [← e1, ← e2]
    exact C.F.c y (List.mem_of_getElem? hy)
  obtain ⟨own₁, y, ks, szle, hloc, hnd, hb⟩ := h₁
  refine wpAny_newFunctionEnv (fun x hx => by have := List.all_eq_true.mp hcell x hx; simpa using this) (fun x hx => by have := List.all_eq_true.mp hloc x hx; simpa using this) (fun h₀ hns₀ hsb₀ => ⟨(limUp C.lim ks).fresh _ hsb₀, ?_⟩) hk
  have kk : Sub s₁.heap h₀ := fun b o e => hsb₀.extBut b o (Nat.ne_of_lt (Heap.lt_size e)) (Heap.get?_push_of_some _ e)
  have z := hb _ { s₁ with heap := h₀, toks := s₁.toks + binds.length } rfl ⟨let ⟨hh, tk, e⟩ := y.same; ⟨h₀, _, by rw [e]⟩, ⟨_, ⟨hns₀, fun b o e => kk b o (y.keep b o e), by show (hide _ _).objs.size ≤ _; rw [hide_size]; exact szle⟩, of_lk hnd⟩, fun p hp => ⟨kk _ _ (y.new p hp).1, Nat.ne_of_lt (Heap.lt_size (y.new p hp).1), (y.new p hp).2⟩, y.nd⟩
  exact codeAny_func (wpAny_mono z (fun _ _ q => q) fun _ _ f => f.elim)
theorem Fm.aftO {s' : Shared} {own' : List (Addr × Obj)} (x : Fm (hid s own) L m own' s') : AfterO s own s' own' :=
  ⟨let ⟨h, tk, e⟩ := x.same; ⟨h, tk, by rw [e]⟩, x.keep, fun p hp => ⟨(x.N p hp).1, (x.N p hp).2.2⟩, x.nd⟩
theorem Fm.goO {s' : Shared} {own' rest : List (Addr × Obj)} (x : Fm s₀ L m (own ++ rest) s) (y : AfterO s own s' own') : Fm s₀ L m (own' ++ rest) s' := by
  obtain ⟨mm, F, hm⟩ := x.loc
  have hL : L ∉ own.map (·.1) := fun h => by
    obtain ⟨p, hp, e⟩ := List.mem_map.mp h
    exact (x.N p (List.mem_append.mpr (.inl hp))).2.1 e
  have h0 : ∀ b o, s₀.heap.get? b = some o → b ∉ own.map (·.1) := fun b o e h => by
    obtain ⟨p, hp, e2⟩ := List.mem_map.mp h
    have := (x.N p (List.mem_append.mpr (.inl hp))).2.2
    rw [e2, e] at this
    cases this
  have k0 : Sub s₀.heap s'.heap := fun b o e => y.keep b o (by rw [hide_out (h0 b o e)]; exact F.keep b o e)
  have hkL : ∀ o, s.heap.get? L = some o → s'.heap.get? L = some o := fun o e => y.keep L o (by rw [hide_out hL]; exact e)
  have nd := x.nd
  rw [List.map_append, List.nodup_append] at nd
  have hrest : ∀ p ∈ rest, p.1 ∉ own.map (·.1) := fun p hp h => nd.2.2 p.1 h p.1 (List.mem_map_of_mem hp) rfl
  refine ⟨?_, ⟨mm, ⟨F.ns.at' hkL, k0, F.above⟩, hm⟩, fun p hp => ?_, ?_⟩
  · obtain ⟨h1, t1, e1⟩ := x.same
    obtain ⟨h2, t2, e2⟩ := y.same
    exact ⟨h2, t2, by rw [e2, e1]⟩
  · rcases List.mem_append.mp hp with hp | hp
    · obtain ⟨a1, a2⟩ := y.new p hp
      refine ⟨a1, fun e => ?_, ?_⟩
      · obtain ⟨oL, _, _, hLo, _⟩ := F.ns
        have : (hid s own).heap.get? L = some oL := by rw [hide_out hL]; exact hLo
        rw [← e, a2] at this
        cases this
      · cases hq : s₀.heap.get? p.1 with
        | none => rfl
        | some o =>
          have : (hid s own).heap.get? p.1 = some o := by rw [hide_out (h0 _ o hq)]; exact F.keep _ _ hq
          rw [a2] at this
          cases this
    · have z := x.N p (List.mem_append.mpr (.inr hp))
      exact ⟨y.keep _ _ (by rw [hide_out (hrest p hp)]; exact z.1), z.2⟩
  · rw [List.map_append, List.nodup_append]
    refine ⟨y.nd, nd.2.1, fun a ha b hb e => ?_⟩
    obtain ⟨p, hp, e1⟩ := List.mem_map.mp ha
    obtain ⟨q, hq, e2⟩ := List.mem_map.mp hb
    have z := x.N q (List.mem_append.mpr (.inr hq))
    have h1 := (y.new p hp).2
    rw [e1, e, ← e2, hide_out (hrest q hq), z.1] at h1
    cases h1
theorem Fm.hidC {rest : List (Addr × Obj)} (x : Fm s₀ L m (own ++ rest) s) (C : Cx w s₀.heap) : Cx w (hid s own).heap := C.up fun b o e => by
  have : b ∉ own.map (·.1) := fun h => by
    obtain ⟨p, hp, e2⟩ := List.mem_map.mp h
    have := (x.N p (List.mem_append.mpr (.inl hp))).2.2
    rw [e2, e] at this
    cases this
  show (hide s.heap _).get? b = some o
  rw [hide_out this]
  exact x.keep b o e
theorem Fm.owns {rest : List (Addr × Obj)} (x : Fm s₀ L m (own ++ rest) s) : Owns s.heap own := ⟨fun p hp => (x.N p (List.mem_append.mpr (.inl hp))).1, by
  have nd := x.nd
  rw [List.map_append, List.nodup_append] at nd
  exact nd.1⟩
end
end Mine
end -- B4
section -- T1
set_option maxRecDepth 100000
set_option maxHeartbeats 1000000
namespace Mine
theorem translate1 {w : World} {A : Around} {s : Shared} {E : Value → Shared → Prop} {Q : PySem.Fin → Shared → Prop} {c : Nat} {t : Tok} {tab : Value} (hc : c < 128)
  (h : wpAny (MM w) A (Builtin.Str.tableLookup tab c) (fun r s' => r = .keep ∧ wpAny (MM w) A (retStr ⟨#[c]⟩) Q E s') E s) : wpAny (MM w) A (Builtin.«str.translate» ⟨[.str ⟨#[c]⟩ t, tab], []⟩) Q E s := by
  unfold Builtin.«str.translate»
  have e1 : Builtin.Str.strOneArg "translate" ⟨[.str ⟨#[c]⟩ t, tab], []⟩ = pure (.str ⟨#[c]⟩ t, ⟨#[c]⟩, tab) := rfl
  rw [e1]
  have e2 : Builtin.Str.tooLong 0 = false := by decide
  have e3 : Builtin.Str.tooLong 1 = false := by decide
  simp only [pure_bind, Str.length, Array.size, List.length, List.forIn_toArray, List.forIn_cons, List.forIn_nil, List.all_toArray, List.all_cons, List.all_nil, hc, e2, e3, List.lookup]
  have e4 : (#[c].all (fun x => decide (x < 128)) 0 (0 + 1)) = true := by simp [hc]
  simp only [e4, Bool.false_eq_true, if_false, if_true]
  rw [if_neg (by decide)]
  refine wpAny_bind (wpAny_bind (wpAny_bind (wpAny_mono h (fun r s' hr => ?_) fun _ _ x => x)))
  obtain ⟨rfl, hr⟩ := hr
  refine wpAny_pure ?_
  dsimp only
  refine wpAny_pure ?_
  simp only [e3, Bool.false_eq_true, if_false, Nat.zero_add]
  exact hr
def goodEnt (x : Int × Value) : Bool := match x.2 with | .int i _ => x.1 == hashInt i && !(decide (65 ≤ i) && decide (i ≤ 80)) | _ => false
theorem mapVal_good : mapVal.all goodEnt = true := by decide +kernel
theorem mapOf_chars {w : World} {h : Heap} (x : Facts w h) : ∃ f, h.MapOf (intKind pw w) 59 f ∧ ∀ i : Int, 65 ≤ i → i ≤ 80 → f i = none := by
  obtain ⟨es, ep, ho, he⟩ := x.t
  have key : ∀ e ∈ es.toList, ∃ i t, e.key = .int i t ∧ e.hash = hashInt i ∧ ¬ (65 ≤ i ∧ i ≤ 80) := fun e hm => by
    have hall := mapVal_good
    rw [← he] at hall
    have h2 := List.all_eq_true.mp hall _ (List.mem_map_of_mem hm)
    revert h2
    unfold goodEnt
    dsimp only
    cases hk : e.key <;> intro h2 <;> first | (cases h2; done) | skip
    rename_i i t
    dsimp only at h2
    simp at h2
    exact ⟨i, t, rfl, h2.1, by omega⟩
  refine ⟨fun k => findBy (intKind pw w).is es k, ⟨_, es, ep, ho, ⟨rfl, rfl, rfl⟩, rfl, fun e hm => ?_, fun _ => rfl⟩, fun i h1 h2 => ?_⟩
  · obtain ⟨i, t, e1, e2, _⟩ := key e (Array.mem_toList_iff.mpr hm)
    exact ⟨i, by rw [e1]; simp [intKind, Value.isInt], e2⟩
  · show (es.find? _).map _ = none
    rw [Option.map_eq_none_iff, Array.find?_eq_none]
    intro e hm hi
    obtain ⟨j, t, e1, _, e3⟩ := key e (Array.mem_toList_iff.mpr hm)
    rw [e1] at hi
    have : j = i := by simpa [intKind, Value.isInt] using hi
    omega
section
variable {w : World} {A : Around} {s : Shared} {E : Value → Shared → Prop}
theorem isSub_KeyError : isSubtype (.type "KeyError") (.type "LookupError") = pure true := by rw [isSubtype_type]; kernel_rfl
theorem tableLookup_keep {Q : Builtin.Str.Mapped → Shared → Prop} {c : Nat} (C : Cx w s.heap) (hh : A.handled = none) (h1 : 65 ≤ c) (h2 : c ≤ 80) (h : ∀ h' tk, Sub s.heap h' → Q .keep { s with heap := h', toks := tk }) :
    wpAny (MM w) A (Builtin.Str.tableLookup (.ref 59) c) Q E s := by
  obtain ⟨f, hm, hf⟩ := mapOf_chars C.F
  unfold Builtin.Str.tableLookup
  refine wpAny_bind (wpAny_attempt (wpAny_bind (wpAny_mkInt ?_)))
  refine wpAny_getItem_missing_of (knd := intKind pw w) (k := (c : Int)) (f := f) (by simp [intKind, Value.isInt]) (by decide) hh hm (hf _ (by omega) (by omega)) fun h' e ne => ?_
  obtain ⟨ob, t, ho, hc, hd⟩ := ne.there
  refine wpAny_bind (wpAny_isInstance (T := "KeyError") ⟨ob, ho, hc⟩ isSub_KeyError ?_)
  rw [if_pos rfl]
  exact wpAny_bind (wpAny_rule (wpAny_pure (h _ _ ne.keeps)))
theorem call_translate1 {Q : Value → Shared → Prop} {c : Nat} {t : Tok} (C : Cx w s.heap) (hh : A.handled = none) (h1 : 65 ≤ c) (h2 : c ≤ 80) (h : ∀ h' tk t', Sub s.heap h' → Q (.str ⟨#[c]⟩ t') { s with heap := h', toks := tk }) :
    wpAny (MM w) A (call (.builtin "str.translate") [.str ⟨#[c]⟩ t, .ref 59]) Q E s := by
  refine wpAny_call_entry F.slot_str_translate (typeIs_str _ _ _) F.entry_str_translate ?_ (F.args_str_translate_2 _ _)
  refine translate1 (by omega) (tableLookup_keep C hh h1 h2 fun h' tk k => ⟨rfl, ?_⟩)
  refine wpAny_bind (wpAny_mkStr ?_)
  exact wpAny_pure ⟨_, rfl, h _ _ _ k⟩
theorem escape_call {Q : Value → Shared → Prop} {c : Nat} {t : Tok} (C : Cx w s.heap) (hd : Rm A 2) (h1 : 65 ≤ c) (h2 : c ≤ 80) (h : ∀ s' t', After s s' → Q (.str ⟨#[c]⟩ t') s') :
    wpAny (MM w) A (call (.ref 69) [.str ⟨#[c]⟩ t]) Q E s := by
  refine callF (fd := fdEscape) [("pattern", .str ⟨#[c]⟩ t)] 2 C (hd.le (by omega)) rfl rfl rfl rfl rfl rfl fun s₁ x₁ => ?_
  have hD : Rm (A.deeper (callEnv fdEscape s.heap.objs.size 69)) 1 := hd.deep
  generalize hA : A.deeper (callEnv fdEscape s.heap.objs.size 69) = A' at hD ⊢
  show wpAny _ _ (execs [_] _) _ _ _
  refine wpAny_execs_cons (wpAny_If (wpAny_isTrue_value (eCall (eB (C.up x₁.keep) 17 4 rfl rfl rfl rfl rfl rfl (cB (aC (eL x₁ rfl rfl rfl (aC (eB (C.up x₁.keep) 18 5 rfl rfl rfl rfl rfl rfl (aN (isiStr ?_)))))))))))
  refine wpAny_truthy_bool ?_
  rw [if_pos rfl]
  refine wpAny_execs_cons (wpAny_Return_some (eM (eL x₁ rfl rfl rfl (getMethod_builtin (typeIs_str _ _ _) F.plainAttrs_str F.slot_str_translate F.type_str_translate (fun a h => nomatch h) (cB (aC (eG (C.up x₁.keep) 5 rfl rfl rfl rfl (aN (call_translate1 (C.up x₁.keep) hD.hh h1 h2 fun h' tk t' k => ?_)))))))))
  exact h _ _ (x₁.up (tk := tk) k).aft
end
end Mine
end -- T1
section -- G1
set_option maxRecDepth 100000
set_option maxHeartbeats 1000000
namespace Mine
def bndO (id : String) (l : Addr) : Obj := { cls := .type "builtin_function_or_method", data := .fields #[.builtin id, .ref l] }
section
variable {w : World} {A : Around} {s : Shared} {E : Value → Shared → Prop}
theorem look_md_get : typeLookup (.type "method_descriptor") "__get__" = pure (some (.builtin "method_descriptor.__get__")) := by rw [typeLookup_type, builtinLookup_eq_fast]; kernel_rfl
theorem look_md_set : typeLookup (.type "method_descriptor") "__set__" = pure none := by rw [typeLookup_type, builtinLookup_eq_fast]; kernel_rfl
theorem look_md_del : typeLookup (.type "method_descriptor") "__delete__" = pure none := by rw [typeLookup_type, builtinLookup_eq_fast]; kernel_rfl
theorem slot_md_get : Slot "method_descriptor" "__get__" "method_descriptor.__get__" :=
  .of (owner := "method_descriptor") (n := "__get__") (by rw [typeLookup_type, builtinLookup_eq_fast]; kernel_rfl) (by decide +kernel) (by decide +kernel) (by decide +kernel)
    (by first | exact .inl (by decide +kernel) | exact .inr (by decide +kernel)) (by rw [isSubtype_type]; kernel_rfl)
theorem entry_md_get : entryFor table "method_descriptor.__get__" = some Builtin.«method_descriptor.__get__» := entryFor_of_tree (by kernel_rfl)
theorem args_md_get (a b c : Value) : argsOk "method_descriptor.__get__" ⟨[a, b, c], []⟩ := by unfold argsOk; kernel_rfl
theorem run_mdget {M : Model} {A : Around} {E : Value → Shared → Prop} {s : Shared} {a : Addr} {P : PySem.Fin → Shared → Prop} (hT : s.TypeIs (.ref a) "list") (h : P (.done (.ret (.ref s.heap.objs.size))) { s with heap := s.heap.push (bndO "list.append" a) }) :
    wpAny M A (Builtin.«method_descriptor.__get__» ⟨[.builtin "list.append", .ref a, .type "list"], []⟩) P E s := by
  unfold Builtin.«method_descriptor.__get__»
  refine wpAny_bind (wpAny_of_eq (a := (.builtin "list.append", some (.ref a), some (.type "list"))) (by first | rfl | kernel_rfl) ?_)
  show wpAny _ _ (if Manifest.toldItsClass.contains "list.append" = true then _ else _) _ _ _
  rw [if_neg (by decide +kernel)]
  refine wpAny_bind ?_
  refine wpAny_bind (wpAny_of_eq (a := (Str.ofString "append", .type "list")) (by first | rfl | kernel_rfl) ?_)
  refine wpAny_bind (wpAny_isInstance hT F.sub_list_list ?_)
  refine wpAny_pure ?_
  exact wpAny_bind (wpAny_newObj_type (wpAny_pure h))
theorem meets_ga_append {prog : Program} {w : World} {A : Around} {E : Value → Shared → Prop} {hp : Heap} {g d tk os} {a : Addr} {o : Obj} {u : Tok} {Q : PySem.Fin → Shared → Prop} (hx : hp.get? a = some o) (hc : o.cls = .type "list") (hd : o.dict = none) {xs : Array Value} {k : Nat} (hdat : o.data = .seq xs k)
  (h : Q (.done (.ret (.ref hp.objs.size))) ⟨hp.push (bndO "list.append" a), g, d, tk, os⟩) :
  wpAny (model prog w) A (Builtin.«object.__getattribute__» ⟨[.ref a, .str "append" u], []⟩) Q E ⟨hp, g, d, tk, os⟩ := by
  obtain ⟨c, dct, dat, sl⟩ := o
  simp only at hc hd hdat
  subst hc hd hdat
  have hT : (⟨hp, g, d, tk, os⟩ : Shared).TypeIs (.ref a) "list" := ⟨_, hx, rfl⟩
  have hname : (["__module__", "__name__", "__qualname__", "__doc__", "__annotations__"] : List Str).contains "append" = false := by decide +kernel
  have f1 := F.slot_list_append.lookup
  have f2 := F.type_list_append
  have f3 := look_md_get
  have f4 := look_md_set
  have f5 := look_md_del
  unfold Builtin.«object.__getattribute__»
  repeat (any_goals (first | assumption | wp_step))
  refine codeAny_call_builtin slot_md_get.plain entry_md_get (slot_md_get.check _ _ _ _ _ _ _ _ f2 (args_md_get _ _ _) (run_mdget hT ?_))
  exact wpAny_pure h
theorem getAttr_append {A : Around} {E : Value → Shared → Prop} {s : Shared} {a : Addr} {o : Obj} {Q : Value → Shared → Prop} (hx : s.heap.get? a = some o) (hc : o.cls = .type "list") (hd : o.dict = none) {xs : Array Value} {k : Nat} (hdat : o.data = .seq xs k)
  (h : ∀ tk, Q (.ref s.heap.objs.size) { s with heap := s.heap.push (bndO "list.append" a), toks := tk }) : wpAny (MM w) A (getAttr (.ref a) "append" true) Q E s := by
  obtain ⟨hp, g, d, tk, os⟩ := s
  obtain ⟨c, dct, dat, sl⟩ := o
  simp only at hc hd hdat
  subst hc hd hdat
  have hT : ∀ tk', (⟨hp, g, d, tk', os⟩ : Shared).TypeIs (.ref a) "list" := fun _ => ⟨_, hx, rfl⟩
  have f3 := F.slot_list_getattribute.lookup
  have f4 := F.slot_list_getattribute.bind (.ref a)
  have f5 := am_list_getattr_none
  have f6 : ∀ tk', (⟨hp.push (bndO "list.append" a), g, d, tk', os⟩ : Shared).TypeIs (.ref hp.objs.size) "builtin_function_or_method" := fun _ => ⟨_, Heap.get?_push_size _ rfl, rfl⟩
  unfold getAttr getAttrBy
  repeat (any_goals (first | assumption | exact hT _ | exact f6 _ | ((with_reducible show wpAny _ _ (call (Value.builtin "list.__getattribute__") _ ) _ _ _); refine wpAny_call_entry F.slot_list_getattribute (hT _) am_entry_list_getattribute (meets_ga_append hx rfl rfl rfl ⟨_, rfl, ?_⟩) (F.args_list_getattribute_2 _ _)) | wp_step))
  exact h _
theorem sub_list_module : isSubtype (.type "list") (.type "module") = pure false := by rw [isSubtype_type]; kernel_rfl
theorem sub_list_type : isSubtype (.type "list") (.type "type") = pure false := by rw [isSubtype_type]; kernel_rfl
theorem sig_append : Manifest.signature? "list.append" = some ⟨.oneArg, "list.append", "append", .self, [⟨"object", .posOnly, true⟩]⟩ := by kernel_rfl
theorem kind_append : builtinKind "list.append" = some .method := by kernel_rfl
theorem check_append {M : Model} {A : Around} {E : Value → Shared → Prop} {s : Shared} {a : Addr} {x : Value} {Q : Unit → Shared → Prop} {xs : Array Value} {n : Nat} (hx : s.heap.get? a = some (listOf xs n)) (h : Q () s) : wpAny M A (checkBoundCall "list.append" ⟨[.ref a, x], []⟩) Q E s := by
  obtain ⟨hp, g, d, tk, os⟩ := s
  have hT : (⟨hp, g, d, tk, os⟩ : Shared).TypeIs (.ref a) "list" := ⟨_, hx, rfl⟩
  have f1 := sub_list_module
  have f2 := sub_list_type
  unfold checkBoundCall
  rw [sig_append]
  simp only [kind_append]
  have f7 : Manifest.varargsMethods.contains "list.append" = false := by decide +kernel
  repeat (any_goals (first | assumption | wp_step))
theorem fAppend {its : Array Value} {n : Nat} {x : Value} {D : Addr} {pre post : List (Addr × Obj)} {Q : Value → Shared → Prop} {s₀ : Shared} {L : Addr} {m : Loc} (y : Fm s₀ L m (pre ++ (D, listOf its n) :: post) s)
    (h : ∀ s', Fm s₀ L m (pre ++ (D, listOf (its.push x) (n + 1)) :: post) s' → Q .none s') (hsz : its.size ≤ sizeLine := by size_fits) : wpAny (MM w) A (call (.builtin "list.append") [.ref D, x]) Q E s := by
  have z := y.N (D, listOf its n) (by simp)
  exact append_at (hsz := hsz) z.1 fun h' hs ho' => h _ (y.upd (tk := s.toks) (Heap.SameBut.extBut hs) ho')
theorem quiet_append {as : Args} : (Code.builtin "list.append" as).quiet = true := Code.quiet_builtin _ (by decide +kernel)
theorem fAppendB {its : Array Value} {n : Nat} {x : Value} {D u : Addr} {pre post : List (Addr × Obj)} {Q : Value → Shared → Prop} {s₀ : Shared} {L : Addr} {m : Loc} (y : Fm s₀ L m (pre ++ (D, listOf its n) :: post) s) (hu : s.heap.get? u = some (bndO "list.append" D))
    (h : ∀ s', Fm s₀ L m (pre ++ (D, listOf (its.push x) (n + 1)) :: post) s' → Q .none s') (hsz : its.size ≤ sizeLine := by size_fits) : wpAny (MM w) A (call (.ref u) [x]) Q E s := by
  refine wpAny_call (codeAny_of_tree ?_)
  show wpAny _ A.in1 (callAny (.ref u) ⟨[x], []⟩) _ _ s
  simp only [callAny]
  refine wpAny_bind (wpAny_load hu ?_)
  simp only [bndO, show (Value.type "builtin_function_or_method" == Value.type "method" || Value.type "builtin_function_or_method" == Value.type "builtin_function_or_method" || Value.type "builtin_function_or_method" == Value.type "method-wrapper") = true by decide, if_true]
  refine KFB.if_so (by decide) ?_
  have z := y.N (D, listOf its n) (by simp)
  refine wpAny_bind (check_append z.1 ?_)
  refine wpAny_bind (wpAny_pure (wpAny_pure ?_))
  refine ⟨quiet_append, codeAny_builtin F.entry_list_append ?_⟩
  show wpAny _ _ (updateSeq D (·.push x) >>= fun _ => ret .none) _ _ s
  refine wpAny_bind ?_
  refine wpAny_updateSeq (o := listOf its n) z.1 rfl (wpAny_pure ?_) (by simpa using hsz)
  have hs := Heap.SameBut.update s.heap D fun o => o.mapSeq (·.push x)
  refine h _ (y.upd (tk := s.toks) (Heap.SameBut.extBut hs) ?_)
  rw [Heap.get?_update_self _ z.1 (by rw [Obj.mapSeq_push_plain]; rfl), Obj.mapSeq_push_plain]
theorem callWith_bnd {pos : Pos} {u : Addr} {ob : Obj} {id : String} {l : Addr} {first : List Value} {args : List (Bool × Sem Value)} {M : Model} {Q : Value → Shared → Prop} (hob : ob = bndO id l) (hplain : args.any (·.1) = false)
    (h : wpAny M A (evalArgs (.ref u) true args []) (fun x s₁ => s₁.heap.get? u = some ob ∧ wpAny M A (call (.ref u) (first ++ x.pos) x.kw) Q E s₁) E s) : wpAny M A (callWith pos (.ref u) first args []) Q E s := by
  subst hob
  unfold callWith
  refine wpAny_bind (wpAny_holding (wpAny_mono h (fun x s₁ h₁ => wpAny_bind (wpAny_standAt ?_)) fun _ _ x => x))
  obtain ⟨ho, hcall⟩ := h₁
  simp only [hplain, List.any_nil, Bool.or_false]
  refine wpAny_bind (m := keeperOf (.ref u)) ?_
  unfold keeperOf
  refine wpAny_bind (wpAny_load ho ?_)
  simp only [bndO, show (Value.type "builtin_function_or_method" != Value.type "method") = true by decide, show (Value.type "builtin_function_or_method" == Value.type "builtin_function_or_method" || Value.type "builtin_function_or_method" == Value.type "method-wrapper") = true by decide, if_true]
  refine wpAny_pure ?_
  exact wpAny_bind (wpAny_mono hcall (fun r s₂ hr => wpAny_bind (wpAny_holding (wpAny_point (wpAny_pure hr)))) fun _ _ x => x)
theorem cBnd {pos : Pos} {u : Addr} {id : String} {l : Addr} {first : List Value} {env : Env} {e : Expr} {rest : List Expr} {Q : Value → Shared → Prop}
    (h : wpAny (MM w) A (spliced (backTo pos (starEach (e :: rest) env))) (fun vs s₁ => s₁.heap.get? u = some (bndO id l) ∧ wpAny (MM w) A (call (.ref u) (first ++ vs)) Q E s₁) E s)
    (he : starEach (e :: rest) env = (false, eval e env) :: starEach rest env := by rfl) (hplain : (backTo pos (starEach rest env)).any (·.1) = false := by rfl) :
    wpAny (MM w) A (callWith pos (.ref u) first (backTo pos (starEach (e :: rest) env)) []) Q E s := by
  rw [he] at h ⊢
  refine callWith_bnd (ob := bndO id l) (id := id) (l := l) rfl (by show (false || (backTo pos (starEach rest env)).any (·.1)) = false; rw [hplain]; rfl) ?_
  exact Calls.evalArgs_plain (wpAny_mono h (fun _ _ q => q) fun _ _ q => q)
end
end Mine
end -- G1
section -- T2
set_option maxRecDepth 100000
set_option maxHeartbeats 1000000
namespace Mine
def lets (ds : List Nat) : List Nat := ds.map (65 + ·)
def oneS (d : Nat) : Str := ⟨#[65 + d]⟩
theorem strs_snoc {us : List Value} {ws : List Str} {x : Str} {t : Tok} (h : StrsAre us ws) : StrsAre (us ++ [.str x t]) (ws ++ [x]) := PySem.W.kct_snoc h
theorem sign_ne : ∀ d : Fin 16, (oneS d.val == Str.ofString "*") = false ∧ (oneS d.val == Str.ofString "?") = false ∧ (oneS d.val == Str.ofString "[") = false := by decide +kernel
theorem star_eq : ((⟨#[42]⟩ : Str) == Str.ofString "*") = true := by decide +kernel
section
variable {w : World} {A : Around} {s : Shared} {E : Value → Shared → Prop}
theorem fNewList {s₀ : Shared} {L : Addr} {m : Loc} {own : List (Addr × Obj)} {env : Env} {pos : Pos} {Q : Value → Shared → Prop} (y : Fm s₀ L m own s) (h : ∀ s' l, Fm s₀ L m ((l, listOf #[] 0) :: own) s' → Q (.ref l) s') : wpAny (MM w) A (eval (.List [] pos) env) Q E s :=
  wpAny_List (aN ⟨Nat.zero_le _, h _ _ (y.push _)⟩)
theorem isnot_star {x : Str} {t : Tok} {star : Value} {Q : Value → Shared → Prop} (hst : star = .none ∨ ∃ a, star = .ref a) (h : Q (.bool true) s) : wpAny (MM w) A (compareOp .IsNot (.str x t) star) Q E s := by
  rcases hst with rfl | ⟨a, rfl⟩
  · exact wpAny_pure h
  · exact wpAny_pure h
theorem translate_call {Q : Value → Shared → Prop} {x : Str} {t u : Tok} {star : Value} {ds : List Nat} (C : Cx w s.heap) (hd : Rm A 4) (hx : x.cps.toList = lets ds ++ [42]) (hds : ∀ d ∈ ds, d < 16) (hl : ds.length ≤ 16) (hst : star = .none ∨ ∃ a, star = .ref a)
    (h : ∀ s' l its vs, After s s' → s'.heap.PlainList l its → s.heap.get? l = none → its.toList = vs ++ [star] → StrsAre vs (ds.map oneS) → Q (.ref l) s') :
    wpAny (MM w) A (call (.ref 76) [.str x t, star, .str "." u]) Q E s := by
  refine callF (fd := fdTr) [("pat", .str x t), ("STAR", star), ("QUESTION_MARK", .str "." u)] 3 C (hd.le (by omega)) rfl rfl rfl rfl rfl rfl fun s₁ x₁ => ?_
  have hD : Rm (A.deeper (callEnv fdTr s.heap.objs.size 76)) 3 := hd.deep
  generalize hA : A.deeper (callEnv fdTr s.heap.objs.size 76) = A' at hD ⊢
  show wpAny _ _ (execs [_, _, _, _, _, _] _) _ _ _
  refine wpAny_execs_cons (wpAny_Assign_Name (fNewList x₁ fun s₂ lr x₂ => sL x₂ rfl rfl fun s₃ x₃ => ?_))
  have o₃ := (x₃.N _ (.head _)).1
  refine wpAny_execs_cons (wpAny_Assign_Name (Attribute_Name_ (eL x₃ rfl rfl rfl (getAttr_append o₃ rfl rfl rfl fun tk => ?_))))
  have x₄ := (x₃.push (bndO "list.append" lr)).tok tk
  generalize hlb : s₃.heap.objs.size = lb at x₄ ⊢
  refine sL x₄ rfl rfl fun s₅ x₅ => ?_
  have o₅ : s₅.heap.get? lb = some (bndO "list.append" lr) := (x₅.N _ (.head _)).1
  have hlen : x.length = ds.length + 1 := by
    have := congrArg List.length hx
    simpa [lets, Str.length] using this
  refine wpAny_execs_cons (asgPair hD.hh rfl rfl rfl (eInt fun t6 k6 => eCall (eB (C.up (x₅.tok k6).keep) 19 6 rfl rfl rfl rfl rfl rfl (cB (aC (eL (x₅.tok k6) rfl rfl rfl (aN (len_str (by omega) ⟨_, _, _, x₅.tok _, fun s₇ x₇ => ?_⟩))))))))
  rw [hlen] at x₇
  refine wpAny_execs_cons (wpAny_While (codeAny_whileLoop (fun r s' => ∃ k its cnt vs ti tn, k + r = ds.length + 1 ∧
    Fm s s.heap.objs.size [("i", .int ((k : Nat) : Int) ti), ("n", .int ((ds.length + 1 : Nat) : Int) tn), ("pat", .str x t), ("STAR", star), ("QUESTION_MARK", .str "." u), ("res", .ref lr), ("add", .ref lb)] [(lb, bndO "list.append" lr), (lr, listOf its cnt)] s' ∧
    ((k ≤ ds.length ∧ its.toList = vs ∧ StrsAre vs ((ds.take k).map oneS)) ∨ (k = ds.length + 1 ∧ its.toList = vs ++ [star] ∧ StrsAre vs (ds.map oneS)))) ?_ (ds.length + 1) ?_))
  · rintro r s₈ ⟨k, its, cnt, vs, ti, tn, hk, x₈, hv⟩
    refine wpAny_isTrue_Compare1 (eL x₈ rfl rfl rfl (eL x₈ rfl rfl rfl (lt_int (wpAny_truthy_bool ?_))))
    rcases hv with ⟨hle, hv1, hv2⟩ | ⟨he, hv1, hv2⟩
    · rw [if_pos (by simpa using by omega)]
      have hlo : -(x.length : Int) ≤ (k : Int) := by omega
      have hhi : (k : Int) < x.length := by rw [hlen]; omega
      have hcp : x.cps[k]? = (lets ds ++ [42])[k]? := by rw [← hx]; simp
      rcases Nat.lt_or_ge k ds.length with hlt | hge
      · have hit : Txt.item x ((k : Nat) : Int) = oneS ds[k] := by
          refine item_meets (by omega) ?_
          rw [Int.toNat_natCast, hcp, List.getElem?_append_left (by simpa [lets] using hlt)]
          simp [lets, hlt]
        have hd16 : ds[k] < 16 := hds _ (List.getElem_mem hlt)
        have n1 : (oneS ds[k] == Str.ofString "*") = false := (sign_ne ⟨ds[k], hd16⟩).1
        have n2 : (oneS ds[k] == Str.ofString "?") = false := (sign_ne ⟨ds[k], hd16⟩).2.1
        have n3 : (oneS ds[k] == Str.ofString "[") = false := (sign_ne ⟨ds[k], hd16⟩).2.2
        refine wpAny_execs_cons (wpAny_Assign_Name (Subscript_ (eL x₈ rfl rfl rfl (eL x₈ rfl rfl rfl (item_str (by simp [fitsSsize]; omega) hlo hhi fun _ => ?_)))))
        rw [hit]
        refine sL (x₈.tok _) rfl rfl fun s₉ x₉ => ?_
        refine wpAny_execs_cons (wpAny_Assign_Name (wpAny_BinOp (eL x₉ rfl rfl rfl (eInt fun t10 k10 => add_int (sL (x₉.tok _) rfl rfl fun s₁₁ x₁₁ => ?_)))))
        refine wpAny_execs_cons (wpAny_If (wpAny_isTrue_Compare1 (eL x₁₁ rfl rfl rfl (eStr fun ta ka => eq_str (wpAny_truthy_bool ?_)))))
        rw [n1, if_neg (by decide)]
        have xa := x₁₁.tok ka
        refine wpAny_execs_cons (wpAny_If (wpAny_isTrue_Compare1 (eL xa rfl rfl rfl (eStr fun tb kb => eq_str (wpAny_truthy_bool ?_)))))
        rw [n2, if_neg (by decide)]
        have xb := x₁₁.tok kb
        refine wpAny_execs_cons (wpAny_If (wpAny_isTrue_Compare1 (eL xb rfl rfl rfl (eStr fun tc kc => eq_str (wpAny_truthy_bool ?_)))))
        rw [n3, if_neg (by decide)]
        have xc := x₁₁.tok kc
        refine wpAny_execs_cons (wpAny_Expr (eCall (eL xc rfl rfl rfl (cBnd (id := "list.append") (l := lr) (aC (eCall (eG (C.up xc.keep) 2 rfl rfl rfl rfl (cF (fd := fdEscape) rfl (aC (eL xc rfl rfl rfl (aN ⟨(C.up xc.keep).F.K, escape_call (C.up xc.keep) (hD.le (by omega)) (by omega) (by omega) fun s₁₂ t₁₂ af => aN ?_⟩)))))))))))
        have x₁₂ := xc.go af
        refine ⟨(x₁₂.N _ (.head _)).1, fAppendB (pre := [_]) x₁₂ (x₁₂.N _ (.head _)).1 (fun s₁₃ x₁₃ => ?_) ?_⟩
        · refine wpAny_execs_nil (wpAny_execs_nil (wpAny_execs_nil (wpAny_execs_nil ?_)))
          refine ⟨r - 1, by omega, k + 1, _, _, vs ++ [.str (oneS ds[k]) t₁₂], _, _, by omega, x₁₃.weak (of_lk rfl), .inl ⟨by omega, ?_, ?_⟩⟩
          · rw [Array.toList_push, hv1]; rfl
          · rw [List.take_succ_eq_append_getElem hlt, List.map_append]
            exact strs_snoc hv2
        · have := hv2.length
          rw [List.length_map, List.length_take] at this
          rw [← Array.length_toList, hv1]
          show _ ≤ 16777216
          omega
      · have hkk : k = ds.length := by omega
        have hit : Txt.item x ((k : Nat) : Int) = ⟨#[42]⟩ := by
          refine item_meets (by omega) ?_
          rw [Int.toNat_natCast, hcp, List.getElem?_append_right (by simp [lets]; omega)]
          simp [lets, hkk]
        refine wpAny_execs_cons (wpAny_Assign_Name (Subscript_ (eL x₈ rfl rfl rfl (eL x₈ rfl rfl rfl (item_str (by simp [fitsSsize]; omega) hlo hhi fun _ => ?_)))))
        rw [hit]
        refine sL (x₈.tok _) rfl rfl fun s₉ x₉ => ?_
        refine wpAny_execs_cons (wpAny_Assign_Name (wpAny_BinOp (eL x₉ rfl rfl rfl (eInt fun t10 k10 => add_int (sL (x₉.tok _) rfl rfl fun s₁₁ x₁₁ => ?_)))))
        refine wpAny_execs_cons (wpAny_If (wpAny_isTrue_Compare1 (eL x₁₁ rfl rfl rfl (eStr fun ta ka => eq_str (wpAny_truthy_bool ?_)))))
        rw [star_eq, if_pos rfl]
        have xa := x₁₁.tok ka
        have hsz : its.size = ds.length := by
          have := hv2.length
          rw [List.length_map, List.length_take] at this
          rw [← Array.length_toList, hv1]
          omega
        have hlst : ∀ (mm : Loc) (s' : Shared), Fm s s.heap.objs.size mm [(lb, bndO "list.append" lr), (lr, listOf its cnt)] s' → s'.heap.IsList lr its := fun mm s' y => ⟨_, (y.N _ (.tail _ (.head _))).1, rfl, _, rfl⟩
        refine wpAny_execs_cons (wpAny_If (wpAny_mono (Q := fun b s' => b = true ∧ ∃ k2, s' = { s₁₁ with toks := k2 }) (wpAny_isTrue_BoolOp (wpAny_allTrue_Or_cons (wpAny_isTrue_Not (wpAny_isTrue_value (eL xa rfl rfl rfl (wpAny_truthy_list (hlst _ _ xa) (by omega) ?_)))))) (fun b s' hb => ?_) fun _ _ q => q))
        · by_cases h0 : ds = []
          · have : its.isEmpty = true := by rw [Array.isEmpty_iff_size_eq_zero, hsz, h0]; rfl
            rw [this]
            exact ⟨rfl, _, rfl⟩
          · have : its.isEmpty = false := by
              rw [Bool.eq_false_iff, Ne, Array.isEmpty_iff_size_eq_zero, hsz]
              exact fun e => h0 (List.length_eq_zero_iff.mp e)
            rw [this, if_neg (by decide)]
            have xb := xa.tok (ka + 1 + 1)
            rw [hkk, List.take_length] at hv2
            have hl2 := hlst _ _ xb
            rcases PyProof.Rows.strs_nil_or_snoc hv2 with ⟨e1, e2⟩ | ⟨vi, yi, y, ty, e1, e2, _⟩
            · exact absurd (List.map_eq_nil_iff.mp e2) h0
            · have e3 : its = (vi ++ [Value.str y ty]).toArray := by
                have := congrArg List.toArray (hv1.trans e1)
                simpa using this
              rw [e3] at hl2
              refine wpAny_allTrue_Or_cons (wpAny_isTrue_Compare1 (Subscript_ (eL xb rfl rfl rfl (wpAny_UnaryOp (eInt fun tq kq => neg_int (item_last hl2 (eL (xb.tok _) rfl rfl rfl (isnot_star hst (wpAny_truthy_bool ?_)))))))))
              rw [if_pos rfl]
              exact ⟨rfl, _, rfl⟩
        · obtain ⟨rfl, k2, rfl⟩ := hb
          have xd := x₁₁.tok k2
          rw [if_pos rfl]
          refine wpAny_execs_cons (wpAny_Expr (eCall (eL xd rfl rfl rfl (cBnd (id := "list.append") (l := lr) (aC (eL xd rfl rfl rfl (aN ⟨(xd.N _ (.head _)).1, fAppendB (pre := [_]) xd (xd.N _ (.head _)).1 (fun s₁₃ x₁₃ => ?_) ?_⟩)))))))
          · refine wpAny_execs_nil (wpAny_execs_nil (wpAny_execs_nil ?_))
            rw [hkk, List.take_length] at hv2
            refine ⟨r - 1, by omega, k + 1, _, _, vs, _, _, by omega, x₁₃.weak (of_lk rfl), .inr ⟨by omega, ?_, hv2⟩⟩
            rw [Array.toList_push, hv1]
          · rw [hsz]
            show _ ≤ 16777216
            omega
    · rw [if_neg (by simpa using by omega)]
      refine wpAny_execs_nil ?_
      refine wpAny_execs_cons (wpAny_Assert_holds (wpAny_isTrue_Compare1 (eL x₈ rfl rfl rfl (eL x₈ rfl rfl rfl (eq_int (wpAny_truthy_bool ⟨by simp; omega, ?_⟩))))))
      refine wpAny_execs_cons (wpAny_Return_some (eL x₈ rfl rfl rfl ?_))
      obtain ⟨n1, n2⟩ := x₈.N (lr, listOf its cnt) (by simp)
      exact h _ lr its vs x₈.aft ⟨_, n1⟩ n2.2 hv1 hv2
  · exact ⟨0, #[], 0, [], _, _, by omega, x₇.weak (of_lk rfl), .inl ⟨by omega, rfl, .nil⟩⟩
end
end Mine
end -- T2
section -- N1
set_option maxRecDepth 100000
set_option maxHeartbeats 1000000
namespace Mine
theorem upd_of {post : List (Addr × Obj)} {a : Addr} {o o' : Obj} : ∀ {pre : List (Addr × Obj)}, ((pre ++ (a, o) :: post).map (·.1)).Nodup → Upd a o o' (pre ++ (a, o) :: post) (pre ++ (a, o') :: post)
  | [], h => .head fun p hp e => by
    rw [List.nil_append, List.map_cons, List.nodup_cons] at h
    exact h.1 (List.mem_map.mpr ⟨p, hp, e⟩)
  | q :: pre, h => by
    rw [List.cons_append, List.map_cons, List.nodup_cons] at h
    exact .tail (fun e => h.1 (List.mem_map.mpr ⟨(a, o), by simp, e.symm⟩)) (upd_of h.2)
section
variable {w : World} {A : Around} {s s₀ : Shared} {E : Value → Shared → Prop} {L x dx : Addr} {m : Loc} {pre post : List (Addr × Obj)}
theorem nd_upd {a : Addr} {o o' : Obj} (h : ((pre ++ (a, o) :: post).map (·.1)).Nodup) : ((pre ++ (a, o') :: post).map (·.1)).Nodup := by
  have : (pre ++ (a, o') :: post).map (·.1) = (pre ++ (a, o) :: post).map (·.1) := by simp
  rw [this]; exact h
theorem fSetSlot {Q : Unit → Shared → Prop} {ox od : Obj} (ox' : Obj) {name : Str} {v : Value} {p i : Nat} {C : Addr} (y : Fm s₀ L m (pre ++ (x, ox) :: post) s) (C₀ : Cx w s₀.heap) (I : InstAt s.heap x ox C (some od))
    (hs : findIn (KF w.params) (.ref C) "__setattr__" = some (some (.builtin "object.__setattr__"))) (hp : plainOver (KF w.params) C = true) (ht : takerIn (KF w.params) C name = some (some (.ref p))) (hT : typeIn (KF w.params) (.ref p) = some (.type "member_descriptor")) (hi : slotIn (KF w.params) p C = some i) (hz : i < 1000)
    (e : { ox with slots := (ox.slots ++ Array.replicate (i + 1 - ox.slots.size) none).setIfInBounds i (some v) } = ox') (hf : ox'.isFreed = false)
    (h : ∀ s', Fm s₀ L m (pre ++ (x, ox') :: post) s' → Q () s') : wpAny (MM w) A (setAttr (.ref x) name v) Q E s := by
  obtain ⟨mm, F, hm⟩ := y.loc
  exact set_slot F C₀.F.K y.N I hs hp ht hT hi hz e hf (upd_of y.nd) fun h' F' N' => h _ (y.of (tk := s.toks + 1) F' hm N' (nd_upd y.nd))
abbrev eD : Obj := { cls := .type "dict", data := .dict #[] }
def niO (dx : Addr) (node np ls : Value) : Obj := { cls := .ref 102, dict := some dx, data := .plain, slots := #[some node, some np, some ls] }
theorem ni_init {R : Result → Shared → Prop} {node : Value} (C₀ : Cx w (hid s [(x, instObj 102 dx), (dx, eD)]).heap) (O : Owns s.heap [(x, instObj 102 dx), (dx, eD)]) (hd : Rm A 2)
    (h : ∀ s' ls t, AfterO s [(x, instObj 102 dx), (dx, eD)] s' [(ls, listOf #[] 0), (x, niO dx node (.int 0 t) (.ref ls)), (dx, eD)] → R (.ok (.ret .none)) s') : codeAny (MM w) A (.call (.ref 98) ⟨[.ref x, node], []⟩) R s := by
  refine codeFO (fd := fdNI) [("self", .ref x), ("node", node)] 5 C₀ O (hd.le (by omega)) rfl rfl rfl rfl rfl rfl fun s₁ x₁ => ?_
  generalize hA : A.deeper (callEnv fdNI s.heap.objs.size 98) = A'
  show wpAny _ _ (execs [_, _, _] _) _ _ _
  have I₁ : InstAt s₁.heap x (instObj 102 dx) 102 (some eD) := ⟨(x₁.N _ (.head _)).1, rfl, rfl, (x₁.N _ (.tail _ (.head _))).1⟩
  refine wpAny_execs_cons (plainObj_wpAny_Assign_Attribute (eL x₁ rfl rfl rfl (eL x₁ rfl rfl rfl (fSetSlot (pre := []) { cls := .ref 102, dict := some dx, data := .plain, slots := #[some node] } x₁ C₀ I₁ rfl rfl (p := 103) rfl rfl (i := 0) rfl (by decide) rfl rfl fun s₂ x₂ => ?_))))
  have I₂ : InstAt s₂.heap x _ 102 (some eD) := ⟨(x₂.N _ (.head _)).1, rfl, rfl, (x₂.N _ (.tail _ (.head _))).1⟩
  refine wpAny_execs_cons (plainObj_wpAny_Assign_Attribute (eInt fun t3 k3 => eL (x₂.tok k3) rfl rfl rfl (fSetSlot (pre := []) { cls := .ref 102, dict := some dx, data := .plain, slots := #[some node, some (.int 0 t3)] } (x₂.tok k3) C₀ I₂ rfl rfl (p := 104) rfl rfl (i := 1) rfl (by decide) rfl rfl fun s₃ x₃ => ?_)))
  refine wpAny_execs_cons (plainObj_wpAny_Assign_Attribute (fNewList x₃ fun s₄ ls x₄ => eL x₄ rfl rfl rfl ?_))
  have I₄ : InstAt s₄.heap x _ 102 (some eD) := ⟨(x₄.N _ (.tail _ (.head _))).1, rfl, rfl, (x₄.N _ (.tail _ (.tail _ (.head _)))).1⟩
  refine fSetSlot (pre := [_]) (niO dx node (.int 0 t3) (.ref ls)) x₄ C₀ I₄ rfl rfl (p := 105) rfl rfl (i := 2) rfl (by decide) rfl rfl fun s₅ x₅ => ?_
  exact wpAny_execs_nil (h _ ls t3 x₅.aftO)
theorem tc_weight {C : Addr} {v : Value} : (Code.builtin "type.__call__" ⟨[.ref C, v], []⟩).weight ≤ 1 := by
  have : (Code.builtin "type.__call__" ⟨[.ref C, v], []⟩).weight = 1 := by rfl
  omega
theorem tc_units {C : Addr} {v : Value} : (Code.builtin "type.__call__" ⟨[.ref C, v], []⟩).cUnits ≤ 20 := by
  have : (Code.builtin "type.__call__" ⟨[.ref C, v], []⟩).cUnits = 1 := by rfl
  omega
theorem ni_call {Q : Value → Shared → Prop} {own : List (Addr × Obj)} {node : Value} (y : Fm s₀ L m own s) (C₀ : Cx w s₀.heap) (hd : Rm A 4)
    (h : ∀ s' x dx ls t, Fm s₀ L m ((ls, listOf #[] 0) :: (x, niO dx node (.int 0 t) (.ref ls)) :: (dx, eD) :: own) s' → Q (.ref x) s') : wpAny (MM w) A (call (.ref 102) [node]) Q E s := by
  obtain ⟨mm, F, hm⟩ := y.loc
  refine call_cls F C₀.F.K y.N (by rfl) (by rfl) (fI := 98) (by rfl) fun x dx h' F' N' lt1 lt2 => ?_
  have nd : (((x, instObj 102 dx) :: (dx, eD) :: own).map (·.1)).Nodup := by
    rw [List.map_cons, List.map_cons, List.nodup_cons, List.nodup_cons]
    refine ⟨fun hm => ?_, fun hm => ?_, y.nd⟩
    · rcases List.mem_cons.mp hm with e | hm
      · exact Nat.ne_of_gt lt2 e
      · obtain ⟨p, hp, e⟩ := List.mem_map.mp hm
        have h9 := lt1 p hp
        have e' : p.1 = x := e
        rw [e'] at h9
        exact Nat.lt_irrefl _ (Nat.lt_trans lt2 h9)
    · obtain ⟨p, hp, e⟩ := List.mem_map.mp hm
      have h9 := lt1 p hp
      have e' : p.1 = dx := e
      rw [e'] at h9
      exact Nat.lt_irrefl _ h9
  have y' : Fm s₀ L m ([(x, instObj 102 dx), (dx, eD)] ++ own) { s with heap := h' } := y.of (tk := s.toks) F' hm N' nd
  refine ni_init (y'.hidC C₀) y'.owns ((hd.under (k := 3) tc_weight tc_units).le (by omega)) fun s' ls t af => ⟨rfl, ?_⟩
  exact h s' x dx ls t (y'.goO af)
end
end Mine
end -- N1
section -- S1
set_option maxRecDepth 100000
set_option maxHeartbeats 1000000
namespace Mine
def sD (p : Params) (t : Tok × Tok × Tok × Tok) (n2 rn po nf : Value) : List DictEntry :=
  [⟨PyData.keyHash p "_node2info", .str "_node2info" t.1, n2⟩, ⟨PyData.keyHash p "_ready_nodes", .str "_ready_nodes" t.2.1, rn⟩, ⟨PyData.keyHash p "_npassedout", .str "_npassedout" t.2.2.1, po⟩, ⟨PyData.keyHash p "_nfinished", .str "_nfinished" t.2.2.2, nf⟩]
section
variable {w : World} {A : Around} {s s₀ : Shared} {E : Value → Shared → Prop} {L x dx : Addr} {m : Loc} {pre post : List (Addr × Obj)}
theorem fSetAttr {Q : Unit → Shared → Prop} {ox : Obj} {name : Str} {v : Value} {C : Addr} {es : List DictEntry} {n n' : Nat} (es' : Tok → List DictEntry) (y : Fm s₀ L m (pre ++ (dx, dictOf es n) :: post) s) (C₀ : Cx w s₀.heap) (I : InstAt s.heap x ox C (some (dictOf es n))) (hd : ox.dict = some dx)
    (hs : findIn (KF w.params) (.ref C) "__setattr__" = some (some (.builtin "object.__setattr__"))) (hp : plainOver (KF w.params) C = true) (ht : takerIn (KF w.params) C name = some none) (hh : hasDictIn (KF w.params) C = true) (hl : (getL name es).isSome = true)
    (e : ∀ t, (putL name (PyData.keyHash w.params name) (.str name t) v es, putN name es n) = (es' t, n')) (hz : ∀ t, (es' t).length ≤ 1000)
    (h : ∀ s' t, Fm s₀ L m (pre ++ (dx, dictOf (es' t) n') :: post) s' → Q () s') : wpAny (MM w) A (setAttr (.ref x) name v) Q E s := by
  obtain ⟨mm, F, hm⟩ := y.loc
  exact set_dict F C₀.F.K y.N I hd hs hp ht hh hl (e _) (upd_of y.nd) (hz _) fun h' F' N' => h _ _ (y.of (tk := s.toks + 2) F' hm N' (nd_upd y.nd))
theorem fGetAttr {Q : Value → Shared → Prop} {expr : Bool} {ox : Obj} {name : Str} {v : Value} {C : Addr} {es : List DictEntry} {n : Nat} {attr : Option Value} {own : List (Addr × Obj)} (y : Fm s₀ L m own s) (C₀ : Cx w s₀.heap) (I : InstAt s.heap x ox C (some (dictOf es n)))
    (hg : plainGet (KF w.params) C name = true) (hh : hasDictIn (KF w.params) C = true) (ha : findIn (KF w.params) (.ref C) name = some attr) (hn : noGet (KF w.params) attr = true) (hl : getL name es = some (some v)) (hv : handedIn v = true)
    (h : Q v { s with toks := s.toks + 1 }) : wpAny (MM w) A (getAttr (.ref x) name expr) Q E s := by
  obtain ⟨mm, F, hm⟩ := y.loc
  exact get_own F C₀.F.K I hg hh ha hn hl hv h
theorem fNewDict {Q : Value → Shared → Prop} {env : Env} {pos : Pos} {own : List (Addr × Obj)} (y : Fm s₀ L m own s) (C₀ : Cx w s₀.heap) (h : ∀ s' d o, Fm s₀ L m ((d, o) :: own) s' → (d == sysModules) = false → o.IsDictOf (strKind pw w) [] → Q (.ref d) s') : wpAny (MM w) A (eval (.Dict [] [] pos) env) Q E s := by
  obtain ⟨mm, F, hm⟩ := y.loc
  refine newDict_K F y.N C₀.lim fun d h' o F' N' hlt lo a _ _ _ => h _ d o (y.of (tk := s.toks) F' hm N' ?_) lo a
  rw [List.map_cons, List.nodup_cons]
  refine ⟨fun hm2 => ?_, y.nd⟩
  obtain ⟨p, hp, e⟩ := List.mem_map.mp hm2
  have h9 := hlt p hp
  have e' : p.1 = d := e
  rw [e'] at h9
  exact Nat.lt_irrefl _ h9
theorem ts_init {R : Result → Shared → Prop} (C₀ : Cx w (hid s [(x, instObj 199 dx), (dx, dictOf [] 0)]).heap) (O : Owns s.heap [(x, instObj 199 dx), (dx, dictOf [] 0)]) (hd : Rm A 2)
    (h : ∀ s' d o t ta tb, AfterO s [(x, instObj 199 dx), (dx, dictOf [] 0)] s' [(d, o), (x, instObj 199 dx), (dx, dictOf (sD w.params t (.ref d) .none (.int 0 ta) (.int 0 tb)) 4)] → (d == sysModules) = false → o.IsDictOf (strKind pw w) [] → R (.ok (.ret .none)) s') :
    codeAny (MM w) A (.call (.ref 135) ⟨[.ref x], []⟩) R s := by
  have hb : BindsTo s fdInit ⟨[.ref x], []⟩ [("self", .ref x), ("graph", .none)] := BindsTo.of_defaults (T := 128) (items := #[.none]) (n := 0) (k := _) rfl ((C₀.up (hide_sub _ _)).F.K _ _ (by rfl)) rfl (by rfl) (by rfl)
  refine codeFB (fd := fdInit) 6 C₀ O (hd.le (by omega)) rfl rfl rfl rfl (hb _ _ _ _ ⟨_, ⟨⟨_, _, rfl⟩, hide_sub _ _, fun p hp => ⟨O.at_ p hp, hide_in (List.mem_map_of_mem hp)⟩, O.nd⟩, fun _ _ e => e, Nat.le_refl _, by rfl, by rfl, fun L' s₁ hL x₁ => ?_⟩)
  show wpAny _ _ (execs [_, _, _, _, _] _) _ _ _
  have I₁ : ∀ {s' : Shared} {mm : Loc} {e : List DictEntry} {n : Nat} {own' : List (Addr × Obj)}, Fm (hid s [(x, instObj 199 dx), (dx, dictOf [] 0)]) L' mm own' s' → (x, instObj 199 dx) ∈ own' → (dx, dictOf e n) ∈ own' → InstAt s'.heap x (instObj 199 dx) 199 (some (dictOf e n)) := fun y h1 h2 => ⟨(y.N _ h1).1, rfl, rfl, (y.N _ h2).1⟩
  refine wpAny_execs_cons (plainObj_wpAny_Assign_Attribute (fNewDict x₁ C₀ fun s₂ d o x₂ lo hdo => eL x₂ rfl rfl rfl ?_))
  refine fSetAttr (pre := [_, _]) (n' := 1) (fun t => [⟨PyData.keyHash w.params "_node2info", .str "_node2info" t, .ref d⟩]) x₂ C₀ (I₁ x₂ (by simp) (by simp)) rfl rfl rfl rfl rfl rfl (fun _ => rfl) (fun _ => by simp) fun s₃ t1 x₃ => ?_
  refine wpAny_execs_cons (plainObj_wpAny_Assign_Attribute (wpAny_Constant_none (eL x₃ rfl rfl rfl ?_)))
  refine fSetAttr (pre := [_, _]) (n' := 2) (fun t => [⟨PyData.keyHash w.params "_node2info", .str "_node2info" t1, .ref d⟩, ⟨PyData.keyHash w.params "_ready_nodes", .str "_ready_nodes" t, .none⟩]) x₃ C₀ (I₁ x₃ (by simp) (by simp)) rfl rfl rfl rfl rfl rfl (fun _ => rfl) (fun _ => by simp) fun s₄ t2 x₄ => ?_
  refine wpAny_execs_cons (plainObj_wpAny_Assign_Attribute (eInt fun ta ka => eL (x₄.tok ka) rfl rfl rfl ?_))
  refine fSetAttr (pre := [_, _]) (n' := 3) (fun t => [⟨PyData.keyHash w.params "_node2info", .str "_node2info" t1, .ref d⟩, ⟨PyData.keyHash w.params "_ready_nodes", .str "_ready_nodes" t2, .none⟩, ⟨PyData.keyHash w.params "_npassedout", .str "_npassedout" t, .int 0 ta⟩]) (x₄.tok ka) C₀ (I₁ (x₄.tok ka) (by simp) (by simp)) rfl rfl rfl rfl rfl rfl (fun _ => rfl) (fun _ => by simp) fun s₅ t3 x₅ => ?_
  refine wpAny_execs_cons (plainObj_wpAny_Assign_Attribute (eInt fun tb kb => eL (x₅.tok kb) rfl rfl rfl ?_))
  refine fSetAttr (pre := [_, _]) (n' := 4) (fun t => sD w.params (t1, t2, t3, t) (.ref d) .none (.int 0 ta) (.int 0 tb)) (x₅.tok kb) C₀ (I₁ (x₅.tok kb) (by simp) (by simp)) rfl rfl rfl rfl rfl rfl (fun _ => rfl) (fun _ => by simp [sD]) fun s₆ t4 x₆ => ?_
  refine wpAny_execs_cons (wpAny_If (wpAny_isTrue_Compare1 (eL x₆ rfl rfl rfl (wpAny_Constant_none (isnot_none_none (wpAny_truthy_bool ?_))))))
  rw [if_neg (by decide)]
  exact wpAny_execs_nil (wpAny_execs_nil (h _ d o (t1, t2, t3, t4) ta tb x₆.aftO lo hdo))
theorem tc_weight0 {C : Addr} : (Code.builtin "type.__call__" ⟨[.ref C], []⟩).weight ≤ 1 := by
  have : (Code.builtin "type.__call__" ⟨[.ref C], []⟩).weight = 1 := by rfl
  omega
theorem tc_units0 {C : Addr} : (Code.builtin "type.__call__" ⟨[.ref C], []⟩).cUnits ≤ 20 := by
  have : (Code.builtin "type.__call__" ⟨[.ref C], []⟩).cUnits = 1 := by rfl
  omega
theorem ts_call {Q : Value → Shared → Prop} {own : List (Addr × Obj)} (y : Fm s₀ L m own s) (C₀ : Cx w s₀.heap) (hd : Rm A 4)
    (h : ∀ s' x dx d o t ta tb, Fm s₀ L m ((d, o) :: (x, instObj 199 dx) :: (dx, dictOf (sD w.params t (.ref d) .none (.int 0 ta) (.int 0 tb)) 4) :: own) s' → (d == sysModules) = false → o.IsDictOf (strKind pw w) [] → Q (.ref x) s') : wpAny (MM w) A (call (.ref 199) []) Q E s := by
  obtain ⟨mm, F, hm⟩ := y.loc
  refine call_cls F C₀.F.K y.N (by rfl) (by rfl) (fI := 135) (by rfl) fun x dx h' F' N' lt1 lt2 => ?_
  have nd : (((x, instObj 199 dx) :: (dx, dictOf [] 0) :: own).map (·.1)).Nodup := by
    rw [List.map_cons, List.map_cons, List.nodup_cons, List.nodup_cons]
    refine ⟨fun hm => ?_, fun hm => ?_, y.nd⟩
    · rcases List.mem_cons.mp hm with e | hm
      · exact Nat.ne_of_gt lt2 e
      · obtain ⟨p, hp, e⟩ := List.mem_map.mp hm
        have h9 := lt1 p hp
        have e' : p.1 = x := e
        rw [e'] at h9
        exact Nat.lt_irrefl _ (Nat.lt_trans lt2 h9)
    · obtain ⟨p, hp, e⟩ := List.mem_map.mp hm
      have h9 := lt1 p hp
      have e' : p.1 = dx := e
      rw [e'] at h9
      exact Nat.lt_irrefl _ h9
  have y' : Fm s₀ L m ([(x, instObj 199 dx), (dx, dictOf [] 0)] ++ own) { s with heap := h' } := y.of (tk := s.toks) F' hm N' nd
  refine ts_init (y'.hidC C₀) y'.owns ((hd.under (k := 3) tc_weight0 tc_units0).le (by omega)) fun s' d o t ta tb af lo hdo => ⟨rfl, ?_⟩
  exact h s' x dx d o t ta tb (y'.goO af) lo hdo
end
end Mine
end -- S1
section -- B3
set_option maxRecDepth 100000
set_option maxHeartbeats 1000000
namespace Mine
structure Ev (s₃ : Shared) (env : Env) (l cv : Loc) (s : Shared) : Prop where
  aft : After s₃ s
  loc : ∃ m, s₃.heap.Ns env.locals m ∧ ∀ p ∈ l, m p.1 = some p.2
  cel : ∀ p ∈ cv, ∃ c, env.cells.lookup p.1 = some c ∧ s₃.heap.IsCell c (some p.2)
section
variable {w : World} {A : Around} {s s₀ s₃ : Shared} {E : Value → Shared → Prop} {Q : Value → Shared → Prop} {env : Env} {l cv : Loc}
theorem Ev.tok (x : Ev s₃ env l cv s) (t : Nat) : Ev s₃ env l cv { s with toks := t } := ⟨x.aft.trans (After.of (tk := t) fun _ _ e => e), x.loc, x.cel⟩
theorem Ev.go {s' : Shared} (x : Ev s₃ env l cv s) (a : After s s') : Ev s₃ env l cv s' := ⟨x.aft.trans a, x.loc, x.cel⟩
theorem vL {x : Str} {pos : Pos} {v : Value} (y : Ev s₃ env l cv s) (hk : env.scope.kind = .function) (hl : env.kindOf x = some .local) (hv : l.lookup x = some v) (h : Q v s) (hd : (x == ("__debug__" : Str)) = false := by rfl) :
    wpAny (MM w) A (eval (.Name x pos) env) Q E s := by
  obtain ⟨m', f, hm⟩ := y.loc
  obtain ⟨l1, l2, e, _⟩ := List.lookup_eq_some_iff.mp hv
  exact wpAny_Name (wpAny_loadName_local hk hl (f.keeps y.aft.keep) (hm (x, v) (by rw [e]; simp)) h) hd
theorem vC {x : Str} {pos : Pos} {v : Value} (y : Ev s₃ env l cv s) (hk : env.scope.kind = .function) (hl : env.kindOf x = some .cell) (hv : cv.lookup x = some v) (h : Q v s) (hd : (x == ("__debug__" : Str)) = false := by rfl) :
    wpAny (MM w) A (eval (.Name x pos) env) Q E s := by
  obtain ⟨l1, l2, e, _⟩ := List.lookup_eq_some_iff.mp hv
  obtain ⟨c, h1, h2⟩ := y.cel (x, v) (by rw [e]; simp)
  exact wpAny_Name (wpAny_loadName_cell hk hl h1 (h2.keeps y.aft.keep) h) hd
def Opens (w : World) (A : Around) (xv : Value) (n : Nat) (P : Nat → Value → Prop) (s₁ : Shared) : Prop :=
  ∀ (Q : Value → Shared → Prop) (E : Value → Shared → Prop), (∀ s₂ I fp St, After s₁ s₂ → Walks pw w A I fp [I] n P St → s₁.heap.get? I = none → St 0 s₂.heap → (∀ b ∈ fp, b < s₂.heap.objs.size) → Q (.ref I) s₂) → wpAny (MM w) A (pyIter xv) Q E s₁
theorem get_size (h : Heap) : h.get? h.objs.size = none := by
  cases e : h.get? h.objs.size with
  | none => rfl
  | some o => exact absurd (Heap.lt_size e) (Nat.lt_irrefl _)
theorem sub_push (h : Heap) (o : Obj) : Sub h (h.push o) := fun _ _ e => Heap.get?_push_of_some _ e
theorem opens_list {ax : Addr} {items : Array Value} (hh : A.handled = none) (hl : s.heap.IsList ax items) : Opens w A (.ref ax) items.size (fun i v => items[i]? = some v) s := fun Q E h => by
  have hne : ax ≠ s.heap.objs.size := by obtain ⟨o, ho, _⟩ := hl; exact Nat.ne_of_lt (Heap.lt_size ho)
  refine wpAny_pyIter_list hl (h _ _ _ _ (After.of (tk := s.toks) (sub_push _ _)) (Walks.list hh _ ax hne items) (get_size _) ⟨?_, hl.push _⟩ fun b hb => ?_)
  · exact ⟨_, Heap.get?_push_size _ rfl, rfl, rfl⟩
  · show b < (s.heap.push _).objs.size
    rw [Heap.size_push]
    obtain ⟨o, ho, _⟩ := hl
    have := Heap.lt_size ho
    simp at hb
    rcases hb with rfl | rfl
    · exact Nat.lt_succ_self _
    · exact Nat.lt_succ_of_lt this
theorem opens_range {r : Addr} {a b c : Int} {t u v : Tok} (hh : A.handled = none) (hr : IsRange s.heap r a b c t u v) (hsmall : Builtin.Range.small a b c = true) (n : Nat) (hn : Builtin.Range.rangeSize a b c = n) :
    Opens w A (.ref r) n (fun i v => i < n ∧ ∃ t, v = .int (a + i * c) t) s := fun Q E h => by
  refine wpAny_pyIter_range hr hsmall (h _ _ _ _ (After.of (tk := s.toks) (sub_push _ _)) (Walks.range hh _ a c n).bound (get_size _) ?_ fun b hb => ?_)
  · show IsRangeIter (s.heap.push _) _ (a + ((0 : Nat) : Int) * c) ((n : Int) - ((0 : Nat) : Int)) c
    rw [hn, show a + ((0 : Nat) : Int) * c = a by simp, show (n : Int) - ((0 : Nat) : Int) = n by simp]
    exact Heap.get?_push_size _ rfl
  · show b < (s.heap.push _).objs.size
    rw [Heap.size_push]
    simp at hb
    subst hb
    exact Nat.lt_succ_self _
theorem opens_str {x : Str} {t : Tok} (hh : A.handled = none) : Opens w A (.str x t) x.cps.size (SignAt x) s := fun Q E h => by
  refine wpAny_pyIter_str fun o St W h0 => h _ _ _ _ (After.of (tk := s.toks) (sub_push _ _)) (W A hh) (get_size _) h0 fun b hb => ?_
  show b < (s.heap.push _).objs.size
  rw [Heap.size_push]
  simp at hb
  subst hb
  exact Nat.lt_succ_self _
theorem tests0 {M : Model} {Q : Bool → Shared → Prop} {f : Expr → Bool → Sem (ForInStep Bool)} (h : Q true s) : wpAny M A (forIn ([] : List Expr) true f) Q E s := by
  rw [List.forIn_nil]; exact wpAny_pure h
theorem tests1 {M : Model} {e : Expr} {Q : Bool → Shared → Prop} (h : wpAny M A (isTrue e env (eval e env)) Q E s) :
    wpAny M A (forIn [e] true fun c r => if r = true then do let ok ← isTrue c env (eval c env); pure (ForInStep.yield ok) else pure (ForInStep.yield r)) Q E s := by
  rw [List.forIn_cons]
  refine wpAny_bind ?_
  rw [if_pos rfl]
  refine wpAny_bind (wpAny_mono h (fun b s' hq => wpAny_pure ?_) fun _ _ q => q)
  dsimp only
  rw [List.forIn_nil]
  exact wpAny_pure hq
theorem fComp {elt iter : Expr} {x : Str} {px : Pos} {ifs : List Expr} {scope : Scope} {cl : List (Str × Addr)} {pos : Pos} (p : Value → Bool) (F : Value → Value → Prop) (cv : Loc)
    (hclos : closureFor scope env = pure cl) (hcell : (scope.names.all fun y => y.2 != .cell) = true) (hkind : scope.kind = .function) (hnames : (scope.names.all fun y => y.2 != .local || scope.names.lookup y.1 == some .local) = true) (hx : scope.names.lookup x = some .local)
    (h : wpAny (MM w) A (eval iter env) (fun xv s₁ => ∃ n P, Opens w A xv n P s₁ ∧ n ≤ sizeLine ∧ (∀ p ∈ cv, ∃ c, cl.lookup p.1 = some c ∧ s₁.heap.IsCell c (some p.2)) ∧
      (∀ s₃ C i v E', Sub s₁.heap s₃.heap → P i v → Ev s₃ (compEnvC scope cl C env) [(x, v)] cv s₃ →
        wpAny (MM w) A (forIn ifs true fun c r => if r = true then do let ok ← isTrue c (compEnvC scope cl C env) (eval c (compEnvC scope cl C env)); pure (ForInStep.yield ok) else pure (ForInStep.yield r)) (fun ok s₄ => ok = p v ∧ After s₃ s₄) E' s₃) ∧
      (∀ s₃ C i v E', Sub s₁.heap s₃.heap → P i v → p v = true → Ev s₃ (compEnvC scope cl C env) [(x, v)] cv s₃ → wpAny (MM w) A (eval elt (compEnvC scope cl C env)) (fun y s₄ => F v y ∧ After s₃ s₄) E' s₃) ∧
      (∀ s' D n' ys (vs : List Value), After s₁ s' → s₁.heap.get? D = none → s'.heap.get? D = some (listOf ys n') → vs.length = n → (∀ j v, vs[j]? = some v → P j v) → Paired F (vs.filter p) ys.toList → Q (.ref D) s')) E s)
    (hs : ∀ x, foldedSetIterable iter env x = pure x := by intro _; rfl) :
    wpAny (MM w) A (eval (.ListComp elt [⟨.Name x px, iter, ifs, 0⟩] scope pos) env) Q E s := by
  refine wpAny_ListComp_free p F hclos (fun y hy => by have := List.all_eq_true.mp hcell y hy; simpa using this) hkind (fun y hy hl => ?_) hx (wpAny_mono h (fun xv s₁ h₁ => ?_) fun _ _ q => q) hs
  · have := List.all_eq_true.mp hnames y hy
    rw [hl] at this
    simpa using this
  obtain ⟨n, P, hop, hn, hcv, ht, he, hq⟩ := h₁
  refine hop _ _ fun s₂ I fp St a W hI h0 hfp => ⟨I, fp, [I], n, P, St, rfl, W, hn, h0, hfp, ⟨?_, ?_⟩, ?_⟩
  · intro C i v s₃ m₃ E' hC hP hns hm hk _
    have hs1 : Sub s₁.heap s₃.heap := fun b o e => hk b o (by simp only [List.mem_singleton]; rintro rfl; rw [hI] at e; cases e) (a.keep b o e)
    refine wpAny_mono (ht s₃ C i v E' hs1 hP ⟨.refl, ⟨m₃, hns, fun q hq => by simp at hq; subst hq; exact hm⟩, fun q hq => ?_⟩) (fun ok s₄ hok => ⟨hok.1, ?_⟩) fun _ _ q => q
    · obtain ⟨c, c1, c2⟩ := hcv q hq
      exact ⟨c, c1, c2.keeps hs1⟩
    · obtain ⟨⟨h', tk, e⟩, k⟩ := hok.2
      exact ⟨h', tk, e, by rw [e] at k; exact k⟩
  · intro C i v s₃ m₃ E' hC hP hpv hns hm hk _
    have hs1 : Sub s₁.heap s₃.heap := fun b o e => hk b o (by simp only [List.mem_singleton]; rintro rfl; rw [hI] at e; cases e) (a.keep b o e)
    refine wpAny_mono (he s₃ C i v E' hs1 hP hpv ⟨.refl, ⟨m₃, hns, fun q hq => by simp at hq; subst hq; exact hm⟩, fun q hq => ?_⟩) (fun ok s₄ hok => ⟨hok.1, ?_⟩) fun _ _ q => q
    · obtain ⟨c, c1, c2⟩ := hcv q hq
      exact ⟨c, c1, c2.keeps hs1⟩
    · obtain ⟨⟨h', tk, e⟩, k⟩ := hok.2
      exact ⟨h', tk, e, by rw [e] at k; exact k⟩
  · intro D h' tk ys vs hD _ hpl hlen hP hF hk
    obtain ⟨n', hpl⟩ := hpl
    refine hq _ D n' ys vs ⟨?_, fun b o e => hk b o (by simp only [List.mem_singleton]; rintro rfl; rw [hI] at e; cases e) (a.keep b o e)⟩ ?_ hpl hlen hP hF
    · obtain ⟨h2, t2, e⟩ := a.same
      exact ⟨h', tk, by rw [e]⟩
    · cases e : s₁.heap.get? D with
      | none => rfl
      | some o => have := a.keep _ _ e; rw [hD] at this; cases this
theorem callFC {fd : FuncData} {body : List Stmt} {a : Addr} {vals : List Value} (binds : List (Str × Value)) (i : Nat) (C : Cx w s.heap) (hd : Rm A 1)
    (ho : (KF w.params).lookup a = some (fnO fd)) (hc : cTab[i]?.map (fun x => (Value.ref x.1, x.2.1)) = some (fd.code, fd.qualname)) (hbody : fd.body = .stmts body) (hbind : bindArgs fd ⟨vals, []⟩ = pure binds) (hclo : fd.closure = [])
    (hk1 : (binds.all fun x => fd.scope.names.lookup x.1 == some .cell) = true) (hk2 : (binds.all fun x => ((cellsFrom (s.heap.objs.size + 1) fd.scope.names []).lookup x.1).isSome) = true)
    (h : ∀ s₁, Fm s s.heap.objs.size [] [] s₁ → InCallC s s.heap.objs.size (bindL (callEnvC fd s.heap.objs.size a).kindOf binds fun _ => none) (callEnvC fd s.heap.objs.size a).cells (bindC (callEnvC fd s.heap.objs.size a).kindOf binds fun _ => none) s₁ →
      wpAny (MM w) (A.deeper (callEnvC fd s.heap.objs.size a)) (execs body (callEnvC fd s.heap.objs.size a)) (fun f s' => Q (match f with | .ret v => v | _ => .none) s') (fun _ _ => False) s₁)
    (hco : fd.scope.isCoroutine = false := by rfl) (hgen : fd.scope.isGenerator = false := by rfl) (hk : fd.scope.kind = .function := by rfl) :
    wpAny (MM w) A (call (.ref a) vals) Q E s := by
  refine wpAny_call (codeAny_call_cells (by have := hd.dep; show A.depth < 1000; omega) (C.F.K _ _ ho) rfl C.lim ?_ hbody hbind hclo (fun x hx => ?_) (fun s₁ x₁ => wpAny_mono (h s₁ (.of_inCall x₁.toInCall fun p hp => nomatch hp) x₁) (fun f s' q => q) (fun _ _ f => f.elim)) hco hgen hk)
  · obtain ⟨y, hy, e⟩ := Option.map_eq_some_iff.mp hc
    obtain ⟨e1, e2⟩ := Prod.mk.inj e
    rw [← e1, ← e2]
    exact C.F.c y (List.mem_of_getElem? hy)
  · have h1 := List.all_eq_true.mp hk1 x hx
    have h2 := List.all_eq_true.mp hk2 x hx
    exact .inr ⟨by simpa using h1, h2⟩
end
end Mine
end -- B3
section -- B5
set_option maxRecDepth 100000
set_option maxHeartbeats 1000000
namespace Mine
theorem updF_of {post : List (Addr × Obj)} {a : Addr} {o : Obj} : ∀ {pre : List (Addr × Obj)}, ((pre ++ (a, o) :: post).map (·.1)).Nodup → UpdF a o (pre ++ (a, o) :: post) (fun o' => pre ++ (a, o') :: post)
  | [], h => .head fun p hp e => by
    rw [List.nil_append, List.map_cons, List.nodup_cons] at h
    exact h.1 (List.mem_map.mpr ⟨p, hp, e⟩)
  | q :: pre, h => by
    rw [List.cons_append, List.map_cons, List.nodup_cons] at h
    exact .tail (fun e => h.1 (List.mem_map.mpr ⟨(a, o), by simp, e.symm⟩)) (updF_of h.2)
section
variable {w : World} {A : Around} {s s₀ : Shared} {E : Value → Shared → Prop} {L x d : Addr} {m : Loc} {own pre post : List (Addr × Obj)}
theorem Fm.perm {own' : List (Addr × Obj)} (x : Fm s₀ L m own s) (h : own.Perm own') : Fm s₀ L m own' s :=
  ⟨x.same, x.loc, fun p hp => x.N p (h.mem_iff.mpr hp), (h.map (·.1)).nodup_iff.mp x.nd⟩
theorem fMeth {pl : Sem Bool} {Q : Value × List Value → Shared → Prop} {name : Str} {ox : Obj} {C f : Addr} {es : List DictEntry} {n : Nat} (y : Fm s₀ L m own s) (C₀ : Cx w s₀.heap) (I : InstAt s.heap x ox C (some (dictOf es n)))
    (hg : plainGet (KF w.params) C name = true) (hf : findIn (KF w.params) (.ref C) name = some (some (.ref f))) (ht : isFn (KF w.params) (.ref f) = true) (hl : getL name es = some none) (h : Q (.ref f, [.ref x]) s) :
    wpAny (MM w) A (getMethod (.ref x) name pl) Q E s := by
  obtain ⟨mm, F, hm⟩ := y.loc
  exact method_inst F C₀.F.K I hg hf ht hl h
theorem fGetSlot {Q : Value → Shared → Prop} {expr : Bool} {name : Str} {ox od : Obj} {C p : Addr} {i : Nat} {v : Value} (y : Fm s₀ L m own s) (C₀ : Cx w s₀.heap) (I : InstAt s.heap x ox C (some od)) (hg : plainGet (KF w.params) C name = true) (hc : isClsIn (KF w.params) C = true)
    (ha : findIn (KF w.params) (.ref C) name = some (some (.ref p))) (hn : specialIn (KF w.params) (.ref p) "__get__" = some (some (.builtin "member_descriptor.__get__"))) (ht : takesIn (KF w.params) (.ref p) = some true) (hp : slotIn (KF w.params) p C = some i)
    (hv : (ox.slots[i]?).join = some v) (hh : handedIn v = true) (h : Q v { s with toks := s.toks + 1 }) : wpAny (MM w) A (getAttr (.ref x) name expr) Q E s := by
  obtain ⟨mm, F, hm⟩ := y.loc
  exact get_slot F C₀.F.K I hg hc ha hn ht hp hv hh h
theorem dSet {Q : Unit → Shared → Prop} {kvs : List (Str × Value)} {o : Obj} {k : Str} {t : Tok} {v : Value} (y : Fm s₀ L m (pre ++ (d, o) :: post) s) (hd : o.IsDictOf (strKind pw w) kvs) (hsz : kvs.length ≤ 10000)
    (h : ∀ s' o', Fm s₀ L m (pre ++ (d, o') :: post) s' → o'.IsDictOf (strKind pw w) (stored kvs k v) → Q () s') : wpAny (MM w) A (setItem (.ref d) (.str k t) v) Q E s := by
  obtain ⟨mm, F, hm⟩ := y.loc
  exact kda_set F y.N (updF_of y.nd) hd (strKind_is _ _ _ _) (by show _ ≤ 16777216; omega) fun h' o' F' N' hd' => h _ o' (y.of (tk := s.toks + 1) F' hm N' (nd_upd y.nd)) hd'
theorem dDel {Q : Unit → Shared → Prop} {kvs : List (Str × Value)} {o : Obj} {k : Str} {t : Tok} (y : Fm s₀ L m (pre ++ (d, o) :: post) s) (hd : o.IsDictOf (strKind pw w) kvs) (hl : (valueAt kvs k).isSome = true) (hsz : kvs.length ≤ 10000)
    (h : ∀ s' o', Fm s₀ L m (pre ++ (d, o') :: post) s' → o'.IsDictOf (strKind pw w) (without kvs k) → Q () s') : wpAny (MM w) A (delItem (.ref d) (.str k t)) Q E s := by
  obtain ⟨mm, F, hm⟩ := y.loc
  exact kob_del F y.N (updF_of y.nd) hd (strKind_is _ _ _ _) hl (by show _ ≤ 16777216; omega) fun h' o' F' N' hd' => h _ o' (y.of (tk := s.toks + 1) F' hm N' (nd_upd y.nd)) hd'
theorem mGet {pl : Sem Bool} {Q : Value × List Value → Shared → Prop} {kvs : List (Str × Value)} {o : Obj} (y : Fm s₀ L m own s) (hp : (d, o) ∈ own) (hd : o.IsDictOf (strKind pw w) kvs) (h : Q (.builtin "dict.get", [.ref d]) s) : wpAny (MM w) A (getMethod (.ref d) "get" pl) Q E s :=
  kdg_method y.N hp hd h
theorem dGet {Q : Value → Shared → Prop} {kvs : List (Str × Value)} {o : Obj} {k : Str} {t : Tok} (y : Fm s₀ L m own s) (hp : (d, o) ∈ own) (hd : o.IsDictOf (strKind pw w) kvs) (lo : (d == sysModules) = false) (h : Q ((valueAt kvs k).getD .none) { s with toks := s.toks + 1 }) :
    wpAny (MM w) A (call (.builtin "dict.get") [.ref d, .str k t]) Q E s := kdg_get1 y.N hp hd lo (strKind_is _ _ _ _) _ rfl h
theorem dIn {Q : Value → Shared → Prop} {kvs : List (Str × Value)} {o : Obj} {k : Str} {t : Tok} (y : Fm s₀ L m own s) (hp : (d, o) ∈ own) (hd : o.IsDictOf (strKind pw w) kvs) (lo : (d == sysModules) = false) (h : Q (.bool (valueAt kvs k).isSome) { s with toks := s.toks + 1 }) :
    wpAny (MM w) A (compareOp .In (.str k t) (.ref d)) Q E s := kda_in y.N hp hd lo (strKind_is _ _ _ _) _ rfl h
theorem dItem {Q : Value → Shared → Prop} {value slice : Expr} {kvs : List (Str × Value)} {o : Obj} {k : Str} {t : Tok} {v : Value} (y : Fm s₀ L m own s) (hp : (d, o) ∈ own) (hd : o.IsDictOf (strKind pw w) kvs) (hl : valueAt kvs k = some v) (h : Q v { s with toks := s.toks + 1 })
    (hs : subscripted slice false (.ref d) (.str k t) = operate [.ref d, .str k t] (getItem (.ref d) (.str k t)) := by with_unfolding_all rfl) (hg : ∀ r, letTemporaryGo value (.ref d) r = pure () := by intro _; with_unfolding_all rfl) :
    wpAny (MM w) A (subscriptTail value slice (.ref d) (.str k t)) Q E s := kda_item y.N hp hd (strKind_is _ _ _ _) hl h hs hg
theorem codeFor {R : Result → Shared → Prop} {env : Env} {x : Str} {px : Pos} {body : List Stmt} {I : Addr} {fp : List Addr} {n : Nat} {P : Nat → Value → Prop} {St : Nat → Heap → Prop} (W : Walks pw w A I fp [I] n P St) (hx : env.kindOf x = some .local) (hk : env.scope.kind = .function)
    (hI : s₀.heap.get? I = none) (y : Fm s₀ env.locals m own s) (hIo : I ∉ own.map (·.1)) (hIL : I ≠ env.locals) (hst : St 0 s.heap) (hSt : ∀ i h, St i h → ∃ o, h.get? I = some o)
    (J : Nat → Loc → List (Addr × Obj) → Prop) (h0 : J 0 m own)
    (hfp : ∀ b ∈ fp, b ≠ I → ∃ o, ∀ i m₁ own₁ s₁, i ≤ n → J i m₁ own₁ → Fm s₀ env.locals m₁ own₁ s₁ → s₁.heap.get? b = some o)
    (step : ∀ i v m₁ own₁ s₁ oI, i < n → P i v → J i m₁ own₁ → Fm s₀ env.locals ((x, v) :: m₁.filter (fun p => p.1 != x)) ((I, oI) :: own₁) s₁ →
      wpAny (MM w) A (execs body env) (fun f s' => match f with
        | .next | .cont => ∃ m₂ own₂, J (i + 1) m₂ own₂ ∧ Fm s₀ env.locals m₂ ((I, oI) :: own₂) s'
        | .brk => R (.ok .next) s'
        | .ret v => R (.ok (.ret v)) s') (notedBy (MM w) A env fun e s' => R (.error e) s') s₁)
    (done : ∀ m₁ own₁ s₁, J n m₁ own₁ → Fm s₀ env.locals m₁ own₁ s₁ → R (.ok .next) s₁) :
    codeAny (MM w) A (.forLoop (.Name x px) (.ref I) body [] env) R s := by
  refine codeAny_forLoop (fun k s' => ∃ i m₁ own₁, Fm s₀ env.locals m₁ own₁ s' ∧ I ∉ own₁.map (·.1) ∧ St i s'.heap ∧ J i m₁ own₁ ∧ i ≤ n ∧ k = n + 1 - i) ?_ (n + 1) ⟨0, m, own, y, hIo, hst, h0, Nat.zero_le _, rfl⟩
  rintro k s' ⟨i, m₁, own₁, y₁, hI₁, hst₁, hJ, hi, rfl⟩
  have next : ∀ h₁ tk₁, (∀ b o, b ∉ [I] → s'.heap.get? b = some o → h₁.get? b = some o) → Fm s₀ env.locals m₁ own₁ { s' with heap := h₁, toks := tk₁ } := fun h₁ tk₁ hk₁ => by
    obtain ⟨mm, F, hm⟩ := y₁.loc
    refine y₁.of (tk := tk₁) ⟨F.ns.at' fun o e => hk₁ _ o (by simp; exact fun e => hIL e.symm) e, fun b o e => hk₁ b o (by simp; rintro rfl; rw [hI] at e; cases e) (F.keep b o e), F.above⟩ hm (fun p hp => ⟨hk₁ _ _ (by simp; exact fun e => hI₁ (e ▸ List.mem_map_of_mem hp)) (y₁.N p hp).1, (y₁.N p hp).2⟩) y₁.nd
  by_cases hlt : i < n
  · refine W.item i _ _ _ hlt hst₁ fun v h₁ tk₁ hP hst₂ hk₁ => ?_
    have y₂ := next h₁ tk₁ hk₁
    obtain ⟨oI, hoI⟩ := hSt _ _ hst₂
    have y₃ : Fm s₀ env.locals m₁ ((I, oI) :: own₁) { s' with heap := h₁, toks := tk₁ } := ⟨y₂.same, y₂.loc, fun p hp => by
      rcases List.mem_cons.mp hp with rfl | hp
      · exact ⟨hoI, hIL, hI⟩
      · exact y₂.N p hp, by rw [List.map_cons, List.nodup_cons]; exact ⟨hI₁, y₂.nd⟩⟩
    refine wpAny_assign_Name (sL y₃ hx hk fun s₄ y₄ => ?_)
    refine wpAny_mono (step i v m₁ own₁ s₄ oI hlt hP hJ y₄) (fun f s₅ h₅ => ?_) fun _ _ e => e
    have fin : (∃ m₂ own₂, J (i + 1) m₂ own₂ ∧ Fm s₀ env.locals m₂ ((I, oI) :: own₂) s₅) → ∃ k', k' < n + 1 - i ∧ ∃ i' m₁ own₁, Fm s₀ env.locals m₁ own₁ s₅ ∧ I ∉ own₁.map (·.1) ∧ St i' s₅.heap ∧ J i' m₁ own₁ ∧ i' ≤ n ∧ k' = n + 1 - i' := by
      rintro ⟨m₂, own₂, hJ₂, y₅⟩
      have nd := y₅.nd
      rw [List.map_cons, List.nodup_cons] at nd
      have y₆ : Fm s₀ env.locals m₂ own₂ s₅ := y₅.less (List.sublist_cons_self _ _)
      refine ⟨n + 1 - (i + 1), by omega, i + 1, m₂, own₂, y₆, nd.1, ?_, hJ₂, hlt, rfl⟩
      refine W.frame _ _ _ hst₂ fun b hb o e => ?_
      by_cases hbI : b = I
      · subst hbI
        rw [hoI] at e
        cases e
        exact (y₅.N _ (.head _)).1
      · obtain ⟨ob, hob⟩ := hfp b hb hbI
        have e1 := hob i m₁ own₁ _ hi hJ y₂
        have e2 := hob (i + 1) m₂ own₂ _ hlt hJ₂ y₆
        rw [e2]
        exact e1.symm.trans e
    cases f with
    | next => exact fin h₅
    | cont => exact fin h₅
    | brk => exact h₅
    | ret v => exact h₅
  · have hin : i = n := by omega
    subst hin
    exact W.done _ _ _ hst₁ fun h₁ tk₁ hk₁ => wpAny_execs_nil (done _ _ _ hJ (next h₁ tk₁ hk₁))
theorem forAny {Q : Flow → Shared → Prop} {env : Env} {x : Str} {px : Pos} {body : List Stmt} {fp : List Addr} {n : Nat} {P : Nat → Value → Prop} {St : Nat → Heap → Prop} {o : Obj} (W : Walks pw w A s.heap.objs.size fp [s.heap.objs.size] n P St) (hE : PassesOwn (MM w) A env E) (hx : env.kindOf x = some .local) (hk : env.scope.kind = .function)
    (y : Fm s₀ env.locals m own s) (hst : St 0 (s.heap.push o)) (hSt : ∀ i h, St i h → ∃ o, h.get? s.heap.objs.size = some o)
    (J : Nat → Loc → List (Addr × Obj) → Prop) (h0 : J 0 m own)
    (hfp : ∀ b ∈ fp, b ≠ s.heap.objs.size → ∃ o, ∀ i m₁ own₁ s₁, i ≤ n → J i m₁ own₁ → Fm s₀ env.locals m₁ own₁ s₁ → s₁.heap.get? b = some o)
    (step : ∀ i v m₁ own₁ s₁ I oI, i < n → P i v → J i m₁ own₁ → Fm s₀ env.locals ((x, v) :: m₁.filter (fun p => p.1 != x)) ((I, oI) :: own₁) s₁ →
      wpAny (MM w) A (execs body env) (fun f s' => match f with
        | .next | .cont => ∃ m₂ own₂, J (i + 1) m₂ own₂ ∧ Fm s₀ env.locals m₂ ((I, oI) :: own₂) s'
        | .brk => Q .next s'
        | .ret v => Q (.ret v) s') E s₁)
    (done : ∀ m₁ own₁ s₁, J n m₁ own₁ → Fm s₀ env.locals m₁ own₁ s₁ → Q .next s₁) :
    codeAny (MM w) A (.forLoop (.Name x px) (.ref s.heap.objs.size) body [] env) (fun r s' => match r with | .ok f => Q f s' | .error e => cameBackBy (MM w) A env E e s') { s with heap := s.heap.push o } := by
  obtain ⟨mm, F, hm⟩ := y.loc
  refine codeFor (R := fun r s' => match r with | .ok f => Q f s' | .error e => cameBackBy (MM w) A env E e s') W hx hk (next_is_new F) (y.up' (sub_push _ _)) (fun h => ?_) (fun e => ?_) hst hSt J h0 hfp (fun i v m₁ own₁ s₁ oI h1 h2 h3 h4 => wpAny_passesOwn hE (step i v m₁ own₁ s₁ _ oI h1 h2 h3 h4)) done
  · obtain ⟨p, hp, e⟩ := List.mem_map.mp h
    have := Heap.lt_size (y.N p hp).1
    rw [e] at this
    exact Nat.lt_irrefl _ this
  · have := F.ns.lt
    rw [← e] at this
    exact Nat.lt_irrefl _ this
theorem forTup {Q : Flow → Shared → Prop} {env : Env} {x : Str} {px : Pos} {body : List Stmt} {ax : Addr} {items : Array Value} (hE : PassesOwn (MM w) A env E) (hx : env.kindOf x = some .local) (hk : env.scope.kind = .function) (hh : A.handled = none)
    (y : Fm s₀ env.locals m own s) (ht : s.heap.IsTuple ax items)
    (J : Nat → Loc → List (Addr × Obj) → Prop) (h0 : J 0 m own)
    (hax : ∃ oa, ∀ i m₁ own₁ s₁, i ≤ items.size → J i m₁ own₁ → Fm s₀ env.locals m₁ own₁ s₁ → s₁.heap.get? ax = some oa)
    (step : ∀ i v m₁ own₁ s₁ I oI, i < items.size → items[i]? = some v → J i m₁ own₁ → Fm s₀ env.locals ((x, v) :: m₁.filter (fun p => p.1 != x)) ((I, oI) :: own₁) s₁ →
      wpAny (MM w) A (execs body env) (fun f s' => match f with
        | .next | .cont => ∃ m₂ own₂, J (i + 1) m₂ own₂ ∧ Fm s₀ env.locals m₂ ((I, oI) :: own₂) s'
        | .brk => Q .next s'
        | .ret v => Q (.ret v) s') E s₁)
    (done : ∀ m₁ own₁ s₁, J items.size m₁ own₁ → Fm s₀ env.locals m₁ own₁ s₁ → Q .next s₁) :
    wpAny (MM w) A (pyIter (.ref ax)) (fun it s₂ => codeAny (MM w) A (.forLoop (.Name x px) it body [] env) (fun r s' => match r with | .ok f => Q f s' | .error e => cameBackBy (MM w) A env E e s') s₂) E s := by
  have hne : ax ≠ s.heap.objs.size := by obtain ⟨o, ho, _⟩ := ht; exact Nat.ne_of_lt (Heap.lt_size ho)
  refine wpAny_pyIter_tuple ht ?_
  exact forAny (Walks.tuple hh _ ax hne items) hE hx hk y ⟨⟨_, Heap.get?_push_size _ rfl, rfl, rfl⟩, ht.push _⟩ (fun i h st => let ⟨⟨o, ho, _⟩, _⟩ := st; ⟨o, ho⟩) J h0 (fun b hb hne => by
    obtain ⟨oa, ha⟩ := hax
    have : b = ax := by simpa [hne] using hb
    subst this
    exact ⟨oa, ha⟩) (fun i v m₁ own₁ s₁ I oI h1 h2 h3 h4 => step i v m₁ own₁ s₁ I oI h1 h2 h3 h4) done
theorem forList {Q : Flow → Shared → Prop} {env : Env} {x : Str} {px : Pos} {body : List Stmt} {ax : Addr} {items : Array Value} (hE : PassesOwn (MM w) A env E) (hx : env.kindOf x = some .local) (hk : env.scope.kind = .function) (hh : A.handled = none)
    (y : Fm s₀ env.locals m own s) (ht : s.heap.IsList ax items)
    (J : Nat → Loc → List (Addr × Obj) → Prop) (h0 : J 0 m own)
    (hax : ∃ oa, ∀ i m₁ own₁ s₁, i ≤ items.size → J i m₁ own₁ → Fm s₀ env.locals m₁ own₁ s₁ → s₁.heap.get? ax = some oa)
    (step : ∀ i v m₁ own₁ s₁ I oI, i < items.size → items[i]? = some v → J i m₁ own₁ → Fm s₀ env.locals ((x, v) :: m₁.filter (fun p => p.1 != x)) ((I, oI) :: own₁) s₁ →
      wpAny (MM w) A (execs body env) (fun f s' => match f with
        | .next | .cont => ∃ m₂ own₂, J (i + 1) m₂ own₂ ∧ Fm s₀ env.locals m₂ ((I, oI) :: own₂) s'
        | .brk => Q .next s'
        | .ret v => Q (.ret v) s') E s₁)
    (done : ∀ m₁ own₁ s₁, J items.size m₁ own₁ → Fm s₀ env.locals m₁ own₁ s₁ → Q .next s₁) :
    wpAny (MM w) A (pyIter (.ref ax)) (fun it s₂ => codeAny (MM w) A (.forLoop (.Name x px) it body [] env) (fun r s' => match r with | .ok f => Q f s' | .error e => cameBackBy (MM w) A env E e s') s₂) E s := by
  have hne : ax ≠ s.heap.objs.size := by obtain ⟨o, ho, _⟩ := ht; exact Nat.ne_of_lt (Heap.lt_size ho)
  refine wpAny_pyIter_list ht ?_
  exact forAny (Walks.list hh _ ax hne items) hE hx hk y ⟨⟨_, Heap.get?_push_size _ rfl, rfl, rfl⟩, ht.push _⟩ (fun i h st => let ⟨⟨o, ho, _⟩, _⟩ := st; ⟨o, ho⟩) J h0 (fun b hb hne => by
    obtain ⟨oa, ha⟩ := hax
    have : b = ax := by simpa [hne] using hb
    subst this
    exact ⟨oa, ha⟩) (fun i v m₁ own₁ s₁ I oI h1 h2 h3 h4 => step i v m₁ own₁ s₁ I oI h1 h2 h3 h4) done
theorem forDict {Q : Flow → Shared → Prop} {env : Env} {x : Str} {px : Pos} {body : List Stmt} {ax : Addr} {o : Obj} {kvs : List (Str × Value)} (hE : PassesOwn (MM w) A env E) (hx : env.kindOf x = some .local) (hk : env.scope.kind = .function) (hh : A.handled = none)
    (y : Fm s₀ env.locals m own s) (hp : (ax, o) ∈ own) (hd : o.IsDictOf (strKind pw w) kvs) (lo : (ax == sysModules) = false)
    (J : Nat → Loc → List (Addr × Obj) → Prop) (h0 : J 0 m own)
    (hax : ∃ oa, ∀ i m₁ own₁ s₁, i ≤ kvs.length → J i m₁ own₁ → Fm s₀ env.locals m₁ own₁ s₁ → s₁.heap.get? ax = some oa)
    (step : ∀ i v m₁ own₁ s₁ I oI, i < kvs.length → (∃ k x t, kvs[i]? = some (k, x) ∧ v = .str k t) → J i m₁ own₁ → Fm s₀ env.locals ((x, v) :: m₁.filter (fun p => p.1 != x)) ((I, oI) :: own₁) s₁ →
      wpAny (MM w) A (execs body env) (fun f s' => match f with
        | .next | .cont => ∃ m₂ own₂, J (i + 1) m₂ own₂ ∧ Fm s₀ env.locals m₂ ((I, oI) :: own₂) s'
        | .brk => Q .next s'
        | .ret v => Q (.ret v) s') E s₁)
    (done : ∀ m₁ own₁ s₁, J kvs.length m₁ own₁ → Fm s₀ env.locals m₁ own₁ s₁ → Q .next s₁) :
    wpAny (MM w) A (pyIter (.ref ax)) (fun it s₂ => codeAny (MM w) A (.forLoop (.Name x px) it body [] env) (fun r s' => match r with | .ok f => Q f s' | .error e => cameBackBy (MM w) A env E e s') s₂) E s := by
  obtain ⟨ep, ha⟩ := KdkAt.of hd
  have hat := ha.dictAt (y.N _ hp).1
  have hne : ax ≠ s.heap.objs.size := Nat.ne_of_lt (Heap.lt_size (y.N _ hp).1)
  refine wpAny_pyIter_dict lo hat ?_
  exact forAny (Walks.dictKeys (knd := strKind pw w) hh _ ax hne kvs ep) hE hx hk y ⟨⟨_, Heap.get?_push_size _ rfl, rfl, rfl⟩, hat.push _⟩ (fun i h st => let ⟨⟨o, ho, _⟩, _⟩ := st; ⟨o, ho⟩) J h0 (fun b hb hne => by
    obtain ⟨oa, ha⟩ := hax
    have : b = ax := by simpa [hne] using hb
    subst this
    exact ⟨oa, ha⟩) (fun i v m₁ own₁ s₁ I oI h1 h2 h3 h4 => step i v m₁ own₁ s₁ I oI h1 (by
    obtain ⟨k, x, hx, hs⟩ := h2
    obtain ⟨t, rfl⟩ := Value.isStrOf_shape hs
    exact ⟨k, x, t, hx, rfl⟩) h3 h4) done
theorem forRange {Q : Flow → Shared → Prop} {env : Env} {x : Str} {px : Pos} {body : List Stmt} {ax : Addr} {a b c : Int} {t u v : Tok} (hE : PassesOwn (MM w) A env E) (hx : env.kindOf x = some .local) (hk : env.scope.kind = .function) (hh : A.handled = none)
    (y : Fm s₀ env.locals m own s) (hr : IsRange s.heap ax a b c t u v) (hsmall : Builtin.Range.small a b c = true) (n : Nat) (hn : Builtin.Range.rangeSize a b c = n)
    (J : Nat → Loc → List (Addr × Obj) → Prop) (h0 : J 0 m own)
    (step : ∀ i v m₁ own₁ s₁ I oI, i < n → (∃ t, v = .int (a + i * c) t) → J i m₁ own₁ → Fm s₀ env.locals ((x, v) :: m₁.filter (fun p => p.1 != x)) ((I, oI) :: own₁) s₁ →
      wpAny (MM w) A (execs body env) (fun f s' => match f with
        | .next | .cont => ∃ m₂ own₂, J (i + 1) m₂ own₂ ∧ Fm s₀ env.locals m₂ ((I, oI) :: own₂) s'
        | .brk => Q .next s'
        | .ret v => Q (.ret v) s') E s₁)
    (done : ∀ m₁ own₁ s₁, J n m₁ own₁ → Fm s₀ env.locals m₁ own₁ s₁ → Q .next s₁) :
    wpAny (MM w) A (pyIter (.ref ax)) (fun it s₂ => codeAny (MM w) A (.forLoop (.Name x px) it body [] env) (fun r s' => match r with | .ok f => Q f s' | .error e => cameBackBy (MM w) A env E e s') s₂) E s := by
  refine wpAny_pyIter_range hr hsmall ?_
  refine forAny (Walks.range hh _ a c n) hE hx hk y ?_ (fun i h st => ⟨_, st⟩) J h0 (fun b hb hne => by simp [hne] at hb) (fun i v m₁ own₁ s₁ I oI h1 h2 h3 h4 => step i v m₁ own₁ s₁ I oI h1 h2 h3 h4) done
  show IsRangeIter (s.heap.push _) _ (a + ((0 : Nat) : Int) * c) ((n : Int) - ((0 : Nat) : Int)) c
  rw [hn, show a + ((0 : Nat) : Int) * c = a by simp, show (n : Int) - ((0 : Nat) : Int) = n by simp]
  exact Heap.get?_push_size _ rfl
end
end Mine
end -- B5
section -- B6
set_option maxRecDepth 100000
set_option maxHeartbeats 1000000
namespace Mine
section
variable {w : World} {A : Around} {s s₀ : Shared} {E : Value → Shared → Prop} {L c : Addr} {m : Loc} {own pre post : List (Addr × Obj)} {env : Env}
theorem eC {x : Str} {pos : Pos} {v : Value} {o : Obj} {Q : Value → Shared → Prop} (y : Fm s₀ env.locals m own s) (hm : (c, o) ∈ own) (hd : o.data = .cell (some v)) (hk : env.scope.kind = .function) (hl : env.kindOf x = some .cell) (hc : env.cells.lookup x = some c) (h : Q v s) (hdb : (x == ("__debug__" : Str)) = false := by rfl) :
    wpAny (MM w) A (eval (.Name x pos) env) Q E s := wpAny_Name (wpAny_loadName_cell hk hl hc ⟨o, (y.N _ hm).1, hd⟩ h) hdb
theorem sC {x : Str} {v : Value} {v₀ : Option Value} {o : Obj} {Q : Unit → Shared → Prop} (y : Fm s₀ env.locals m (pre ++ (c, o) :: post) s) (hd : o.data = .cell v₀) (hk : env.scope.kind = .function) (hl : env.kindOf x = some .cell) (hc : env.cells.lookup x = some c)
    (h : ∀ s' o', o'.data = .cell (some v) → Fm s₀ env.locals m (pre ++ (c, o') :: post) s' → Q () s') : wpAny (MM w) A (storeName env x v) Q E s := by
  have hm := y.N (c, o) (by simp)
  refine wpAny_storeName_cell hk hl hc ⟨o, hm.1, hd⟩ fun h' hv hs => ?_
  obtain ⟨o', ho', hd'⟩ := hv
  exact h _ o' hd' (y.upd (tk := s.toks) hs.extBut ho')
theorem codeForG {R : Result → Shared → Prop} {x : Str} {px : Pos} {body : List Stmt} {I : Addr} {fp : List Addr} {n : Nat} {P : Nat → Value → Prop} {St : Nat → Heap → Prop} (W : Walks pw w A I fp [I] n P St)
    (hI : s₀.heap.get? I = none) (y : Fm s₀ env.locals m own s) (hIo : I ∉ own.map (·.1)) (hIL : I ≠ env.locals) (hst : St 0 s.heap) (hSt : ∀ i h, St i h → ∃ o, h.get? I = some o)
    (J : Nat → Loc → List (Addr × Obj) → Prop) (h0 : J 0 m own)
    (hfp : ∀ b ∈ fp, b ≠ I → ∃ o, ∀ i m₁ own₁ s₁, i ≤ n → J i m₁ own₁ → Fm s₀ env.locals m₁ own₁ s₁ → s₁.heap.get? b = some o)
    (step : ∀ i v m₁ own₁ s₁ oI, i < n → P i v → J i m₁ own₁ → Fm s₀ env.locals m₁ ((I, oI) :: own₁) s₁ →
      wpAny (MM w) A (storeName env x v) (fun _ s₂ => wpAny (MM w) A (execs body env) (fun f s' => match f with
        | .next | .cont => ∃ m₂ own₂, J (i + 1) m₂ own₂ ∧ Fm s₀ env.locals m₂ ((I, oI) :: own₂) s'
        | .brk => R (.ok .next) s'
        | .ret v => R (.ok (.ret v)) s') (notedBy (MM w) A env fun e s' => R (.error e) s') s₂) (notedBy (MM w) A env fun e s' => R (.error e) s') s₁)
    (done : ∀ m₁ own₁ s₁, J n m₁ own₁ → Fm s₀ env.locals m₁ own₁ s₁ → R (.ok .next) s₁) :
    codeAny (MM w) A (.forLoop (.Name x px) (.ref I) body [] env) R s := by
  refine codeAny_forLoop (fun k s' => ∃ i m₁ own₁, Fm s₀ env.locals m₁ own₁ s' ∧ I ∉ own₁.map (·.1) ∧ St i s'.heap ∧ J i m₁ own₁ ∧ i ≤ n ∧ k = n + 1 - i) ?_ (n + 1) ⟨0, m, own, y, hIo, hst, h0, Nat.zero_le _, rfl⟩
  rintro k s' ⟨i, m₁, own₁, y₁, hI₁, hst₁, hJ, hi, rfl⟩
  have next : ∀ h₁ tk₁, (∀ b o, b ∉ [I] → s'.heap.get? b = some o → h₁.get? b = some o) → Fm s₀ env.locals m₁ own₁ { s' with heap := h₁, toks := tk₁ } := fun h₁ tk₁ hk₁ => by
    obtain ⟨mm, F, hm⟩ := y₁.loc
    refine y₁.of (tk := tk₁) ⟨F.ns.at' fun o e => hk₁ _ o (by simp; exact fun e => hIL e.symm) e, fun b o e => hk₁ b o (by simp; rintro rfl; rw [hI] at e; cases e) (F.keep b o e), F.above⟩ hm (fun p hp => ⟨hk₁ _ _ (by simp; exact fun e => hI₁ (e ▸ List.mem_map_of_mem hp)) (y₁.N p hp).1, (y₁.N p hp).2⟩) y₁.nd
  by_cases hlt : i < n
  · refine W.item i _ _ _ hlt hst₁ fun v h₁ tk₁ hP hst₂ hk₁ => ?_
    have y₂ := next h₁ tk₁ hk₁
    obtain ⟨oI, hoI⟩ := hSt _ _ hst₂
    have y₃ : Fm s₀ env.locals m₁ ((I, oI) :: own₁) { s' with heap := h₁, toks := tk₁ } := ⟨y₂.same, y₂.loc, fun p hp => by
      rcases List.mem_cons.mp hp with rfl | hp
      · exact ⟨hoI, hIL, hI⟩
      · exact y₂.N p hp, by rw [List.map_cons, List.nodup_cons]; exact ⟨hI₁, y₂.nd⟩⟩
    refine wpAny_assign_Name (wpAny_mono (step i v m₁ own₁ _ oI hlt hP hJ y₃) (fun _ s₄ h₄ => wpAny_mono h₄ (fun f s₅ h₅ => ?_) fun _ _ e => e) fun _ _ e => e)
    have fin : (∃ m₂ own₂, J (i + 1) m₂ own₂ ∧ Fm s₀ env.locals m₂ ((I, oI) :: own₂) s₅) → ∃ k', k' < n + 1 - i ∧ ∃ i' m₁ own₁, Fm s₀ env.locals m₁ own₁ s₅ ∧ I ∉ own₁.map (·.1) ∧ St i' s₅.heap ∧ J i' m₁ own₁ ∧ i' ≤ n ∧ k' = n + 1 - i' := by
      rintro ⟨m₂, own₂, hJ₂, y₅⟩
      have nd := y₅.nd
      rw [List.map_cons, List.nodup_cons] at nd
      have y₆ : Fm s₀ env.locals m₂ own₂ s₅ := y₅.less (List.sublist_cons_self _ _)
      refine ⟨n + 1 - (i + 1), by omega, i + 1, m₂, own₂, y₆, nd.1, ?_, hJ₂, hlt, rfl⟩
      refine W.frame _ _ _ hst₂ fun b hb o e => ?_
      by_cases hbI : b = I
      · subst hbI
        rw [hoI] at e
        cases e
        exact (y₅.N _ (.head _)).1
      · obtain ⟨ob, hob⟩ := hfp b hb hbI
        have e1 := hob i m₁ own₁ _ hi hJ y₂
        have e2 := hob (i + 1) m₂ own₂ _ hlt hJ₂ y₆
        rw [e2]
        exact e1.symm.trans e
    cases f with
    | next => exact fin h₅
    | cont => exact fin h₅
    | brk => exact h₅
    | ret v => exact h₅
  · have hin : i = n := by omega
    subst hin
    exact W.done _ _ _ hst₁ fun h₁ tk₁ hk₁ => wpAny_execs_nil (done _ _ _ hJ (next h₁ tk₁ hk₁))
theorem forRangeG {Q : Flow → Shared → Prop} {x : Str} {px : Pos} {body : List Stmt} {ax : Addr} {a b d : Int} {t u v : Tok} (hE : PassesOwn (MM w) A env E) (hh : A.handled = none)
    (y : Fm s₀ env.locals m own s) (hr : IsRange s.heap ax a b d t u v) (hsmall : Builtin.Range.small a b d = true) (n : Nat) (hn : Builtin.Range.rangeSize a b d = n)
    (J : Nat → Loc → List (Addr × Obj) → Prop) (h0 : J 0 m own)
    (step : ∀ i t m₁ own₁ s₁ I oI, i < n → J i m₁ own₁ → Fm s₀ env.locals m₁ ((I, oI) :: own₁) s₁ →
      wpAny (MM w) A (storeName env x (.int (a + i * d) t)) (fun _ s₂ => wpAny (MM w) A (execs body env) (fun f s' => match f with
        | .next | .cont => ∃ m₂ own₂, J (i + 1) m₂ own₂ ∧ Fm s₀ env.locals m₂ ((I, oI) :: own₂) s'
        | .brk => Q .next s'
        | .ret v => Q (.ret v) s') E s₂) E s₁)
    (done : ∀ m₁ own₁ s₁, J n m₁ own₁ → Fm s₀ env.locals m₁ own₁ s₁ → Q .next s₁) :
    wpAny (MM w) A (pyIter (.ref ax)) (fun it s₂ => codeAny (MM w) A (.forLoop (.Name x px) it body [] env) (fun r s' => match r with | .ok f => Q f s' | .error e => cameBackBy (MM w) A env E e s') s₂) E s := by
  refine wpAny_pyIter_range hr hsmall ?_
  obtain ⟨mm, F, hm⟩ := y.loc
  refine codeForG (R := fun r s' => match r with | .ok f => Q f s' | .error e => cameBackBy (MM w) A env E e s') (Walks.range hh _ a d n) (next_is_new F) (y.up' (sub_push _ _)) (fun h => ?_) (fun e => ?_) ?_ (fun i h st => ⟨_, st⟩) J h0 (fun b hb hne => by simp [hne] at hb) (fun i v m₁ own₁ s₁ oI h1 h2 h3 h4 => ?_) done
  · obtain ⟨p, hp, e⟩ := List.mem_map.mp h
    have := Heap.lt_size (y.N p hp).1
    rw [e] at this
    exact Nat.lt_irrefl _ this
  · have := F.ns.lt
    rw [← e] at this
    exact Nat.lt_irrefl _ this
  · show IsRangeIter (s.heap.push _) _ (a + ((0 : Nat) : Int) * d) ((n : Int) - ((0 : Nat) : Int)) d
    rw [hn, show a + ((0 : Nat) : Int) * d = a by simp, show (n : Int) - ((0 : Nat) : Int) = n by simp]
    exact Heap.get?_push_size _ rfl
  · obtain ⟨t', rfl⟩ := h2
    refine wpAny_passesOwn hE (wpAny_mono (step i t' m₁ own₁ s₁ _ oI h1 h3 h4) (fun _ s₂ h₂ => ?_) fun _ _ e => e)
    exact wpAny_passesOwn hE h₂
theorem fAsgComp {elt iter : Expr} {x y : Str} {px py : Pos} {ifs : List Expr} {scope : Scope} {cl : List (Str × Addr)} {pos spos : Pos} {Q : Flow → Shared → Prop} (p : Value → Bool) (F : Value → Value → Prop) (cv : Loc)
    (hclos : closureFor scope env = pure cl) (hcell : (scope.names.all fun y => y.2 != .cell) = true) (hkind : scope.kind = .function) (hnames : (scope.names.all fun y => y.2 != .local || scope.names.lookup y.1 == some .local) = true) (hx : scope.names.lookup x = some .local)
    (hy : env.kindOf y = some .local) (hk : env.scope.kind = .function)
    (h : wpAny (MM w) A (eval iter env) (fun xv s₁ => ∃ n P m own, Fm s₀ env.locals m own s₁ ∧ Opens w A xv n P s₁ ∧ n ≤ sizeLine ∧ (∀ p ∈ cv, ∃ c, cl.lookup p.1 = some c ∧ s₁.heap.IsCell c (some p.2)) ∧
      (∀ s₃ C i v E', Sub s₁.heap s₃.heap → P i v → Ev s₃ (compEnvC scope cl C env) [(x, v)] cv s₃ →
        wpAny (MM w) A (forIn ifs true fun c r => if r = true then do let ok ← isTrue c (compEnvC scope cl C env) (eval c (compEnvC scope cl C env)); pure (ForInStep.yield ok) else pure (ForInStep.yield r)) (fun ok s₄ => ok = p v ∧ After s₃ s₄) E' s₃) ∧
      (∀ s₃ C i v E', Sub s₁.heap s₃.heap → P i v → p v = true → Ev s₃ (compEnvC scope cl C env) [(x, v)] cv s₃ → wpAny (MM w) A (eval elt (compEnvC scope cl C env)) (fun y s₄ => F v y ∧ After s₃ s₄) E' s₃) ∧
      (∀ s' D n' ys (vs : List Value), Fm s₀ env.locals ((y, .ref D) :: m.filter (fun p => p.1 != y)) ((D, listOf ys n') :: own) s' → vs.length = n → (∀ j v, vs[j]? = some v → P j v) → Paired F (vs.filter p) ys.toList → Q .next s')) E s)
    (hsw : swapsWith (.ListComp elt [⟨.Name x px, iter, ifs, 0⟩] scope pos) (some (.Name y py)) spos.line env = pure true := by rfl)
    (hs : ∀ x, foldedSetIterable iter env x = pure x := by intro _; rfl) :
    wpAny (MM w) A (exec (.Assign [.Name y py] (.ListComp elt [⟨.Name x px, iter, ifs, 0⟩] scope pos) spos) env) Q E s := by
  refine wpAny_Assign_ListComp_free p F hsw hclos (fun y hy => by have := List.all_eq_true.mp hcell y hy; simpa using this) hkind (fun y hy hl => ?_) hx hy (by rw [hk]; rfl) (wpAny_mono h (fun xv s₁ h₁ => ?_) fun _ _ q => q) hs
  · have := List.all_eq_true.mp hnames y hy
    rw [hl] at this
    simpa using this
  obtain ⟨n, P, m, own, y₁, hop, hn, hcv, ht, he, hq⟩ := h₁
  refine hop _ _ fun s₂ I fp St a W hI h0 hfp => ?_
  have y₂ := y₁.go a
  obtain ⟨mm, Ff, hm⟩ := y₂.loc
  obtain ⟨mm1, Ff1, hm1⟩ := y₁.loc
  have hLI : env.locals ≠ I := by
    rintro rfl
    obtain ⟨o, _, _, ho, _⟩ := Ff1.ns
    rw [hI] at ho; cases ho
  refine ⟨I, fp, [I], n, P, St, mm, rfl, W, hn, h0, hfp, by simpa using hLI, Ff.ns, ⟨?_, ?_⟩, ?_⟩
  · intro C i v s₃ m₃ E' hC hP hns hm hk _
    have hs1 : Sub s₁.heap s₃.heap := fun b o e => hk b o (by simp only [List.mem_singleton]; rintro rfl; rw [hI] at e; cases e) (a.keep b o e)
    refine wpAny_mono (ht s₃ C i v E' hs1 hP ⟨.refl, ⟨m₃, hns, fun q hq => by simp at hq; subst hq; exact hm⟩, fun q hq => ?_⟩) (fun ok s₄ hok => ⟨hok.1, ?_⟩) fun _ _ q => q
    · obtain ⟨c, c1, c2⟩ := hcv q hq
      exact ⟨c, c1, c2.keeps hs1⟩
    · obtain ⟨⟨h', tk, e⟩, k⟩ := hok.2
      exact ⟨h', tk, e, by rw [e] at k; exact k⟩
  · intro C i v s₃ m₃ E' hC hP hpv hns hm hk _
    have hs1 : Sub s₁.heap s₃.heap := fun b o e => hk b o (by simp only [List.mem_singleton]; rintro rfl; rw [hI] at e; cases e) (a.keep b o e)
    refine wpAny_mono (he s₃ C i v E' hs1 hP hpv ⟨.refl, ⟨m₃, hns, fun q hq => by simp at hq; subst hq; exact hm⟩, fun q hq => ?_⟩) (fun ok s₄ hok => ⟨hok.1, ?_⟩) fun _ _ q => q
    · obtain ⟨c, c1, c2⟩ := hcv q hq
      exact ⟨c, c1, c2.keeps hs1⟩
    · obtain ⟨⟨h', tk, e⟩, k⟩ := hok.2
      exact ⟨h', tk, e, by rw [e] at k; exact k⟩
  · intro D h' tk ys vs hD _ hpl hlen hP hF hns hkk
    obtain ⟨n', hpl⟩ := hpl
    have hne : ∀ b o, s₁.heap.get? b = some o → b ∉ [I] := fun b o e => by
      simp only [List.mem_singleton]; rintro rfl; rw [hI] at e; cases e
    have keep1 : ∀ b o, b ≠ env.locals → s₁.heap.get? b = some o → h'.get? b = some o := fun b o hb e => hkk b o hb (hne b o e) (a.keep b o e)
    have hDL : D ≠ env.locals := by
      rintro rfl
      obtain ⟨o, _, _, ho, _⟩ := Ff.ns
      rw [hD] at ho; cases ho
    have hD0 : s₀.heap.get? D = none := by
      cases e : s₀.heap.get? D with
      | none => rfl
      | some o => have := y₂.keep _ _ e; rw [hD] at this; cases this
    refine hq _ D n' ys vs ⟨?_, ⟨_, ⟨hns, fun b o e => ?_, Ff.above⟩, fun q hq => ?_⟩, fun q hq => ?_, ?_⟩ hlen hP hF
    · obtain ⟨h2, t2, e2⟩ := y₂.same
      exact ⟨h', tk, by rw [e2]⟩
    · refine keep1 b o (fun e' => ?_) (Ff1.keep b o e)
      subst e'
      exact absurd (Heap.lt_size e) (Nat.not_lt.mpr Ff.above)
    · rcases List.mem_cons.mp hq with rfl | hq
      · exact if_pos rfl
      · obtain ⟨q1, q2⟩ := List.mem_filter.mp hq
        have : q.1 ≠ y := by simpa using q2
        show (if q.1 = y then _ else mm q.1) = _
        rw [if_neg this]
        exact hm q q1
    · rcases List.mem_cons.mp hq with rfl | hq
      · exact ⟨hpl, hDL, hD0⟩
      · have z := y₁.N q hq
        exact ⟨keep1 _ _ z.2.1 z.1, z.2⟩
    · rw [List.map_cons, List.nodup_cons]
      refine ⟨fun hm2 => ?_, y₁.nd⟩
      obtain ⟨q, hq, e⟩ := List.mem_map.mp hm2
      have z := (y₂.N q hq).1
      have e' : q.1 = D := e
      rw [e', hD] at z; cases z
end
end Mine
end -- B6
section -- B8
set_option maxRecDepth 100000
set_option maxHeartbeats 1000000
namespace Mine
def compEnvG (scope : Scope) (cells : List (Str × Addr)) (C : Addr) (env : Env) : Env :=
  { scope := relabel scope env, locals := C, globals := env.globals, cells := cells, qual := env.qual, func := none, code := env.code, frame := env.frame, builtins := env.builtins }
section
variable {w : World} {A : Around} {s s₀ : Shared} {E : Value → Shared → Prop} {L : Addr} {m : Loc} {own pre post : List (Addr × Obj)} {env : Env}
theorem newCompEnv {scope : Scope} {cl : List (Str × Addr)} {Q : Env → Shared → Prop}
    (h : Q { scope, locals := s.heap.objs.size, globals := env.globals, cells := cellsFrom (s.heap.objs.size + 1) scope.names cl, qual := env.qual, func := none, code := env.code, frame := env.frame, builtins := env.builtins } { s with heap := pushCells (s.heap.push emptyDict) scope.names }) :
    wpAny (MM w) A (newFunctionEnv scope env.globals cl [] env.qual none .none (some env)) Q E s := by
  simp only [newFunctionEnv, Option.isSome_some, if_true]
  refine wpAny_bind (wpAny_alloc ?_)
  refine wpAny_bind (wpAny_layCells _ (fun name kind cells => by cases hkc : kind == NameKind.cell <;> simp [hkc]) _ _ _ _ ?_)
  rw [List.forIn_nil]
  refine wpAny_bind (wpAny_pure (wpAny_pure ?_))
  rw [show ({ s with heap := s.heap.push emptyDict } : Shared).heap.objs.size = s.heap.objs.size + 1 from Heap.size_push ..]
  exact h
theorem fCompL {elt target iter : Expr} {ifs : List Expr} {gs : List Comprehension} {scope : Scope} {cl : List (Str × Addr)} {pos : Pos} {Q : Value → Shared → Prop}
    (hclos : closureFor scope env = pure cl) (hkind : scope.kind = .function) (hnames : (scope.names.all fun y => y.2 != .local || scope.names.lookup y.1 == some .local) = true)
    (h : wpAny (MM w) A (eval iter env) (fun xv s₁ => wpAny (MM w) A (pyIter xv) (fun it s₂ => (∀ (s₄ : Shared) (Q : Value → Shared → Prop) (E : Value → Shared → Prop), Sub s₂.heap s₄.heap → Q it s₄ → wpAny (MM w) A (pyIter it) Q E s₄) ∧
      ∀ s₄, s₄ = { s₂ with heap := pushCells ((s₂.heap.push (listOf #[] 0)).push emptyDict) scope.names } → codeAny (MM w) A (.compLoop (.ListComp elt (⟨target, iter, ifs, 0⟩ :: gs) scope pos) 0 it (.ref s₂.heap.objs.size) (compEnvG scope (cellsFrom (s₂.heap.objs.size + 2) scope.names cl) (s₂.heap.objs.size + 1) env))
        (fun r s' => r = .ok .next ∧ ∃ m, s'.heap.Ns (s₂.heap.objs.size + 1) m ∧ ∀ h', Heap.SameBut (s₂.heap.objs.size + 1) s'.heap h' → Q (.ref s₂.heap.objs.size) { s' with heap := h' }) s₄) E s₁) E s)
    (hs : ∀ x, foldedSetIterable iter env x = pure x := by intro _; rfl) :
    wpAny (MM w) A (eval (.ListComp elt (⟨target, iter, ifs, 0⟩ :: gs) scope pos) env) Q E s := by
  rw [eval_ListComp]
  refine wpAny_comprehension_free (use := none) rfl hs hclos hkind (fun y hy hl => ?_) (wpAny_mono h (fun xv s₁ h₁ => wpAny_mono h₁ (fun it s₂ h₂ => ?_) fun _ _ e => e) fun _ _ e => e)
  · have := List.all_eq_true.mp hnames y hy
    rw [hl] at this
    simpa using this
  obtain ⟨hself, hloop⟩ := h₂
  refine wpAny_newObj_type (newCompEnv ?_)
  rw [show ({ s₂ with heap := s₂.heap.push { cls := .type "list", dict := none, data := .seq ([] : List Value).toArray } } : Shared).heap.objs.size = s₂.heap.objs.size + 1 from Heap.size_push ..]
  have lp := hloop _ rfl
  have lp' := codeAny_mono (R' := compPost (MM w) A E none Q (.ref s₂.heap.objs.size) (s₂.heap.objs.size + 1)) lp (fun r s' hr => by
    obtain ⟨rfl, mm, hns, hq⟩ := hr
    exact ⟨mm, hns, hq⟩)
  refine codeAny_compStart_list lp' (hself _ _ _ (fun b o e => ?_) lp')
  exact pushCells_keeps _ _ _ _ (sub_push _ _ _ _ (sub_push _ _ _ _ e))
theorem AfterO.sb {s' : Shared} {own' : List (Addr × Obj)} {C : Addr} {h' : Heap} (x : AfterO s own s' own') (hs : Heap.SameBut C s'.heap h') (h1 : C ∉ own'.map (·.1)) (h2 : s.heap.get? C = none) : AfterO s own { s' with heap := h' } own' :=
  ⟨let ⟨h, tk, e⟩ := x.same; ⟨h', tk, by rw [e]⟩, fun b o e => hs.extBut b o (fun q => by
    have := hide_sub _ _ _ _ e
    rw [q, h2] at this; cases this) (x.keep b o e), fun p hp => ⟨hs.extBut _ _ (fun q => h1 (q ▸ List.mem_map_of_mem hp)) (x.new p hp).1, (x.new p hp).2⟩, x.nd⟩
theorem compFm {xs : List (Addr × Obj)} (O : Owns s.heap xs) : Fm (hid s xs) (s.heap.objs.size + 1) [] ((s.heap.objs.size, listOf #[] 0) :: xs) { s with heap := (s.heap.push (listOf #[] 0)).push emptyDict } := by
  have hs1 : (s.heap.push (listOf #[] 0)).objs.size = s.heap.objs.size + 1 := Heap.size_push ..
  have hn : (hide s.heap (xs.map (·.1))).objs.size = s.heap.objs.size := hide_size _ _
  refine ⟨⟨_, _, rfl⟩, ⟨fun _ => none, ⟨?_, fun b o e => sub_push _ _ _ _ (sub_push _ _ _ _ (hide_sub _ _ _ _ e)), by show (hide _ _).objs.size ≤ _; rw [hn]; exact Nat.le_succ _⟩, fun p hp => nomatch hp⟩, fun p hp => ?_, ?_⟩
  · have := Heap.Ns.new (s.heap.push (listOf #[] 0)) (.type "dict")
    rw [hs1] at this
    exact this
  · rcases List.mem_cons.mp hp with rfl | hp
    · refine ⟨sub_push _ _ _ _ (Heap.get?_push_size _ rfl), Nat.ne_of_lt (Nat.lt_succ_self _), ?_⟩
      cases e : (hid s xs).heap.get? s.heap.objs.size with
      | none => rfl
      | some o => have := hide_sub _ _ _ _ e; rw [get_size] at this; cases this
    · have z := O.at_ p hp
      exact ⟨sub_push _ _ _ _ (sub_push _ _ _ _ z), Nat.ne_of_lt (Nat.lt_succ_of_lt (Heap.lt_size z)), hide_in (List.mem_map_of_mem hp)⟩
  · rw [List.map_cons, List.nodup_cons]
    refine ⟨fun hm => ?_, O.nd⟩
    obtain ⟨p, hp, e⟩ := List.mem_map.mp hm
    have h9 := Heap.lt_size (O.at_ p hp)
    have e' : p.1 = s.heap.objs.size := e
    rw [e'] at h9
    exact Nat.lt_irrefl _ h9
abbrev testsOf (ifs : List Expr) (env : Env) : Sem Bool := forIn ifs true fun c r => if r = true then do let ok ← isTrue c env (eval c env); pure (ForInStep.yield ok) else pure (ForInStep.yield r)
theorem cLoop {elt target iter : Expr} {ifs : List Expr} {scope : Scope} {pos : Pos} {it acc : Value} {R : Result → Shared → Prop} (I : Nat → Shared → Prop)
    (turn : ∀ n s, I n s → wpAny (MM w) A (pyNext it) (fun r s₁ => match r with
      | none => R (.ok .next) s₁
      | some v => wpAny (MM w) A (letOwnedTupleGo target it v) (fun _ s₀ => wpAny (MM w) A (assign target env v) (fun _ s₂ =>
          wpAny (MM w) A (testsOf ifs env) (fun ok s₃ => if ok = true then wpAny (MM w) A (eval elt env) (fun x s₄ =>
            wpAny (MM w) A (call (.builtin "list.append") [acc, x]) (fun _ s₅ => ∃ m, m < n ∧ I m s₅) (notedBy (MM w) A env fun e s' => R (.error e) s') s₄) (notedBy (MM w) A env fun e s' => R (.error e) s') s₃
            else ∃ m, m < n ∧ I m s₃) (notedBy (MM w) A env fun e s' => R (.error e) s') s₂) (notedBy (MM w) A env fun e s' => R (.error e) s') s₀) (notedBy (MM w) A env fun e s' => R (.error e) s') s₁) (notedBy (MM w) A env fun e s' => R (.error e) s') s)
    (n : Nat) (h : I n s) : codeAny (MM w) A (.compLoop (.ListComp elt [⟨target, iter, ifs, 0⟩] scope pos) 0 it acc env) R s := by
  refine codeAny_loop rfl I (fun n s hI => ?_) n h
  show wpAny _ A ((compTurn (.ListComp elt [⟨target, iter, ifs, 0⟩] scope pos) 0 it acc env).onRaise (fun x => do noteFrame x env; theTreesLotGoes x)) _ _ s
  refine wpAny_noted ?_
  rw [compTurn_list]
  refine wpAny_bind (wpAny_standAt (wpAny_bind (wpAny_mono (turn n s hI) (fun r s₁ h₁ => ?_) fun _ _ h' => h')))
  cases r with
  | none => exact wpAny_pure h₁
  | some v =>
    refine wpAny_bind (wpAny_mono h₁ (fun _ s₀ h₀ => ?_) fun _ _ h' => h')
    refine wpAny_bind (wpAny_mono h₀ (fun _ s₂ h₂ => wpAny_bind (wpAny_mono h₂ (fun ok s₃ h₃ => ?_) fun _ _ h' => h')) fun _ _ h' => h')
    cases ok with
    | false => exact wpAny_pure ⟨rfl, h₃⟩
    | true => exact wpAny_bind (wpAny_bind (wpAny_mono h₃ (fun x s₄ h₄ => wpAny_bind (wpAny_mono h₄ (fun _ s₅ h₅ => wpAny_pure (wpAny_pure ⟨rfl, h₅⟩)) fun _ _ h' => h')) fun _ _ h' => h'))
theorem fAppendL {its : Array Value} {n : Nat} {x : Value} {D : Addr} {Q : Value → Shared → Prop} (y : Fm s₀ L m (pre ++ (D, listOf its n) :: post) s)
    (h : ∀ s', Fm s₀ L m (pre ++ (D, listOf (its.push x) (n + 1)) :: post) s' → Q .none s') (hsz : its.size ≤ sizeLine) : wpAny (MM w) A (call (.builtin "list.append") [.ref D, x]) Q E s := by
  have z := y.N (D, listOf its n) (by simp)
  exact append_at (hsz := hsz) z.1 fun h' hs ho' => h _ (y.upd (tk := s.toks) (Heap.SameBut.extBut hs) ho')
theorem cLoopW {elt iter : Expr} {x : Str} {px : Pos} {ifs : List Expr} {scope : Scope} {pos : Pos} {R : Result → Shared → Prop} {I D : Addr} {fp : List Addr} {n : Nat} {P : Nat → Value → Prop} {St : Nat → Heap → Prop} {its : Array Value} {k : Nat}
    (W : Walks pw w A I fp [I] n P St) (hsz : n ≤ sizeLine) (hI : s₀.heap.get? I = none) (y : Fm s₀ env.locals m ((D, listOf its k) :: own) s) (hIo : I ∉ ((D, listOf its k) :: own).map (·.1)) (hIL : I ≠ env.locals) (hst : St 0 s.heap) (hSt : ∀ i h, St i h → ∃ o, h.get? I = some o)
    (J : Nat → Loc → List (Addr × Obj) → Array Value → Prop) (h0 : J 0 m own its) (hits : ∀ i m₁ own₁ its₁, J i m₁ own₁ its₁ → its₁.size ≤ i)
    (hfp : ∀ b ∈ fp, b ≠ I → ∃ o, ∀ i m₁ own₁ its₁ k₁ s₁, i ≤ n → J i m₁ own₁ its₁ → Fm s₀ env.locals m₁ ((D, listOf its₁ k₁) :: own₁) s₁ → s₁.heap.get? b = some o)
    (step : ∀ i v m₁ own₁ its₁ k₁ s₁ oI, i < n → P i v → J i m₁ own₁ its₁ → Fm s₀ env.locals m₁ ((I, oI) :: (D, listOf its₁ k₁) :: own₁) s₁ →
      wpAny (MM w) A (storeName env x v) (fun _ s₂ => wpAny (MM w) A (testsOf ifs env) (fun ok s₃ => if ok = true then
          wpAny (MM w) A (eval elt env) (fun yv s₄ => ∃ m₂ own₂, J (i + 1) m₂ own₂ (its₁.push yv) ∧ Fm s₀ env.locals m₂ ((I, oI) :: (D, listOf its₁ k₁) :: own₂) s₄) (notedBy (MM w) A env fun e s' => R (.error e) s') s₃
        else ∃ m₂ own₂, J (i + 1) m₂ own₂ its₁ ∧ Fm s₀ env.locals m₂ ((I, oI) :: (D, listOf its₁ k₁) :: own₂) s₃) (notedBy (MM w) A env fun e s' => R (.error e) s') s₂) (notedBy (MM w) A env fun e s' => R (.error e) s') s₁)
    (done : ∀ m₁ own₁ its₁ k₁ s₁, J n m₁ own₁ its₁ → Fm s₀ env.locals m₁ ((D, listOf its₁ k₁) :: own₁) s₁ → R (.ok .next) s₁) :
    codeAny (MM w) A (.compLoop (.ListComp elt [⟨.Name x px, iter, ifs, 0⟩] scope pos) 0 (.ref I) (.ref D) env) R s := by
  refine cLoop (fun c s' => ∃ i m₁ own₁ its₁ k₁, Fm s₀ env.locals m₁ ((D, listOf its₁ k₁) :: own₁) s' ∧ I ∉ ((D, listOf its₁ k₁) :: own₁).map (·.1) ∧ St i s'.heap ∧ J i m₁ own₁ its₁ ∧ i ≤ n ∧ c = n + 1 - i) ?_ (n + 1) ⟨0, m, own, its, k, y, hIo, hst, h0, Nat.zero_le _, rfl⟩
  rintro c s' ⟨i, m₁, own₁, its₁, k₁, y₁, hI₁, hst₁, hJ, hi, rfl⟩
  have next : ∀ h₁ tk₁, (∀ b o, b ∉ [I] → s'.heap.get? b = some o → h₁.get? b = some o) → Fm s₀ env.locals m₁ ((D, listOf its₁ k₁) :: own₁) { s' with heap := h₁, toks := tk₁ } := fun h₁ tk₁ hk₁ => by
    obtain ⟨mm, F, hm⟩ := y₁.loc
    refine y₁.of (tk := tk₁) ⟨F.ns.at' fun o e => hk₁ _ o (by simp; exact fun e => hIL e.symm) e, fun b o e => hk₁ b o (by simp; rintro rfl; rw [hI] at e; cases e) (F.keep b o e), F.above⟩ hm (fun p hp => ⟨hk₁ _ _ (by simp; exact fun e => hI₁ (e ▸ List.mem_map_of_mem hp)) (y₁.N p hp).1, (y₁.N p hp).2⟩) y₁.nd
  by_cases hlt : i < n
  · refine W.item i _ _ _ hlt hst₁ fun v h₁ tk₁ hP hst₂ hk₁ => ?_
    have y₂ := next h₁ tk₁ hk₁
    obtain ⟨oI, hoI⟩ := hSt _ _ hst₂
    have y₃ : Fm s₀ env.locals m₁ ((I, oI) :: (D, listOf its₁ k₁) :: own₁) { s' with heap := h₁, toks := tk₁ } := ⟨y₂.same, y₂.loc, fun p hp => by
      rcases List.mem_cons.mp hp with rfl | hp
      · exact ⟨hoI, hIL, hI⟩
      · exact y₂.N p hp, by rw [List.map_cons, List.nodup_cons]; exact ⟨hI₁, y₂.nd⟩⟩
    have fin : ∀ its₂ k₂ s₅, (∃ m₂ own₂, J (i + 1) m₂ own₂ its₂ ∧ Fm s₀ env.locals m₂ ((I, oI) :: (D, listOf its₂ k₂) :: own₂) s₅) → ∃ k', k' < n + 1 - i ∧ ∃ i' m₁ own₁ its₁ k₁, Fm s₀ env.locals m₁ ((D, listOf its₁ k₁) :: own₁) s₅ ∧ I ∉ ((D, listOf its₁ k₁) :: own₁).map (·.1) ∧ St i' s₅.heap ∧ J i' m₁ own₁ its₁ ∧ i' ≤ n ∧ k' = n + 1 - i' := by
      rintro its₂ k₂ s₅ ⟨m₂, own₂, hJ₂, y₅⟩
      have nd := y₅.nd
      rw [List.map_cons, List.nodup_cons] at nd
      have y₆ : Fm s₀ env.locals m₂ ((D, listOf its₂ k₂) :: own₂) s₅ := y₅.less (List.sublist_cons_self _ _)
      refine ⟨n + 1 - (i + 1), by omega, i + 1, m₂, own₂, its₂, k₂, y₆, nd.1, ?_, hJ₂, hlt, rfl⟩
      refine W.frame _ _ _ hst₂ fun b hb o e => ?_
      by_cases hbI : b = I
      · subst hbI
        rw [hoI] at e
        cases e
        exact (y₅.N _ (.head _)).1
      · obtain ⟨ob, hob⟩ := hfp b hb hbI
        have e1 := hob i m₁ own₁ its₁ k₁ _ hi hJ y₂
        have e2 := hob (i + 1) m₂ own₂ its₂ k₂ _ hlt hJ₂ y₆
        rw [e2]
        exact e1.symm.trans e
    refine wpAny_of_eq (a := ()) rfl (wpAny_assign_Name (wpAny_mono (step i v m₁ own₁ its₁ k₁ _ oI hlt hP hJ y₃) (fun _ s₄ h₄ => wpAny_mono h₄ (fun ok s₅ h₅ => ?_) fun _ _ e => e) fun _ _ e => e))
    cases ok with
    | false =>
      rw [if_neg (by decide)] at h₅ ⊢
      exact fin _ _ _ h₅
    | true =>
      rw [if_pos rfl] at h₅ ⊢
      refine wpAny_mono h₅ (fun yv s₆ h₆ => ?_) fun _ _ e => e
      obtain ⟨m₂, own₂, hJ₂, y₆⟩ := h₆
      exact fAppendL (pre := [_]) y₆ (fun s₇ y₇ => fin _ _ _ ⟨m₂, own₂, hJ₂, y₇⟩) (Nat.le_trans (hits _ _ _ _ hJ) (Nat.le_trans hi hsz))
  · have hin : i = n := by omega
    subst hin
    exact W.done _ _ _ hst₁ fun h₁ tk₁ hk₁ => done _ _ _ _ _ hJ (next h₁ tk₁ hk₁)
end
end Mine
end -- B8
section -- B9
set_option maxRecDepth 100000
set_option maxHeartbeats 1000000
namespace Mine
section
variable {w : World} {A : Around} {s s₀ : Shared} {E : Value → Shared → Prop} {L : Addr} {m : Loc} {own pre post : List (Addr × Obj)} {env : Env}
theorem turn20 (elt t0 i0 t1 i1 : Expr) (scope : Scope) (pos : Pos) (it acc : Value) (env : Env) :
    compTurn (.ListComp elt [⟨t0, i0, [], 0⟩, ⟨t1, i1, [], 0⟩] scope pos) 0 it acc env = (do
      standAt i0.pos
      match ← pyNext it with
      | none => pure (.done .next)
      | some v =>
        letOwnedTupleGo t0 it v
        assign t0 env v
        let mut ok := true
        for c in ([] : List Expr) do
          if ok then ok ← isTrue c env (eval c env)
        if ok then
          let x ← eval i1 env
          standAt i1.pos
          let x ← foldedSetIterable i1 env x
          let _ ← runOwn (.compStart (.ListComp elt [⟨t0, i0, [], 0⟩, ⟨t1, i1, [], 0⟩] scope pos) 1 (← holding [x] (pyIter x)) acc env) env
        again (.compLoop (.ListComp elt [⟨t0, i0, [], 0⟩, ⟨t1, i1, [], 0⟩] scope pos) 0 it acc env)) := by rfl
theorem turn21 (elt t0 i0 t1 i1 : Expr) (scope : Scope) (pos : Pos) (it acc : Value) (env : Env) :
    compTurn (.ListComp elt [⟨t0, i0, [], 0⟩, ⟨t1, i1, [], 0⟩] scope pos) 1 it acc env = (do
      standAt i1.pos
      match ← pyNext it with
      | none => pure (.done .next)
      | some v =>
        letOwnedTupleGo t1 it v
        assign t1 env v
        let mut ok := true
        for c in ([] : List Expr) do
          if ok then ok ← isTrue c env (eval c env)
        if ok then
          (do let _ ← call (.builtin "list.append") [acc, ← eval elt env])
        again (.compLoop (.ListComp elt [⟨t0, i0, [], 0⟩, ⟨t1, i1, [], 0⟩] scope pos) 1 it acc env)) := by rfl
theorem loop21 {elt t0 i0 t1 i1 : Expr} {scope : Scope} {pos : Pos} {it acc : Value} {R : Result → Shared → Prop} (I : Nat → Shared → Prop)
    (turn : ∀ n s, I n s → wpAny (MM w) A (pyNext it) (fun r s₁ => match r with
      | none => R (.ok .next) s₁
      | some v => wpAny (MM w) A (letOwnedTupleGo t1 it v) (fun _ s₀ => wpAny (MM w) A (assign t1 env v) (fun _ s₂ =>
          wpAny (MM w) A (eval elt env) (fun x s₄ =>
            wpAny (MM w) A (call (.builtin "list.append") [acc, x]) (fun _ s₅ => ∃ m, m < n ∧ I m s₅) (notedBy (MM w) A env fun e s' => R (.error e) s') s₄) (notedBy (MM w) A env fun e s' => R (.error e) s') s₂) (notedBy (MM w) A env fun e s' => R (.error e) s') s₀) (notedBy (MM w) A env fun e s' => R (.error e) s') s₁) (notedBy (MM w) A env fun e s' => R (.error e) s') s)
    (n : Nat) (h : I n s) : codeAny (MM w) A (.compLoop (.ListComp elt [⟨t0, i0, [], 0⟩, ⟨t1, i1, [], 0⟩] scope pos) 1 it acc env) R s := by
  refine codeAny_loop rfl I (fun n s hI => ?_) n h
  show wpAny _ A ((compTurn (.ListComp elt [⟨t0, i0, [], 0⟩, ⟨t1, i1, [], 0⟩] scope pos) 1 it acc env).onRaise (fun x => do noteFrame x env; theTreesLotGoes x)) _ _ s
  refine wpAny_noted ?_
  rw [turn21]
  refine wpAny_bind (wpAny_standAt (wpAny_bind (wpAny_mono (turn n s hI) (fun r s₁ h₁ => ?_) fun _ _ h' => h')))
  cases r with
  | none => exact wpAny_pure h₁
  | some v =>
    refine wpAny_bind (wpAny_mono h₁ (fun _ s₀ h₀ => ?_) fun _ _ h' => h')
    refine wpAny_bind (wpAny_mono h₀ (fun _ s₂ h₂ => wpAny_bind (tests0 ?_)) fun _ _ h' => h')
    exact wpAny_bind (wpAny_bind (wpAny_mono h₂ (fun x s₄ h₄ => wpAny_bind (wpAny_mono h₄ (fun _ s₅ h₅ => wpAny_pure (wpAny_pure ⟨rfl, h₅⟩)) fun _ _ h' => h')) fun _ _ h' => h'))
theorem start21 {elt t0 i0 t1 i1 : Expr} {scope : Scope} {pos : Pos} {it acc : Value} {R : Result → Shared → Prop}
    (h0 : codeAny (MM w) A (.compLoop (.ListComp elt [⟨t0, i0, [], 0⟩, ⟨t1, i1, [], 0⟩] scope pos) 1 it acc env) R s)
    (h : wpAny (MM w) A (pyIter it) (fun it' s' => codeAny (MM w) A (.compLoop (.ListComp elt [⟨t0, i0, [], 0⟩, ⟨t1, i1, [], 0⟩] scope pos) 1 it' acc env) R s')
      (notedBy (MM w) A env fun x s' => R (.error x) s') s) :
    codeAny (MM w) A (.compStart (.ListComp elt [⟨t0, i0, [], 0⟩, ⟨t1, i1, [], 0⟩] scope pos) 1 it acc env) R s := by
  refine codeAny_of_tree ?_
  show wpAny _ _ ((compStart (.ListComp elt [⟨t0, i0, [], 0⟩, ⟨t1, i1, [], 0⟩] scope pos) 1 it acc env).onRaise (fun x => do noteFrame x env; standAt theWindowsPlace)) _ _ s
  refine wpAny_notedAt ?_
  unfold compStart
  show wpAny _ _ (ask >>= _) _ _ s
  refine wpAny_bind (wpAny_askSetting (wpAny_ite ?_))
  split
  · first
      | exact wpAny_bind (wpAny_pure (wpAny_pure (And.intro rfl h0)))
      | exact wpAny_pure (And.intro rfl h0)
  · first
      | exact wpAny_bind (wpAny_rule (wpAny_bind (wpAny_standAt (wpAny_bind (wpAny_mono h (fun it' s' h' => wpAny_pure (And.intro rfl h')) fun _ _ x => x)))))
      | (refine wpAny_bind (wpAny_rule ?_); show wpAny _ _ (standAt i1.pos >>= _) _ _ s; exact wpAny_bind (wpAny_standAt (wpAny_bind (wpAny_mono h (fun it' s' h' => wpAny_pure (And.intro rfl h')) fun _ _ x => x))))
theorem loop20 {elt t0 i0 t1 i1 : Expr} {scope : Scope} {pos : Pos} {it acc : Value} {R : Result → Shared → Prop} (I : Nat → Shared → Prop)
    (turn : ∀ n s, I n s → wpAny (MM w) A (pyNext it) (fun r s₁ => match r with
      | none => R (.ok .next) s₁
      | some v => wpAny (MM w) A (letOwnedTupleGo t0 it v) (fun _ s₀ => wpAny (MM w) A (assign t0 env v) (fun _ s₂ =>
          wpAny (MM w) A (eval i1 env) (fun x s₃ => wpAny (MM w) A (pyIter x) (fun it' s₄ =>
            codeAny (MM w) A (.compStart (.ListComp elt [⟨t0, i0, [], 0⟩, ⟨t1, i1, [], 0⟩] scope pos) 1 it' acc env) (fun r s₅ => match r with
              | .ok _ => ∃ m, m < n ∧ I m s₅
              | .error e => cameBackBy (MM w) A env (notedBy (MM w) A env fun e s' => R (.error e) s') e s₅) s₄) (notedBy (MM w) A env fun e s' => R (.error e) s') s₃) (notedBy (MM w) A env fun e s' => R (.error e) s') s₂) (notedBy (MM w) A env fun e s' => R (.error e) s') s₀) (notedBy (MM w) A env fun e s' => R (.error e) s') s₁) (notedBy (MM w) A env fun e s' => R (.error e) s') s)
    (n : Nat) (h : I n s) (hs : ∀ x, foldedSetIterable i1 env x = pure x := by intro _; rfl) : codeAny (MM w) A (.compLoop (.ListComp elt [⟨t0, i0, [], 0⟩, ⟨t1, i1, [], 0⟩] scope pos) 0 it acc env) R s := by
  refine codeAny_loop rfl I (fun n s hI => ?_) n h
  show wpAny _ A ((compTurn (.ListComp elt [⟨t0, i0, [], 0⟩, ⟨t1, i1, [], 0⟩] scope pos) 0 it acc env).onRaise (fun x => do noteFrame x env; theTreesLotGoes x)) _ _ s
  refine wpAny_noted ?_
  rw [turn20]
  refine wpAny_bind (wpAny_standAt (wpAny_bind (wpAny_mono (turn n s hI) (fun r s₁ h₁ => ?_) fun _ _ h' => h')))
  cases r with
  | none => exact wpAny_pure h₁
  | some v =>
    refine wpAny_bind (wpAny_mono h₁ (fun _ s₀ h₀ => ?_) fun _ _ h' => h')
    refine wpAny_bind (wpAny_mono h₀ (fun _ s₂ h₂ => wpAny_bind (tests0 ?_)) fun _ _ h' => h')
    rw [if_pos rfl]
    refine wpAny_bind (wpAny_mono h₂ (fun x s₃ h₃ => wpAny_bind (wpAny_standAt (wpAny_bind (wpAny_of_eq (hs x) (wpAny_bind (wpAny_holding (wpAny_mono h₃ (fun it' s₄ h₄ => ?_) fun _ _ h' => h'))))))) fun _ _ h' => h')
    exact wpAny_bind (wpAny_runOwn (codeAny_mono h₄ fun r s₅ h₅ => by
      cases r with
      | ok f => exact wpAny_pure ⟨rfl, h₅⟩
      | error e => exact h₅))
end
end Mine
end -- B9
section -- M1
set_option maxRecDepth 100000
set_option maxHeartbeats 1000000
namespace Mine
def mwO (l : Addr) : Obj := { cls := .type "method-wrapper", data := .fields #[.builtin "list_iterator.__next__", .ref l] }
def liO (l : Addr) (i : Nat) : Obj := { cls := .type "list_iterator", data := .fields #[.ref l, .int i 0] }
section
variable {w : World} {A : Around} {s : Shared} {E : Value → Shared → Prop}
theorem look_wd_get : typeLookup (.type "wrapper_descriptor") "__get__" = pure (some (.builtin "wrapper_descriptor.__get__")) := by rw [typeLookup_type, builtinLookup_eq_fast]; kernel_rfl
theorem look_wd_set : typeLookup (.type "wrapper_descriptor") "__set__" = pure none := by rw [typeLookup_type, builtinLookup_eq_fast]; kernel_rfl
theorem look_wd_del : typeLookup (.type "wrapper_descriptor") "__delete__" = pure none := by rw [typeLookup_type, builtinLookup_eq_fast]; kernel_rfl
theorem slot_wd_get : Slot "wrapper_descriptor" "__get__" "wrapper_descriptor.__get__" :=
  .of (owner := "wrapper_descriptor") (n := "__get__") (by rw [typeLookup_type, builtinLookup_eq_fast]; kernel_rfl) (by decide +kernel) (by decide +kernel) (by decide +kernel)
    (by first | exact .inl (by decide +kernel) | exact .inr (by decide +kernel)) (by rw [isSubtype_type]; kernel_rfl)
theorem entry_wd_get : entryFor table "wrapper_descriptor.__get__" = some Builtin.«wrapper_descriptor.__get__» := entryFor_of_tree (by kernel_rfl)
theorem args_wd_get (a b c : Value) : argsOk "wrapper_descriptor.__get__" ⟨[a, b, c], []⟩ := by unfold argsOk; kernel_rfl
theorem type_li_next : typeOf (.builtin "list_iterator.__next__") = pure (.type "wrapper_descriptor") := by show builtinType _ = _; rw [builtinType_eq_fast]; kernel_rfl
theorem sub_li_li : isSubtype (.type "list_iterator") (.type "list_iterator") = pure true := by rw [isSubtype_type]; kernel_rfl
theorem slot_li_getattribute : Slot "list_iterator" "__getattribute__" "object.__getattribute__" :=
  .of (owner := "object") (n := "__getattribute__") (by rw [typeLookup_type, builtinLookup_eq_fast]; kernel_rfl) (by decide +kernel) (by decide +kernel) (by decide +kernel)
    (by first | exact .inl (by decide +kernel) | exact .inr (by decide +kernel)) (by rw [isSubtype_type]; kernel_rfl)
theorem li_getattr_none : typeLookup (.type "list_iterator") "__getattr__" = pure none := by rw [typeLookup_type, builtinLookup_eq_fast]; kernel_rfl
theorem run_wdget {M : Model} {A : Around} {E : Value → Shared → Prop} {s : Shared} {a : Addr} {P : PySem.Fin → Shared → Prop} (hT : s.TypeIs (.ref a) "list_iterator") (h : P (.done (.ret (.ref s.heap.objs.size))) { s with heap := s.heap.push (mwO a) }) :
    wpAny M A (Builtin.«wrapper_descriptor.__get__» ⟨[.builtin "list_iterator.__next__", .ref a, .type "list_iterator"], []⟩) P E s := by
  unfold Builtin.«wrapper_descriptor.__get__»
  refine wpAny_bind (wpAny_of_eq (a := (.builtin "list_iterator.__next__", some (.ref a), some (.type "list_iterator"))) (by first | rfl | kernel_rfl) ?_)
  refine wpAny_bind ?_
  refine wpAny_bind (wpAny_of_eq (a := (Str.ofString "__next__", .type "list_iterator")) (by first | rfl | kernel_rfl) ?_)
  refine wpAny_bind (wpAny_isInstance hT sub_li_li ?_)
  refine wpAny_pure ?_
  exact wpAny_bind (wpAny_newObj_type (wpAny_pure h))
theorem meets_ga_next {prog : Program} {w : World} {A : Around} {E : Value → Shared → Prop} {hp : Heap} {g d tk os} {a l : Addr} {i : Nat} {u : Tok} {Q : PySem.Fin → Shared → Prop} (hx : hp.get? a = some (liO l i))
  (h : Q (.done (.ret (.ref hp.objs.size))) ⟨hp.push (mwO a), g, d, tk, os⟩) :
  wpAny (model prog w) A (Builtin.«object.__getattribute__» ⟨[.ref a, .str "__next__" u], []⟩) Q E ⟨hp, g, d, tk, os⟩ := by
  have hT : (⟨hp, g, d, tk, os⟩ : Shared).TypeIs (.ref a) "list_iterator" := ⟨_, hx, rfl⟩
  have hx : hp.get? a = some { cls := .type "list_iterator", dict := none, data := .fields #[.ref l, .int i 0], slots := #[] } := hx
  have hname : (["__module__", "__name__", "__qualname__", "__doc__", "__annotations__"] : List Str).contains "__next__" = false := by decide +kernel
  have f1 := slot_listiter_next.lookup
  have f2 := type_li_next
  have f3 := look_wd_get
  have f4 := look_wd_set
  have f5 := look_wd_del
  unfold Builtin.«object.__getattribute__»
  repeat (any_goals (first | assumption | wp_step))
  refine codeAny_call_builtin slot_wd_get.plain entry_wd_get (slot_wd_get.check _ _ _ _ _ _ _ _ f2 (args_wd_get _ _ _) (run_wdget hT ?_))
  exact wpAny_pure h
theorem getAttr_next {A : Around} {E : Value → Shared → Prop} {s : Shared} {a l : Addr} {i : Nat} {Q : Value → Shared → Prop} (hx : s.heap.get? a = some (liO l i))
  (h : ∀ tk, Q (.ref s.heap.objs.size) { s with heap := s.heap.push (mwO a), toks := tk }) : wpAny (MM w) A (getAttr (.ref a) "__next__" true) Q E s := by
  obtain ⟨hp, g, d, tk, os⟩ := s
  have hT : ∀ tk', (⟨hp, g, d, tk', os⟩ : Shared).TypeIs (.ref a) "list_iterator" := fun _ => ⟨_, hx, rfl⟩
  have hx0 := hx
  have hx : hp.get? a = some { cls := .type "list_iterator", dict := none, data := .fields #[.ref l, .int i 0], slots := #[] } := hx0
  have f3 := slot_li_getattribute.lookup
  have f4 := slot_li_getattribute.bind (.ref a)
  have f5 := li_getattr_none
  have f6 : ∀ tk', (⟨hp.push (mwO a), g, d, tk', os⟩ : Shared).TypeIs (.ref hp.objs.size) "method-wrapper" := fun _ => ⟨_, Heap.get?_push_size _ rfl, rfl⟩
  unfold getAttr getAttrBy
  repeat (any_goals (first | assumption | exact hT _ | exact f6 _ | ((with_reducible show wpAny _ _ (call (Value.builtin "object.__getattribute__") _ ) _ _ _); refine wpAny_call_entry slot_li_getattribute (hT _) PySem.F.entry_object_getattribute (meets_ga_next hx0 ⟨_, rfl, ?_⟩) (PySem.F.args_object_getattribute_2 _ _)) | wp_step))
  exact h _
end
end Mine
namespace Mine
section
variable {w : World} {A : Around} {s : Shared} {E : Value → Shared → Prop}
theorem check_next (it : Addr) : checkBoundCall "list_iterator.__next__" ⟨[.ref it], []⟩ = pure () := by kernel_rfl
theorem quiet_next {as : Args} : (Code.builtin "list_iterator.__next__" as).quiet = true := Code.quiet_builtin _ (by decide +kernel)
structure StopAt (h h' : Heap) (it e : Addr) : Prop where
  keep : ∀ b o, b ≠ it → h.get? b = some o → h'.get? b = some o
  new : h.get? e = none
  ne : e ≠ it
  li : ∃ i, h'.get? it = some { cls := .type "list_iterator", data := .fields #[.none, .int i 0] }
  there : ∃ ob t, h'.get? e = some ob ∧ ob.cls = .type "StopIteration" ∧ ∃ vs, ob.data = .fields vs ∧ vs[0]? = some (.ref t) ∧ vs[1]? = some .none
theorem call_next {it l u : Addr} {i : Nat} {its : Array Value} {Q : Value → Shared → Prop} (hh : A.handled = none) (hu : s.heap.get? u = some (mwO it)) (hit : s.heap.get? it = some (liO l i)) (hl : s.heap.IsList l its)
    (h1 : ∀ x h', its[i]? = some x → h'.get? it = some (liO l (i + 1)) → Heap.SameBut it s.heap h' → Q x { s with heap := h' })
    (h2 : its[i]? = none → ∀ h' e, StopAt s.heap h' it e → E (.ref e) { s with heap := h' }) : wpAny (MM w) A (call (.ref u) []) Q E s := by
  refine wpAny_call (codeAny_of_tree ?_)
  show wpAny _ A.in1 (callAny (.ref u) ⟨[], []⟩) _ _ s
  simp only [callAny]
  refine wpAny_bind (wpAny_load hu ?_)
  simp only [mwO, show (Value.type "method-wrapper" == Value.type "method" || Value.type "method-wrapper" == Value.type "builtin_function_or_method" || Value.type "method-wrapper" == Value.type "method-wrapper") = true by decide, if_true]
  refine KFB.if_so (by decide) ?_
  refine wpAny_bind (wpAny_of_eq (check_next it) ?_)
  refine wpAny_bind (wpAny_pure (wpAny_pure ?_))
  refine ⟨quiet_next, codeAny_builtin entry_listiter_next ?_⟩
  obtain ⟨ol, hol, _, nl, hdl⟩ := hl
  have hd : (liO l i).data = .fields #[.ref l, .int i 0] := rfl
  show wpAny _ _ (field (.ref it) 0 >>= _) _ _ s
  refine wpAny_bind (wpAny_field hit hd (x := .ref l) rfl ?_)
  show wpAny _ _ (if (Value.ref l == Value.none) = true then _ else _) _ _ s
  rw [if_neg (show ¬ ((Value.ref l == Value.none) = true) from Bool.false_ne_true)]
  show wpAny _ _ (field (.ref it) 1 >>= _) _ _ s
  refine wpAny_bind (wpAny_field hit hd (x := .int i 0) rfl ?_)
  show wpAny _ _ (seqItems? (.ref l) >>= _) _ _ s
  refine wpAny_bind (wpAny_seqItems hol hdl ?_)
  cases hx : its[i]? with
  | some x =>
    simp only [Int.toNat_natCast, hx]
    refine wpAny_bind (wpAny_setField hit hd (by simp) (wpAny_pure (h1 x _ hx ?_ (Heap.SameBut.update ..))))
    rw [Heap.get?_update_self _ hit (Obj.isFreed_of_fields (Obj.data_mapFields hd _))]
    rfl
  | none =>
    simp only [Int.toNat_natCast, hx]
    refine wpAny_bind (wpAny_rule (wpAny_bind (wpAny_setField hit hd (by simp) ?_)))
    have q := Heap.get?_update_self (h := s.heap) (Obj.mapFields (·.setIfInBounds 0 Value.none)) hit (Obj.isFreed_of_fields (Obj.data_mapFields hd _))
    generalize hh1 : s.heap.update it (Obj.mapFields (·.setIfInBounds 0 Value.none)) = h₁ at q ⊢
    have hs : Heap.SameBut it s.heap h₁ := by rw [← hh1]; exact Heap.SameBut.update ..
    show wpAny _ _ (newExc (.type "StopIteration") [] >>= _) _ _ _
    refine wpAny_bind ?_
    simp only [newExc, newTuple]
    refine wpAny_bind (wpAny_newObj_type ?_ (by size_fits))
    refine wpAny_bind (m := firstArgMember _ _) (wpAny_of_eq (a := Value.none) (by first | rfl | (simp only [firstArgMember]; rfl)) ?_)
    refine wpAny_newObj_type ?_ (by size_fits)
    simp only [raiseNew]
    refine wpAny_bind (wpAny_handled ?_)
    have hun : ∀ c, (A.under c).handled = none := fun _ => hh
    rw [hun]
    refine wpAny_bind (wpAny_pure (wpAny_throw ?_))
    refine h2 hx _ _ ⟨fun b o hb e => ?_, ?_, ?_, ⟨i, ?_⟩, ⟨_, _, Heap.get?_push_size _ rfl, rfl, _, rfl, rfl, rfl⟩⟩
    · exact Heap.get?_push_of_some _ (Heap.get?_push_of_some _ (hs.extBut b o hb e))
    · have hE := Heap.size_push h₁ { cls := Value.type "tuple", data := Data.seq [].toArray }
      have hq : it < h₁.objs.size := Heap.lt_size q
      show s.heap.get? (h₁.push { cls := Value.type "tuple", data := Data.seq [].toArray }).objs.size = none
      rw [hE]
      cases e : s.heap.get? (h₁.objs.size + 1) with
      | none => rfl
      | some o =>
        by_cases hb : h₁.objs.size + 1 = it
        · rw [← hb] at hq
          exact absurd (Nat.lt_trans (Nat.lt_succ_self _) hq) (Nat.lt_irrefl _)
        · have h9 : h₁.objs.size + 1 < h₁.objs.size := Heap.lt_size (hs.extBut _ o hb e)
          exact absurd (Nat.lt_trans (Nat.lt_succ_self _) h9) (Nat.lt_irrefl _)
    · have hE := Heap.size_push h₁ { cls := Value.type "tuple", data := Data.seq [].toArray }
      have hq : it < h₁.objs.size := Heap.lt_size q
      show (h₁.push { cls := Value.type "tuple", data := Data.seq [].toArray }).objs.size ≠ it
      rw [hE]
      intro hb
      rw [← hb] at hq
      exact absurd (Nat.lt_trans (Nat.lt_succ_self _) hq) (Nat.lt_irrefl _)
    · refine Heap.get?_push_of_some _ (Heap.get?_push_of_some _ (q.trans ?_))
      rfl
end
end Mine
end -- M1
section -- M2
set_option maxRecDepth 100000
set_option maxHeartbeats 1000000
namespace Mine
inductive FrsOk : List Env → List (Addr × Obj) → Prop
  | nil : FrsOk [] []
  | cons {env : Env} {r : List Env} {a : Addr} {o : Obj} {q : List (Addr × Obj)} (h1 : env.scope.kind ≠ .module) (h2 : env.frame = some a) (h3 : ∀ vs, o.data ≠ .fields vs) (h4 : FrsOk r q) : FrsOk (env :: r) ((a, o) :: q)
inductive SameUp : List (Addr × Obj) → List (Addr × Obj) → Prop
  | nil : SameUp [] []
  | cons {a : Addr} {o : Obj} {r r' : List (Addr × Obj)} (sl : Array (Option Value)) (h : SameUp r r') : SameUp ((a, o) :: r) ((a, { o with slots := sl }) :: r')
theorem SameUp.refl : ∀ l : List (Addr × Obj), SameUp l l
  | [] => .nil
  | (_, o) :: r => .cons o.slots (SameUp.refl r)
theorem SameUp.trans {a b c : List (Addr × Obj)} (x : SameUp a b) (y : SameUp b c) : SameUp a c := by
  induction x generalizing c with
  | nil => exact y
  | cons sl h ih => cases y with
    | cons sl' h' => exact .cons sl' (ih h')
theorem SameUp.addrs {a b : List (Addr × Obj)} (x : SameUp a b) : b.map (·.1) = a.map (·.1) := by
  induction x with
  | nil => rfl
  | cons sl h ih => rw [List.map_cons, List.map_cons, ih]
theorem FrsOk.up {l : List Env} {a b : List (Addr × Obj)} (x : FrsOk l a) (y : SameUp a b) : FrsOk l b := by
  induction x generalizing b with
  | nil => cases y; exact .nil
  | cons h1 h2 h3 h4 ih => cases y with
    | cons sl h => exact .cons h1 h2 h3 (ih h)
theorem FrsOk.mem {l : List Env} {a : List (Addr × Obj)} (x : FrsOk l a) : ∀ p ∈ a, ∀ vs, p.2.data ≠ .fields vs := by
  induction x with
  | nil => exact fun _ h => nomatch h
  | cons h1 h2 h3 h4 ih =>
    intro p hp
    rcases List.mem_cons.mp hp with rfl | hp
    · exact h3
    · exact ih p hp
theorem frs_fun {h base : Heap} {l : List Env} {a : List (Addr × Obj)} (x : FrsOk l a) : (∀ p ∈ a, h.get? p.1 = some p.2 ∧ base.get? p.1 = none) → h.FunFrames base l := by
  induction x with
  | nil => exact fun _ => trivial
  | cons h1 h2 h3 h4 ih => exact fun k => ⟨h1, ⟨_, _, h2, (k _ (.head _)).2, (k _ (.head _)).1, h3⟩, ih fun t ht => k t (.tail _ ht)⟩
theorem frs_up {h' : Heap} : ∀ {a : List (Addr × Obj)}, (∀ p ∈ a, ∃ sl, h'.get? p.1 = some { p.2 with slots := sl }) → ∃ b, SameUp a b ∧ ∀ q ∈ b, h'.get? q.1 = some q.2
  | [], _ => ⟨[], .nil, fun _ h => nomatch h⟩
  | (a, o) :: r, k => by
    obtain ⟨sl, e⟩ := k (a, o) (.head _)
    obtain ⟨b, x, y⟩ := frs_up (a := r) fun q hq => k q (.tail _ hq)
    refine ⟨(a, { o with slots := sl }) :: b, .cons sl x, fun q hq => ?_⟩
    rcases List.mem_cons.mp hq with rfl | hq
    · exact e
    · exact y q hq
section
variable {w : World} {A : Around} {s s₀ : Shared} {E : Value → Shared → Prop} {L : Addr} {m : Loc} {own frs rest : List (Addr × Obj)} {env : Env} {outer : List Env} {e : Addr} {ob : Obj} {vs : Array Value} {a0 : Value}
theorem noteFm {Q : Unit → Shared → Prop} (hfr : A.frames = some (env :: outer)) (hf : env.frame = some env.locals) (hk : env.scope.kind = .function) (y : Fm s₀ env.locals m ((e, ob) :: (own ++ frs)) s) (Fk : FrsOk outer frs) (hd : ob.data = .fields vs) (h0 : vs[0]? = some a0) (h1 : vs[1]? = some .none)
    (h : ∀ s' ob' vs' T oT ts frs', SameUp frs frs' → ob'.cls = ob.cls → ob'.data = .fields vs' → vs'[1]? = some (.ref T) → oT.data = .fields ts → 3 < ts.size → Fm s₀ env.locals m ((T, oT) :: (e, ob') :: (own ++ frs')) s' → Q () s') :
    wpAny (MM w) A (noteFrame (.ref e) env) Q E s := by
  obtain ⟨mm, F, hm⟩ := y.loc
  have he := y.N (e, ob) (.head _)
  have nd := y.nd
  rw [List.map_cons, List.nodup_cons, List.map_append, List.nodup_append] at nd
  obtain ⟨nd1, nd2, nd3, nd4⟩ := nd
  let H := env.locals :: e :: frs.map (·.1)
  have hbase : ∀ b o, b ∉ H → s.heap.get? b = some o → (hide s.heap H).get? b = some o := fun b o hb eq => by rw [hide_out hb]; exact eq
  have hone : ∀ p ∈ own, p.1 ∉ H := fun p hp hm => by
    rcases List.mem_cons.mp hm with q | hm
    · exact (y.N p (.tail _ (List.mem_append_left _ hp))).2.1 q
    · rcases List.mem_cons.mp hm with q | hm
      · exact nd1 (List.mem_append_left _ (List.mem_map.mpr ⟨p, hp, q⟩))
      · exact nd4 p.1 (List.mem_map_of_mem hp) p.1 hm rfl
  have hkeep : ∀ b o, s₀.heap.get? b = some o → b ∉ H := fun b o eq hm => by
    rcases List.mem_cons.mp hm with rfl | hm
    · exact absurd (Heap.lt_size eq) (Nat.not_lt.mpr F.above)
    · rcases List.mem_cons.mp hm with rfl | hm
      · rw [he.2.2] at eq; cases eq
      · obtain ⟨p, hp, q⟩ := List.mem_map.mp hm
        have := (y.N p (.tail _ (List.mem_append_right _ hp))).2.2
        rw [q, eq] at this; cases this
  obtain ⟨oL, es, ep, hL, hLd, hLr⟩ := F.ns
  have hLnf : ∀ vs, oL.data ≠ .fields vs := fun vs q => by rw [hLd] at q; cases q
  unfold noteFrame
  simp only [hf]
  refine wpAny_bind (wpAny_field he.1 hd h1 ?_)
  rw [if_neg (by decide)]
  refine wpAny_entryW (base := hide s.heap H) (a0 := a0) hfr ⟨by rw [hk]; decide, ⟨env.locals, oL, hf, hide_in (.head _), hL, hLnf⟩, frs_fun Fk fun p hp => ⟨(y.N p (.tail _ (List.mem_append_right _ hp))).1, hide_in (.tail _ (.tail _ (List.mem_map_of_mem hp)))⟩⟩ hf he.1 (hide_sub _ _) (hide_in (.tail _ (.head _))) hd (Array.getElem?_eq_some_iff.mp h1).1 h0 fun h' hN => ?_
  obtain ⟨k1, _, k3, k4⟩ := hN
  obtain ⟨frs', SU, ht⟩ := frs_up (h' := h') fun p hp => k4 p.1 p.2 (y.N p (.tail _ (List.mem_append_right _ hp))).1 (Fk.mem p hp)
  obtain ⟨oe, vs', T, oT, ts, he', ⟨hcl, _⟩, hd', h1', hnT, hTe, hT, hdT, h3⟩ := k3
  have hL' : ∃ sl, h'.get? env.locals = some { oL with slots := sl } := k4 _ _ hL hLnf
  have hTL : T ≠ env.locals := fun q => by
    obtain ⟨sl, q2⟩ := hL'
    rw [q, q2] at hT
    cases hT
    exact hLnf _ hdT
  have hTf : T ∉ H := fun hm => by
    rcases List.mem_cons.mp hm with q | hm
    · exact hTL q
    · rcases List.mem_cons.mp hm with q | hm
      · exact hTe q
      · obtain ⟨p, hp, q⟩ := List.mem_map.mp hm
        obtain ⟨sl, q2⟩ := k4 p.1 p.2 (y.N p (.tail _ (List.mem_append_right _ hp))).1 (Fk.mem p hp)
        have q' : p.1 = T := q
        rw [q', hT] at q2
        cases q2
        exact Fk.mem p hp _ hdT
  have hTs : s.heap.get? T = none := by
    cases hq : s.heap.get? T with
    | none => rfl
    | some o => rw [hbase T o hTf hq] at hnT; cases hnT
  refine h { s with heap := h' } oe vs' T oT ts frs' SU hcl hd' h1' hdT (Array.getElem?_eq_some_iff.mp h3).1 ⟨?_, ⟨mm, ⟨Heap.UpToSlots.ns k4 F.ns, fun b o eq => k1 b o (hbase b o (hkeep b o eq) (F.keep b o eq)), F.above⟩, hm⟩, fun p hp => ?_, ?_⟩
  · obtain ⟨hh, tk, eq⟩ := y.same
    exact ⟨h', tk, by rw [eq]⟩
  · rcases List.mem_cons.mp hp with rfl | hp
    · refine ⟨hT, hTL, ?_⟩
      cases hq : s₀.heap.get? T with
      | none => rfl
      | some o => have := F.keep _ _ hq; rw [hTs] at this; cases this
    · rcases List.mem_cons.mp hp with rfl | hp
      · exact ⟨he', he.2⟩
      · rcases List.mem_append.mp hp with hp | hp
        · have z := y.N p (.tail _ (List.mem_append_left _ hp))
          exact ⟨k1 _ _ (hbase _ _ (hone p hp) z.1), z.2⟩
        · refine ⟨ht p hp, ?_⟩
          have hm : p.1 ∈ frs.map (·.1) := by rw [← SU.addrs]; exact List.mem_map_of_mem hp
          obtain ⟨q, hq, eq⟩ := List.mem_map.mp hm
          have z := (y.N q (.tail _ (List.mem_append_right _ hq))).2
          have eq' : q.1 = p.1 := eq
          rw [← eq']
          exact z
  · rw [List.map_cons, List.map_cons, List.map_append, SU.addrs, List.nodup_cons]
    refine ⟨fun hm => ?_, by rw [← List.map_append]; exact y.nd⟩
    rcases List.mem_cons.mp hm with q | hm
    · exact hTe q
    · rcases List.mem_append.mp hm with hm | hm
      · obtain ⟨p, hp, q⟩ := List.mem_map.mp hm
        have z := (y.N p (.tail _ (List.mem_append_left _ hp))).1
        have q' : p.1 = T := q
        rw [q', hTs] at z; cases z
      · exact hTf (.tail _ (.tail _ hm))
theorem flyFm {Q : Unit → Shared → Prop} {T : Addr} {oT : Obj} {ts : Array Value} (y : Fm s₀ L m ((T, oT) :: (e, ob) :: rest) s) (hd : ob.data = .fields vs) (h1 : vs[1]? = some (.ref T)) (hdt : oT.data = .fields ts) (hsz : 3 < ts.size)
    (h : ∀ s' oT' ts', oT'.data = .fields ts' → 3 < ts'.size → Fm s₀ L m ((T, oT') :: (e, ob) :: rest) s' → Q () s') : wpAny (MM w) A (setFlight (.ref e) none) Q E s := by
  have hT := (y.N (T, oT) (.head _)).1
  refine wpAny_setFlight_none (y.N (e, ob) (.tail _ (.head _))).1 hd h1 hT hdt hsz ?_
  have hd' := Obj.data_mapFields hdt (·.setIfInBounds 3 Value.none)
  refine h _ (oT.mapFields (·.setIfInBounds 3 Value.none)) _ hd' (by simpa using hsz) ?_
  exact Fm.upd (pre := []) (tk := s.toks) y (Heap.SameBut.extBut (Heap.SameBut.update ..)) (Heap.get?_update_self _ hT (Obj.isFreed_of_fields hd'))
theorem Fm.frm {own : List (Addr × Obj)} (y : Fm s₀ L m (own ++ rest) s) : ∃ oL, (∀ vs, oL.data ≠ .fields vs) ∧ Owns s.heap (own ++ [(L, oL)]) ∧ (Cx w s₀.heap → Cx w (hid s (own ++ [(L, oL)])).heap) ∧
    ∀ s' own' oL', AfterO s (own ++ [(L, oL)]) s' (own' ++ [(L, oL')]) → (∃ sl, oL' = { oL with slots := sl }) → Fm s₀ L m (own' ++ rest) s' := by
  obtain ⟨mm, F, hm⟩ := y.loc
  obtain ⟨oL, es, ep, hL, hLd, hLr⟩ := F.ns
  have hLo : L ∉ (own ++ rest).map (·.1) := fun h => by
    obtain ⟨p, hp, q⟩ := List.mem_map.mp h
    exact (y.N p hp).2.1 q
  have nd := y.nd
  rw [List.map_append, List.nodup_append] at nd
  have hLo1 : L ∉ own.map (·.1) := fun h => hLo (by rw [List.map_append]; exact List.mem_append_left _ h)
  have hkeep : ∀ b o, s₀.heap.get? b = some o → b ∉ (own ++ [(L, oL)]).map (·.1) := fun b o eq hm => by
    rw [List.map_append] at hm
    rcases List.mem_append.mp hm with hm | hm
    · obtain ⟨p, hp, q⟩ := List.mem_map.mp hm
      have := (y.N p (List.mem_append_left _ hp)).2.2
      rw [q, eq] at this; cases this
    · have : b = L := by simpa using hm
      subst this
      exact absurd (Heap.lt_size eq) (Nat.not_lt.mpr F.above)
  refine ⟨oL, (fun vs q => by rw [hLd] at q; cases q), ⟨fun p hp => ?_, ?_⟩, fun C => C.up fun b o eq => ?_, fun s' own' oL' af ⟨sl, hsl⟩ => ?_⟩
  · rcases List.mem_append.mp hp with hp | hp
    · exact (y.N p (List.mem_append_left _ hp)).1
    · rw [List.mem_singleton.mp hp]; exact hL
  · rw [List.map_append, List.nodup_append]
    refine ⟨nd.1, by simp, fun a ha b hb q => ?_⟩
    have : b = L := by simpa using hb
    subst this
    exact hLo1 (q ▸ ha)
  · show (hide s.heap _).get? b = some o
    rw [hide_out (hkeep b o eq)]
    exact F.keep b o eq
  · subst hsl
    have nd' := af.nd
    rw [List.map_append, List.nodup_append] at nd'
    have hL' := (af.new (L, { oL with slots := sl }) (by simp)).1
    have k0 : Sub s₀.heap s'.heap := fun b o q => af.keep b o (by
      show (hide s.heap _).get? b = some o
      rw [hide_out (hkeep b o q)]; exact F.keep b o q)
    have hrest : ∀ p ∈ rest, p.1 ∉ (own ++ [(L, oL)]).map (·.1) := fun p hp h => by
      rw [List.map_append] at h
      rcases List.mem_append.mp h with h | h
      · exact nd.2.2 p.1 h p.1 (List.mem_map_of_mem hp) rfl
      · have : p.1 = L := by simpa using h
        exact (y.N p (List.mem_append_right _ hp)).2.1 this
    refine ⟨?_, ⟨mm, ⟨⟨_, es, ep, hL', hLd, hLr⟩, k0, F.above⟩, hm⟩, fun p hp => ?_, ?_⟩
    · obtain ⟨h1, t1, e1⟩ := y.same
      obtain ⟨h2, t2, e2⟩ := af.same
      exact ⟨h2, t2, by rw [e2, e1]⟩
    · rcases List.mem_append.mp hp with hp | hp
      · obtain ⟨a1, a2⟩ := af.new p (List.mem_append_left _ hp)
        refine ⟨a1, fun q => ?_, ?_⟩
        · exact nd'.2.2 p.1 (List.mem_map_of_mem hp) L (by simp) q
        · cases hq : s₀.heap.get? p.1 with
          | none => rfl
          | some o =>
            have : (hide s.heap ((own ++ [(L, oL)]).map (·.1))).get? p.1 = some o := by rw [hide_out (hkeep _ o hq)]; exact F.keep _ _ hq
            rw [a2] at this
            cases this
      · have z := y.N p (List.mem_append_right _ hp)
        refine ⟨af.keep _ _ ?_, z.2⟩
        show (hide s.heap _).get? p.1 = some p.2
        rw [hide_out (hrest p hp)]; exact z.1
    · rw [List.map_append, List.nodup_append]
      refine ⟨nd'.1, nd.2.1, fun a ha b hb q => ?_⟩
      obtain ⟨p, hp, e1⟩ := List.mem_map.mp ha
      obtain ⟨r, hr, e2⟩ := List.mem_map.mp hb
      have z := y.N r (List.mem_append_right _ hr)
      have h1 := (af.new p (List.mem_append_left _ hp)).2
      have e3 : p.1 = r.1 := by rw [show p.1 = a from e1, q]; exact e2.symm
      have h2 : (hide s.heap ((own ++ [(L, oL)]).map (·.1))).get? r.1 = some r.2 := by rw [hide_out (hrest r hr)]; exact z.1
      rw [e3] at h1
      rw [show (hid s (own ++ [(L, oL)])).heap.get? r.1 = (hide s.heap ((own ++ [(L, oL)]).map (·.1))).get? r.1 from rfl, h2] at h1
      cases h1
end
end Mine
end -- M2
section -- P1
set_option maxRecDepth 100000
set_option maxHeartbeats 1000000
namespace Mine
structure Nd where
  nm : Str
  t : Tok
  x : Addr
  dx : Addr
  ls : Addr
  np : Int
  tp : Tok
  sc : Array Value
  cnt : Nat
abbrev Nd.obj (n : Nd) : Obj := niO n.dx (.str n.nm n.t) (.int n.np n.tp) (.ref n.ls)
def Nd.own (n : Nd) : List (Addr × Obj) := [(n.ls, listOf n.sc n.cnt), (n.x, n.obj), (n.dx, eD)]
abbrev nOwn (l : List Nd) : List (Addr × Obj) := l.flatMap Nd.own
structure So where
  X : Addr
  DX : Addr
  D : Addr
  od : Obj
  tk : Tok × Tok × Tok × Tok
  rd : Value
  po : Int
  tpo : Tok
  nf : Int
  tnf : Tok
abbrev So.dob (σ : So) (p : Params) : Obj := dictOf (sD p σ.tk (.ref σ.D) σ.rd (.int σ.po σ.tpo) (.int σ.nf σ.tnf)) 4
def So.own (σ : So) (p : Params) (l : List Nd) : List (Addr × Obj) := (σ.D, σ.od) :: (σ.X, instObj 199 σ.DX) :: (σ.DX, σ.dob p) :: nOwn l
def kv (l : List Nd) : List (Str × Value) := l.map fun n => (n.nm, .ref n.x)
structure So.Ok (w : World) (σ : So) (l : List Nd) : Prop where
  lo : (σ.D == sysModules) = false
  hd : σ.od.IsDictOf (strKind pw w) (kv l)
def insE (ns : List Str) (x : Str) : List Str := if x ∈ ns then ns else ns ++ [x]
structure Rep (l : List Nd) (ns : List Str) (np : Str → Int) (sc : Str → List Str) : Prop where
  nms : l.map (·.nm) = ns
  at_ : ∀ n ∈ l, n.np = np n.nm ∧ StrsAre n.sc.toList (sc n.nm)
  out : ∀ x, x ∉ ns → np x = 0 ∧ sc x = []
theorem valueAt_kv {n : Nd} {post : List Nd} : ∀ {pre : List Nd}, ((pre ++ n :: post).map (·.nm)).Nodup → valueAt (kv (pre ++ n :: post)) n.nm = some (.ref n.x)
  | [], _ => by simp [valueAt, kv]
  | q :: pre, h => by
    rw [List.cons_append, List.map_cons, List.nodup_cons] at h
    have hne : q.nm ≠ n.nm := fun e => h.1 (by rw [e]; simp)
    have ih := valueAt_kv h.2
    unfold valueAt kv at ih ⊢
    rw [List.cons_append, List.map_cons, List.find?_cons_of_neg (by simpa using hne)]
    exact ih
theorem valueAt_kv_none {k : Str} : ∀ {l : List Nd}, k ∉ l.map (·.nm) → valueAt (kv l) k = none
  | [], _ => rfl
  | q :: l, h => by
    rw [List.map_cons, List.mem_cons, not_or] at h
    have ih := valueAt_kv_none h.2
    unfold valueAt kv at ih ⊢
    rw [List.map_cons, List.find?_cons_of_neg (by simpa using fun e => h.1 e.symm)]
    exact ih
theorem stored_kv {n : Nd} {l : List Nd} (h : n.nm ∉ l.map (·.nm)) : stored (kv l) n.nm (.ref n.x) = kv (l ++ [n]) := by
  unfold stored
  rw [if_neg]
  · simp [kv]
  · simp only [List.any_eq_true, not_exists, decide_eq_true_eq]
    rintro p ⟨hp, e⟩
    obtain ⟨q, hq, rfl⟩ := List.mem_map.mp hp
    exact h (List.mem_map.mpr ⟨q, hq, e⟩)
theorem nm_split {k : Str} {l : List Nd} (h : k ∈ l.map (·.nm)) : ∃ pre n post, l = pre ++ n :: post ∧ n.nm = k := by
  obtain ⟨n, hn, e⟩ := List.mem_map.mp h
  obtain ⟨pre, post, rfl⟩ := List.append_of_mem hn
  exact ⟨pre, n, post, rfl, e⟩
section
variable {w : World} {A : Around} {s s₀ : Shared} {E : Value → Shared → Prop} {L : Addr} {m : Loc} {rest : List (Addr × Obj)} {σ : So} {l : List Nd} {ns : List Str} {np : Str → Int} {sc : Str → List Str}
theorem So.Ok.nodup (O : σ.Ok w l) : (l.map (·.nm)).Nodup := by
  have := keysNodup_of_isDictOf O.hd
  simpa [kv, Function.comp_def] using this
theorem Rep.new {n : Nd} (R : Rep l ns np sc) (h1 : n.nm ∉ ns) (h2 : n.np = 0) (h3 : n.sc = #[]) : Rep (l ++ [n]) (insE ns n.nm) np sc where
  nms := by rw [List.map_append, R.nms, insE, if_neg h1]; rfl
  at_ := fun q hq => by
    rcases List.mem_append.mp hq with hq | hq
    · exact R.at_ q hq
    · rw [List.mem_singleton.mp hq]
      obtain ⟨a, b⟩ := R.out _ h1
      rw [a, b, h2, h3]
      exact ⟨rfl, .nil⟩
  out := fun x hx => R.out x fun h => hx (by rw [insE, if_neg h1]; simp [h])
theorem So.inst {own : List (Addr × Obj)} (y : Fm s₀ L m own s) (h : ∀ p ∈ σ.own w.params l, p ∈ own) : InstAt s.heap σ.X (instObj 199 σ.DX) 199 (some (σ.dob w.params)) :=
  ⟨(y.N _ (h _ (.tail _ (.head _)))).1, rfl, rfl, (y.N _ (h _ (.tail _ (.tail _ (.head _))))).1⟩
theorem so_mem {p : Params} (rest : List (Addr × Obj)) : ∀ q ∈ σ.own p l, q ∈ σ.own p l ++ rest := fun q hq => List.mem_append.mpr (.inl hq)
theorem gn_call {Q : Value → Shared → Prop} {nm : Str} {t : Tok} (y : Fm s₀ L m (σ.own w.params l ++ rest) s) (C₀ : Cx w s₀.heap) (hd : Rm A 6) (O : σ.Ok w l) (R : Rep l ns np sc) (hsz : l.length ≤ 1000)
    (h : ∀ s' od' pre n post, n.nm = nm → Rep (pre ++ n :: post) (insE ns nm) np sc → ({ σ with od := od' } : So).Ok w (pre ++ n :: post) → Fm s₀ L m (({ σ with od := od' } : So).own w.params (pre ++ n :: post) ++ rest) s' → Q (.ref n.x) s') :
    wpAny (MM w) A (call (.ref 142) [.ref σ.X, .str nm t]) Q E s := by
  refine wpAny_call (codeFO (fd := fdGet) [("self", .ref σ.X), ("node", .str nm t)] 7 (y.hidC C₀) y.owns (hd.le (by omega)) rfl rfl rfl rfl rfl rfl fun s₁ x₁ => ?_)
  have hD : Rm (A.deeper (callEnv fdGet s.heap.objs.size 142)) 5 := hd.deep
  have C₁ := y.hidC C₀
  generalize hA : A.deeper (callEnv fdGet s.heap.objs.size 142) = A' at hD ⊢
  show wpAny _ _ (execs [_, _] _) _ _ _
  have I₁ := So.inst x₁ fun p hp => hp
  have hm₁ : (σ.D, σ.od) ∈ σ.own w.params l := .head _
  refine wpAny_execs_cons (wpAny_If (wpAny_isTrue_Compare1 (wpAny_NamedExpr (eM (Attribute_Name_ (eL x₁ rfl rfl rfl (fGetAttr x₁ C₁ I₁ rfl rfl rfl rfl rfl rfl ?_)))))))
  have x₂ := x₁.tok (s₁.toks + 1)
  refine mGet x₂ hm₁ O.hd (cB (aC (eL x₂ rfl rfl rfl (aN (dGet x₂ hm₁ O.hd O.lo ?_)))))
  have x₃ := x₂.tok (s₁.toks + 1 + 1)
  have nd := O.nodup
  by_cases hin : nm ∈ l.map (·.nm)
  · obtain ⟨pre, n, post, rfl, rfl⟩ := nm_split hin
    rw [valueAt_kv nd]
    refine wpAny_assign_Name (sL x₃ rfl rfl fun s₄ x₄ => wpAny_Constant_none (is_ref_none (wpAny_truthy_bool ?_)))
    rw [if_neg (by decide)]
    refine wpAny_execs_nil (wpAny_execs_cons (wpAny_Return_some (eL x₄ rfl rfl rfl ?_)))
    refine h _ σ.od pre n post rfl ?_ O (y.goO x₄.aftO)
    have : n.nm ∈ ns := by rw [← R.nms]; exact hin
    rw [insE, if_pos this]
    exact R
  · rw [valueAt_kv_none hin]
    refine wpAny_assign_Name (sL x₃ rfl rfl fun s₄ x₄ => wpAny_Constant_none (is_none_none (wpAny_truthy_bool ?_)))
    rw [if_pos rfl]
    refine wpAny_execs_cons (wpAny_Assign_two (eCall (eG (C₁.up x₄.keep) 8 rfl rfl rfl rfl (callWith_K C₁.F.K rfl (aC (eL x₄ rfl rfl rfl (aN ⟨(C₁.up x₄.keep).F.K, ni_call x₄ C₁ (hD.le (by omega)) fun s₅ x dx ls t5 x₅ => ?_⟩)))))))
    have hm₅ : ∀ p ∈ σ.own w.params l, p ∈ (ls, listOf #[] 0) :: (x, niO dx (.str nm t) (.int 0 t5) (.ref ls)) :: (dx, eD) :: σ.own w.params l := fun p hp => .tail _ (.tail _ (.tail _ hp))
    rw [assign_Subscript]
    refine wpAny_bind (wpAny_holding (Attribute_Name_ (eL x₅ rfl rfl rfl (fGetAttr x₅ C₁ (So.inst x₅ hm₅) rfl rfl rfl rfl rfl rfl ?_))))
    have x₆ := x₅.tok (s₅.toks + 1)
    refine wpAny_bind (wpAny_holding (eL x₆ rfl rfl rfl (wpAny_bind (wpAny_standAt (wpAny_bind (wpAny_holding (dSet (pre := [_, _, _]) x₆ O.hd (by simp [kv]; omega) fun s₇ od' x₇ hd' => wpAny_release ?_)))))))
    refine wpAny_assign_Name (sL x₇ rfl rfl fun s₈ x₈ => ?_)
    refine wpAny_execs_nil (wpAny_execs_cons (wpAny_Return_some (eL x₈ rfl rfl rfl ?_)))
    have hin' : nm ∉ ns := by rw [← R.nms]; exact hin
    have R' := R.new (n := ⟨nm, t, x, dx, ls, 0, t5, #[], 0⟩) hin' rfl rfl
    refine h _ od' l ⟨nm, t, x, dx, ls, 0, t5, #[], 0⟩ [] rfl R' ⟨O.lo, ?_⟩ ((y.goO x₈.aftO).perm ?_)
    · rw [← stored_kv (n := ⟨nm, t, x, dx, ls, 0, t5, #[], 0⟩) hin]
      exact hd'
    · refine List.Perm.append_right _ ?_
      show List.Perm ((ls, listOf #[] 0) :: (x, niO dx (.str nm t) (.int 0 t5) (.ref ls)) :: (dx, eD) :: (σ.D, od') :: (σ.X, instObj 199 σ.DX) :: (σ.DX, σ.dob w.params) :: nOwn l) ((σ.D, od') :: (σ.X, instObj 199 σ.DX) :: (σ.DX, σ.dob w.params) :: nOwn (l ++ [_]))
      have e : nOwn (l ++ [⟨nm, t, x, dx, ls, 0, t5, #[], 0⟩]) = nOwn l ++ [(ls, listOf #[] 0), (x, niO dx (.str nm t) (.int 0 t5) (.ref ls)), (dx, eD)] := by simp [nOwn, Nd.own, List.flatMap_append]
      rw [e]
      exact (List.perm_append_comm (l₁ := [(ls, listOf #[] 0), (x, niO dx (.str nm t) (.int 0 t5) (.ref ls)), (dx, eD)]) (l₂ := (σ.D, od') :: (σ.X, instObj 199 σ.DX) :: (σ.DX, σ.dob w.params) :: nOwn l))
end
end Mine
end -- P1
section -- P2
set_option maxRecDepth 100000
set_option maxHeartbeats 1000000
namespace Mine
def addNp (np : Str → Int) (a : Str) (k : Int) : Str → Int := fun x => if x = a then np x + k else np x
def addSc (sc : Str → List Str) (p a : Str) : Str → List Str := fun x => if x = p then sc x ++ [a] else sc x
theorem kv_upd {pre post : List Nd} {n n' : Nd} (h1 : n'.nm = n.nm) (h2 : n'.x = n.x) : kv (pre ++ n' :: post) = kv (pre ++ n :: post) := by simp [kv, h1, h2]
theorem Rep.upd {pre post : List Nd} {n n' : Nd} {ns : List Str} {np np' : Str → Int} {sc sc' : Str → List Str} (R : Rep (pre ++ n :: post) ns np sc) (nd : ((pre ++ n :: post).map (·.nm)).Nodup) (h1 : n'.nm = n.nm)
    (h2 : ∀ x, x ≠ n.nm → np' x = np x ∧ sc' x = sc x) (h3 : n'.np = np' n.nm ∧ StrsAre n'.sc.toList (sc' n.nm)) : Rep (pre ++ n' :: post) ns np' sc' where
  nms := by rw [← R.nms]; simp [h1]
  at_ := fun q hq => by
    rw [List.map_append, List.map_cons] at nd
    have nd' := List.nodup_append.mp nd
    have key : q ∈ pre ∨ q ∈ post → q.nm ≠ n.nm := fun h e => by
      rcases h with h | h
      · exact nd'.2.2 q.nm (List.mem_map_of_mem h) n.nm (.head _) e
      · exact (List.nodup_cons.mp nd'.2.1).1 (e ▸ List.mem_map_of_mem h)
    have old : q ∈ pre ∨ q ∈ post → q.np = np' q.nm ∧ StrsAre q.sc.toList (sc' q.nm) := fun h => by
      obtain ⟨a, b⟩ := h2 _ (key h)
      rw [a, b]
      exact R.at_ q (by rcases h with h | h <;> simp [h])
    rcases List.mem_append.mp hq with hq | hq
    · exact old (.inl hq)
    · rcases List.mem_cons.mp hq with rfl | hq
      · rw [h1]; exact h3
      · exact old (.inr hq)
  out := fun x hx => by
    have : x ≠ n.nm := fun e => hx (by rw [← R.nms, e]; simp)
    obtain ⟨a, b⟩ := h2 _ this
    rw [a, b]
    exact R.out x hx
section
variable {w : World} {A : Around} {s s₀ : Shared} {E : Value → Shared → Prop} {L : Addr} {m : Loc} {rest : List (Addr × Obj)} {σ : So} {l pre post : List Nd} {n : Nd} {ns : List Str} {np : Str → Int} {sc : Str → List Str}
theorem So.Ok.upd {n' : Nd} (O : σ.Ok w (pre ++ n :: post)) (h1 : n'.nm = n.nm) (h2 : n'.x = n.x) : σ.Ok w (pre ++ n' :: post) := ⟨O.lo, by rw [kv_upd h1 h2]; exact O.hd⟩
theorem own_x {p : Params} : σ.own p (pre ++ n :: post) ++ rest = ((σ.D, σ.od) :: (σ.X, instObj 199 σ.DX) :: (σ.DX, σ.dob p) :: nOwn pre ++ [(n.ls, listOf n.sc n.cnt)]) ++ (n.x, n.obj) :: ((n.dx, eD) :: nOwn post ++ rest) := by
  simp [So.own, nOwn, Nd.own, List.flatMap_append]
theorem own_l {p : Params} : σ.own p (pre ++ n :: post) ++ rest = ((σ.D, σ.od) :: (σ.X, instObj 199 σ.DX) :: (σ.DX, σ.dob p) :: nOwn pre) ++ (n.ls, listOf n.sc n.cnt) :: ((n.x, n.obj) :: (n.dx, eD) :: nOwn post ++ rest) := by
  simp [So.own, nOwn, Nd.own, List.flatMap_append]
theorem mem_x {p : Params} : (n.x, n.obj) ∈ σ.own p (pre ++ n :: post) ++ rest := by rw [own_x]; simp
theorem mem_dx {p : Params} : (n.dx, eD) ∈ σ.own p (pre ++ n :: post) ++ rest := by rw [own_x]; simp
theorem mem_ls {p : Params} : (n.ls, listOf n.sc n.cnt) ∈ σ.own p (pre ++ n :: post) ++ rest := by rw [own_x]; simp
theorem nInst (y : Fm s₀ L m (σ.own w.params (pre ++ n :: post) ++ rest) s) : InstAt s.heap n.x n.obj 102 (some eD) := ⟨(y.N _ mem_x).1, rfl, rfl, (y.N _ mem_dx).1⟩
theorem nSetNp {Q : Unit → Shared → Prop} {i : Int} {t : Tok} (y : Fm s₀ L m (σ.own w.params (pre ++ n :: post) ++ rest) s) (C₀ : Cx w s₀.heap)
    (h : ∀ s', Fm s₀ L m (σ.own w.params (pre ++ { n with np := i, tp := t } :: post) ++ rest) s' → Q () s') : wpAny (MM w) A (setAttr (.ref n.x) "npredecessors" (.int i t)) Q E s := by
  have I := nInst y
  rw [own_x] at y
  refine fSetSlot (niO n.dx (.str n.nm n.t) (.int i t) (.ref n.ls)) y C₀ I rfl rfl (p := 104) rfl rfl (i := 1) rfl (by decide) rfl rfl fun s' y' => h s' ?_
  rw [own_x]
  exact y'
theorem nGetNp {Q : Value → Shared → Prop} {expr : Bool} (y : Fm s₀ L m (σ.own w.params (pre ++ n :: post) ++ rest) s) (C₀ : Cx w s₀.heap) (h : Q (.int n.np n.tp) { s with toks := s.toks + 1 }) : wpAny (MM w) A (getAttr (.ref n.x) "npredecessors" expr) Q E s :=
  fGetSlot (p := 104) (i := 1) y C₀ (nInst y) rfl rfl rfl rfl rfl rfl rfl rfl h
theorem nGetSc {Q : Value → Shared → Prop} {expr : Bool} (y : Fm s₀ L m (σ.own w.params (pre ++ n :: post) ++ rest) s) (C₀ : Cx w s₀.heap) (h : Q (.ref n.ls) { s with toks := s.toks + 1 }) : wpAny (MM w) A (getAttr (.ref n.x) "successors" expr) Q E s :=
  fGetSlot (p := 105) (i := 2) y C₀ (nInst y) rfl rfl rfl rfl rfl rfl rfl rfl h
theorem nGetNode {Q : Value → Shared → Prop} {expr : Bool} (y : Fm s₀ L m (σ.own w.params (pre ++ n :: post) ++ rest) s) (C₀ : Cx w s₀.heap) (h : Q (.str n.nm n.t) { s with toks := s.toks + 1 }) : wpAny (MM w) A (getAttr (.ref n.x) "node" expr) Q E s :=
  fGetSlot (p := 103) (i := 0) y C₀ (nInst y) rfl rfl rfl rfl rfl rfl rfl rfl h
theorem mAppend {pl : Sem Bool} {Q : Value × List Value → Shared → Prop} {D : Addr} {its : Array Value} {k : Nat} {own : List (Addr × Obj)} (y : Fm s₀ L m own s) (hm : (D, listOf its k) ∈ own) (h : Q (.builtin "list.append", [.ref D]) s) : wpAny (MM w) A (getMethod (.ref D) "append" pl) Q E s :=
  listMethod_K y.N hm PySem.F.slot_list_append PySem.F.type_list_append h
theorem nAppend {Q : Value → Shared → Prop} {v : Value} (y : Fm s₀ L m (σ.own w.params (pre ++ n :: post) ++ rest) s) (hz : n.sc.size ≤ 10000)
    (h : ∀ s', Fm s₀ L m (σ.own w.params (pre ++ { n with sc := n.sc.push v, cnt := n.cnt + 1 } :: post) ++ rest) s' → Q .none s') : wpAny (MM w) A (call (.builtin "list.append") [.ref n.ls, v]) Q E s := by
  rw [own_l] at y
  refine fAppend y (fun s' y' => h s' ?_) (by show _ ≤ 16777216; omega)
  rw [own_l]
  exact y'
theorem strs_push {a : Array Value} {ys : List Str} {x : Str} {t : Tok} (h : StrsAre a.toList ys) : StrsAre (a.push (.str x t)).toList (ys ++ [x]) := by
  rw [Array.toList_push]; exact strs_snoc h
theorem add_binds {R : List (Str × Value) → Shared → Prop} {self node : Value} {vs : List Value} (hz : vs.length ≤ 10000) (h : R [("self", self), ("node", node), ("predecessors", .ref s.heap.objs.size)] { s with heap := s.heap.push { cls := .type "tuple", data := .seq vs.toArray } }) :
    wpAny (MM w) A (bindArgs fdAdd ⟨self :: node :: vs, []⟩) R E s := by
  have e : bindArgs fdAdd ⟨self :: node :: vs, []⟩ = ((newTuple vs >>= fun t => pure [("self", self), ("node", node), ("predecessors", t)]) : Sem (List (Str × Value))) := by
    cases vs <;> rfl
  rw [e]
  exact wpAny_bind (wpAny_newTuple (wpAny_pure h) (by show _ ≤ 16777216; omega))
end
end Mine
end -- P2
section -- P3
set_option maxRecDepth 100000
set_option maxHeartbeats 1000000
namespace Mine
theorem strs_at : ∀ {vs : List Value} {ps : List Str} {i : Nat} {v : Value}, StrsAre vs ps → vs[i]? = some v → ∃ p t, ps[i]? = some p ∧ v = .str p t
  | _, _, 0, _, .cons y t _, e => ⟨y, t, rfl, (Option.some.inj e).symm⟩
  | _, _, i + 1, _, .cons _ _ h, e => strs_at (i := i) h e
theorem insE_len (ns : List Str) (x : Str) : (insE ns x).length ≤ ns.length + 1 := by
  unfold insE; split <;> simp
theorem insEs_len : ∀ (ps ns : List Str), (ps.foldl insE ns).length ≤ ns.length + ps.length
  | [], ns => by simp
  | p :: ps, ns => by
    have := insEs_len ps (insE ns p)
    have := insE_len ns p
    simp only [List.foldl_cons, List.length_cons]
    omega
theorem mem_insE {ns : List Str} {x y : Str} : y ∈ insE ns x ↔ y ∈ ns ∨ y = x := by
  unfold insE
  split
  · rename_i h
    exact ⟨.inl, fun e => e.elim id fun e => e ▸ h⟩
  · simp
theorem addScs_len (a : Str) : ∀ (ps : List Str) (sc : Str → List Str) (x : Str), (ps.foldl (fun sc p => addSc sc p a) sc x).length ≤ (sc x).length + ps.length
  | [], sc, x => by simp
  | p :: ps, sc, x => by
    have := addScs_len a ps (addSc sc p a) x
    have h : (addSc sc p a x).length ≤ (sc x).length + 1 := by unfold addSc; split <;> simp
    simp only [List.foldl_cons, List.length_cons]
    omega
section
variable {w : World} {A : Around} {s s₀ : Shared} {E : Value → Shared → Prop} {L : Addr} {m : Loc} {rest : List (Addr × Obj)} {σ : So} {l : List Nd} {ns : List Str} {np : Str → Int} {sc : Str → List Str}
theorem add_code {Q : Value → Shared → Prop} {nm : Str} {t : Tok} {vs : List Value} {ps : List Str} (y : Fm s₀ L m (σ.own w.params l ++ rest) s) (C₀ : Cx w s₀.heap) (hd : Rm A 9) (O : σ.Ok w l) (R : Rep l ns np sc) (hrd : σ.rd = .none) (hvs : StrsAre vs ps) (hsz : ns.length + ps.length + 1 ≤ 1000) (hsc : ∀ x, (sc x).length + ps.length ≤ 10000)
    (h : ∀ s' od' l', Rep l' (ps.foldl insE (insE ns nm)) (addNp np nm ps.length) (ps.foldl (fun sc p => addSc sc p nm) sc) → ({ σ with od := od' } : So).Ok w l' → Fm s₀ L m (({ σ with od := od' } : So).own w.params l' ++ rest) s' → Q .none s') :
    codeAny (MM w) A (.call (.ref 149) ⟨.ref σ.X :: .str nm t :: vs, []⟩) (fun r s' => match r with | .ok (.ret v) => Q v s' | .ok _ => False | .error e => E e s') s := by
  have hvl : vs.length = ps.length := hvs.length
  refine codeFB (fd := fdAdd) 8 (y.hidC C₀) y.owns (hd.le (by omega)) rfl rfl rfl rfl (add_binds (by omega) ?_)
  have x₀ : AfterO s (σ.own w.params l) s (σ.own w.params l) := ⟨⟨_, _, rfl⟩, hide_sub _ _, fun p hp => ⟨y.owns.at_ p hp, hide_in (List.mem_map_of_mem hp)⟩, y.owns.nd⟩
  have C₁ := y.hidC C₀
  generalize hT : ({ cls := .type "tuple", data := .seq vs.toArray } : Obj) = oT
  refine ⟨σ.own w.params l ++ [(s.heap.objs.size, oT)], ⟨⟨_, _, rfl⟩, fun b o e => sub_push _ _ _ _ (hide_sub _ _ _ _ e), fun p hp => ?_, ?_⟩, sub_push _ _, by rw [Heap.size_push]; omega, by rfl, by rfl, fun L' s₁ hL x₁ => ?_⟩
  · rcases List.mem_append.mp hp with hp | hp
    · exact ⟨sub_push _ _ _ _ (y.owns.at_ p hp), hide_in (List.mem_map_of_mem hp)⟩
    · rw [List.mem_singleton.mp hp]
      refine ⟨Heap.get?_push_size _ (by rw [← hT]; rfl), ?_⟩
      cases e : (hid s (σ.own w.params l)).heap.get? s.heap.objs.size with
      | none => rfl
      | some o => have := hide_sub _ _ _ _ e; rw [get_size] at this; cases this
  · rw [List.map_append, List.nodup_append]
    refine ⟨y.owns.nd, by simp, fun a ha b hb e => ?_⟩
    obtain ⟨p, hp, e1⟩ := List.mem_map.mp ha
    have := Heap.lt_size (y.owns.at_ p hp)
    simp at hb
    rw [e1, e, hb] at this
    exact Nat.lt_irrefl _ this
  have hD : Rm (A.deeper (callEnv fdAdd L' 149)) 8 := hd.deep
  generalize hA : A.deeper (callEnv fdAdd L' 149) = A' at hD ⊢
  generalize s.heap.objs.size = T at x₁
  show wpAny _ _ (execs [_, _, _, _] _) _ _ _
  refine wpAny_execs_cons (wpAny_If (wpAny_isTrue_Compare1 (Attribute_Name_ (eL x₁ rfl rfl rfl (fGetAttr x₁ C₁ (So.inst x₁ (so_mem _)) rfl rfl rfl rfl (v := .none) (by show getL _ (sD _ _ _ σ.rd _ _) = _; rw [hrd]; rfl) rfl (wpAny_Constant_none (isnot_none_none (wpAny_truthy_bool ?_))))))))
  rw [if_neg (by decide)]
  refine wpAny_execs_nil ?_
  have x₂ := x₁.tok (s₁.toks + 1)
  refine wpAny_execs_cons (wpAny_Assign_Name (eM (eL x₂ rfl rfl rfl (fMeth (f := 142) x₂ C₁ (So.inst x₂ (so_mem _)) rfl rfl rfl rfl (cF (fd := fdGet) rfl (aC (eL x₂ rfl rfl rfl (aN ⟨(C₁.up x₂.keep).F.K, gn_call x₂ C₁ (hD.le (by omega)) O R (by have := R.nms; have := congrArg List.length this; rw [List.length_map] at this; omega) fun s₃ od₃ pre n post hn R₃ O₃ x₃ => sL x₃ rfl rfl fun s₄ x₄ => ?_⟩))))))))
  refine wpAny_execs_cons (wpAny_AugAssign_AttributeAny (eL x₄ rfl rfl rfl (nGetNp x₄ C₁ ?_)))
  have x₅ := x₄.tok (s₄.toks + 1)
  have hT5 : ∀ {mm : Loc} {s' : Shared} {own : List (Addr × Obj)}, Fm (hid s (σ.own w.params l)) L' mm own s' → (T, oT) ∈ own → s'.heap.IsTuple T vs.toArray := fun z hz => ⟨_, (z.N _ hz).1, by rw [← hT], _, by rw [← hT]⟩
  refine eCall (eB (C₁.up x₅.keep) 19 6 rfl rfl rfl rfl rfl rfl (cB (aC (eL x₅ rfl rfl rfl (aN (len_tuple (hT5 x₅ (by simp)) (by simp; omega) (iadd_int (nSetNp (x₅.tok _) C₁ fun s₆ x₆ => ?_))))))))
  have R₆ := fun tp => R₃.upd (n' := { n with np := n.np + (vs.toArray.size : Int), tp := tp }) (np' := addNp np nm ps.length) (sc' := sc) O₃.nodup rfl (fun x hx => ⟨by unfold addNp; rw [if_neg (by rw [← hn]; exact hx)], rfl⟩) (by
    obtain ⟨a, b⟩ := R₃.at_ n (by simp)
    refine ⟨?_, b⟩
    unfold addNp
    rw [hn, if_pos rfl, ← hn, ← a]
    simp [hvl])
  have O₆ := fun tp => O₃.upd (n' := { n with np := n.np + (vs.toArray.size : Int), tp := tp }) rfl rfl
  refine wpAny_execs_cons (wpAny_For (eL x₆ rfl rfl rfl (forTup PassesOwn.never rfl rfl hD.hh (x₆.weak (l' := [("self", .ref σ.X), ("node", .str nm t), ("predecessors", .ref T)]) (of_lk rfl)) (hT5 x₆ (by simp))
    (fun i m₁ own₁ => ∃ od' l', own₁ = ({ σ with od := od' } : So).own w.params l' ++ [(T, oT)] ∧ m₁ = ([("self", .ref σ.X), ("node", .str nm t), ("predecessors", .ref T)] : Loc) ∧ ({ σ with od := od' } : So).Ok w l' ∧ Rep l' ((ps.take i).foldl insE (insE ns nm)) (addNp np nm ps.length) ((ps.take i).foldl (fun sc p => addSc sc p nm) sc))
    ⟨od₃, _, rfl, rfl, O₆ _, R₆ _⟩ ⟨oT, fun i m₁ own₁ s₁ _ hJ z => ?_⟩ ?_ ?_)))
  · obtain ⟨od', l', rfl, _⟩ := hJ
    exact (z.N (T, oT) (by simp)).1
  · rintro i v m₁ own₁ s₇ I oI hi hv ⟨od', l', rfl, rfl, O₇, R₇⟩ x₇
    obtain ⟨p, tp, hp, rfl⟩ := strs_at hvs (by simpa using hv)
    have hip : i < ps.length := (List.getElem?_eq_some_iff.mp hp).1
    have x₈ := x₇.perm (List.perm_middle (l₁ := ({ σ with od := od' } : So).own w.params l') (l₂ := [(T, oT)])).symm
    have e1 : ps.take (i + 1) = ps.take i ++ [p] := by rw [List.take_add_one, hp]; rfl
    refine wpAny_execs_cons (wpAny_Assign_Name (eM (eL x₈ rfl rfl rfl (fMeth (f := 142) x₈ C₁ (So.inst (σ := { σ with od := od' }) x₈ (so_mem _)) rfl rfl rfl rfl (cF (fd := fdGet) rfl (aC (eL x₈ rfl rfl rfl (aN ⟨(C₁.up x₈.keep).F.K, gn_call (σ := { σ with od := od' }) x₈ C₁ (hD.le (by omega)) O₇ R₇ (by
      have h1 := congrArg List.length R₇.nms
      have h2 := insEs_len (ps.take i) (insE ns nm)
      have h3 := insE_len ns nm
      rw [List.length_map] at h1
      rw [List.length_take] at h2
      omega) fun s₉ od₉ pre n post hn R₉ O₉ x₉ => sL x₉ rfl rfl fun s' x' => ?_⟩))))))))
    refine wpAny_execs_cons (wpAny_Expr (eM (Attribute_Name_ (eL x' rfl rfl rfl (nGetSc x' C₁ (mAppend (x'.tok _) mem_ls (cB (aC (eL (x'.tok _) rfl rfl rfl (aN (nAppend (x'.tok _) ?_ fun s'' x'' => wpAny_execs_nil ?_)))))))))))
    · have h1 := (R₉.at_ n (by simp)).2.length
      have h2 := addScs_len nm (ps.take i) sc n.nm
      have h3 := hsc n.nm
      rw [List.length_take] at h2
      rw [← Array.length_toList, h1]
      omega
    · refine ⟨_, _, ⟨od₉, _, rfl, rfl, O₉.upd (n' := { n with sc := n.sc.push _, cnt := n.cnt + 1 }) rfl rfl, ?_⟩, (x''.weak (of_lk rfl)).perm List.perm_middle⟩
      rw [e1, List.foldl_append, List.foldl_append]
      refine R₉.upd (n' := { n with sc := n.sc.push _, cnt := n.cnt + 1 }) O₉.nodup rfl (fun x hx => ⟨rfl, ?_⟩) ⟨(R₉.at_ n (by simp)).1, ?_⟩
      · show addSc _ p nm x = _
        unfold addSc
        rw [if_neg (by rw [← hn]; exact hx)]
      · show StrsAre _ (addSc _ p nm n.nm)
        unfold addSc
        rw [if_pos hn]
        exact strs_push (R₉.at_ n (by simp)).2
  · rintro m₁ own₁ s₇ ⟨od', l', rfl, rfl, O₇, R₇⟩ x₇
    have e1 : ps.take vs.toArray.size = ps := by
      rw [List.size_toArray, hvl]; exact List.take_length
    rw [e1] at R₇
    refine wpAny_execs_nil ?_
    have x₈ := x₇.less (List.sublist_append_left _ _)
    exact h _ od' l' R₇ O₇ (y.goO x₈.aftO)
end
end Mine
end -- P3
section -- P4
set_option maxRecDepth 100000
set_option maxHeartbeats 1000000
namespace Mine
section
variable {w : World} {A : Around} {s s₀ : Shared} {E : Value → Shared → Prop} {L : Addr} {m : Loc} {own pre post rest : List (Addr × Obj)} {σ : So} {l : List Nd} {ns : List Str} {np : Str → Int} {sc : Str → List Str}
theorem fClear {its : Array Value} {n : Nat} {D : Addr} {Q : Value → Shared → Prop} (y : Fm s₀ L m (pre ++ (D, listOf its n) :: post) s) (hsz : its.size ≤ 10000)
    (h : ∀ s' k, Fm s₀ L m (pre ++ (D, listOf #[] k) :: post) s' → Q .none s') : wpAny (MM w) A (call (.builtin "list.clear") [.ref D]) Q E s := by
  have z := y.N (D, listOf its n) (by simp)
  refine call_meets PySem.F.slot_list_clear ⟨_, z.1, rfl⟩ PySem.F.entry_list_clear (PySem.F.args_list_clear_1 _) (PySem.AutoSeq1.list_clear_list_0 D its n (by show _ ≤ 16777216; omega)) ⟨z.1, ?_⟩
  have q := PySem.IsL.update z.1 (fun _ => #[])
  exact h _ _ (y.upd (tk := s.toks) (Heap.SameBut.extBut (Heap.SameBut.update ..)) q)
theorem mClear {pl : Sem Bool} {Q : Value × List Value → Shared → Prop} {D : Addr} {its : Array Value} {k : Nat} (y : Fm s₀ L m own s) (hm : (D, listOf its k) ∈ own) (h : Q (.builtin "list.clear", [.ref D]) s) : wpAny (MM w) A (getMethod (.ref D) "clear" pl) Q E s :=
  listMethod_K y.N hm PySem.F.slot_list_clear PySem.F.type_list_clear h
abbrev tupO (its : Array Value) : Obj := { cls := .type "tuple", data := .seq its }
theorem nd_new {a : Addr} {o : Obj} (y : Fm s₀ L m own s) (h : ∀ p ∈ own, p.1 < a) : (((a, o) :: own).map (·.1)).Nodup := by
  rw [List.map_cons, List.nodup_cons]
  refine ⟨fun hm => ?_, y.nd⟩
  obtain ⟨p, hp, e⟩ := List.mem_map.mp hm
  have h9 := h p hp
  have e' : p.1 = a := e
  rw [e'] at h9
  exact Nat.lt_irrefl _ h9
theorem fTuple {D : Addr} {its : Array Value} {Q : Value → Shared → Prop} (y : Fm s₀ L m own s) (hl : s.heap.IsList D its) (hz : its.size ≤ 10000) (h : ∀ s' T, Fm s₀ L m ((T, tupO its) :: own) s' → Q (.ref T) s') : wpAny (MM w) A (call (.type "tuple") [.ref D]) Q E s := by
  obtain ⟨mm, F, hm⟩ := y.loc
  refine kde_tupleOf F y.N hl (by omega) rfl fun T h' F' N' lt => h _ T ?_
  exact y.of (tk := s.toks) F' hm (by simpa using N') (nd_new y lt)
theorem meets_bool_new_list (l : Addr) (its : Array Value) : Meets (Builtin.«bool.__new__» ⟨[.type "bool", .ref l], []⟩) (fun _ R s => s.heap.IsList l its ∧ its.size ≤ 10000 ∧ ∀ tk, R (.ok (.ret (.bool (!its.isEmpty)))) { s with toks := tk }) :=
  Meets.of_wp fun prog w A R s hs => by
    obtain ⟨hl, hz, h⟩ := hs
    obtain ⟨hp, g, d, tk, os⟩ := s
    have f1 := F.conv_sub_bool
    have f2 : ∀ tk', Heap.IsList (⟨hp, g, d, tk', os⟩ : Shared).heap l its := fun _ => hl
    repeat (any_goals (first | assumption | (with_reducible refine wpAny_truthy_list (hl) (by omega) ?_) | wp_step))
    exact ⟨_, rfl, h _⟩
theorem call_bool_list {D : Addr} {its : Array Value} {Q : Value → Shared → Prop} (hl : s.heap.IsList D its) (hz : its.size ≤ 10000) (h : ∀ tk, Q (.bool (!its.isEmpty)) { s with toks := tk }) : wpAny (MM w) A (call (.type "bool") [.ref D]) Q E s :=
  call_bool_1 (meets_bool_new_list D its) ⟨hl, hz, fun tk => ⟨PySem.typeIs_bool _ _, h tk⟩⟩
def So.ownR (σ : So) (p : Params) (l : List Nd) (R : Addr) (its : Array Value) (c : Nat) : List (Addr × Obj) := σ.own p l ++ [(R, listOf its c)]
theorem ownR_mem {p : Params} {R : Addr} {its : Array Value} {c : Nat} : ∀ q ∈ σ.own p l, q ∈ σ.ownR p l R its c ++ rest := fun q hq => List.mem_append.mpr (.inl (List.mem_append.mpr (.inl hq)))
theorem ownR_R {p : Params} {R : Addr} {its : Array Value} {c : Nat} : (R, listOf its c) ∈ σ.ownR p l R its c ++ rest := by simp [So.ownR]
theorem ownR_R' {p : Params} {R : Addr} {its : Array Value} {c : Nat} : (R, listOf its c) ∈ σ.ownR p l R its c := by simp [So.ownR]
theorem ownR_mem' {p : Params} {R : Addr} {its : Array Value} {c : Nat} : ∀ q ∈ σ.own p l, q ∈ σ.ownR p l R its c := fun q hq => List.mem_append.mpr (.inl hq)
theorem ownR_eq {p : Params} {R : Addr} {its : Array Value} {c : Nat} : σ.ownR p l R its c ++ rest = σ.own p l ++ (R, listOf its c) :: rest := by simp [So.ownR]
theorem isa_call {Q : Value → Shared → Prop} {R : Addr} {its : Array Value} {c : Nat} (y : Fm s₀ L m (σ.ownR w.params l R its c ++ rest) s) (C₀ : Cx w s₀.heap) (hd : Rm A 3) (hrd : σ.rd = .ref R) (hz : its.size ≤ 10000)
    (h : ∀ s', Fm s₀ L m (σ.ownR w.params l R its c ++ rest) s' → Q (.bool (decide (σ.nf < σ.po) || !its.isEmpty)) s') : wpAny (MM w) A (call (.ref 168) [.ref σ.X]) Q E s := by
  refine wpAny_call (codeFO (fd := fdAct) [("self", .ref σ.X)] 11 (y.hidC C₀) y.owns (hd.le (by omega)) rfl rfl rfl rfl rfl rfl fun s₁ x₁ => ?_)
  have C₁ := y.hidC C₀
  have hD : Rm (A.deeper (callEnv fdAct s.heap.objs.size 168)) 2 := hd.deep
  generalize hA : A.deeper (callEnv fdAct s.heap.objs.size 168) = A' at hD ⊢
  show wpAny _ _ (execs [_, _] _) _ _ _
  have grd : getL "_ready_nodes" (sD w.params σ.tk (.ref σ.D) σ.rd (.int σ.po σ.tpo) (.int σ.nf σ.tnf)) = some (some (.ref R)) := by
    show getL _ (sD _ _ _ σ.rd _ _) = _; rw [hrd]; rfl
  have hl : ∀ {mm : Loc} {s' : Shared}, Fm (hid s (σ.ownR w.params l R its c)) s.heap.objs.size mm (σ.ownR w.params l R its c) s' → s'.heap.IsList R its := fun z => ⟨_, (z.N _ ownR_R').1, rfl, _, rfl⟩
  refine wpAny_execs_cons (wpAny_If (wpAny_isTrue_Compare1 (Attribute_Name_ (eL x₁ rfl rfl rfl (fGetAttr x₁ C₁ (So.inst x₁ ownR_mem') rfl rfl rfl rfl grd rfl (wpAny_Constant_none (is_ref_none (wpAny_truthy_bool ?_))))))))
  rw [if_neg (by decide)]
  refine wpAny_execs_nil ?_
  have x₂ := x₁.tok (s₁.toks + 1)
  refine wpAny_execs_cons (wpAny_Return_some (BoolOp_or (wpAny_Compare1 (Attribute_Name_ (eL x₂ rfl rfl rfl (fGetAttr x₂ C₁ (So.inst x₂ ownR_mem') rfl rfl rfl rfl rfl rfl ?_))))))
  have x₃ := x₂.tok (s₁.toks + 1 + 1)
  refine Attribute_Name_ (eL x₃ rfl rfl rfl (fGetAttr x₃ C₁ (So.inst x₃ ownR_mem') rfl rfl rfl rfl rfl rfl (lt_int (wpAny_truthy_bool ?_))))
  have x₄ := x₃.tok (s₁.toks + 1 + 1 + 1)
  by_cases hlt : σ.nf < σ.po
  · rw [if_pos (by simpa using hlt)]
    have := h _ (y.goO x₄.aftO)
    rw [decide_eq_true hlt] at this ⊢
    exact this
  · rw [if_neg (by simpa using hlt)]
    refine BoolOp_one (eCall (eB (C₁.up x₄.keep) 22 9 rfl rfl rfl rfl rfl rfl (cT (aC (Attribute_Name_ (eL x₄ rfl rfl rfl (fGetAttr x₄ C₁ (So.inst x₄ ownR_mem') rfl rfl rfl rfl grd rfl ?_)))))))
    refine aN (call_bool_list (hl (x₄.tok _)) hz fun tk => ?_)
    have := h _ (y.goO (x₄.tok tk).aftO)
    rw [decide_eq_false hlt, Bool.false_or] at this
    exact this
end
end Mine
end -- P4
section -- P5
set_option maxRecDepth 100000
set_option maxHeartbeats 1000000
namespace Mine
def outNp (np : Str → Int) (rs : List Str) (i : Int) : Str → Int := fun x => if x ∈ rs then i else np x
section
variable {w : World} {A : Around} {s s₀ : Shared} {E : Value → Shared → Prop} {L : Addr} {m : Loc} {own pre post rest : List (Addr × Obj)} {σ : So} {l : List Nd} {ns : List Str} {np : Str → Int} {sc : Str → List Str}
theorem own_d {p : Params} : σ.own p l ++ rest = [(σ.D, σ.od), (σ.X, instObj 199 σ.DX)] ++ (σ.DX, σ.dob p) :: (nOwn l ++ rest) := by simp [So.own]
theorem sSetPo {Q : Unit → Shared → Prop} {i : Int} {t : Tok} (y : Fm s₀ L m (σ.own w.params l ++ rest) s) (C₀ : Cx w s₀.heap) (h : ∀ s', Fm s₀ L m (({ σ with po := i, tpo := t } : So).own w.params l ++ rest) s' → Q () s') :
    wpAny (MM w) A (setAttr (.ref σ.X) "_npassedout" (.int i t)) Q E s := by
  have I := So.inst (σ := σ) y (so_mem _)
  rw [own_d] at y
  exact fSetAttr (n' := 4) (fun _ => sD w.params σ.tk (.ref σ.D) σ.rd (.int i t) (.int σ.nf σ.tnf)) y C₀ I rfl rfl rfl rfl rfl rfl (fun _ => rfl) (fun _ => by simp [sD]) fun s' _ y' => h s' (by rw [own_d]; exact y')
theorem sSetNf {Q : Unit → Shared → Prop} {i : Int} {t : Tok} (y : Fm s₀ L m (σ.own w.params l ++ rest) s) (C₀ : Cx w s₀.heap) (h : ∀ s', Fm s₀ L m (({ σ with nf := i, tnf := t } : So).own w.params l ++ rest) s' → Q () s') :
    wpAny (MM w) A (setAttr (.ref σ.X) "_nfinished" (.int i t)) Q E s := by
  have I := So.inst (σ := σ) y (so_mem _)
  rw [own_d] at y
  exact fSetAttr (n' := 4) (fun _ => sD w.params σ.tk (.ref σ.D) σ.rd (.int σ.po σ.tpo) (.int i t)) y C₀ I rfl rfl rfl rfl rfl rfl (fun _ => rfl) (fun _ => by simp [sD]) fun s' _ y' => h s' (by rw [own_d]; exact y')
theorem sSetRd {Q : Unit → Shared → Prop} {v : Value} (y : Fm s₀ L m (σ.own w.params l ++ rest) s) (C₀ : Cx w s₀.heap) (h : ∀ s', Fm s₀ L m (({ σ with rd := v } : So).own w.params l ++ rest) s' → Q () s') :
    wpAny (MM w) A (setAttr (.ref σ.X) "_ready_nodes" v) Q E s := by
  have I := So.inst (σ := σ) y (so_mem _)
  rw [own_d] at y
  exact fSetAttr (n' := 4) (fun _ => sD w.params σ.tk (.ref σ.D) v (.int σ.po σ.tpo) (.int σ.nf σ.tnf)) y C₀ I rfl rfl rfl rfl rfl rfl (fun _ => rfl) (fun _ => by simp [sD]) fun s' _ y' => h s' (by rw [own_d]; exact y')
theorem sGetRd {Q : Value → Shared → Prop} {expr : Bool} {v : Value} (y : Fm s₀ L m (σ.own w.params l ++ rest) s) (C₀ : Cx w s₀.heap) (hrd : σ.rd = v) (hv : handedIn v = true) (h : Q v { s with toks := s.toks + 1 }) : wpAny (MM w) A (getAttr (.ref σ.X) "_ready_nodes" expr) Q E s :=
  fGetAttr y C₀ (So.inst (σ := σ) y (so_mem _)) rfl rfl rfl rfl (by show getL _ (sD _ _ _ σ.rd _ _) = _; rw [hrd]; rfl) hv h
theorem sGetD {Q : Value → Shared → Prop} {expr : Bool} (y : Fm s₀ L m (σ.own w.params l ++ rest) s) (C₀ : Cx w s₀.heap) (h : Q (.ref σ.D) { s with toks := s.toks + 1 }) : wpAny (MM w) A (getAttr (.ref σ.X) "_node2info" expr) Q E s :=
  fGetAttr y C₀ (So.inst (σ := σ) y (so_mem _)) rfl rfl rfl rfl rfl rfl h
theorem sGetPo {Q : Value → Shared → Prop} {expr : Bool} (y : Fm s₀ L m (σ.own w.params l ++ rest) s) (C₀ : Cx w s₀.heap) (h : Q (.int σ.po σ.tpo) { s with toks := s.toks + 1 }) : wpAny (MM w) A (getAttr (.ref σ.X) "_npassedout" expr) Q E s :=
  fGetAttr y C₀ (So.inst (σ := σ) y (so_mem _)) rfl rfl rfl rfl rfl rfl h
theorem sGetNf {Q : Value → Shared → Prop} {expr : Bool} (y : Fm s₀ L m (σ.own w.params l ++ rest) s) (C₀ : Cx w s₀.heap) (h : Q (.int σ.nf σ.tnf) { s with toks := s.toks + 1 }) : wpAny (MM w) A (getAttr (.ref σ.X) "_nfinished" expr) Q E s :=
  fGetAttr y C₀ (So.inst (σ := σ) y (so_mem _)) rfl rfl rfl rfl rfl rfl h
theorem sItem {Q : Value → Shared → Prop} {value slice : Expr} {pre post : List Nd} {n : Nd} {k : Str} {t : Tok} (y : Fm s₀ L m (σ.own w.params (pre ++ n :: post) ++ rest) s) (O : σ.Ok w (pre ++ n :: post)) (hk : n.nm = k) (h : Q (.ref n.x) { s with toks := s.toks + 1 })
    (hs : subscripted slice false (.ref σ.D) (.str k t) = operate [.ref σ.D, .str k t] (getItem (.ref σ.D) (.str k t)) := by with_unfolding_all rfl) (hg : ∀ r, letTemporaryGo value (.ref σ.D) r = pure () := by intro _; with_unfolding_all rfl) :
    wpAny (MM w) A (subscriptTail value slice (.ref σ.D) (.str k t)) Q E s := dItem y (List.mem_append.mpr (.inl (.head _))) O.hd (by rw [← hk]; exact valueAt_kv O.nodup) h hs hg
theorem sGet {Q : Value → Shared → Prop} {pre post : List Nd} {n : Nd} {k : Str} {t : Tok} (y : Fm s₀ L m (σ.own w.params (pre ++ n :: post) ++ rest) s) (O : σ.Ok w (pre ++ n :: post)) (hk : n.nm = k) (h : Q (.ref n.x) { s with toks := s.toks + 1 }) :
    wpAny (MM w) A (call (.builtin "dict.get") [.ref σ.D, .str k t]) Q E s := dGet y (List.mem_append.mpr (.inl (.head _))) O.hd O.lo (by rw [← hk, valueAt_kv O.nodup]; exact h)
theorem rep_split {k : Str} (R : Rep l ns np sc) (h : k ∈ ns) : ∃ pre n post, l = pre ++ n :: post ∧ n.nm = k := nm_split (by rw [R.nms]; exact h)
theorem gr_call {Q : Value → Shared → Prop} {R : Addr} {its : Array Value} {c : Nat} {rs : List Str} (y : Fm s₀ L m (σ.ownR w.params l R its c ++ rest) s) (C₀ : Cx w s₀.heap) (hd : Rm A 3) (O : σ.Ok w l) (P : Rep l ns np sc) (hrd : σ.rd = .ref R) (hvs : StrsAre its.toList rs) (hin : ∀ r ∈ rs, r ∈ ns) (hz : its.size ≤ 10000)
    (h : ∀ s' l' T c' tp, Rep l' ns (outNp np rs (-1)) sc → ({ σ with po := σ.po + its.size, tpo := tp } : So).Ok w l' → Fm s₀ L m (({ σ with po := σ.po + its.size, tpo := tp } : So).ownR w.params l' R #[] c' ++ (T, tupO its) :: rest) s' → Q (.ref T) s') :
    wpAny (MM w) A (call (.ref 161) [.ref σ.X]) Q E s := by
  refine wpAny_call (codeFO (fd := fdReady) [("self", .ref σ.X)] 10 (y.hidC C₀) y.owns (hd.le (by omega)) rfl rfl rfl rfl rfl rfl fun s₁ x₁ => ?_)
  have C₁ := y.hidC C₀
  have hD : Rm (A.deeper (callEnv fdReady s.heap.objs.size 161)) 2 := hd.deep
  generalize hA : A.deeper (callEnv fdReady s.heap.objs.size 161) = A' at hD ⊢
  show wpAny _ _ (execs [_, _, _, _, _, _, _] _) _ _ _
  refine wpAny_execs_cons (wpAny_If (wpAny_isTrue_Compare1 (Attribute_Name_ (eL x₁ rfl rfl rfl (sGetRd x₁ C₁ hrd rfl (wpAny_Constant_none (is_ref_none (wpAny_truthy_bool ?_))))))))
  rw [if_neg (by decide)]
  refine wpAny_execs_nil ?_
  have x₂ := x₁.tok (s₁.toks + 1)
  refine wpAny_execs_cons (wpAny_Assign_Name (eCall (eB (C₁.up x₂.keep) 21 8 rfl rfl rfl rfl rfl rfl (cT (aC (Attribute_Name_ (eL x₂ rfl rfl rfl (sGetRd x₂ C₁ hrd rfl ?_))))))))
  refine aN (fTuple (x₂.tok _) ⟨_, ((x₂.tok _).N _ ownR_R').1, rfl, _, rfl⟩ hz fun s₃ T x₃ => sL x₃ rfl rfl fun s₄ x₄ => ?_)
  have x₅ := x₄.perm (own' := σ.own w.params l ++ [(R, listOf its c), (T, tupO its)]) (by
    show ((T, tupO its) :: (σ.own w.params l ++ [(R, listOf its c)])).Perm _
    exact List.perm_middle.symm.trans (List.Perm.append_left _ (List.Perm.swap _ _ _)))
  refine wpAny_execs_cons (wpAny_Assign_Name (Attribute_Name_ (eL x₅ rfl rfl rfl (sGetD x₅ C₁ (sL (x₅.tok _) rfl rfl fun s₆ x₆ => ?_)))))
  have hT : ∀ {mm : Loc} {s' : Shared} {own : List (Addr × Obj)}, Fm (hid s (σ.ownR w.params l R its c)) s.heap.objs.size mm own s' → (T, tupO its) ∈ own → s'.heap.IsTuple T its := fun z hz => ⟨_, (z.N _ hz).1, rfl, _, rfl⟩
  refine wpAny_execs_cons (wpAny_For (eL x₆ rfl rfl rfl (forTup PassesOwn.never rfl rfl hD.hh (x₆.weak (l' := [("self", .ref σ.X), ("result", .ref T), ("n2i", .ref σ.D)]) (of_lk rfl)) (hT x₆ (by simp))
    (fun i m₁ own₁ => ∃ l', own₁ = σ.own w.params l' ++ [(R, listOf its c), (T, tupO its)] ∧ m₁ = ([("self", .ref σ.X), ("result", .ref T), ("n2i", .ref σ.D)] : Loc) ∧ σ.Ok w l' ∧ Rep l' ns (outNp np (rs.take i) (-1)) sc)
    ⟨l, rfl, rfl, O, by
      have : outNp np (rs.take 0) (-1) = np := by funext x; simp [outNp]
      rw [this]; exact P⟩ ⟨tupO its, fun i m₁ own₁ s₁ _ hJ z => ?_⟩ ?_ ?_)))
  · obtain ⟨l', rfl, _⟩ := hJ
    exact (z.N (T, tupO its) (by simp)).1
  · rintro i v m₁ own₁ s₇ I oI hi hv ⟨l', rfl, rfl, O₇, P₇⟩ x₇
    obtain ⟨p, tp, hp, rfl⟩ := strs_at hvs (by simpa using hv)
    have hip : i < rs.length := (List.getElem?_eq_some_iff.mp hp).1
    have e1 : rs.take (i + 1) = rs.take i ++ [p] := by rw [List.take_add_one, hp]; rfl
    have x₈ := x₇.perm (List.perm_middle (l₁ := σ.own w.params l') (l₂ := [(R, listOf its c), (T, tupO its)])).symm
    obtain ⟨pre, n, post, rfl, hn⟩ := rep_split P₇ (hin p (List.mem_of_getElem? hp))
    refine wpAny_execs_cons (plainObj_wpAny_Assign_Attribute (eG (C₁.up x₈.keep) 6 rfl rfl rfl rfl (Subscript_ (eL x₈ rfl rfl rfl (eL x₈ rfl rfl rfl (sItem x₈ O₇ hn (nSetNp (x₈.tok _) C₁ fun s₉ x₉ => wpAny_execs_nil ?_)))))))
    refine ⟨_, _, ⟨_, rfl, rfl, O₇.upd (n' := { n with np := -1, tp := 542 }) rfl rfl, ?_⟩, (x₉.weak (of_lk rfl)).perm List.perm_middle⟩
    refine P₇.upd (n' := { n with np := -1, tp := 542 }) O₇.nodup rfl (fun x hx => ⟨?_, rfl⟩) ⟨?_, (P₇.at_ n (by simp)).2⟩
    · unfold outNp
      rw [e1]
      have : x ≠ p := by rw [← hn]; exact hx
      simp [this]
    · unfold outNp
      rw [e1, hn]
      simp
  · rintro m₁ own₁ s₇ ⟨l', rfl, rfl, O₇, P₇⟩ x₇
    have e1 : rs.take its.size = rs := by
      rw [← Array.length_toList, hvs.length]; exact List.take_length
    rw [e1] at P₇
    refine wpAny_execs_cons (wpAny_Expr (eM (Attribute_Name_ (eL x₇ rfl rfl rfl (sGetRd x₇ C₁ hrd rfl (mClear (its := its) (k := c) (x₇.tok _) (by simp) (cB0 (fClear (x₇.tok _) hz fun s₈ c' x₈ => ?_))))))))
    refine wpAny_execs_cons (wpAny_AugAssign_AttributeAny (eL x₈ rfl rfl rfl (sGetPo x₈ C₁ ?_)))
    have x₉ := x₈.tok (s₈.toks + 1)
    refine eCall (eB (C₁.up x₉.keep) 19 6 rfl rfl rfl rfl rfl rfl (cB (aC (eL x₉ rfl rfl rfl (aN (len_tuple (hT x₉ (by simp)) (by omega) (iadd_int (sSetPo (x₉.tok _) C₁ fun s₁₀ x₁₀ => ?_))))))))
    refine wpAny_execs_cons (wpAny_Return_some (eL x₁₀ rfl rfl rfl ?_))
    have x₁₁ := x₁₀.aftO
    have x₁₂ := y.goO x₁₁
    refine h _ l' T c' ?gtp P₇ ?gO ?gF
    case gF =>
      simp only [So.ownR, List.append_assoc, List.cons_append, List.nil_append] at x₁₂ ⊢
      exact x₁₂
    case gO => exact ⟨O₇.lo, O₇.hd⟩
end
end Mine
end -- P5
section -- P6
set_option maxRecDepth 100000
set_option maxHeartbeats 1000000
namespace Mine
abbrev NR := (Str → Int) × List Str
def setNp (np : Str → Int) (a : Str) (i : Int) : Str → Int := fun x => if x = a then i else np x
def decS (st : NR) (x : Str) : NR := (addNp st.1 x (-1), if addNp st.1 x (-1) x = 0 then st.2 ++ [x] else st.2)
def doneOne (sc : Str → List Str) (st : NR) (r : Str) : NR := (sc r).foldl decS (setNp st.1 r (-2), st.2)
def doneAll (sc : Str → List Str) (st : NR) (rs : List Str) : NR := rs.foldl (doneOne sc) st
theorem decS_len (st : NR) (x : Str) : (decS st x).2.length ≤ st.2.length + 1 := by unfold decS; dsimp only; split <;> simp
theorem decSs_len : ∀ (xs : List Str) (st : NR), (xs.foldl decS st).2.length ≤ st.2.length + xs.length
  | [], st => by simp
  | x :: xs, st => by
    have := decSs_len xs (decS st x)
    have := decS_len st x
    simp only [List.foldl_cons, List.length_cons]
    omega
theorem doneAll_len {sc : Str → List Str} {k : Nat} (h : ∀ x, (sc x).length ≤ k) : ∀ (rs : List Str) (st : NR), (doneAll sc st rs).2.length ≤ st.2.length + rs.length * k
  | [], st => by simp [doneAll]
  | r :: rs, st => by
    have h1 := doneAll_len h rs (doneOne sc st r)
    have h2 := decSs_len (sc r) (setNp st.1 r (-2), st.2)
    have h3 := h r
    have e : (rs.length + 1) * k = rs.length * k + k := Nat.succ_mul _ _
    show (doneAll sc (doneOne sc st r) rs).2.length ≤ _
    rw [List.length_cons, e]
    have h4 : (doneOne sc st r).2.length ≤ st.2.length + (sc r).length := h2
    omega
theorem decSs_np {y : Str} : ∀ (xs : List Str) (st : NR), y ∉ xs → (xs.foldl decS st).1 y = st.1 y
  | [], st, _ => rfl
  | x :: xs, st, h => by
    rw [List.mem_cons, not_or] at h
    rw [List.foldl_cons, decSs_np xs _ h.2]
    show addNp st.1 x (-1) y = _
    unfold addNp
    rw [if_neg h.1]
theorem doneAll_np {sc : Str → List Str} {y : Str} : ∀ (rs : List Str) (st : NR), y ∉ rs → (∀ r ∈ rs, y ∉ sc r) → (doneAll sc st rs).1 y = st.1 y
  | [], st, _, _ => rfl
  | r :: rs, st, h, h2 => by
    rw [List.mem_cons, not_or] at h
    show (doneAll sc (doneOne sc st r) rs).1 y = _
    rw [doneAll_np rs _ h.2 fun q hq => h2 q (.tail _ hq)]
    unfold doneOne
    rw [decSs_np _ _ (h2 r (.head _))]
    show setNp st.1 r (-2) y = _
    unfold setNp
    rw [if_neg h.1]
section
variable {w : World} {A : Around} {s s₀ : Shared} {E : Value → Shared → Prop} {L : Addr} {m : Loc} {own pre post rest : List (Addr × Obj)} {σ : So} {l : List Nd} {ns : List Str} {np : Str → Int} {sc : Str → List Str}
theorem done_binds {R : List (Str × Value) → Shared → Prop} {self : Value} {vs : List Value} (hz : vs.length ≤ 10000) (h : R [("self", self), ("nodes", .ref s.heap.objs.size)] { s with heap := s.heap.push (tupO vs.toArray) }) :
    wpAny (MM w) A (bindArgs fdDone ⟨self :: vs, []⟩) R E s := by
  have e : bindArgs fdDone ⟨self :: vs, []⟩ = ((newTuple vs >>= fun t => pure [("self", self), ("nodes", t)]) : Sem (List (Str × Value))) := by
    cases vs <;> rfl
  rw [e]
  exact wpAny_bind (wpAny_newTuple (wpAny_pure h) (by show _ ≤ 16777216; omega))
theorem nSame {n' : Nd} {p₁ p₂ : List Nd} {n : Nd} {q : Nd} (hq : ∃ r ∈ p₁ ++ n :: p₂, r.ls = q.ls ∧ r.sc = q.sc ∧ r.cnt = q.cnt) (h1 : n'.ls = n.ls) (h2 : n'.sc = n.sc) (h3 : n'.cnt = n.cnt) : ∃ r ∈ p₁ ++ n' :: p₂, r.ls = q.ls ∧ r.sc = q.sc ∧ r.cnt = q.cnt := by
  obtain ⟨r, hr, a, b, c⟩ := hq
  rcases List.mem_append.mp hr with hr | hr
  · exact ⟨r, by simp [hr], a, b, c⟩
  · rcases List.mem_cons.mp hr with rfl | hr
    · exact ⟨n', by simp, h1.trans a, h2.trans b, h3.trans c⟩
    · exact ⟨r, by simp [hr], a, b, c⟩
theorem nMem {p : Params} {q : Nd} (h : ∃ r ∈ l, r.ls = q.ls ∧ r.sc = q.sc ∧ r.cnt = q.cnt) : (q.ls, listOf q.sc q.cnt) ∈ σ.own p l ++ rest := by
  obtain ⟨r, hr, a, b, c⟩ := h
  obtain ⟨p₁, p₂, rfl⟩ := List.append_of_mem hr
  have := mem_ls (σ := σ) (p := p) (pre := p₁) (n := r) (post := p₂) (rest := rest)
  rw [a, b, c] at this
  exact this
theorem tupNew {vs : List Value} (y : Fm s₀ L m (own ++ rest) s) : AfterO s own { s with heap := s.heap.push (tupO vs.toArray) } (own ++ [(s.heap.objs.size, tupO vs.toArray)]) := by
  refine ⟨⟨_, _, rfl⟩, fun b o e => sub_push _ _ _ _ (hide_sub _ _ _ _ e), fun p hp => ?_, ?_⟩
  · rcases List.mem_append.mp hp with hp | hp
    · exact ⟨sub_push _ _ _ _ (y.owns.at_ p hp), hide_in (List.mem_map_of_mem hp)⟩
    · rw [List.mem_singleton.mp hp]
      refine ⟨Heap.get?_push_size _ rfl, ?_⟩
      cases e : (hid s own).heap.get? s.heap.objs.size with
      | none => rfl
      | some o => have := hide_sub _ _ _ _ e; rw [get_size] at this; cases this
  · rw [List.map_append, List.nodup_append]
    refine ⟨y.owns.nd, by simp, fun a ha b hb e => ?_⟩
    obtain ⟨p, hp, e1⟩ := List.mem_map.mp ha
    have := Heap.lt_size (y.owns.at_ p hp)
    simp at hb
    rw [e1, e, hb] at this
    exact Nat.lt_irrefl _ this
theorem done_code {Q : Value → Shared → Prop} {R : Addr} {its : Array Value} {c : Nat} {vs : List Value} {rs ys : List Str} (y : Fm s₀ L m (σ.ownR w.params l R its c ++ rest) s) (C₀ : Cx w s₀.heap) (hd : Rm A 3) (O : σ.Ok w l) (P : Rep l ns np sc) (hrd : σ.rd = .ref R) (hvs : StrsAre vs rs) (hys : StrsAre its.toList ys)
    (hin : ∀ r ∈ rs, r ∈ ns) (hout : ∀ r ∈ rs, np r = -1) (hnd : rs.Nodup) (hsc : ∀ r ∈ rs, ∀ x ∈ sc r, x ∈ ns ∧ x ∉ rs) (hz : ys.length ≤ 1000) (hz2 : rs.length ≤ 1000) (hz3 : ∀ x, (sc x).length ≤ 1000)
    (h : ∀ s' l' its' c' tn, Rep l' ns (doneAll sc (np, ys) rs).1 sc → StrsAre its'.toList (doneAll sc (np, ys) rs).2 → ({ σ with nf := σ.nf + rs.length, tnf := tn } : So).Ok w l' → Fm s₀ L m (({ σ with nf := σ.nf + rs.length, tnf := tn } : So).ownR w.params l' R its' c' ++ rest) s' → Q .none s') :
    codeAny (MM w) A (.call (.ref 182) ⟨.ref σ.X :: vs, []⟩) (fun r s' => match r with | .ok (.ret v) => Q v s' | .ok _ => False | .error e => E e s') s := by
  have hvl : vs.length = rs.length := hvs.length
  refine codeFB (fd := fdDone) 12 (y.hidC C₀) y.owns (hd.le (by omega)) rfl rfl rfl rfl (done_binds (by omega) ?_)
  have C₁ := y.hidC C₀
  refine ⟨_, tupNew (vs := vs) y, sub_push _ _, by rw [Heap.size_push]; omega, by rfl, by rfl, fun L' s₁ hL x₁ => ?_⟩
  have hD : Rm (A.deeper (callEnv fdDone L' 182)) 2 := hd.deep
  generalize hA : A.deeper (callEnv fdDone L' 182) = A' at hD ⊢
  generalize s.heap.objs.size = T at x₁
  have x₁ := x₁.perm (own' := σ.own w.params l ++ [(R, listOf its c), (T, tupO vs.toArray)]) (by simp [So.ownR])
  show wpAny _ _ (execs [_, _, _] _) _ _ _
  refine wpAny_execs_cons (wpAny_If (wpAny_isTrue_Compare1 (Attribute_Name_ (eL x₁ rfl rfl rfl (sGetRd x₁ C₁ hrd rfl (wpAny_Constant_none (is_ref_none (wpAny_truthy_bool ?_))))))))
  rw [if_neg (by decide)]
  refine wpAny_execs_nil ?_
  have x₂ := x₁.tok (s₁.toks + 1)
  refine wpAny_execs_cons (wpAny_Assign_Name (Attribute_Name_ (eL x₂ rfl rfl rfl (sGetD x₂ C₁ (sL (x₂.tok _) rfl rfl fun s₃ x₃ => ?_)))))
  have hT : ∀ {mm : Loc} {s' : Shared} {own : List (Addr × Obj)}, Fm (hid s (σ.ownR w.params l R its c)) L' mm own s' → (T, tupO vs.toArray) ∈ own → s'.heap.IsTuple T vs.toArray := fun z hz => ⟨_, (z.N _ hz).1, rfl, _, rfl⟩
  refine wpAny_execs_cons (wpAny_For (eL x₃ rfl rfl rfl (forTup PassesOwn.never rfl rfl hD.hh (x₃.weak (l' := [("self", .ref σ.X), ("nodes", .ref T), ("n2i", .ref σ.D)]) (of_lk rfl)) (hT x₃ (by simp))
    (fun i m₁ own₁ => ∃ l' its' c' tn, own₁ = ({ σ with nf := σ.nf + (i : Int), tnf := tn } : So).own w.params l' ++ [(R, listOf its' c'), (T, tupO vs.toArray)] ∧ m₁ = ([("self", .ref σ.X), ("nodes", .ref T), ("n2i", .ref σ.D)] : Loc) ∧ ({ σ with nf := σ.nf + (i : Int), tnf := tn } : So).Ok w l' ∧ Rep l' ns (doneAll sc (np, ys) (rs.take i)).1 sc ∧ StrsAre its'.toList (doneAll sc (np, ys) (rs.take i)).2)
    ⟨l, its, c, σ.tnf, by simp, rfl, ⟨O.lo, O.hd⟩, P, hys⟩ ⟨tupO vs.toArray, fun i m₁ own₁ s₁ _ hJ z => ?_⟩ ?_ ?_)))
  · obtain ⟨l', its', c', tn, rfl, _⟩ := hJ
    exact (z.N (T, tupO vs.toArray) (by simp)).1
  · rintro i v m₁ own₁ s₇ I oI hi hv ⟨l', its', c', tn, rfl, rfl, O₇, P₇, S₇⟩ x₇
    obtain ⟨p, tp, hp, rfl⟩ := strs_at hvs (by simpa using hv)
    have hip : i < rs.length := (List.getElem?_eq_some_iff.mp hp).1
    have hpm : p ∈ rs := List.mem_of_getElem? hp
    have e1 : rs.take (i + 1) = rs.take i ++ [p] := by rw [List.take_add_one, hp]; rfl
    generalize hσ : ({ σ with nf := σ.nf + (i : Int), tnf := tn } : So) = σ' at x₇ O₇
    have hX : σ'.X = σ.X := by rw [← hσ]
    have hDD : σ'.D = σ.D := by rw [← hσ]
    have hrd' : σ'.rd = .ref R := by rw [← hσ]; exact hrd
    have hnf' : σ'.nf = σ.nf + (i : Int) := by rw [← hσ]
    rw [← hX, ← hDD] at x₇
    have x₈ := x₇.perm (List.perm_middle (l₁ := σ'.own w.params l') (l₂ := [(R, listOf its' c'), (T, tupO vs.toArray)])).symm
    obtain ⟨pre, n, post, rfl, hn⟩ := rep_split P₇ (hin p hpm)
    have hpn : p ∉ rs.take i := by
      have e := List.take_append_drop i rs
      rw [← e, List.nodup_append] at hnd
      intro hm
      refine hnd.2.2 p hm p ?_ rfl
      rw [List.drop_eq_getElem_cons hip, (List.getElem?_eq_some_iff.mp hp).2]
      exact .head _
    have hnp : n.np = -1 := by
      rw [(P₇.at_ n (by simp)).1, hn, doneAll_np _ _ hpn fun r hr hx => ?_]
      · exact hout p hpm
      · exact (hsc r (List.mem_of_mem_take hr) p hx).2 hpm
    refine wpAny_execs_cons (wpAny_If (wpAny_isTrue_Compare1 (wpAny_NamedExpr (eM (eL x₈ rfl rfl rfl (mGet x₈ (List.mem_append.mpr (.inl (.head _))) O₇.hd (cB (aC (eL x₈ rfl rfl rfl (aN (sGet x₈ O₇ hn ?_)))))))))))
    have x₉ := x₈.tok (s₇.toks + 1)
    refine wpAny_assign_Name (sL x₉ rfl rfl fun sa xa => wpAny_Constant_none (is_ref_none (wpAny_truthy_bool ?_)))
    rw [if_neg (by decide)]
    refine wpAny_execs_nil (wpAny_execs_cons (wpAny_Assign_Name (Attribute_Name_ (eL xa rfl rfl rfl (nGetNp xa C₁ (sL (xa.tok _) rfl rfl fun sb xb => ?_))))))
    refine wpAny_execs_cons (wpAny_If (wpAny_isTrue_Compare1 (eL xb rfl rfl rfl (eG (C₁.up xb.keep) 6 rfl rfl rfl rfl (ne_int (wpAny_truthy_bool ?_))))))
    rw [hnp, if_neg (by decide)]
    refine wpAny_execs_nil ?_
    refine wpAny_execs_cons (plainObj_wpAny_Assign_Attribute (eG (C₁.up xb.keep) 7 rfl rfl rfl rfl (eL xb rfl rfl rfl (nSetNp xb C₁ fun sc' xc => ?_))))
    generalize hDn : doneAll sc (np, ys) (rs.take i) = Dn at P₇ S₇
    have hDl : Dn.2.length ≤ 1000 + 1000 * 1000 := by
      have := doneAll_len hz3 (rs.take i) (np, ys)
      rw [hDn, List.length_take] at this
      have h9 : min i rs.length ≤ 1000 := by omega
      have h8 := Nat.mul_le_mul_right 1000 h9
      show Dn.2.length ≤ _
      have h7 : (np, ys).2.length = ys.length := rfl
      omega
    have Pc := P₇.upd (n' := { n with np := -2, tp := 545 }) (np' := setNp Dn.1 p (-2)) (sc' := sc) O₇.nodup rfl (fun x hx => ⟨by unfold setNp; rw [if_neg (by rw [← hn]; exact hx)], rfl⟩) ⟨by show (-2 : Int) = setNp Dn.1 p (-2) n.nm; unfold setNp; rw [if_pos hn], (P₇.at_ n (by simp)).2⟩
    have Oc := O₇.upd (n' := { n with np := -2, tp := 545 }) rfl rfl
    have xc := (xc.perm (own' := σ'.own w.params (pre ++ { n with np := -2, tp := 545 } :: post) ++ [(R, listOf its' c'), (I, oI), (T, tupO vs.toArray)]) (List.Perm.append_left _ (List.Perm.swap _ _ _)))
    refine wpAny_execs_cons (wpAny_For (Attribute_Name_ (eL xc rfl rfl rfl (nGetSc (n := { n with np := -2, tp := 545 }) xc C₁ ?_))))
    have xd := xc.tok (sc'.toks + 1)
    refine forList PassesOwn.never rfl rfl hD.hh (xd.weak (l' := [("self", .ref σ'.X), ("nodes", .ref T), ("n2i", .ref σ'.D)]) (of_lk rfl)) ⟨_, (xd.N _ (mem_ls (n := { n with np := -2, tp := 545 }))).1, rfl, _, rfl⟩
      (fun j m₁ own₁ => ∃ l'' its'' c'', own₁ = σ'.own w.params l'' ++ [(R, listOf its'' c''), (I, oI), (T, tupO vs.toArray)] ∧ m₁ = ([("self", .ref σ'.X), ("nodes", .ref T), ("n2i", .ref σ'.D)] : Loc) ∧ σ'.Ok w l'' ∧ Rep l'' ns (((sc p).take j).foldl decS (setNp Dn.1 p (-2), Dn.2)).1 sc ∧ StrsAre its''.toList (((sc p).take j).foldl decS (setNp Dn.1 p (-2), Dn.2)).2 ∧ ∃ r ∈ l'', r.ls = n.ls ∧ r.sc = n.sc ∧ r.cnt = n.cnt)
      ⟨_, its', c', rfl, rfl, Oc, Pc, S₇, ⟨{ n with np := -2, tp := 545 }, by simp, rfl, rfl, rfl⟩⟩ ⟨listOf n.sc n.cnt, fun j m₁ own₁ s₁ _ hJ z => ?_⟩ ?_ ?_
    · obtain ⟨l'', its'', c'', rfl, _, _, _, _, hr⟩ := hJ
      exact (z.N _ (nMem (q := n) hr)).1
    · rintro j v m₁ own₁ s₈ I2 oI2 hj hv2 ⟨l'', its'', c'', rfl, rfl, O₈, P₈, S₈, hr⟩ xe
      have hsn : StrsAre n.sc.toList (sc p) := by rw [← hn]; exact (P₇.at_ n (by simp)).2
      obtain ⟨x, tx, hx, rfl⟩ := strs_at hsn (by simpa using hv2)
      have hxm : x ∈ sc p := List.mem_of_getElem? hx
      have e2 : (sc p).take (j + 1) = (sc p).take j ++ [x] := by rw [List.take_add_one, hx]; rfl
      generalize hst : ((sc p).take j).foldl decS (setNp Dn.1 p (-2), Dn.2) = st at P₈ S₈
      have hstl : st.2.length ≤ 1000 + 1000 * 1000 + 1000 := by
        have h1 := decSs_len ((sc p).take j) (setNp Dn.1 p (-2), Dn.2)
        rw [hst, List.length_take] at h1
        have h2 := hz3 p
        have h3 : (setNp Dn.1 p (-2), Dn.2).2.length = Dn.2.length := rfl
        omega
      have xf := xe.perm (own' := σ'.own w.params l'' ++ [(R, listOf its'' c''), (I2, oI2), (I, oI), (T, tupO vs.toArray)]) ((List.perm_middle (l₁ := σ'.own w.params l'') (l₂ := [(R, listOf its'' c''), (I, oI), (T, tupO vs.toArray)])).symm.trans (List.Perm.append_left _ (List.Perm.swap _ _ _)))
      obtain ⟨pre2, q, post2, rfl, hq⟩ := rep_split P₈ (hsc p hpm x hxm).1
      refine wpAny_execs_cons (wpAny_Assign_Name (Subscript_ (eL xf rfl rfl rfl (eL xf rfl rfl rfl (sItem xf O₈ hq (sL (xf.tok _) rfl rfl fun s₉ xg => ?_))))))
      refine wpAny_execs_cons (wpAny_AugAssign_AttributeAny (eL xg rfl rfl rfl (nGetNp xg C₁ (eInt fun t10 k10 => isub_int (nSetNp (xg.tok _) C₁ fun s₁₁ xh => ?_)))))
      have hqn : q.np + -1 = st.1 x + -1 := by rw [(P₈.at_ q (by simp)).1, hq]
      have Ph := fun tp => P₈.upd (n' := { q with np := q.np - 1, tp := tp }) (np' := addNp st.1 x (-1)) (sc' := sc) O₈.nodup rfl (fun z hz => ⟨by unfold addNp; rw [if_neg (by rw [← hq]; exact hz)], rfl⟩) ⟨by unfold addNp; rw [if_pos hq, hq]; show q.np - 1 = _; omega, (P₈.at_ q (by simp)).2⟩
      have Oh := fun tp => O₈.upd (n' := { q with np := q.np - 1, tp := tp }) rfl rfl
      have hrh := fun tp => nSame (n' := { q with np := q.np - 1, tp := tp }) hr rfl rfl rfl
      have hnew : decS st x = (addNp st.1 x (-1), if q.np - 1 = 0 then st.2 ++ [x] else st.2) := by
        unfold decS
        have : addNp st.1 x (-1) x = q.np - 1 := by unfold addNp; rw [if_pos rfl]; omega
        rw [this]
      refine wpAny_execs_cons (wpAny_If (wpAny_isTrue_Compare1 (Attribute_Name_ (eL xh rfl rfl rfl (nGetNp (n := { q with np := q.np - 1, tp := _ }) xh C₁ (eInt fun t12 k12 => eq_int (wpAny_truthy_bool ?_)))))))
      have xi := xh.tok k12
      by_cases h0 : q.np - 1 = 0
      · rw [if_pos (by simpa using h0)]
        refine wpAny_execs_cons (wpAny_Expr (eM (Attribute_Name_ (eL xi rfl rfl rfl (sGetRd xi C₁ hrd' rfl (mAppend (its := its'') (k := c'') (xi.tok _) (by simp) (cB (aC (eL (xi.tok _) rfl rfl rfl (aN (fAppend (xi.tok _) (fun s₁₃ xj => ?_) ?_)))))))))))
        · refine wpAny_execs_nil (wpAny_execs_nil ?_)
          refine ⟨_, _, ⟨_, _, _, rfl, rfl, Oh _, ?_, ?_, hrh _⟩, (xj.weak (of_lk rfl)).perm ((List.Perm.append_left _ (List.Perm.swap _ _ _)).trans List.perm_middle)⟩
          · rw [e2, List.foldl_append, hst]
            show Rep _ ns (decS st x).1 sc
            rw [hnew]
            exact Ph _
          · rw [e2, List.foldl_append, hst]
            show StrsAre _ (decS st x).2
            rw [hnew, if_pos h0]
            exact strs_push S₈
        · have := S₈.length
          rw [Array.length_toList] at this
          show _ ≤ 16777216
          omega
      · rw [if_neg (by simpa using h0)]
        refine wpAny_execs_nil (wpAny_execs_nil ?_)
        refine ⟨_, _, ⟨_, _, _, rfl, rfl, Oh _, ?_, ?_, hrh _⟩, (xi.weak (of_lk rfl)).perm ((List.Perm.append_left _ (List.Perm.swap _ _ _)).trans List.perm_middle)⟩
        · rw [e2, List.foldl_append, hst]
          show Rep _ ns (decS st x).1 sc
          rw [hnew]
          exact Ph _
        · rw [e2, List.foldl_append, hst]
          show StrsAre _ (decS st x).2
          rw [hnew, if_neg h0]
          exact S₈
    · rintro m₁ own₁ s₈ ⟨l'', its'', c'', rfl, rfl, O₈, P₈, S₈, hr⟩ xe
      have e2 : (sc p).take n.sc.size = sc p := by
        have hsn : StrsAre n.sc.toList (sc p) := by rw [← hn]; exact (P₇.at_ n (by simp)).2
        rw [← Array.length_toList, hsn.length]; exact List.take_length
      have e2' : (sc p).take ({ n with np := -2, tp := 545 } : Nd).sc.size = sc p := e2
      rw [e2'] at P₈ S₈
      refine wpAny_execs_cons (wpAny_AugAssign_AttributeAny (eL xe rfl rfl rfl (sGetNf xe C₁ (eInt fun t10 k10 => iadd_int (sSetNf (xe.tok _) C₁ fun s₁₁ xh => wpAny_execs_nil ?_)))))
      have e3 : doneAll sc (np, ys) (rs.take (i + 1)) = (sc p).foldl decS (setNp Dn.1 p (-2), Dn.2) := by
        rw [e1, doneAll, List.foldl_append]
        show doneOne sc (doneAll sc (np, ys) (rs.take i)) p = _
        rw [hDn]; rfl
      refine ⟨_, _, ⟨l'', its'', c'', ?gtn, rfl, rfl, ?gO, ?gP, ?gS⟩, ?gF⟩
      case gF =>
        subst hσ
        have xh := xh.weak (l' := [("self", .ref σ.X), ("nodes", .ref T), ("n2i", .ref σ.D)]) (of_lk rfl)
        have e4 : σ.nf + ((i + 1 : Nat) : Int) = σ.nf + (i : Int) + 1 := by omega
        rw [e4]
        have xk := xh.perm ((List.Perm.append_left _ (List.Perm.swap (I, oI) (R, listOf its'' c'') [(T, tupO vs.toArray)])).trans (List.perm_middle (a := (I, oI)) (l₂ := [(R, listOf its'' c''), (T, tupO vs.toArray)])))
        exact xk
      case gO => subst hσ; exact ⟨O₈.lo, O₈.hd⟩
      case gP => rw [e3]; exact P₈
      case gS => rw [e3]; exact S₈
  · rintro m₁ own₁ s₇ ⟨l', its', c', tn, rfl, rfl, O₇, P₇, S₇⟩ x₇
    have e1 : rs.take vs.toArray.size = rs := by
      rw [List.size_toArray, hvl]; exact List.take_length
    have e2 : (vs.toArray.size : Int) = (rs.length : Int) := by rw [List.size_toArray, hvl]
    rw [e1] at P₇ S₇
    rw [e2] at O₇ x₇
    refine wpAny_execs_nil ?_
    have x₈ := x₇.less (own' := ({ σ with nf := σ.nf + (rs.length : Int), tnf := tn } : So).own w.params l' ++ [(R, listOf its' c')]) (List.Sublist.append_left (List.Sublist.cons_cons _ (List.nil_sublist _)) _)
    exact h _ l' its' c' tn P₇ S₇ O₇ (y.goO x₈.aftO)
end
end Mine
end -- P6
section -- K1
set_option maxRecDepth 100000
set_option maxHeartbeats 1000000
namespace Mine
section
variable {w : World} {A : Around} {s s₀ : Shared} {E : Value → Shared → Prop} {L d : Addr} {m : Loc} {own pre post rest : List (Addr × Obj)} {env : Env}
theorem fNewSet {Q : Value → Shared → Prop} (y : Fm s₀ L m own s) (h : ∀ s' S o, Fm s₀ L m ((S, o) :: own) s' → o.SetObjOf (strKind pw w) (fun _ => false) 0 → Q (.ref S) s') : wpAny (MM w) A (call (.type "set") []) Q E s :=
  call_set_0 fun led => h _ _ _ (y.push _) (setObjOf_fresh led)
theorem setIn {Q : Value → Shared → Prop} {k : Str} {t : Tok} {o : Obj} {S : Str → Bool} {n : Nat} (y : Fm s₀ L m own s) (hp : (d, o) ∈ own) (hs : o.SetObjOf (strKind pw w) S n) (hn : n < 4000) (h : Q (.bool (S k)) { s with toks := s.toks + 1 }) :
    wpAny (MM w) A (compareOp .In (.str k t) (.ref d)) Q E s := wpAny_inSet_of (strKind_is _ _ _ _) rfl (hs.setOf (y.N _ hp).1 (by show n < 4096; omega)) h
theorem mAdd {pl : Sem Bool} {Q : Value × List Value → Shared → Prop} {o : Obj} {S : Str → Bool} {n : Nat} (y : Fm s₀ L m own s) (hp : (d, o) ∈ own) (hs : o.SetObjOf (strKind pw w) S n) (hn : n < 4000) (h : Q (.builtin "set.add", [.ref d]) s) :
    wpAny (MM w) A (getMethod (.ref d) "add" pl) Q E s := getMethod_set_add (hs.setOf (y.N _ hp).1 (by show n < 4096; omega)) h
theorem setAdd {Q : Value → Shared → Prop} {k : Str} {t : Tok} {o : Obj} {S : Str → Bool} {n : Nat} (y : Fm s₀ L m (pre ++ (d, o) :: post) s) (hs : o.SetObjOf (strKind pw w) S n) (hn : n < 4000)
    (h : ∀ s' o', Fm s₀ L m (pre ++ (d, o') :: post) s' → o'.SetObjOf (strKind pw w) (fun k' => S k' || decide (k' = k)) (if S k then n else n + 1) → Q .none s') :
    wpAny (MM w) A (call (.builtin "set.add") [.ref d, .str k t]) Q E s := by
  refine call_set_add (strKind_is _ _ _ _) rfl (hs.setOf (y.N (d, o) (by simp)).1 (by show n < 4096; omega)) (by show n + 1 < 4096; omega) fun h' hsb hS => ?_
  obtain ⟨o', ho', hso⟩ := hS.objOf
  exact h _ o' (y.upd (tk := s.toks + 1) hsb.extBut ho') hso
theorem mPop {pl : Sem Bool} {Q : Value × List Value → Shared → Prop} {D : Addr} {its : Array Value} {k : Nat} (y : Fm s₀ L m own s) (hm : (D, listOf its k) ∈ own) (h : Q (.builtin "list.pop", [.ref D]) s) : wpAny (MM w) A (getMethod (.ref D) "pop" pl) Q E s :=
  listMethod_K y.N hm PySem.F.slot_list_pop PySem.F.type_list_pop h
theorem fPop {p : List Value} {v : Value} {D : Addr} {n : Nat} {Q : Value → Shared → Prop} (y : Fm s₀ L m (pre ++ (D, listOf (p ++ [v]).toArray n) :: post) s) (hz : p.length ≤ 10000) (h : ∀ s', Fm s₀ L m (pre ++ (D, listOf p.toArray (n + 1)) :: post) s' → Q v s') :
    wpAny (MM w) A (call (.builtin "list.pop") [.ref D]) Q E s := by
  have z := (y.N (D, listOf (p ++ [v]).toArray n) (by simp)).1
  have hz' : (p ++ [v]).toArray.size ≤ sizeLine := by rw [List.size_toArray, List.length_append]; show _ ≤ 16777216; simp; omega
  have hk : (p ++ [v]).toArray.size - 1 = p.length := by rw [List.size_toArray, List.length_append]; rfl
  have hy : (p ++ [v]).toArray[(p ++ [v]).toArray.size - 1]? = some v := by rw [hk]; simp
  refine call_meets PySem.F.slot_list_pop ⟨_, z, rfl⟩ PySem.F.entry_list_pop (PySem.F.args_list_pop_1 _) (PySem.MeetsSeq.list_pop_last D _ n v hy hz') ⟨z, ?_⟩
  have q := PySem.IsL.update z (fun xs => xs.eraseIdxIfInBounds ((p ++ [v]).toArray.size - 1))
  rw [hk, kl_erase, List.append_nil, if_neg (by simp)] at q
  refine h _ (y.upd (tk := s.toks) (Heap.SameBut.extBut (Heap.SameBut.update ..)) ?_)
  rw [hk]
  exact q
theorem fIter {l : Addr} {its : Array Value} {Q : Value → Shared → Prop} (y : Fm s₀ L m own s) (hl : s.heap.IsList l its) (h : ∀ s' it, Fm s₀ L m ((it, liO l 0) :: own) s' → Q (.ref it) s') : wpAny (MM w) A (call (.builtin "iter") [.ref l]) Q E s := by
  refine Calls.call_function_entry (by decide +kernel) (by decide +kernel) kdk_entry_iter (kdk_args_iter _) ?_
  unfold Builtin.«iter»
  refine wpAny_bind (m := someArgs "iter" 1 2 _) (wpAny_of_eq (a := [Value.ref l]) (by first | rfl | kernel_rfl!) ?_)
  show wpAny _ _ (pyIter (.ref l) >>= _) _ _ _
  refine wpAny_bind (wpAny_pyIter_list hl ?_)
  exact wpAny_pure ⟨_, rfl, h _ _ (y.push _)⟩
theorem fNext {it : Addr} {l : Addr} {i : Nat} {Q : Value → Shared → Prop} (y : Fm s₀ L m own s) (hm : (it, liO l i) ∈ own) (h : ∀ s' u, Fm s₀ L m ((u, mwO it) :: own) s' → Q (.ref u) s') : wpAny (MM w) A (getAttr (.ref it) "__next__" true) Q E s :=
  getAttr_next (y.N _ hm).1 fun tk => h _ _ ((y.push (mwO it)).tok tk)
theorem eCallSub {o i : Expr} {p pos : Pos} {args : List Expr} {Q : Value → Shared → Prop} (h : wpAny (MM w) A (eval (.Subscript o i p) env) (fun f s₁ => wpAny (MM w) A (callWith pos f [] (backTo pos (starEach args env)) []) Q E s₁) E s)
    (he : eval (.Call (.Subscript o i p) args [] pos) env = (do callWith pos (← eval (.Subscript o i p) env) [] (backTo pos (starEach args env)) []) := by rfl) : wpAny (MM w) A (eval (.Call (.Subscript o i p) args [] pos) env) Q E s := by
  rw [he]
  exact wpAny_bind h
theorem cMw {u it : Addr} {pos : Pos} {Q : Value → Shared → Prop} (hu : s.heap.get? u = some (mwO it)) (h : wpAny (MM w) A (call (.ref u) []) Q E s) : wpAny (MM w) A (callWith pos (.ref u) [] (backTo pos (starEach [] env)) []) Q E s :=
  callWith_of (P := fun h => h.get? u = some (mwO it)) rfl (fun h X => ⟨.machine, .inr (.inl rfl), (Looks.ld (part := none) X).andThen .now⟩) (evalArgs_nil3 ⟨hu, h⟩)
theorem sub_stop_base : isSubtype (.type "StopIteration") (.type "BaseException") = pure true := by rw [isSubtype_type]; kernel_rfl
theorem meta_stop : isSubtype (.type ((Manifest.find? "StopIteration").elim "type" fun x => x.metatype)) (.type "tuple") = pure false := by
  have : (Manifest.find? "StopIteration").elim "type" (fun x => x.metatype) = "type" := by decide +kernel
  rw [this, isSubtype_type]; kernel_rfl
theorem stopTry {outer : List Env} {frs : List (Addr × Obj)} {it l : Addr} {i : Nat} {h' : Heap} {e : Addr} {x : Str} {px : Pos} {b₀ : Stmt} {suite : List Stmt} {Q : Flow → Shared → Prop} {ep : Pos} (hfr : A.frames = some (env :: outer)) (hf : env.frame = some env.locals) (hk : env.scope.kind = .function) (Fk : FrsOk outer frs)
    (y : Fm s₀ env.locals m (pre ++ (it, liO l i) :: (post ++ frs)) s) (C₀ : Cx w s₀.heap) (st : StopAt s.heap h' it e) (hx : env.kindOf x = some .globalImplicit) (hxs : x = "StopIteration") (hg : env.globals = 3) (hb : env.builtins = 0)
    (h : ∀ s' frs', SameUp frs frs' → Fm s₀ env.locals m (pre ++ (post ++ frs')) s' → wpAny (MM w) (A.mark (some (.ref e))) (execs (b₀ :: suite) env) Q (notedBy (MM w) (A.mark (some (.ref e))) env (cameBackBy (MM w) A env E)) s') :
    wpAny (MM w) A (noteFrame (.ref e) env) (fun _ s₂ => wpAny (MM w) A (setFlight (.ref e) none) (fun _ s₃ => wpAny (MM w) A (handleBy (.ref e) env [.ExceptHandler (some (.Name x px)) none (b₀ :: suite) ep]) Q E s₃) E s₂) E { s with heap := h' } := by
  obtain ⟨ob, t, hob, hcl, vs, hd, h0, h1⟩ := st.there
  obtain ⟨i', hit⟩ := st.li
  have y₁ : Fm s₀ env.locals m (pre ++ (it, _) :: (post ++ frs)) { s with heap := h' } := y.upd (tk := s.toks) (fun b o hb eq => st.keep b o hb eq) hit
  have y₂ : Fm s₀ env.locals m (pre ++ (post ++ frs)) { s with heap := h' } := y₁.less (by simp)
  have y₃ : Fm s₀ env.locals m ((e, ob) :: (pre ++ (post ++ frs))) { s with heap := h' } := by
    obtain ⟨mm, F, hm⟩ := y₂.loc
    obtain ⟨mm', F', hm'⟩ := y.loc
    obtain ⟨oL, _, _, hL, _⟩ := F'.ns
    refine ⟨y₂.same, y₂.loc, fun p hp => ?_, ?_⟩
    · rcases List.mem_cons.mp hp with rfl | hp
      · refine ⟨hob, fun q => ?_, ?_⟩
        · have := st.new
          have q' : e = env.locals := q
          rw [q', hL] at this; cases this
        · cases hq : s₀.heap.get? e with
          | none => rfl
          | some o => have := y.keep _ _ hq; rw [st.new] at this; cases this
      · exact y₂.N p hp
    · rw [List.map_cons, List.nodup_cons]
      refine ⟨fun hm => ?_, y₂.nd⟩
      obtain ⟨p, hp, q⟩ := List.mem_map.mp hm
      have hp2 : p ∈ pre ++ (it, liO l i) :: (post ++ frs) := by
        rcases List.mem_append.mp hp with hp | hp
        · exact List.mem_append_left _ hp
        · exact List.mem_append_right _ (.tail _ hp)
      have z := (y.N p hp2).1
      have q' : p.1 = e := q
      rw [q', st.new] at z; cases z
  have y₃' : Fm s₀ env.locals m ((e, ob) :: ((pre ++ post) ++ frs)) { s with heap := h' } := by rw [List.append_assoc]; exact y₃
  refine noteFm hfr hf hk y₃' Fk hd h0 h1 fun s₂ ob' vs' T oT ts frs' SU hcl' hd' h1' hdt hsz y₄ => ?_
  refine flyFm y₄ hd' h1' hdt hsz fun s₃ oT' ts' hdt' hsz' y₅ => ?_
  have hcls : ob'.cls = .type "StopIteration" := hcl'.trans hcl
  subst hxs
  refine wpAny_handleBy_builtin (X := "StopIteration") (T := "StopIteration") (b := true) sub_stop_base meta_stop isSubtype_stop (eB (C₀.up y₅.keep) 25 12 hk hx hg hb rfl rfl ⟨rfl, ⟨_, (y₅.N (e, ob') (.tail _ (.head _))).1, hcls⟩, ?_⟩)
  rw [if_pos rfl]
  refine flyFm y₅ hd' h1' hdt' hsz' fun s₄ oT'' ts'' hdt'' hsz'' y₆ => ?_
  refine h s₄ frs' SU ?_
  rw [← List.append_assoc]
  exact y₆.less (by simp)
end
end Mine
end -- K1
section -- K2
set_option maxRecDepth 100000
set_option maxHeartbeats 1000000
namespace Mine
structure Sf where
  nm : Str
  t : Tok
  it : Addr
  mw : Addr
  ls : Addr
  items : Array Value
  cnt : Nat
  pos : Nat
def Sf.own (f : Sf) : List (Addr × Obj) := [(f.mw, mwO f.it), (f.it, liO f.ls f.pos)]
structure Fc where
  stk : List Sf
  seen : List Str
  c1 : Nat
  c2 : Nat
  oS : Obj
  o4 : Obj
  kvs : List (Str × Value)
def vS (f : Sf) : Value := .str f.nm f.t
def vM (f : Sf) : Value := .ref f.mw
structure Ad where
  a1 : Addr
  a2 : Addr
  a3 : Addr
  a4 : Addr
def lay (a : Ad) (st : Fc) (tl : List (Addr × Obj)) : List (Addr × Obj) :=
  (a.a1, listOf (st.stk.map vS).toArray st.c1) :: (a.a2, listOf (st.stk.map vM).toArray st.c2) :: (a.a3, st.oS) :: (a.a4, st.o4) :: (st.stk.flatMap Sf.own ++ tl)
structure FInv (w : World) (l : List Nd) (ns : List Str) (rank : Str → Nat) (st : Fc) : Prop where
  hS : ∃ S, st.oS.SetObjOf (strKind pw w) S st.seen.length ∧ ∀ k, S k = true ↔ k ∈ st.seen
  sn : st.seen.Nodup
  ss : ∀ x ∈ st.seen, x ∈ ns
  h4 : st.o4.IsDictOf (strKind pw w) st.kvs
  hk : st.kvs.map (·.1) = st.stk.map (·.nm)
  pw : st.stk.Pairwise (fun f g => rank f.nm < rank g.nm)
  fr : ∀ f ∈ st.stk, f.nm ∈ ns ∧ ∃ n ∈ l, n.nm = f.nm ∧ f.ls = n.ls ∧ f.items = n.sc ∧ f.cnt = n.cnt ∧ f.pos ≤ n.sc.size
def mu (ns : List Str) (sc : Str → List Str) (st : Fc) : Nat := ((ns.filter fun x => decide (x ∉ st.seen)).map fun x => (sc x).length + 2).sum + (st.stk.map fun f => f.items.size - f.pos + 1).sum
theorem nodup_len : ∀ (a b : List Str), a.Nodup → (∀ x ∈ a, x ∈ b) → a.length ≤ b.length
  | [], b, _, _ => Nat.zero_le _
  | x :: a, b, h, k => by
    rw [List.nodup_cons] at h
    have ih := nodup_len a (b.erase x) h.2 fun y hy => (List.mem_erase_of_ne (fun (e : y = x) => h.1 (by rw [← e]; exact hy))).mpr (k y (.tail _ hy))
    have hx := k x (.head _)
    rw [List.length_erase_of_mem hx] at ih
    have : 0 < b.length := List.length_pos_of_mem hx
    simp only [List.length_cons]
    omega
theorem sum_split (g : Str → Nat) (x : Str) : ∀ (ns : List Str) (p q : Str → Bool), ns.Nodup → x ∈ ns → p x = true → q x = false → (∀ y, y ≠ x → p y = q y) → ((ns.filter p).map g).sum = ((ns.filter q).map g).sum + g x
  | [], _, _, _, h, _, _, _ => nomatch h
  | y :: ns, p, q, nd, h, hp, hq, hpq => by
    rw [List.nodup_cons] at nd
    rcases List.mem_cons.mp h with rfl | h
    · have e : ns.filter p = ns.filter q := List.filter_congr fun z hz => hpq z fun e => nd.1 (e ▸ hz)
      rw [List.filter_cons_of_pos hp, List.filter_cons_of_neg (by rw [hq]; decide), e, List.map_cons, List.sum_cons]
      omega
    · have hne : y ≠ x := fun e => nd.1 (e ▸ h)
      have ih := sum_split g x ns p q nd.2 h hp hq hpq
      have e := hpq y hne
      cases hy : p y with
      | true =>
        rw [List.filter_cons_of_pos hy, List.filter_cons_of_pos (by rw [← e]; exact hy), List.map_cons, List.sum_cons, List.map_cons, List.sum_cons, ih]
        omega
      | false =>
        rw [List.filter_cons_of_neg (by rw [hy]; decide), List.filter_cons_of_neg (by rw [← e, hy]; decide), ih]
section
variable {w : World} {l : List Nd} {ns : List Str} {rank : Str → Nat} {st : Fc} {sc : Str → List Str}
theorem FInv.stkLen (I : FInv w l ns rank st) : st.stk.length ≤ ns.length := by
  have h := nodup_len (st.stk.map (·.nm)) ns (by
    rw [List.nodup_iff_pairwise_ne, List.pairwise_map]
    exact I.pw.imp fun h e => by rw [e] at h; exact Nat.lt_irrefl _ h) fun x hx => by
      obtain ⟨f, hf, rfl⟩ := List.mem_map.mp hx
      exact (I.fr f hf).1
  rwa [List.length_map] at h
theorem FInv.seenLen (I : FInv w l ns rank st) : st.seen.length ≤ ns.length := nodup_len _ _ I.sn I.ss
theorem FInv.kvsLen (I : FInv w l ns rank st) : st.kvs.length ≤ ns.length := by
  have := congrArg List.length I.hk
  rw [List.length_map, List.length_map] at this
  rw [this]; exact I.stkLen
theorem valueAt_none {kvs : List (Str × Value)} {k : Str} (h : k ∉ kvs.map (·.1)) : valueAt kvs k = none := by
  unfold valueAt
  rw [List.find?_eq_none.mpr]
  · rfl
  · intro p hp
    simp only [decide_eq_true_eq]
    exact fun e => h (List.mem_map.mpr ⟨p, hp, e⟩)
theorem valueAt_some {kvs : List (Str × Value)} {k : Str} (h : k ∈ kvs.map (·.1)) : (valueAt kvs k).isSome = true := by
  unfold valueAt
  rw [Option.isSome_map, List.find?_isSome]
  obtain ⟨p, hp, e⟩ := List.mem_map.mp h
  exact ⟨p, hp, by simpa using e⟩
theorem stored_new {kvs : List (Str × Value)} {k : Str} {v : Value} (h : k ∉ kvs.map (·.1)) : stored kvs k v = kvs ++ [(k, v)] := by
  unfold stored
  rw [if_neg]
  simp only [List.any_eq_true, not_exists, decide_eq_true_eq]
  rintro p ⟨hp, e⟩
  exact h (List.mem_map.mpr ⟨p, hp, e⟩)
theorem without_last {kvs : List (Str × Value)} {a : List Str} {k : Str} (h : kvs.map (·.1) = a ++ [k]) (hk : k ∉ a) : (without kvs k).map (·.1) = a := by
  have e : (without kvs k).map (·.1) = (kvs.map (·.1)).filter fun x => decide (x ≠ k) := by
    unfold without
    rw [List.filter_map]
    rfl
  rw [e, h, List.filter_append]
  have : a.filter (fun x => decide (x ≠ k)) = a := List.filter_eq_self.mpr fun x hx => by
    simp only [decide_eq_true_eq]
    exact fun e => hk (e ▸ hx)
  rw [this]
  simp
theorem mu_push {nd : Str} {f : Sf} {c1 c2 : Nat} {oS o4 : Obj} {kvs : List (Str × Value)} (hn : ns.Nodup) (h1 : nd ∈ ns) (h2 : nd ∉ st.seen) (h3 : f.items.size = (sc nd).length) (h4 : f.pos = 0) :
    mu ns sc ⟨st.stk ++ [f], st.seen ++ [nd], c1, c2, oS, o4, kvs⟩ + 1 = mu ns sc st := by
  unfold mu
  have e := sum_split (fun x => (sc x).length + 2) nd ns (fun x => decide (x ∉ st.seen)) (fun x => decide (x ∉ st.seen ++ [nd])) hn h1 (by simpa using h2) (by simp) (fun y hy => by simp [hy])
  rw [e]
  simp only [List.map_append, List.sum_append, List.map_cons, List.map_nil, List.sum_cons, List.sum_nil]
  rw [h3, h4]
  omega
theorem mu_next {st' : List Sf} {f : Sf} {c1 c2 c1' c2' : Nat} {oS o4 oS' o4' : Obj} {kvs kvs' : List (Str × Value)} {seen : List Str} (h : f.pos < f.items.size) :
    mu ns sc ⟨st' ++ [{ f with pos := f.pos + 1 }], seen, c1', c2', oS', o4', kvs'⟩ < mu ns sc ⟨st' ++ [f], seen, c1, c2, oS, o4, kvs⟩ := by
  unfold mu
  simp only [List.map_append, List.sum_append, List.map_cons, List.map_nil, List.sum_cons, List.sum_nil]
  omega
theorem mu_pop {st' : List Sf} {f : Sf} {c1 c2 c1' c2' : Nat} {oS o4 oS' o4' : Obj} {kvs kvs' : List (Str × Value)} {seen : List Str} :
    mu ns sc ⟨st', seen, c1', c2', oS', o4', kvs'⟩ < mu ns sc ⟨st' ++ [f], seen, c1, c2, oS, o4, kvs⟩ := by
  unfold mu
  simp only [List.map_append, List.sum_append, List.map_cons, List.map_nil, List.sum_cons, List.sum_nil]
  omega
theorem lay_snoc {a : Ad} {st' : List Sf} {f : Sf} {seen : List Str} {c1 c2 : Nat} {oS o4 : Obj} {kvs : List (Str × Value)} {tl : List (Addr × Obj)} :
    lay a ⟨st' ++ [f], seen, c1, c2, oS, o4, kvs⟩ tl = ((a.a1, listOf ((st'.map vS) ++ [vS f]).toArray c1) :: (a.a2, listOf ((st'.map vM) ++ [vM f]).toArray c2) :: (a.a3, oS) :: (a.a4, o4) :: (st'.flatMap Sf.own ++ [(f.mw, mwO f.it)])) ++ (f.it, liO f.ls f.pos) :: tl := by
  simp [lay, Sf.own, List.flatMap_append]
end
end Mine
end -- K2
section -- K3
set_option maxRecDepth 100000
set_option maxHeartbeats 2000000
namespace Mine
theorem lay_snoc2 {a : Ad} {stk : List Sf} {f : Sf} {seen : List Str} {c1 c2 : Nat} {oS o4 : Obj} {kvs : List (Str × Value)} {tl : List (Addr × Obj)} :
    lay a ⟨stk ++ [f], seen, c1, c2, oS, o4, kvs⟩ tl = (a.a1, listOf ((stk.map vS).toArray.push (vS f)) c1) :: (a.a2, listOf ((stk.map vM).toArray.push (vM f)) c2) :: (a.a3, oS) :: (a.a4, o4) :: ((stk.flatMap Sf.own ++ [(f.mw, mwO f.it), (f.it, liO f.ls f.pos)]) ++ tl) := by
  simp [lay, Sf.own, List.flatMap_append]
theorem FInv.adv {w : World} {l : List Nd} {ns : List Str} {rank : Str → Nat} {st' : List Sf} {f : Sf} {seen : List Str} {c1 c2 : Nat} {oS o4 : Obj} {kvs : List (Str × Value)} (I : FInv w l ns rank ⟨st' ++ [f], seen, c1, c2, oS, o4, kvs⟩) (h : f.pos < f.items.size) :
    FInv w l ns rank ⟨st' ++ [{ f with pos := f.pos + 1 }], seen, c1, c2, oS, o4, kvs⟩ := by
  have pw := I.pw
  have hk := I.hk
  refine ⟨I.hS, I.sn, I.ss, I.h4, ?_, ?_, fun g hg => ?_⟩
  · show kvs.map (·.1) = (st' ++ [{ f with pos := f.pos + 1 }]).map (fun f : Sf => f.nm)
    have hk : kvs.map (·.1) = (st' ++ [f]).map (fun f : Sf => f.nm) := hk
    rw [hk, List.map_append, List.map_append]
    rfl
  · show (st' ++ [{ f with pos := f.pos + 1 }]).Pairwise _
    have pw : (st' ++ [f]).Pairwise (fun f g => rank f.nm < rank g.nm) := pw
    rw [List.pairwise_append] at pw ⊢
    exact ⟨pw.1, List.pairwise_singleton _ _, fun a ha b hb => by rw [List.mem_singleton.mp hb]; exact pw.2.2 a ha f (by simp)⟩
  · rcases List.mem_append.mp hg with hg | hg
    · exact I.fr g (List.mem_append_left _ hg)
    · rw [List.mem_singleton.mp hg]
      obtain ⟨a, n, hn, h1, h2, h3, h4, h5⟩ := I.fr f (by simp)
      exact ⟨a, n, hn, h1, h2, h3, h4, by rw [← h3]; exact h⟩
theorem FInv.pop {w : World} {l : List Nd} {ns : List Str} {rank : Str → Nat} {st' : List Sf} {f : Sf} {seen : List Str} {c1 c2 c1' c2' : Nat} {oS o4 o4' : Obj} {kvs kvs' : List (Str × Value)} (I : FInv w l ns rank ⟨st' ++ [f], seen, c1, c2, oS, o4, kvs⟩) (h4 : o4'.IsDictOf (strKind Mine.pw w) kvs') (hk : kvs'.map (·.1) = st'.map (fun f : Sf => f.nm)) :
    FInv w l ns rank ⟨st', seen, c1', c2', oS, o4', kvs'⟩ := by
  have pw : (st' ++ [f]).Pairwise (fun f g => rank f.nm < rank g.nm) := I.pw
  rw [List.pairwise_append] at pw
  exact ⟨I.hS, I.sn, I.ss, h4, hk, pw.1, fun g hg => I.fr g (List.mem_append_left _ hg)⟩
theorem FInv.top {w : World} {l : List Nd} {ns : List Str} {rank : Str → Nat} {st' : List Sf} {f : Sf} {seen : List Str} {c1 c2 : Nat} {oS o4 : Obj} {kvs : List (Str × Value)} (I : FInv w l ns rank ⟨st' ++ [f], seen, c1, c2, oS, o4, kvs⟩) : ∀ g ∈ st', rank g.nm < rank f.nm := by
  have pw : (st' ++ [f]).Pairwise (fun f g => rank f.nm < rank g.nm) := I.pw
  rw [List.pairwise_append] at pw
  exact fun g hg => pw.2.2 g hg f (by simp)
section
variable {w : World} {A : Around} {s : Shared} {l : List Nd} {σ : So} {ns : List Str} {np : Str → Int} {sc : Str → List Str} {rank : Str → Nat} {frs : List (Addr × Obj)} {outer : List Env}
theorem fc_code {R : Result → Shared → Prop} (O₀ : Owns s.heap (σ.own w.params l ++ frs)) (C₀ : Cx w (hid s (σ.own w.params l ++ frs)).heap) (hfr : A.frames = some outer) (Fk : FrsOk outer frs) (hd : Rm A 3) (O : σ.Ok w l) (P : Rep l ns np sc)
    (hr : ∀ x ∈ ns, ∀ y ∈ sc x, y ∈ ns ∧ rank x < rank y) (hsz : ns.length ≤ 1000) (hz3 : ∀ x, (sc x).length ≤ 1000)
    (h : ∀ s' frs', SameUp frs frs' → AfterO s (σ.own w.params l ++ frs) s' (σ.own w.params l ++ frs') → R (.ok (.ret .none)) s') :
    codeAny (MM w) A (.call (.ref 189) ⟨[.ref σ.X], []⟩) R s := by
  refine codeFO (fd := fdCyc) [("self", .ref σ.X)] 13 C₀ O₀ (hd.le (by omega)) rfl rfl rfl rfl rfl rfl fun s₁ x₁ => ?_
  have hD : Rm (A.deeper (callEnv fdCyc s.heap.objs.size 189)) 2 := hd.deep
  have hF : (A.deeper (callEnv fdCyc s.heap.objs.size 189)).frames = some (callEnv fdCyc s.heap.objs.size 189 :: outer) := Around.frames_deeper hfr
  generalize hA : A.deeper (callEnv fdCyc s.heap.objs.size 189) = A' at hD hF ⊢
  show wpAny _ _ (execs [_, _, _, _, _, _, _] _) _ _ _
  generalize hB : σ.own w.params l = B at x₁ h C₀ ⊢
  have hsub : ∀ q ∈ σ.own w.params l, q ∈ B := fun q hq => by rw [← hB]; exact hq
  have hnd : ns.Nodup := by rw [← P.nms]; exact O.nodup
  have hlen : l.length = ns.length := by rw [← P.nms, List.length_map]
  refine wpAny_execs_cons (wpAny_Assign_Name (Attribute_Name_ (eL x₁ rfl rfl rfl (fGetAttr x₁ C₀ (So.inst (σ := σ) (l := l) x₁ (fun q hq => List.mem_append_left _ (hsub q hq))) rfl rfl rfl rfl rfl rfl (sL (x₁.tok _) rfl rfl fun s₂ x₂ => ?_)))))
  refine wpAny_execs_cons (wpAny_Assign_Name (fNewList x₂ fun s₃ a1 x₃ => sL x₃ rfl rfl fun s₄ x₄ => ?_))
  refine wpAny_execs_cons (wpAny_Assign_Name (fNewList x₄ fun s₅ a2 x₅ => sL x₅ rfl rfl fun s₆ x₆ => ?_))
  refine wpAny_execs_cons (wpAny_Assign_Name (eCall (eB (C₀.up x₆.keep) 23 10 rfl rfl rfl rfl rfl rfl (cT0 (fNewSet x₆ fun s₇ a3 oS x₇ hoS => sL x₇ rfl rfl fun s₈ x₈ => ?_)))))
  refine wpAny_execs_cons (wpAny_Assign_Name (fNewDict x₈ C₀ fun s₉ a4 o4 x₉ lo4 ho4 => sL x₉ rfl rfl fun s₁₀ x₁₀ => ?_))
  have xa := x₁₀.perm (own' := lay ⟨a1, a2, a3, a4⟩ ⟨[], [], 0, 0, oS, o4, []⟩ (B ++ frs)) (List.Perm.append_right (B ++ frs) (List.reverse_perm [(a1, listOf #[] 0), (a2, listOf #[] 0), (a3, oS), (a4, o4)]))
  have I₀ : FInv w l ns rank ⟨[], [], 0, 0, oS, o4, []⟩ := ⟨⟨_, hoS, fun k => by simp⟩, List.nodup_nil, (fun _ h => nomatch h), ho4, rfl, .nil, (fun _ h => nomatch h)⟩
  generalize hM0 : ([("self", .ref σ.X), ("n2i", .ref σ.D), ("stack", .ref a1), ("itstack", .ref a2), ("seen", .ref a3), ("node2stacki", .ref a4)] : Loc) = M0
  have xb := xa.weak (l' := M0) (by subst hM0; exact of_lk rfl)
  generalize ha : (⟨a1, a2, a3, a4⟩ : Ad) = a at xb
  have hBD : (σ.D, σ.od) ∈ B := hsub _ (.head _)
  refine wpAny_execs_cons (wpAny_For (eL xb rfl rfl (by subst hM0; rfl) (forDict PassesOwn.never rfl rfl hD.hh xb (o := σ.od) (kvs := kv l) (by simp [lay, hBD]) O.hd O.lo
    (fun i m₁ own₁ => ∃ st frs', own₁ = lay a st (B ++ frs') ∧ m₁ = M0 ∧ FInv w l ns rank st ∧ st.stk = [] ∧ SameUp frs frs')
    ⟨_, frs, rfl, rfl, I₀, rfl, .refl _⟩ ⟨σ.od, fun i m₁ own₁ s₁ _ hJ z => ?_⟩ ?_ ?_)))
  · obtain ⟨st, frs', rfl, _⟩ := hJ
    exact (z.N (σ.D, σ.od) (by simp [lay, hBD])).1
  · rintro i v m₁ own₁ s₁₁ I oI hi ⟨k, xk, tk, hkv, rfl⟩ ⟨st, frs', rfl, rfl, Iv, hst, SU⟩ xc
    have hkn : k ∈ ns := by
      rw [← P.nms]
      have := List.mem_of_getElem? hkv
      obtain ⟨n, hn, e⟩ := List.mem_map.mp this
      exact List.mem_map.mpr ⟨n, hn, congrArg Prod.fst e⟩
    subst ha
    subst hM0
    have xc := xc.weak (l' := ("node", .str k tk) :: [("self", .ref σ.X), ("n2i", .ref σ.D), ("stack", .ref a1), ("itstack", .ref a2), ("seen", .ref a3), ("node2stacki", .ref a4)]) (of_lk rfl)
    obtain ⟨S, hS1, hS2⟩ := Iv.hS
    refine wpAny_execs_cons (wpAny_If (wpAny_isTrue_Compare1 (eL xc rfl rfl rfl (eL xc rfl rfl rfl (setIn xc (by simp [lay]) hS1 (by have := Iv.seenLen; omega) (wpAny_truthy_bool ?_))))))
    have xd := xc.tok (s₁₁.toks + 1)
    by_cases hks : k ∈ st.seen
    · rw [if_pos ((hS2 k).mpr hks)]
      refine wpAny_execs_cons (wpAny_Continue ?_)
      exact ⟨_, _, ⟨st, frs', rfl, rfl, Iv, hst, SU⟩, xd.weak (of_lk rfl)⟩
    rw [if_neg (fun e => hks ((hS2 k).mp e))]
    refine wpAny_execs_nil ?_
    refine wpAny_execs_cons (wpAny_While (codeAny_whileLoop (fun n s' => ∃ st frs' nd t, mu ns sc st = n ∧ FInv w l ns rank st ∧ SameUp frs frs' ∧ nd ∈ ns ∧ (∀ f ∈ st.stk, rank f.nm < rank nd) ∧
      Fm (hid s (B ++ frs)) s.heap.objs.size [("node", .str nd t), ("self", .ref σ.X), ("n2i", .ref σ.D), ("stack", .ref a1), ("itstack", .ref a2), ("seen", .ref a3), ("node2stacki", .ref a4)] ((I, oI) :: lay ⟨a1, a2, a3, a4⟩ st (B ++ frs')) s') ?_ _ ⟨st, frs', k, tk, rfl, Iv, SU, hkn, by rw [hst]; exact (fun _ h => nomatch h), xd⟩))
    clear xd xc hst hS1 hS2 hks Iv SU
    rintro n s₁₂ ⟨st, frs', nd, t, hmu, Iv, SU, hndn, hrk, xe⟩
    refine wpAny_isTrue_value (wpAny_Constant_bool (wpAny_truthy_bool ?_))
    rw [if_pos rfl]
    refine wpAny_execs_cons (wpAny_mono (Q := fun f s'' => f = .next ∧ ∃ st frs', mu ns sc st ≤ n ∧ FInv w l ns rank st ∧ SameUp frs frs' ∧ Fm (hid s (B ++ frs)) s.heap.objs.size [("self", .ref σ.X), ("n2i", .ref σ.D), ("stack", .ref a1), ("itstack", .ref a2), ("seen", .ref a3), ("node2stacki", .ref a4)] ((I, oI) :: lay ⟨a1, a2, a3, a4⟩ st (B ++ frs')) s'') ?_ (fun f s'' hf => ?_) fun _ _ q => q)
    · obtain ⟨S, hS1, hS2⟩ := Iv.hS
      have hstk : nd ∉ st.stk.map (·.nm) := fun hm => by
        obtain ⟨f, hf, e⟩ := List.mem_map.mp hm
        have := hrk f hf
        rw [e] at this
        exact Nat.lt_irrefl _ this
      have hkv : nd ∉ st.kvs.map (·.1) := by rw [Iv.hk]; exact hstk
      refine wpAny_If (wpAny_isTrue_Compare1 (eL xe rfl rfl rfl (eL xe rfl rfl rfl (setIn xe (by simp [lay]) hS1 (by have := Iv.seenLen; omega) (wpAny_truthy_bool ?_)))))
      have xf := xe.tok (s₁₂.toks + 1)
      by_cases hks : nd ∈ st.seen
      · rw [if_pos ((hS2 nd).mpr hks)]
        refine wpAny_execs_cons (wpAny_If (wpAny_isTrue_Compare1 (eL xf rfl rfl rfl (eL xf rfl rfl rfl (dIn xf (by simp [lay]) Iv.h4 lo4 (wpAny_truthy_bool ?_))))))
        rw [valueAt_none hkv, if_neg (by decide)]
        exact wpAny_execs_nil (wpAny_execs_nil ⟨rfl, st, frs', by omega, Iv, SU, (xf.tok _).weak (of_lk rfl)⟩)
      · rw [if_neg (fun e => hks ((hS2 nd).mp e))]
        refine wpAny_execs_cons (wpAny_Expr (eM (eL xf rfl rfl rfl (mAdd xf (by simp [lay]) hS1 (by have := Iv.seenLen; omega) (cB (aC (eL xf rfl rfl rfl (aN (setAdd (pre := [_, _, _]) xf hS1 (by have := Iv.seenLen; omega) fun s₁₃ oS' xg hS' => ?_)))))))))
        have hSn : S nd = false := by
          cases e : S nd with
          | false => rfl
          | true => exact absurd ((hS2 nd).mp e) hks
        rw [hSn, if_neg (by decide)] at hS'
        obtain ⟨pre, nn, post, hl, hnn⟩ := rep_split P hndn
        have hnm : nn ∈ l := by rw [hl]; simp
        have hxm : ∀ (X : List (Addr × Obj)) q, q ∈ nn.own → q ∈ B → True := fun _ _ _ _ => trivial
        have hnown : ∀ q ∈ nn.own, q ∈ B := fun q hq => hsub q (.tail _ (.tail _ (.tail _ (List.mem_flatMap.mpr ⟨nn, hnm, hq⟩))))
        have hinst : ∀ {mm : Loc} {s' : Shared} {own : List (Addr × Obj)}, Fm (hid s (B ++ frs)) s.heap.objs.size mm own s' → (∀ q ∈ B, q ∈ own) → InstAt s'.heap nn.x nn.obj 102 (some eD) := fun z hz => ⟨(z.N _ (hz _ (hnown (nn.x, nn.obj) (by simp [Nd.own])))).1, rfl, rfl, (z.N _ (hz _ (hnown (nn.dx, eD) (by simp [Nd.own])))).1⟩
        have hval : valueAt (kv l) nd = some (.ref nn.x) := by rw [hl, ← hnn]; exact valueAt_kv (by rw [← hl]; exact O.nodup)
        have hBg : ∀ q ∈ B, q ∈ ((I, oI) :: (a1, listOf (st.stk.map vS).toArray st.c1) :: (a2, listOf (st.stk.map vM).toArray st.c2) :: (a3, oS') :: (a4, st.o4) :: (st.stk.flatMap Sf.own ++ (B ++ frs'))) := fun q hq => by simp [hq]
        have xg : Fm (hid s (B ++ frs)) s.heap.objs.size _ ((I, oI) :: (a1, listOf (st.stk.map vS).toArray st.c1) :: (a2, listOf (st.stk.map vM).toArray st.c2) :: (a3, oS') :: (a4, st.o4) :: (st.stk.flatMap Sf.own ++ (B ++ frs'))) s₁₃ := xg
        refine wpAny_execs_cons (wpAny_Expr (eM (eL xg rfl rfl rfl (mAppend (its := (st.stk.map vM).toArray) (k := st.c2) xg (by simp) (cB (aC (Attribute_any_ (eCall (eB (C₀.up xg.keep) 24 11 rfl rfl rfl rfl rfl rfl (cB (aC (Attribute_any_ (Subscript_ (eL xg rfl rfl rfl (eL xg rfl rfl rfl (dItem (d := σ.D) (o := σ.od) xg (hBg _ hBD) O.hd hval (fGetSlot (p := 105) (i := 2) (v := .ref nn.ls) (xg.tok _) C₀ (hinst (xg.tok _) hBg) rfl rfl rfl rfl rfl rfl rfl rfl ?_)))))))))))))))))
        have xh := (xg.tok (s₁₃.toks + 1)).tok (s₁₃.toks + 1 + 1)
        refine aN (fIter xh ⟨_, (xh.N _ (hBg _ (hnown (nn.ls, listOf nn.sc nn.cnt) (by simp [Nd.own])))).1, rfl, _, rfl⟩ fun s₁₄ it xi => fNext xi (.head _) fun s₁₅ mw xj => aN (fAppend (pre := [_, _, _, _]) xj (fun s₁₆ xk => ?_) ?_))
        · refine wpAny_execs_cons (wpAny_Assign_Subscript (eCall (eB (C₀.up xk.keep) 19 6 rfl rfl rfl rfl rfl rfl (cB (aC (eL xk rfl rfl rfl (aN (len_list ⟨_, (xk.N (a1, listOf (st.stk.map vS).toArray st.c1) (by simp)).1, rfl, _, rfl⟩ (by have := Iv.stkLen; simp; omega) (eL (xk.tok _) rfl rfl rfl (eL (xk.tok _) rfl rfl rfl (dSet (pre := [_, _, _, _, _, _]) (xk.tok _) Iv.h4 (by have := Iv.kvsLen; omega) fun s₁₇ o4' xl h4' => ?_)))))))))))
          obtain ⟨kv4, hk4, h44⟩ : ∃ kv4 : List (Str × Value), kv4.map (·.1) = st.kvs.map (·.1) ++ [nd] ∧ o4'.IsDictOf (strKind pw w) kv4 := ⟨_, by rw [stored_new hkv, List.map_append]; rfl, h4'⟩
          refine wpAny_execs_cons (wpAny_Expr (eM (eL xl rfl rfl rfl (mAppend (its := (st.stk.map vS).toArray) (k := st.c1) xl (by simp) (cB (aC (eL xl rfl rfl rfl (aN (fAppend (pre := [_, _, _]) xl (fun s₁₈ xm => ?_) ?_)))))))))
          · refine wpAny_execs_nil ⟨rfl, ⟨st.stk ++ [⟨nd, t, it, mw, nn.ls, nn.sc, nn.cnt, 0⟩], st.seen ++ [nd], st.c1 + 1, st.c2 + 1, oS', o4', kv4⟩, frs', ?_, ?_, SU, (xm.weak (of_lk rfl)).perm ?_⟩
            · have := mu_push (st := st) (f := ⟨nd, t, it, mw, nn.ls, nn.sc, nn.cnt, 0⟩) (c1 := st.c1 + 1) (c2 := st.c2 + 1) (oS := oS') (o4 := o4') (kvs := kv4) hnd hndn hks (by
                have := (P.at_ nn hnm).2.length
                rw [Array.length_toList, hnn] at this
                exact this) rfl
              show mu ns sc _ ≤ n
              refine Nat.le_trans (Nat.le_of_lt ?_) (Nat.le_of_eq hmu)
              rw [← this]
              exact Nat.lt_succ_self _
            · have hSl : (st.seen ++ [nd]).length = st.seen.length + 1 := by simp
              refine ⟨⟨_, by rw [hSl]; exact hS', fun k' => ?_⟩, ?_, ?_, h44, ?_, ?_, ?_⟩
              · rw [Bool.or_eq_true, hS2 k', decide_eq_true_eq, List.mem_append, List.mem_singleton]
              · rw [List.nodup_append]
                exact ⟨Iv.sn, by simp, fun x hx y hy e => hks (by simp at hy; rw [← hy, ← e]; exact hx)⟩
              · intro x hx
                rcases List.mem_append.mp hx with hx | hx
                · exact Iv.ss x hx
                · rw [List.mem_singleton.mp hx]; exact hndn
              · show kv4.map (·.1) = (st.stk ++ [_]).map (fun f : Sf => f.nm)
                rw [hk4, List.map_append, Iv.hk]
                rfl
              · show (st.stk ++ [_]).Pairwise _
                rw [List.pairwise_append]
                exact ⟨Iv.pw, List.pairwise_singleton _ _, fun f hf g hg => by rw [List.mem_singleton.mp hg]; exact hrk f hf⟩
              · intro f hf
                rcases List.mem_append.mp hf with hf | hf
                · exact Iv.fr f hf
                · rw [List.mem_singleton.mp hf]
                  exact ⟨hndn, nn, hnm, hnn, rfl, rfl, rfl, Nat.zero_le _⟩
            · rw [lay_snoc2]
              exact (List.Perm.append_right (B ++ frs') (List.perm_append_comm (l₁ := [(mw, mwO it), (it, liO nn.ls 0)]) (l₂ := (I, oI) :: (a1, listOf ((st.stk.map vS).toArray.push (.str nd t)) (st.c1 + 1)) :: (a2, listOf ((st.stk.map vM).toArray.push (.ref mw)) (st.c2 + 1)) :: (a3, oS') :: (a4, o4') :: st.stk.flatMap Sf.own)))
          · have := Iv.stkLen
            simp
            show _ ≤ 16777216
            omega
        · have := Iv.stkLen
          simp
          show _ ≤ 16777216
          omega
    · obtain ⟨rfl, st, frs', hmu', Iv, SU, xf⟩ := hf
      refine wpAny_execs_cons (wpAny_While (codeAny_whileLoop (fun k2 s' => ∃ st frs', mu ns sc st = k2 ∧ k2 ≤ n ∧ FInv w l ns rank st ∧ SameUp frs frs' ∧ Fm (hid s (B ++ frs)) s.heap.objs.size [("self", .ref σ.X), ("n2i", .ref σ.D), ("stack", .ref a1), ("itstack", .ref a2), ("seen", .ref a3), ("node2stacki", .ref a4)] ((I, oI) :: lay ⟨a1, a2, a3, a4⟩ st (B ++ frs')) s') ?_ _ ⟨st, frs', rfl, hmu', Iv, SU, xf⟩))
      clear xf Iv SU hmu'
      rintro k2 s₂₁ ⟨st, frs', hk2, hkn2, Iv, SU, xf⟩
      refine wpAny_isTrue_value (eL xf rfl rfl rfl (wpAny_truthy_list ⟨_, (xf.N (a1, listOf (st.stk.map vS).toArray st.c1) (by simp [lay])).1, rfl, _, rfl⟩ (by have := Iv.stkLen; simp; omega) ?_))
      have xg := xf.tok (s₂₁.toks + 1 + 1)
      obtain ⟨stk, seen, c1, c2, oS', o4', kv4⟩ := st
      rcases List.eq_nil_or_concat stk with rfl | ⟨st', f, hst⟩
      · rw [if_neg (by simp)]
        refine wpAny_execs_cons (wpAny_Break ?_)
        refine wpAny_execs_nil ?_
        exact ⟨_, _, ⟨_, frs', rfl, rfl, Iv, rfl, SU⟩, xg⟩
      · rw [List.concat_eq_append] at hst
        subst hst
        rw [if_pos (by simp)]
        obtain ⟨hfn, nn, hnm, hnn, hls, hits, hcnt, hpos⟩ := Iv.fr f (by simp)
        have hnown : ∀ q ∈ nn.own, q ∈ B := fun q hq => hsub q (.tail _ (.tail _ (.tail _ (List.mem_flatMap.mpr ⟨nn, hnm, hq⟩))))
        rw [lay_snoc] at xg
        have hstr := (P.at_ nn hnm).2
        refine wpAny_execs_cons (wpAny_Try_except ?_)
        refine wpAny_execs_cons (wpAny_Assign_Name (eCallSub (Subscript_ (eL xg rfl rfl rfl (wpAny_UnaryOp (eInt fun t8 k8 => neg_int (item_last (vi := st'.map vM) (v := .ref f.mw) ⟨_, (xg.N (a2, listOf (st'.map vM ++ [vM f]).toArray c2) (by simp)).1, rfl, _, rfl⟩ ?_)))))))
        have xh := xg.tok (k8 + 1)
        have hu := (xh.N (f.mw, mwO f.it) (by simp)).1
        have hit := (xh.N (f.it, liO f.ls f.pos) (by simp)).1
        have hl := (xh.N (nn.ls, listOf nn.sc nn.cnt) (by have := hnown (nn.ls, listOf nn.sc nn.cnt) (by simp [Nd.own]); simp [this])).1
        refine cMw hu (call_next (its := nn.sc) hD.hh hu hit (by rw [hls]; exact ⟨_, hl, rfl, _, rfl⟩) (fun x h' hx hit' hs => ?_) (fun hx h' e hst => ?_))
        · obtain ⟨y, ty, hy, rfl⟩ := strs_at hstr (by simpa using hx)
          have hym : y ∈ sc f.nm := by rw [← hnn]; exact List.mem_of_getElem? hy
          have hyr := hr f.nm hfn y hym
          have hlt : f.pos < f.items.size := by
            rw [hits]; exact (Array.getElem?_eq_some_iff.mp hx).1
          have xi := Fm.upd (tk := k8 + 1) (pre := (I, oI) :: (a1, listOf (st'.map vS ++ [vS f]).toArray c1) :: (a2, listOf (st'.map vM ++ [vM f]).toArray c2) :: (a3, oS') :: (a4, o4') :: (st'.flatMap Sf.own ++ [(f.mw, mwO f.it)])) (post := B ++ frs') (a := f.it) (o := liO f.ls f.pos) (o' := liO f.ls (f.pos + 1)) xh hs.extBut hit'
          refine sL xi rfl rfl fun s₂₂ xj => ?_
          refine wpAny_execs_cons (wpAny_Break ?_)
          refine wpAny_execs_nil ?_
          refine ⟨_, Nat.lt_of_lt_of_le (mu_next (c1 := c1) (c2 := c2) (c1' := c1) (c2' := c2) (oS := oS') (o4 := o4') (oS' := oS') (o4' := o4') (kvs := kv4) (kvs' := kv4) hlt) (by rw [hk2]; exact hkn2), _, frs', y, ty, rfl, Iv.adv hlt, SU, hyr.1, fun g hg => ?_, ?_⟩
          · rcases List.mem_append.mp hg with hg | hg
            · exact Nat.lt_trans (Iv.top g hg) hyr.2
            · rw [List.mem_singleton.mp hg]; exact hyr.2
          · rw [lay_snoc]
            exact xj.weak (of_lk rfl)
        · refine stopTry (outer := outer) (frs := frs') (pre := (I, oI) :: (a1, listOf (st'.map vS ++ [vS f]).toArray c1) :: (a2, listOf (st'.map vM ++ [vM f]).toArray c2) :: (a3, oS') :: (a4, o4') :: (st'.flatMap Sf.own ++ [(f.mw, mwO f.it)])) (post := B) hF rfl rfl (Fk.up SU) xh C₀ hst rfl rfl rfl rfl fun s₂₂ frs'' SU' xi => ?_
          have xi : Fm (hid s (B ++ frs)) s.heap.objs.size _ ((I, oI) :: (a1, listOf (st'.map vS ++ [vS f]).toArray c1) :: (a2, listOf (st'.map vM ++ [vM f]).toArray c2) :: (a3, oS') :: (a4, o4') :: (st'.flatMap Sf.own ++ [(f.mw, mwO f.it)] ++ (B ++ frs''))) s₂₂ := xi
          have hlen' : st'.length ≤ 1000 := by
            have := Iv.stkLen
            simp at this
            omega
          have hkk : kv4.map (·.1) = st'.map (fun f : Sf => f.nm) ++ [f.nm] := by
            have : kv4.map (·.1) = (st' ++ [f]).map (fun f : Sf => f.nm) := Iv.hk
            rw [this, List.map_append]; rfl
          have hfnot : f.nm ∉ st'.map (fun f : Sf => f.nm) := fun hm => by
            obtain ⟨g, hg, e⟩ := List.mem_map.mp hm
            have := Iv.top g hg
            rw [e] at this
            exact Nat.lt_irrefl _ this
          refine wpAny_execs_cons (wpAny_Delete (wpAny_deleteEach_cons (wpAny_delete_Subscript (eL xi rfl rfl rfl (eM (eL xi rfl rfl rfl (mPop (its := (st'.map vS ++ [vS f]).toArray) (k := c1) xi (by simp) (cB0 (fPop (pre := [_]) (p := st'.map vS) (v := vS f) xi (by simp; omega) fun s₂₃ xj => ?_)))))))))
          refine dDel (pre := [_, _, _, _]) (k := f.nm) (t := f.t) xj Iv.h4 (valueAt_some (by rw [hkk]; simp)) (by have := Iv.kvsLen; have h2 : kv4.length ≤ ns.length := this; omega) fun s₂₄ o5 xk ho5 => wpAny_deleteEach_nil ?_
          refine wpAny_execs_cons (wpAny_Expr_any (eM (eL xk rfl rfl rfl (mPop (its := (st'.map vM ++ [vM f]).toArray) (k := c2) xk (by simp) (cB0 (fPop (pre := [_, _]) (p := st'.map vM) (v := vM f) xk (by simp; omega) fun s₂₅ xl => ?_))))))
          refine wpAny_execs_nil ?_
          refine wpAny_execs_nil ?_
          refine ⟨_, by rw [← hk2]; exact mu_pop (c1' := c1 + 1) (c2' := c2 + 1) (oS' := oS') (o4' := o5) (kvs' := without kv4 f.nm), _, frs'', rfl, ?_, Iv.pop ho5 (without_last hkk hfnot), SU.trans SU', ?_⟩
          · exact Nat.le_trans (Nat.le_of_lt (by rw [← hk2]; exact mu_pop)) hkn2
          · refine xl.less ?_
            refine List.Sublist.cons_cons _ (List.Sublist.cons_cons _ (List.Sublist.cons_cons _ (List.Sublist.cons_cons _ (List.Sublist.cons_cons _ ?_))))
            exact List.Sublist.append_right (List.sublist_append_left _ _) _
  · rintro m₁ own₁ s₁₁ ⟨st, frs', rfl, rfl, Iv, hst, SU⟩ xc
    refine wpAny_execs_cons (wpAny_Return_some (wpAny_Constant_none ?_))
    refine h _ frs' SU ?_
    have := xc.less (own' := B ++ frs') (by
      unfold lay
      rw [hst]
      exact List.Sublist.cons _ (List.Sublist.cons _ (List.Sublist.cons _ (List.Sublist.cons _ (List.Sublist.refl _)))))
    subst hB
    exact this.aftO
end
end Mine
end -- K3
section -- P7
set_option maxRecDepth 100000
set_option maxHeartbeats 1000000
namespace Mine
theorem hid_perm {s : Shared} {own own' : List (Addr × Obj)} (h : own.Perm own') : hid s own = hid s own' := by
  have : hide s.heap (own.map (·.1)) = hide s.heap (own'.map (·.1)) := by
    unfold hide
    congr 1
    congr 1
    funext i o
    have e : (i ∈ own.map (·.1)) = (i ∈ own'.map (·.1)) := propext (h.map (·.1)).mem_iff
    simp only [e]
  unfold hid
  rw [this]
theorem AfterO.perm {s s' : Shared} {own own' own₁ own₁' : List (Addr × Obj)} (x : AfterO s own s' own') (h : own.Perm own₁) (h' : own'.Perm own₁') : AfterO s own₁ s' own₁' :=
  ⟨x.same, by rw [← hid_perm h]; exact x.keep, fun p hp => by rw [← hid_perm h]; exact x.new p (h'.mem_iff.mpr hp), (h'.map (·.1)).nodup_iff.mp x.nd⟩
theorem Owns.perm {h : Heap} {own own' : List (Addr × Obj)} (x : Owns h own) (p : own.Perm own') : Owns h own' := ⟨fun q hq => x.at_ q (p.mem_iff.mpr hq), (p.map (·.1)).nodup_iff.mp x.nd⟩
def pN (h : Heap) (v : Value) : Bool := match v with
  | .ref a => (match h.get? a with
    | some (o : Obj) => (match o.slots[1]? with
      | some (some (Value.int i _)) => i == 0
      | _ => false)
    | none => false)
  | _ => false
def fN (h : Heap) (v y : Value) : Prop := ∃ a o, v = .ref a ∧ h.get? a = some o ∧ o.slots[0]? = some (some y)
theorem paired_strs {F : Value → Value → Prop} : ∀ {l : List Nd} {ys : List Value}, (∀ n ∈ l, ∀ y, F (.ref n.x) y → ∃ t, y = .str n.nm t) → Paired F (l.map fun n => Value.ref n.x) ys → StrsAre ys (l.map (·.nm))
  | [], _, _, .nil => .nil
  | n :: l, _, k, .cons h r => by
    obtain ⟨t, rfl⟩ := k n (.head _) _ h
    exact .cons _ _ (paired_strs (fun q hq => k q (.tail _ hq)) r)
section
variable {w : World} {A : Around} {s s₀ : Shared} {E : Value → Shared → Prop} {L : Addr} {m : Loc} {rest : List (Addr × Obj)} {σ : So} {l : List Nd} {ns : List Str} {np : Str → Int} {sc : Str → List Str} {rank : Str → Nat}
theorem opens_values {vw d : Addr} {o : Obj} {kvs : List (Str × Value)} (hh : A.handled = none) (hv : s.heap.IsValuesView vw d) (ho : s.heap.get? d = some o) (hd : o.IsDictOf (strKind Mine.pw w) kvs) : Opens w A (.ref vw) kvs.length (fun i v => ∃ k, kvs[i]? = some (k, v)) s := fun Q E h => by
  obtain ⟨ep, ha⟩ := KdkAt.of hd
  have hat := ha.dictAt ho
  have hne : d ≠ s.heap.objs.size := Nat.ne_of_lt (Heap.lt_size ho)
  refine wpAny_pyIter_values hv hat (h _ _ _ _ (After.of (tk := s.toks) (sub_push _ _)) (Walks.dictValues (knd := strKind Mine.pw w) hh _ d hne kvs ep) (get_size _) ⟨⟨_, Heap.get?_push_size _ rfl, rfl, rfl⟩, hat.push _⟩ fun b hb => ?_)
  show b < (s.heap.push _).objs.size
  rw [Heap.size_push]
  have := Heap.lt_size ho
  simp at hb
  rcases hb with rfl | rfl
  · exact Nat.lt_succ_self _
  · exact Nat.lt_succ_of_lt this
theorem getSlotH {Q : Value → Shared → Prop} {expr : Bool} {name : Str} {x : Addr} {ox od : Obj} {C p : Addr} {i : Nat} {v : Value} (X : (KF w.params).In s.heap) (I : InstAt s.heap x ox C (some od)) (hg : plainGet (KF w.params) C name = true) (hc : isClsIn (KF w.params) C = true)
    (ha : findIn (KF w.params) (.ref C) name = some (some (.ref p))) (hn : specialIn (KF w.params) (.ref p) "__get__" = some (some (.builtin "member_descriptor.__get__"))) (ht : takesIn (KF w.params) (.ref p) = some true) (hp : slotIn (KF w.params) p C = some i)
    (hv : (ox.slots[i]?).join = some v) (hh : handedIn v = true) (h : Q v { s with toks := s.toks + 1 }) : wpAny (MM w) A (getAttr (.ref x) name expr) Q E s :=
  get_bind X I (plainGet_of hg).1 (findObj_data hc ha hn ht) (plainGet_of hg).2 (wpAny_call (slot_get (s := { s with toks := s.toks + 1 }) X I hp hv (handed_on hh h)))
theorem prep_call {Q : Value → Shared → Prop} {env1 : Env} (hfr : A.frames = some [env1]) (hf1 : env1.frame = some L) (hk1 : env1.scope.kind ≠ .module) (y : Fm s₀ L m (σ.own w.params l ++ rest) s) (C₀ : Cx w s₀.heap) (hd : Rm A 6) (O : σ.Ok w l) (P : Rep l ns np sc) (hrd : σ.rd = .none)
    (hr : ∀ x ∈ ns, ∀ y ∈ sc x, y ∈ ns ∧ rank x < rank y) (hsz : ns.length ≤ 1000) (hz3 : ∀ x, (sc x).length ≤ 1000)
    (h : ∀ s' R its c, StrsAre its.toList (ns.filter fun x => np x == 0) → ({ σ with rd := .ref R } : So).Ok w l → Fm s₀ L m (({ σ with rd := .ref R } : So).ownR w.params l R its c ++ rest) s' → Q .none s') : wpAny (MM w) A (call (.ref 154) [.ref σ.X]) Q E s := by
  obtain ⟨oL, hoL, OO, CC, back⟩ := y.frm (w := w) (own := σ.own w.params l) (rest := rest)
  have C₁ := CC C₀
  refine wpAny_call (codeFO (fd := fdPrep) [("self", .ref σ.X)] 9 C₁ OO (hd.le (by omega)) rfl rfl rfl rfl rfl rfl fun s₁ x₁ => ?_)
  have hD : Rm (A.deeper (callEnv fdPrep s.heap.objs.size 154)) 5 := hd.deep
  have hF : (A.deeper (callEnv fdPrep s.heap.objs.size 154)).frames = some [callEnv fdPrep s.heap.objs.size 154, env1] := Around.frames_deeper hfr
  generalize hA : A.deeper (callEnv fdPrep s.heap.objs.size 154) = A' at hD hF ⊢
  have hlen : l.length = ns.length := by rw [← P.nms, List.length_map]
  show wpAny _ _ (execs [_, _, _, _] _) _ _ _
  refine wpAny_execs_cons (wpAny_If (wpAny_isTrue_Compare1 (Attribute_Name_ (eL x₁ rfl rfl rfl (sGetRd x₁ C₁ hrd rfl (wpAny_Constant_none (isnot_none_none (wpAny_truthy_bool ?_))))))))
  rw [if_neg (by decide)]
  refine wpAny_execs_nil ?_
  have x₂ := x₁.tok (s₁.toks + 1)
  have hkv : ∀ (i : Nat) (v : Value), (∃ k, (kv l)[i]? = some (k, v)) → ∃ n : Nd, l[i]? = some n ∧ v = .ref n.x := by
    rintro i v ⟨k, e⟩
    rw [kv, List.getElem?_map] at e
    obtain ⟨n, hn, e2⟩ := Option.map_eq_some_iff.mp e
    exact ⟨n, hn, (congrArg Prod.snd e2).symm⟩
  refine wpAny_execs_cons (plainObj_wpAny_Assign_Attribute (fComp (cl := []) (pN s₁.heap) (fN s₁.heap) [] rfl rfl rfl rfl rfl (eM (Attribute_Name_ (eL x₂ rfl rfl rfl (sGetD x₂ C₁ ?_))))))
  have x₃ := x₂.tok (s₁.toks + 1 + 1)
  have hmD : (σ.D, σ.od) ∈ σ.own w.params l ++ [(L, oL)] := List.mem_append_left _ (.head _)
  refine kob_method PySem.F.slot_dict_values PySem.F.type_dict_values x₃.N hmD O.hd (cB0 ?_)
  obtain ⟨mm, F₃, hm₃⟩ := x₃.loc
  refine kta_callValues F₃ x₃.N hmD O.hd O.lo fun h₄ hvw F₄ N₄ => ?_
  have x₄ := x₃.of (tk := s₁.toks + 1 + 1) F₄ hm₃ N₄ x₃.nd
  have hnin : ∀ n ∈ l, s₁.heap.get? n.x = some n.obj ∧ s₁.heap.get? n.dx = some eD := fun n hn => by
    have hmem : ∀ q ∈ n.own, q ∈ σ.own w.params l ++ [(L, oL)] := fun q hq => List.mem_append_left _ (.tail _ (.tail _ (.tail _ (List.mem_flatMap.mpr ⟨n, hn, hq⟩))))
    exact ⟨(x₁.N (n.x, n.obj) (hmem _ (by simp [Nd.own]))).1, (x₁.N (n.dx, eD) (hmem _ (by simp [Nd.own]))).1⟩
  have hnin4 : ∀ n ∈ l, h₄.get? n.x = some n.obj ∧ h₄.get? n.dx = some eD := fun n hn => by
    have hmem : ∀ q ∈ n.own, q ∈ σ.own w.params l ++ [(L, oL)] := fun q hq => List.mem_append_left _ (.tail _ (.tail _ (.tail _ (List.mem_flatMap.mpr ⟨n, hn, hq⟩))))
    exact ⟨(N₄ (n.x, n.obj) (hmem _ (by simp [Nd.own]))).1, (N₄ (n.dx, eD) (hmem _ (by simp [Nd.own]))).1⟩
  have hpN : ∀ n ∈ l, pN s₁.heap (.ref n.x) = (n.np == 0) := fun n hn => by
    simp only [pN, (hnin n hn).1]
    rfl
  refine ⟨(kv l).length, _, opens_values hD.hh hvw (x₄.N _ hmD).1 O.hd, by simp [kv]; show _ ≤ 16777216; omega, fun p hp => (nomatch hp), ?_, ?_, ?_⟩
  · rintro s₅ Cc i v E' ks hP ev
    obtain ⟨n, hn, rfl⟩ := hkv i v hP
    have hnl : n ∈ l := List.mem_of_getElem? hn
    have K5 : (KF w.params).In s₅.heap := (C₁.up x₄.keep).F.K.keeps ks
    refine tests1 (wpAny_isTrue_Compare1 (Attribute_Name_ (vL ev rfl rfl rfl (getSlotH (p := 104) (i := 1) (v := .int n.np n.tp) K5 ⟨ks _ _ (hnin4 n hnl).1, rfl, rfl, ks _ _ (hnin4 n hnl).2⟩ rfl rfl rfl rfl rfl rfl rfl rfl (eInt fun t6 k6 => eq_int (wpAny_truthy_bool ⟨?_, (ev.tok _).aft⟩))))))
    rw [hpN n hnl]
  · rintro s₅ Cc i v E' ks hP hp ev
    obtain ⟨n, hn, rfl⟩ := hkv i v hP
    have hnl : n ∈ l := List.mem_of_getElem? hn
    have K5 : (KF w.params).In s₅.heap := (C₁.up x₄.keep).F.K.keeps ks
    exact Attribute_Name_ (vL ev rfl rfl rfl (getSlotH (p := 103) (i := 0) (v := .str n.nm n.t) K5 ⟨ks _ _ (hnin4 n hnl).1, rfl, rfl, ks _ _ (hnin4 n hnl).2⟩ rfl rfl rfl rfl rfl rfl rfl rfl ⟨⟨_, _, rfl, (hnin n hnl).1, rfl⟩, (ev.tok _).aft⟩))
  · intro s₅ D c ys vs af hD1 hD2 hvl hP hpair
    have x₅ := x₄.goNew af hD2 hD1
    have hvs : vs = l.map fun n => Value.ref n.x := by
      apply List.ext_getElem?
      intro j
      rw [List.getElem?_map]
      cases hj : vs[j]? with
      | none =>
        have : l.length ≤ j := by
          have := List.getElem?_eq_none_iff.mp hj
          rw [hvl] at this
          simpa [kv] using this
        rw [List.getElem?_eq_none_iff.mpr this]
        rfl
      | some v =>
        obtain ⟨n, hn, rfl⟩ := hkv j v (hP j v hj)
        rw [hn]
        rfl
    have hfil : vs.filter (pN s₁.heap) = (l.filter fun n => n.np == 0).map fun n => Value.ref n.x := by
      rw [hvs, List.filter_map]
      congr 1
      exact List.filter_congr fun n hn => hpN n hn
    rw [hfil] at hpair
    have hstr := paired_strs (F := fN s₁.heap) (fun n hn yv hf => by
      obtain ⟨a, o, e1, e2, e3⟩ := hf
      cases e1
      rw [(hnin n ((List.mem_filter.mp hn).1)).1] at e2
      cases e2
      exact ⟨n.t, (Option.some.inj (Option.some.inj e3)).symm⟩) hpair
    have hnames : (l.filter fun n => n.np == 0).map (·.nm) = ns.filter fun x => np x == 0 := by
      rw [← P.nms, List.filter_map]
      congr 1
      exact List.filter_congr fun n hn => by rw [(P.at_ n hn).1]; rfl
    rw [hnames] at hstr
    have x₅' := x₅.perm (own' := σ.own w.params l ++ [(L, oL), (D, listOf ys c)]) (by
      have := List.perm_append_comm (l₁ := [(D, listOf ys c)]) (l₂ := σ.own w.params l ++ [(L, oL)])
      rw [List.append_assoc] at this
      exact this)
    refine eL x₅' rfl rfl rfl (sSetRd x₅' C₁ fun s₆ x₆ => ?_)
    have hσ : ({ σ with rd := .ref D } : So).Ok w l := ⟨O.lo, O.hd⟩
    refine wpAny_execs_cons (wpAny_Assign_Name (eM (eL x₆ rfl rfl rfl (fMeth (f := 189) x₆ C₁ (So.inst (σ := { σ with rd := .ref D }) x₆ (so_mem _)) rfl rfl rfl rfl (cF0 (fd := fdCyc) (C₁.up x₆.keep) rfl ?_)))))
    have x₇ := x₆.perm (own' := (({ σ with rd := .ref D } : So).own w.params l ++ [(L, oL)]) ++ [(D, listOf ys c)]) (by rw [List.append_assoc]; exact List.Perm.refl _)
    obtain ⟨oL2, hoL2, OO2, CC2, back2⟩ := x₇.frm (w := w) (own := ({ σ with rd := .ref D } : So).own w.params l ++ [(L, oL)]) (rest := [(D, listOf ys c)])
    have hp2 : ((({ σ with rd := .ref D } : So).own w.params l ++ [(L, oL)]) ++ [(s.heap.objs.size, oL2)]).Perm (({ σ with rd := .ref D } : So).own w.params l ++ [(s.heap.objs.size, oL2), (L, oL)]) := by
      rw [List.append_assoc]
      exact List.Perm.append_left _ (List.Perm.swap _ _ _)
    have C7 := CC2 C₁
    have OO3 := OO2.perm hp2
    rw [hid_perm hp2] at C7
    refine wpAny_call (fc_code (σ := { σ with rd := .ref D }) (frs := [(s.heap.objs.size, oL2), (L, oL)]) OO3 C7 hF (.cons (by show ScopeKind.function ≠ ScopeKind.module; decide) rfl hoL2 (.cons hk1 hf1 hoL .nil)) (hD.le (by omega)) hσ P hr hsz hz3 fun s₈ frs' SU af2 => ?_)
    obtain ⟨sl, h1⟩ : ∃ sl sl', frs' = [(s.heap.objs.size, { oL2 with slots := sl }), (L, { oL with slots := sl' })] := by
      cases SU with
      | cons sl h => cases h with
        | cons sl' h => cases h; exact ⟨sl, sl', rfl⟩
    obtain ⟨sl', rfl⟩ := h1
    have x₈ := back2 s₈ (({ σ with rd := .ref D } : So).own w.params l ++ [(L, { oL with slots := sl' })]) { oL2 with slots := sl } (af2.perm hp2.symm (by
      rw [List.append_assoc]
      exact List.Perm.append_left _ (List.Perm.swap _ _ _))) ⟨sl, rfl⟩
    refine sL x₈ rfl rfl fun s₉ x₉ => ?_
    refine wpAny_execs_cons (wpAny_If (wpAny_isTrue_value (eL x₉ rfl rfl rfl (truthy_none ?_))))
    rw [if_neg (by decide)]
    refine wpAny_execs_nil (wpAny_execs_nil ?_)
    have a9 := x₉.aftO
    have z := back s₉ (({ σ with rd := .ref D } : So).ownR w.params l D ys c) { oL with slots := sl' } (a9.perm (List.Perm.refl _) (by
      unfold So.ownR
      rw [List.append_assoc, List.append_assoc]
      exact List.Perm.append_left _ (List.Perm.swap _ _ _))) ⟨sl', rfl⟩
    exact h s₉ D ys c hstr hσ z
end
end Mine
end -- P7
section -- B10
set_option maxRecDepth 100000
set_option maxHeartbeats 1000000
namespace Mine
def Turn (s₀ : Shared) (L I : Addr) (n : Nat) (St : Nat → Heap → Prop) (J : Nat → Loc → List (Addr × Obj) → Prop) (c : Nat) (s' : Shared) : Prop :=
  ∃ i m₁ own₁, Fm s₀ L m₁ own₁ s' ∧ I ∉ own₁.map (·.1) ∧ St i s'.heap ∧ J i m₁ own₁ ∧ i ≤ n ∧ c = n + 1 - i
theorem pushCells_none : ∀ (names : List (Str × NameKind)) (h : Heap), (∀ z ∈ names, z.2 ≠ .cell) → pushCells h names = h
  | [], _, _ => rfl
  | (x, k) :: r, h, hn => by
    have hk : (k == NameKind.cell) = false := by simpa using hn (x, k) (.head _)
    unfold pushCells
    rw [hk]
    exact pushCells_none r h fun z hz => hn z (.tail _ hz)
theorem cellsFrom_none : ∀ (names : List (Str × NameKind)) (a : Addr) (cl : List (Str × Addr)), (∀ z ∈ names, z.2 ≠ .cell) → cellsFrom a names cl = cl
  | [], _, _, _ => rfl
  | (x, k) :: r, a, cl, hn => by
    have hk : (k == NameKind.cell) = false := by simpa using hn (x, k) (.head _)
    unfold cellsFrom
    rw [hk]
    exact cellsFrom_none r a cl fun z hz => hn z (.tail _ hz)
section
variable {w : World} {A : Around} {s s₀ : Shared} {E : Value → Shared → Prop} {L : Addr} {m : Loc} {own pre post : List (Addr × Obj)} {env : Env}
theorem walkNext {I : Addr} {fp : List Addr} {n : Nat} {P : Nat → Value → Prop} {St : Nat → Heap → Prop} {J : Nat → Loc → List (Addr × Obj) → Prop} (W : Walks pw w A I fp [I] n P St) (hI : s₀.heap.get? I = none) (hIL : I ≠ L) (hSt : ∀ i h, St i h → ∃ o, h.get? I = some o)
    (hfp : ∀ b ∈ fp, b ≠ I → ∃ o, ∀ i m₁ own₁ s₁, i ≤ n → J i m₁ own₁ → Fm s₀ L m₁ own₁ s₁ → s₁.heap.get? b = some o)
    {K : Option Value → Shared → Prop} {c : Nat} {s' : Shared} (hT : Turn s₀ L I n St J c s')
    (step : ∀ i v m₁ own₁ s₁ oI, i < n → P i v → J i m₁ own₁ → Fm s₀ L m₁ ((I, oI) :: own₁) s₁ → (∀ s₅ m₂ own₂, J (i + 1) m₂ own₂ → Fm s₀ L m₂ ((I, oI) :: own₂) s₅ → ∃ c', c' < c ∧ Turn s₀ L I n St J c' s₅) → K (some v) s₁)
    (done : ∀ m₁ own₁ s₁, J n m₁ own₁ → Fm s₀ L m₁ own₁ s₁ → K none s₁) : wpAny (MM w) A (pyNext (.ref I)) K E s' := by
  obtain ⟨i, m₁, own₁, y₁, hI₁, hst₁, hJ, hi, rfl⟩ := hT
  have next : ∀ h₁ tk₁, (∀ b o, b ∉ [I] → s'.heap.get? b = some o → h₁.get? b = some o) → Fm s₀ L m₁ own₁ { s' with heap := h₁, toks := tk₁ } := fun h₁ tk₁ hk₁ => by
    obtain ⟨mm, F, hm⟩ := y₁.loc
    refine y₁.of (tk := tk₁) ⟨F.ns.at' fun o e => hk₁ _ o (by simp; exact fun e => hIL e.symm) e, fun b o e => hk₁ b o (by simp; rintro rfl; rw [hI] at e; cases e) (F.keep b o e), F.above⟩ hm (fun p hp => ⟨hk₁ _ _ (by simp; exact fun e => hI₁ (e ▸ List.mem_map_of_mem hp)) (y₁.N p hp).1, (y₁.N p hp).2⟩) y₁.nd
  by_cases hlt : i < n
  · refine W.item i _ _ _ hlt hst₁ fun v h₁ tk₁ hP hst₂ hk₁ => ?_
    have y₂ := next h₁ tk₁ hk₁
    obtain ⟨oI, hoI⟩ := hSt _ _ hst₂
    have y₃ : Fm s₀ L m₁ ((I, oI) :: own₁) { s' with heap := h₁, toks := tk₁ } := ⟨y₂.same, y₂.loc, fun p hp => by
      rcases List.mem_cons.mp hp with rfl | hp
      · exact ⟨hoI, hIL, hI⟩
      · exact y₂.N p hp, by rw [List.map_cons, List.nodup_cons]; exact ⟨hI₁, y₂.nd⟩⟩
    refine step i v m₁ own₁ _ oI hlt hP hJ y₃ fun s₅ m₂ own₂ hJ₂ y₅ => ?_
    have nd := y₅.nd
    rw [List.map_cons, List.nodup_cons] at nd
    have y₆ : Fm s₀ L m₂ own₂ s₅ := y₅.less (List.sublist_cons_self _ _)
    refine ⟨n + 1 - (i + 1), by omega, i + 1, m₂, own₂, y₆, nd.1, ?_, hJ₂, hlt, rfl⟩
    refine W.frame _ _ _ hst₂ fun b hb o e => ?_
    by_cases hbI : b = I
    · subst hbI
      rw [hoI] at e
      cases e
      exact (y₅.N _ (.head _)).1
    · obtain ⟨ob, hob⟩ := hfp b hb hbI
      have e1 := hob i m₁ own₁ _ hi hJ y₂
      have e2 := hob (i + 1) m₂ own₂ _ hlt hJ₂ y₆
      rw [e2]
      exact e1.symm.trans e
  · have hin : i = n := by omega
    subst hin
    exact W.done _ _ _ hst₁ fun h₁ tk₁ hk₁ => done _ _ _ hJ (next h₁ tk₁ hk₁)
theorem listNext {I ax : Addr} {items : Array Value} {J : Nat → Loc → List (Addr × Obj) → Prop} (hh : A.handled = none) (hne : ax ≠ I) (hI : s₀.heap.get? I = none) (hIL : I ≠ L)
    (hax : ∃ o, ∀ i m₁ own₁ s₁, i ≤ items.size → J i m₁ own₁ → Fm s₀ L m₁ own₁ s₁ → s₁.heap.get? ax = some o)
    {K : Option Value → Shared → Prop} {c : Nat} {s' : Shared} (hT : Turn s₀ L I items.size (fun i h => h.IsListIter I ax i ∧ h.IsList ax items) J c s')
    (step : ∀ i v m₁ own₁ s₁ oI, i < items.size → items[i]? = some v → J i m₁ own₁ → Fm s₀ L m₁ ((I, oI) :: own₁) s₁ → (∀ s₅ m₂ own₂, J (i + 1) m₂ own₂ → Fm s₀ L m₂ ((I, oI) :: own₂) s₅ → ∃ c', c' < c ∧ Turn s₀ L I items.size (fun i h => h.IsListIter I ax i ∧ h.IsList ax items) J c' s₅) → K (some v) s₁)
    (done : ∀ m₁ own₁ s₁, J items.size m₁ own₁ → Fm s₀ L m₁ own₁ s₁ → K none s₁) : wpAny (MM w) A (pyNext (.ref I)) K E s' :=
  walkNext (Walks.list hh I ax hne items) hI hIL (fun i h st => by obtain ⟨⟨o, ho, _⟩, _⟩ := st; exact ⟨o, ho⟩) (fun b hb hbn => by
    rcases List.mem_cons.mp hb with rfl | hb
    · exact absurd rfl hbn
    · rcases List.mem_cons.mp hb with rfl | hb
      · exact hax
      · nomatch hb) hT step done
/-- the turn's start -/
theorem listTurn {I ax : Addr} {items : Array Value} {J : Nat → Loc → List (Addr × Obj) → Prop} (y : Fm s₀ L m own s) (hI : I ∉ own.map (·.1)) (h1 : s.heap.IsListIter I ax 0) (h2 : s.heap.IsList ax items) (h0 : J 0 m own) : Turn s₀ L I items.size (fun i h => h.IsListIter I ax i ∧ h.IsList ax items) J (items.size + 1) s :=
  ⟨0, m, own, y, hI, ⟨h1, h2⟩, h0, Nat.zero_le _, rfl⟩
theorem fAddL {l b : Addr} {vs ws : List Value} {Q : Value → Shared → Prop} (y : Fm s₀ L m own s) (hl : s.heap.IsList l vs.toArray) (hb : s.heap.IsList b ws.toArray) (hsz : vs.length + ws.length ≤ sizeLine)
    (h : ∀ s' D, Fm s₀ L m ((D, listOf (vs ++ ws).toArray 0) :: own) s' → Q (.ref D) s') : wpAny (MM w) A (binaryOp .Add (.ref l) (.ref b)) Q E s := by
  obtain ⟨mm, F, hm⟩ := y.loc
  refine add_lists (hsz := hsz) F y.N hl hb fun h' F' N' => h _ _ (y.of (tk := s.toks) F' hm N' ?_)
  rw [List.map_cons, List.nodup_cons]
  refine ⟨fun hq => ?_, y.nd⟩
  obtain ⟨p, hp, e⟩ := List.mem_map.mp hq
  have := Heap.lt_size (y.N p hp).1
  have e' : p.1 = s.heap.objs.size := e
  rw [e'] at this
  exact Nat.lt_irrefl _ this
theorem fMulL {l : Addr} {vs ws : List Value} {x : Int} {u : Tok} {Q : Value → Shared → Prop} (y : Fm s₀ L m own s) (hl : s.heap.IsList l vs.toArray) (hlo : -(2 ^ 63 : Int) ≤ x) (hhi : x < 2 ^ 63) (hsz : vs.length * x.toNat ≤ 256) (e : (List.replicate x.toNat vs).flatten = ws)
    (h : ∀ s' D, Fm s₀ L m ((D, listOf ws.toArray 0) :: own) s' → Q (.ref D) s') : wpAny (MM w) A (binaryOp .Mult (.ref l) (.int x u)) Q E s := by
  obtain ⟨mm, F, hm⟩ := y.loc
  exact KMa.mul F y.N hl hlo hhi hsz e fun D h' F' N' hD => h _ _ (y.of (tk := s.toks) F' hm N' (nd_new y hD))
theorem fPush {o : Obj} {Q : Value → Shared → Prop} (y : Fm s₀ L m own s) (h : ∀ s' a, Fm s₀ L m ((a, o) :: own) s' → Q (.ref a) s') (hf : o.isFreed = false := by rfl) : Q (.ref s.heap.objs.size) { s with heap := s.heap.push o } := h _ _ (y.push o hf)
abbrev litO (ax : Addr) (t : Tok) : Obj := { cls := .type "list_iterator", data := .fields #[.ref ax, .int 0 t] }
theorem fIterL {ax : Addr} {items : Array Value} {Q : Value → Shared → Prop} (y : Fm s₀ L m own s) (hl : s.heap.IsList ax items)
    (h : ∀ s' I, Fm s₀ L m ((I, litO ax 0) :: own) s' → Q (.ref I) s') : wpAny (MM w) A (pyIter (.ref ax)) Q E s :=
  wpAny_pyIter_list hl (h _ _ (y.push (litO ax 0)))
theorem isl_up {h h' : Heap} {l : Addr} {its : Array Value} (k : Sub h h') (x : h.IsList l its) : h'.IsList l its := let ⟨o, a, b⟩ := x; ⟨o, k _ _ a, b⟩
theorem compEnd {xs rest : List (Addr × Obj)} {s' : Shared} {m' : Loc} {own' : List (Addr × Obj)} (y : Fm s₀ L m (xs ++ rest) s) (x : Fm (hid s xs) (s.heap.objs.size + 1) m' own' s') :
    ∃ mm, s'.heap.Ns (s.heap.objs.size + 1) mm ∧ ∀ h', Heap.SameBut (s.heap.objs.size + 1) s'.heap h' → Fm s₀ L m (own' ++ rest) { s' with heap := h' } := by
  obtain ⟨mm, F, hm⟩ := x.loc
  refine ⟨mm, F.ns, fun h' hs => y.goO (x.aftO.sb hs (fun hq => ?_) ?_)⟩
  · obtain ⟨p, hp, e⟩ := List.mem_map.mp hq
    exact (x.N p hp).2.1 e
  · cases e : s.heap.get? (s.heap.objs.size + 1) with
    | none => rfl
    | some o => exact absurd (Heap.lt_size e) (Nat.not_lt.mpr (Nat.le_succ _))
/-- a list comprehension over the ledger: xs are the entries that its iterator needs, rest all others -/
theorem fCompF {elt target iter : Expr} {ifs : List Expr} {gs : List Comprehension} {scope : Scope} {cl : List (Str × Addr)} {pos : Pos} {Q : Value → Shared → Prop}
    (hclos : closureFor scope env = pure cl) (hkind : scope.kind = .function) (hnames : (scope.names.all fun y => y.2 != .local || scope.names.lookup y.1 == some .local) = true)
    (hcell : (scope.names.all fun y => y.2 != .cell) = true)
    (h : wpAny (MM w) A (eval iter env) (fun xv s₁ => wpAny (MM w) A (pyIter xv) (fun it s₂ => ∃ xs rest m, Fm s₀ L m (xs ++ rest) s₂ ∧ (∀ (s₄ : Shared) (Q : Value → Shared → Prop) (E : Value → Shared → Prop), Sub s₂.heap s₄.heap → Q it s₄ → wpAny (MM w) A (pyIter it) Q E s₄) ∧
      ∀ s₂ s₄ D, D = s₂.heap.objs.size → Fm s₀ L m (xs ++ rest) s₂ → Fm (hid s₂ xs) (D + 1) [] ((D, listOf #[] 0) :: xs) s₄ →
        codeAny (MM w) A (.compLoop (.ListComp elt (⟨target, iter, ifs, 0⟩ :: gs) scope pos) 0 it (.ref D) (compEnvG scope cl (D + 1) env))
        (fun r s' => r = .ok .next ∧ ∃ m' own' its n, Fm (hid s₂ xs) (D + 1) m' ((D, listOf its n) :: own') s' ∧ ∀ s'', Fm s₀ L m ((D, listOf its n) :: (own' ++ rest)) s'' → Q (.ref D) s'') s₄) E s₁) E s)
    (hs : ∀ x, foldedSetIterable iter env x = pure x := by intro _; rfl) :
    wpAny (MM w) A (eval (.ListComp elt (⟨target, iter, ifs, 0⟩ :: gs) scope pos) env) Q E s := by
  refine fCompL hclos hkind hnames (wpAny_mono h (fun xv s₁ h₁ => wpAny_mono h₁ (fun it s₂ h₂ => ?_) fun _ _ e => e) fun _ _ e => e) hs
  obtain ⟨xs, rest, m, y, hself, hl⟩ := h₂
  refine ⟨hself, fun s₄ e₄ => ?_⟩
  have hpc : ∀ h : Heap, pushCells h scope.names = h := fun h => pushCells_none _ _ fun z hz => by simpa using List.all_eq_true.mp hcell z hz
  have hcf : ∀ a, cellsFrom a scope.names cl = cl := fun a => cellsFrom_none _ _ _ fun z hz => by simpa using List.all_eq_true.mp hcell z hz
  rw [hpc] at e₄
  rw [hcf]
  subst e₄
  refine codeAny_mono (hl s₂ _ _ rfl y (compFm y.owns)) fun r s' hr => ?_
  obtain ⟨rfl, m', own', its, n, x, hq⟩ := hr
  obtain ⟨mm, hns, hall⟩ := compEnd y x
  exact ⟨rfl, mm, hns, fun h' hsb => hq _ (hall h' hsb)⟩
theorem Fm.hidGet {rest : List (Addr × Obj)} {a : Addr} {o : Obj} (x : Fm s₀ L m (own ++ rest) s) (hp : (a, o) ∈ rest) : (hid s own).heap.get? a = some o := by
  have nd := x.nd
  rw [List.map_append, List.nodup_append] at nd
  have : a ∉ own.map (·.1) := fun h => nd.2.2 a h a (List.mem_map_of_mem (f := (·.1)) hp) rfl
  show (hide s.heap _).get? a = some o
  rw [hide_out this]
  exact (x.N (a, o) (List.mem_append.mpr (.inr hp))).1
theorem Fm.hidSub {rest : List (Addr × Obj)} (x : Fm s₀ L m (own ++ rest) s) : Sub s₀.heap (hid s own).heap := fun b o e => by
  have : b ∉ own.map (·.1) := fun h => by
    obtain ⟨p, hp, e2⟩ := List.mem_map.mp h
    have := (x.N p (List.mem_append.mpr (.inl hp))).2.2
    rw [e2, e] at this
    cases this
  show (hide s.heap _).get? b = some o
  rw [hide_out this]
  exact x.keep b o e
end
end Mine
end -- B10
section -- F1
set_option maxRecDepth 100000
set_option maxHeartbeats 1000000
namespace Mine
def wS (ds : List Nat) : Str := ⟨(lets ds).toArray⟩
theorem wS_nil : (wS [] != Str.ofString "") = false := by decide +kernel
theorem wS_cons (e : Nat) (es : List Nat) : (wS (e :: es) != Str.ofString "") = true := by
  rw [bne_iff_ne]
  intro h
  have := congrArg (fun x => x.cps.size) h
  have e0 : (Str.ofString "").cps.size = 0 := by decide +kernel
  simp [wS, lets, e0] at this
theorem oneS_eq (d e : Nat) : (oneS d == oneS e) = (d == e) := by
  by_cases h : d = e
  · subst h; simp
  · rw [beq_eq_false_iff_ne.mpr h, beq_eq_false_iff_ne]
    intro h2
    have := congrArg (fun x => x.cps.toList) h2
    simp [oneS] at this
    exact h this
theorem str_ext' {a b : Str} (h : a.cps.toList = b.cps.toList) : a = b := by
  cases a; cases b
  congr 1
  exact Array.ext' h
theorem wS_tail (e : Nat) (es : List Nat) : Txt.slice (wS (e :: es)) (some 1) none = wS es := by
  have hlen : (wS (e :: es)).length = es.length + 1 := by simp [wS, lets, Str.length]
  rw [slice_from_eq (i := 1) (b := (wS (e :: es)).length) (by decide) (by rw [hlen]; omega) rfl, hlen]
  apply str_ext'
  have e1 : (((es.length + 1 : Nat) : Int) - 1).toNat = es.length := by omega
  rw [e1]
  simp [wS, lets]
  exact List.take_of_length_le (by simp)
section
variable {w : World} {A : Around} {s : Shared} {E : Value → Shared → Prop}
theorem fSliceL {s₀ : Shared} {L : Addr} {m : Loc} {own : List (Addr × Obj)} {value slice : Expr} {l : Addr} {items : Array Value} {vl vu : Value} {lo hi : Option Int} {Q : Value → Shared → Prop} (x : Fm s₀ L m own s) (hl : s.heap.IsList l items) (pl : IsPart vl lo) (pu : IsPart vu hi) (hsz : items.size ≤ sizeLine)
    (h : ∀ s' r, Fm s₀ L m ((r, listOf (slicePick items lo hi none) 0) :: own) s' → Q (.ref r) s')
    (hs : subscripted slice false (.ref l) (.ref s.heap.objs.size) = operate [.ref s.heap.objs.size, .ref l] (getItem (.ref l) (.ref s.heap.objs.size)) := by with_unfolding_all rfl)
    (ht : ∀ r, letTemporaryGo value (.ref l) r = pure () := by intro _; with_unfolding_all rfl) :
    wpAny (MM w) A (subscriptTail value slice (.ref l) (.ref s.heap.objs.size)) Q E { s with heap := s.heap.push { cls := .type "slice", data := .fields #[vl, vu, .none] } } := by
  obtain ⟨m', F, hm⟩ := x.loc
  refine slice_list F x.N hl pl pu (fun h' F' N' => h _ _ (x.of (tk := s.toks) F' hm N' ?_)) hs ht hsz
  rw [List.map_cons, List.nodup_cons]
  refine ⟨fun hm2 => ?_, x.nd⟩
  obtain ⟨p, hp, e⟩ := List.mem_map.mp hm2
  have := Heap.lt_size (x.N p hp).1
  rw [e] at this
  exact absurd this (by intro h9; exact Nat.lt_irrefl _ (Nat.lt_trans (Nat.lt_succ_self _) h9))
theorem fits_call : ∀ (ds es : List Nat) {A : Around} {s : Shared} {E Q : Value → Shared → Prop} {l : Addr} {vs : List Value} {t : Tok} (C : Cx w s.heap) (hd : Rm A (ds.length + 2)) (hl : s.heap.IsList l (vs ++ [Value.none]).toArray) (hv : StrsAre vs (ds.map oneS)) (hsz : ds.length ≤ 16) (hsz2 : es.length ≤ 16)
    (h : ∀ s', After s s' → Q (.bool (ds.isPrefixOf es)) s'), wpAny (MM w) A (call (.ref 215) [.ref l, .str (wS es) t]) Q E s := by
  intro ds
  induction ds with
  | nil =>
    intro es A s E Q l vs t C hd hl hv hsz hsz2 h
    refine callF (fd := fdFits) [("pieces", .ref l), ("word", .str (wS es) t)] 15 C (hd.le (by omega)) rfl rfl rfl rfl rfl rfl fun s₁ x₁ => ?_
    have hD : Rm (A.deeper (callEnv fdFits s.heap.objs.size 215)) 1 := hd.deep
    generalize hA : A.deeper (callEnv fdFits s.heap.objs.size 215) = A' at hD ⊢
    show wpAny _ _ (execs [_, _] _) _ _ _
    cases hv
    have hu : A'.units < cLine := by have := hD.un; show _ < 9900; omega
    refine wpAny_execs_cons (wpAny_If (wpAny_isTrue_Compare1 (eL x₁ rfl rfl rfl (wpAny_List (aC (wpAny_Constant_none (aN ⟨(by show 1 ≤ 16777216; omega), ?_⟩)))))))
    have x₂ := x₁.push { cls := .type "list", data := .seq [Value.none].toArray }
    have hl2 : (s₁.heap.push { cls := .type "list", data := .seq [Value.none].toArray }).IsList l [Value.none].toArray := hl.at fun o e => x₂.keep _ _ e
    refine SeqAt.eq_listAt (e := fun _ => true) hl2 ⟨_, Heap.get?_push_size _ rfl, rfl, 0, rfl⟩ rfl hu (fun j h1 h2 => ?_) (wpAny_truthy_bool ?_)
    · have : j = 0 := by simp at h1; exact h1
      subst this
      exact SeqAt.EqAt.same _
    · rw [if_pos (by decide)]
      refine wpAny_execs_cons (wpAny_Return_some (wpAny_Constant_bool ?_))
      have : ([] : List Nat).isPrefixOf es = true := by simp
      rw [← this]
      exact h _ x₂.aft
  | cons d ds ih =>
    intro es A s E Q l vs t C hd hl hv hsz hsz2 h
    refine callF (fd := fdFits) [("pieces", .ref l), ("word", .str (wS es) t)] 15 C (hd.le (by omega)) rfl rfl rfl rfl rfl rfl fun s₁ x₁ => ?_
    have hD : Rm (A.deeper (callEnv fdFits s.heap.objs.size 215)) (ds.length + 2) := hd.deep
    generalize hA : A.deeper (callEnv fdFits s.heap.objs.size 215) = A' at hD ⊢
    show wpAny _ _ (execs [_, _] _) _ _ _
    have hu : A'.units < cLine := by have := hD.un; show _ < 9900; omega
    obtain ⟨td, vs', rfl, hv'⟩ := StrsAre.cons_inv hv
    refine wpAny_execs_cons (wpAny_If (wpAny_isTrue_Compare1 (eL x₁ rfl rfl rfl (wpAny_List (aC (wpAny_Constant_none (aN ⟨(by show 1 ≤ 16777216; omega), ?_⟩)))))))
    have x₂ := x₁.push { cls := .type "list", data := .seq [Value.none].toArray }
    have hne : ((Value.str (oneS d) td :: vs' ++ [Value.none]).toArray.size != [Value.none].toArray.size) = true := by simp
    refine SeqAt.eq_list_lengthsAt (hl.at fun o e => x₂.keep _ _ e) ⟨_, Heap.get?_push_size _ rfl, rfl, 0, rfl⟩ hne hu (wpAny_truthy_bool ?_)
    rw [if_neg (by decide)]
    refine wpAny_execs_nil ?_
    cases es with
    | nil =>
      refine wpAny_execs_cons (wpAny_Return_some (BoolOp_and (wpAny_Compare1 (eL x₂ rfl rfl rfl (eStr fun ta ka => ne_str (wpAny_truthy_bool ?_))))))
      rw [wS_nil, if_neg (by decide)]
      exact h _ (x₂.tok ka).aft
    | cons e es =>
      refine wpAny_execs_cons (wpAny_Return_some (BoolOp_and (wpAny_Compare1 (eL x₂ rfl rfl rfl (eStr fun ta ka => ne_str (wpAny_truthy_bool ?_))))))
      rw [wS_cons, if_pos rfl]
      have x₃ := x₂.tok ka
      refine BoolOp_and (wpAny_Compare1 (eL x₃ rfl rfl rfl (fNewList x₃ fun s₄ le x₄ => ?_)))
      have hl4 : s₄.heap.IsList l (Value.str (oneS d) td :: vs' ++ [Value.none]).toArray := hl.at fun o e => x₄.keep _ _ e
      refine SeqAt.RcNeAt.lists_lengths hl4 ⟨_, (x₄.N _ (.head _)).1, rfl, 0, rfl⟩ (by simp) hu pw w _ _ (wpAny_truthy_bool ?_)
      rw [if_pos rfl]
      have hit : Txt.item (wS (e :: es)) ((0 : Nat) : Int) = oneS e := item_meets (by decide) (by rfl)
      refine BoolOp_and (wpAny_Compare1 (Subscript_ (eL x₄ rfl rfl rfl (eInt fun tb kb => item_listL hl4 (by decide) (by decide) (x := .str (oneS d) td) (by rfl) (Subscript_ (eL (x₄.tok kb) rfl rfl rfl (eInt fun tc kc => item_str (by decide) (by simp [wS, lets, Str.length]; omega) (by simp [wS, lets, Str.length]) fun _ => ?_)))))))
      have hit' : Txt.item (wS (e :: es)) 0 = oneS e := hit
      rw [hit']
      refine eq_str (wpAny_truthy_bool ?_)
      rw [oneS_eq]
      have x₅ := x₄.tok (kc + 1)
      by_cases hde : d = e
      · subst hde
        rw [beq_self_eq_true, if_pos rfl]
        have hl5 : s₄.heap.IsList l (Value.str (oneS d) td :: vs' ++ [Value.none]).toArray := hl4
        have hzz : (Value.str (oneS d) td :: vs' ++ [Value.none]).toArray.size ≤ sizeLine := by
          have := hv'.length
          rw [List.length_map] at this
          simp only [List.length_cons] at hsz
          show _ ≤ 16777216
          simp
          omega
        refine BoolOp_one (eCall (eG (C.up x₅.keep) 11 rfl rfl rfl rfl (cF (fd := fdFits) rfl (aC (Subscript_ (eL x₅ rfl rfl rfl (wpAny_Slice (wpAny_evalPart_some (eInt fun td' kd => wpAny_evalPart_none (wpAny_evalPart_none (fSliceL (x₅.tok kd) hl5 (.int _ _) .none hzz fun s₆ r x₆ => ?_))))))))))) 
        have hsp : slicePick (Value.str (oneS d) td :: vs' ++ [Value.none]).toArray (some 1) none none = (vs' ++ [Value.none]).toArray := slicePick_from' _ 1
        refine aC (Subscript_ (eL x₆ rfl rfl rfl (wpAny_Slice (wpAny_evalPart_some (eInt fun te ke => wpAny_evalPart_none (wpAny_evalPart_none ?_))))))
        obtain ⟨m', F, hm⟩ := (x₆.tok ke).loc
        refine slice_strN_sn F (x₆.tok ke).N (fun h' t' k' F' N' => ?_) (hsz := ?_)
        · rw [wS_tail]
          have x₇ := (x₆.tok ke).of (tk := k') F' hm N' x₆.nd
          refine aN ⟨(C.up x₇.keep).F.K, ih es (C.up x₇.keep) hD ⟨_, (x₇.N _ (.head _)).1, rfl, 0, by rw [hsp]⟩ hv' (by simp at hsz; omega) (by simp at hsz2; omega) fun s₈ af => ?_⟩
          have e3 : (d :: ds).isPrefixOf (d :: es) = ds.isPrefixOf es := by
            show (d == d && ds.isPrefixOf es) = _
            rw [beq_self_eq_true]; rfl
          rw [← e3]
          exact h _ (x₇.go af).aft
        · have : (wS (d :: es)).length = es.length + 1 := by simp [wS, lets, Str.length]
          rw [this]
          simp at hsz2
          show _ ≤ 16777216
          omega
      · have : (d == e) = false := by simpa using hde
        rw [this, if_neg (by decide)]
        have e2 : (d :: ds).isPrefixOf (e :: es) = false := by
          show (d == e && ds.isPrefixOf es) = false
          rw [this]; rfl
        rw [← e2]
        exact h _ x₅.aft
end
end Mine
end -- F1
section -- D0
set_option maxRecDepth 100000
set_option maxHeartbeats 1000000
namespace Mine
def lawSt (i : Nat) : Stmt := (stBody (topSt 22))[i]?.getD (.Pass default)
abbrev lawEnv (L : Addr) : Env := callEnvC fdLaw L 220
def asgE : Stmt → Expr
  | .Assign _ e _ => e
  | _ => default
def dz (k x : Int) : Int := (x.fdiv (16 ^ k.toNat)).fmod (16 ^ (7 - k).toNat)
def drC (ns : List Int) : List Int := ([0, 3] : List Int).flatMap fun k => (ns.take 3).map (dz k)
def drI (ns : List Int) : List Int := drC ns ++ [0, 1, 18, 291, 74565, 2, 33, 31]
theorem IntsAre.take {vs : List Value} {ns : List Int} (h : IntsAre vs ns) : ∀ k, IntsAre (vs.take k) (ns.take k) := by
  induction h with
  | nil => intro k; simp; exact .nil
  | cons n t h ih =>
    intro k
    cases k with
    | zero => exact .nil
    | succ k => exact .cons n t (ih k)
theorem ints_at {vs : List Value} {ns : List Int} (h : IntsAre vs ns) : ∀ {i : Nat} {v : Value}, vs[i]? = some v → ∃ n t, ns[i]? = some n ∧ v = .int n t := by
  induction h with
  | nil => intro i v e; simp at e
  | cons n t h ih =>
    intro i v e
    cases i with
    | zero => simp at e; exact ⟨n, t, rfl, e.symm⟩
    | succ i => simpa using ih (i := i) (v := v) (by simpa using e)
section
variable {w : World} {A : Around} {s s₀ : Shared} {E : Value → Shared → Prop} {L : Addr} {m : Loc} {own xs rest : List (Addr × Obj)} {env : Env}
theorem flat2 (f : Int → List Int) (i : Nat) (hi : i < 2) : (([0, 3] : List Int).take (i + 1)).flatMap f = (([0, 3] : List Int).take i).flatMap f ++ f (([0, 3] : List Int).getD i 0) := by
  rcases i with _ | _ | i
  · simp
  · simp
  · omega
theorem pow16_pos (k : Nat) : (0 : Int) < 16 ^ k := Int.pow_pos (by decide)
theorem bits16 : Builtin.Int.intBits 16 = 5 := by decide +kernel
theorem start21L {elt t0 i0 t1 i1 : Expr} {scope : Scope} {pos : Pos} {I ax : Addr} {i : Nat} {acc : Value} {R : Result → Shared → Prop} (hit : s.heap.IsListIter I ax i)
    (h0 : codeAny (MM w) A (.compLoop (.ListComp elt [⟨t0, i0, [], 0⟩, ⟨t1, i1, [], 0⟩] scope pos) 1 (.ref I) acc env) R s) :
    codeAny (MM w) A (.compStart (.ListComp elt [⟨t0, i0, [], 0⟩, ⟨t1, i1, [], 0⟩] scope pos) 1 (.ref I) acc env) R s := start21 h0 (wpAny_pyIter_listiter hit h0)
theorem drawn_ev {Q : Value → Shared → Prop} {oS : Obj} {l : Addr} {vs : List Value} {ns : List Int} (hh : A.handled = none) (y : Fm s₀ L m own s) (hS : (L + 1, oS) ∈ own) (hSd : oS.data = .cell (some (.ref l))) (hl : s₀.heap.IsList l vs.toArray) (hi : IntsAre vs ns) (hsz : ns.length ≤ 63)
    (h : ∀ s' D its, Fm s₀ L m ((D, listOf its.toArray 0) :: own) s' → IntsAre its (drI ns) → Q (.ref D) s') : wpAny (MM w) A (eval (asgE (lawSt 0)) (lawEnv L)) Q E s := by
  refine wpAny_BinOp (fCompF (s₀ := s₀) (L := L) (cl := [("script", L + 1)]) rfl rfl rfl rfl (wpAny_List (aC (eInt fun t0 k0 => aC (eInt fun t1 k1 => aN ⟨(by show 2 ≤ 16777216; omega), ?_⟩)))))
  have y₁ := (y.tok k1).push { cls := .type "list", data := .seq [Value.int 0 t0, Value.int 3 t1].toArray }
  refine fIterL y₁ (items := [Value.int 0 t0, Value.int 3 t1].toArray) ⟨_, (y₁.N _ (.head _)).1, rfl, 0, rfl⟩ fun s₂ I y₂ => ?_
  have e₁ : ∃ a₁, a₁ = s.heap.objs.size := ⟨_, rfl⟩
  obtain ⟨a₁, e₁⟩ := e₁
  refine ⟨[_], _ :: own, m, y₂, fun s₄ Q E k q => wpAny_pyIter_listiter (i := 0) ⟨_, k _ _ (y₂.N _ (.head _)).1, rfl, rfl⟩ q, ?_⟩
  clear y₁ y₂ s₂
  intro s₂ s₄ D _ y₂ x₀
  change Fm s₀ L m ([(I, litO s.heap.objs.size 0)] ++ ((s.heap.objs.size, _) :: own)) s₂ at y₂
  change Fm (hid s₂ [(I, litO s.heap.objs.size 0)]) (D + 1) [] [(D, W.listOf #[] 0), (I, litO s.heap.objs.size 0)] s₄ at x₀
  rw [← e₁] at y₂ x₀
  have hIC : I ≠ D + 1 := (x₀.N _ (.tail _ (.head _))).2.1
  have hI0 : (hid s₂ [(I, litO a₁ 0)]).heap.get? I = none := (x₀.N _ (.tail _ (.head _))).2.2
  have ha : (hid s₂ [(I, litO a₁ 0)]).heap.get? a₁ = some _ := y₂.hidGet (own := [(I, litO a₁ 0)]) (.head _)
  have hSc : (hid s₂ [(I, litO a₁ 0)]).heap.get? (L + 1) = some oS := y₂.hidGet (own := [(I, litO a₁ 0)]) (.tail _ hS)
  have hlL : (hid s₂ [(I, litO a₁ 0)]).heap.IsList l vs.toArray := isl_up (y₂.hidSub (own := [(I, litO a₁ 0)])) hl
  have hne : a₁ ≠ I := by
    rintro rfl
    rw [ha] at hI0; cases hI0
  generalize hs₀ : hid s₂ [(I, litO a₁ 0)] = b₀ at *
  refine loop20 (Turn b₀ (D + 1) I 2 (fun i h => h.IsListIter I a₁ i ∧ h.IsList a₁ [Value.int 0 t0, Value.int 3 t1].toArray) fun i m₁ own₁ => m₁ = [] ∧ ∃ its n, own₁ = [(D, listOf its n)] ∧ IntsAre its.toList ((([0, 3] : List Int).take i).flatMap fun k => (ns.take 3).map (dz k))) ?turn 3 ?init
  case init => exact listTurn (items := [Value.int 0 t0, Value.int 3 t1].toArray) (x₀.perm (List.Perm.swap ..) |>.less (List.sublist_cons_self _ _)) (by have := x₀.nd; simp at this ⊢; exact fun e => this e.symm) ⟨_, (x₀.N _ (.tail _ (.head _))).1, rfl, rfl⟩ ⟨_, x₀.keep _ _ ha, rfl, 0, rfl⟩ ⟨rfl, _, _, rfl, .nil⟩
  intro c s' hT
  refine listNext hh hne hI0 hIC ⟨_, fun i m₁ own₁ s₁ _ _ z => z.keep _ _ ha⟩ hT ?step ?done
  case done =>
    rintro m₁ own₁ s₁ ⟨rfl, its, n, rfl, hits⟩ z
    refine ⟨rfl, [], [], its, n, by rw [← hs₀, e₁] at z; exact z, fun s'' z' => ?_⟩
    change Fm s₀ L m ((D, W.listOf its n) :: ((s.heap.objs.size, _) :: own)) s'' at z'
    refine wpAny_List (aC (eInt fun t2 k2 => aC (eInt fun t3 k3 => aC (eInt fun t4 k4 => aC (eInt fun t5 k5 => aC (eInt fun t6 k6 => aC (eInt fun t7 k7 => aC (eInt fun t8 k8 => aC (eInt fun t9 k9 => aN ⟨(by show 8 ≤ 16777216; omega), ?_⟩)))))))))
    have z₂ := (z'.tok k9).push { cls := .type "list", data := .seq [Value.int 0 t2, Value.int 1 t3, Value.int 18 t4, Value.int 291 t5, Value.int 74565 t6, Value.int 2 t7, Value.int 33 t8, Value.int 31 t9].toArray }
    have hlen := hits.length
    have hlen2 : its.toList.length ≤ 6 := by
      rw [hlen]
      simp [List.flatMap]
      omega
    refine fAddL z₂ (vs := its.toList) (ws := [Value.int 0 t2, Value.int 1 t3, Value.int 18 t4, Value.int 291 t5, Value.int 74565 t6, Value.int 2 t7, Value.int 33 t8, Value.int 31 t9]) ⟨_, (z₂.N _ (.tail _ (.head _))).1, rfl, n, by simp⟩ ⟨_, (z₂.N _ (.head _)).1, rfl, 0, rfl⟩ (by show its.toList.length + 8 ≤ 16777216; omega) fun s₅ D₅ z₅ => ?_
    refine h s₅ D₅ _ (z₅.less ((List.sublist_append_right [_, _, _] own).cons_cons _)) (hits.append ?_)
    exact .cons _ _ (.cons _ _ (.cons _ _ (.cons _ _ (.cons _ _ (.cons _ _ (.cons _ _ (.cons _ _ .nil)))))))
  rintro i v m₁ own₁ s₁ oI hi₁ hv ⟨rfl, its, n, rfl, hits⟩ z fin
  refine wpAny_of_eq (a := ()) rfl (wpAny_assign_Name (sL z rfl rfl fun s₃ z₃ => ?_))
  have hi₁ : i < 2 := hi₁
  have hk : ([0, 3] : List Int).getD i 0 = 0 ∨ ([0, 3] : List Int).getD i 0 = 3 := by
    rcases i with _ | _ | i
    · exact .inl rfl
    · exact .inr rfl
    · omega
  have hv' : ∃ t, v = .int (([0, 3] : List Int).getD i 0) t := by
    rcases i with _ | _ | i
    · exact ⟨t0, by simpa using hv.symm⟩
    · exact ⟨t1, by simpa using hv.symm⟩
    · omega
  obtain ⟨tk, rfl⟩ := hv'
  have hfl := flat2 (fun k => (ns.take 3).map (dz k)) i hi₁
  generalize ([0, 3] : List Int).getD i 0 = kk at *
  refine Subscript_ (wpAny_Name (wpAny_loadName_cell (c := L + 1) (v := .ref l) rfl rfl rfl ⟨oS, z₃.keep _ _ hSc, hSd⟩ (wpAny_Slice (wpAny_evalPart_none (wpAny_evalPart_some (eInt fun t3 k3 => wpAny_evalPart_none (fSliceL (z₃.tok k3) (isl_up (z₃.tok k3).keep hlL) .none (.int _ _) (by have := hi.length; show vs.toArray.size ≤ 16777216; simp; omega) fun s₅ r z₅ => ?_))))) ) rfl)
  have hpk : slicePick vs.toArray none (some 3) none = (vs.take 3).toArray := slicePick_upto' vs.toArray 3
  rw [hpk] at z₅
  refine wpAny_mono (fIterL z₅ (items := (vs.take 3).toArray) (Q := fun v s' => ∃ I₁, v = .ref I₁ ∧ Fm b₀ (D + 1) [(("k" : Str), Value.int kk tk)] ((I₁, litO r 0) :: (r, W.listOf (vs.take 3).toArray 0) :: (I, oI) :: [(D, W.listOf its n)]) s') ⟨_, (z₅.N _ (.head _)).1, rfl, 0, rfl⟩ fun s₆ I₁ z₆ => ⟨I₁, rfl, z₆⟩) (fun v s₆ h₆ => ?_) fun _ _ e => e
  obtain ⟨I₁, rfl, z₆⟩ := h₆
  have hr6 := (z₆.N _ (.tail _ (.head _)))
  have hI6 := (z₆.N _ (.head _))
  have nd6 := z₆.nd
  have hne1 : r ≠ I₁ := by
    rintro rfl
    simp at nd6
  let St₁ : Nat → Heap → Prop := fun i h => h.IsListIter I₁ r i ∧ h.IsList r (vs.take 3).toArray
  let J₁ : Nat → Loc → List (Addr × Obj) → Prop := fun j m₁ own₁ => m₁ = [(("k" : Str), Value.int kk tk)] ∧ ∃ its' n', own₁ = [(r, W.listOf (vs.take 3).toArray 0), (I, oI), (D, W.listOf its' n')] ∧ IntsAre its'.toList ((([0, 3] : List Int).take i).flatMap (fun k => (ns.take 3).map (dz k)) ++ ((ns.take 3).take j).map (dz kk))
  refine start21L ⟨_, hI6.1, rfl, rfl⟩ (loop21 (Turn b₀ (D + 1) I₁ (vs.take 3).toArray.size St₁ J₁) (fun c₁ s₇ hT₁ => ?_) ((vs.take 3).toArray.size + 1) (listTurn (z₆.less (List.sublist_cons_self _ _)) (List.nodup_cons.mp nd6).1 ⟨_, hI6.1, rfl, rfl⟩ ⟨_, hr6.1, rfl, 0, rfl⟩ ⟨rfl, _, _, rfl, by simpa using hits⟩))
  refine listNext hh hne1 hI6.2.2 hI6.2.1 ⟨W.listOf (vs.take 3).toArray 0, fun j m₁ own₁ s₁ _ h₁ z => ?_⟩ hT₁ ?step1 ?done1
  · obtain ⟨_, its', n', rfl, _⟩ := h₁
    exact (z.N _ (.head _)).1
  case done1 =>
    rintro m₁ own₁ s₈ ⟨rfl, its', n', rfl, hits'⟩ z₈
    refine fin _ [] [(D, W.listOf its' n')] ⟨rfl, its', n', rfl, ?_⟩ ((z₈.less (List.sublist_cons_self _ _)).weak (of_lk rfl))
    rw [hfl]
    have e3 : (ns.take 3).take (vs.take 3).toArray.size = ns.take 3 := List.take_of_length_le (by have := hi.length; simp; omega)
    rw [e3] at hits'
    exact hits'
  rintro j v m₁ own₁ s₈ oI₁ hj hv₁ ⟨rfl, its', n', rfl, hits'⟩ z₈ fin₁
  obtain ⟨x, tx, hx, rfl⟩ := ints_at (hi.take 3) (by simpa using hv₁)
  refine wpAny_of_eq (a := ()) rfl (wpAny_assign_Name (sL z₈ rfl rfl fun s₉ z₉ => ?_))
  have hk0 : 0 ≤ kk := by rcases hk with rfl | rfl <;> decide
  have hk7 : 0 ≤ 7 - kk := by rcases hk with rfl | rfl <;> decide
  have hb1 : (Builtin.Int.intBits 16 : Int) * kk ≤ 2 ^ 27 := by rw [bits16]; rcases hk with rfl | rfl <;> decide
  have hb2 : (Builtin.Int.intBits 16 : Int) * (7 - kk) ≤ 2 ^ 27 := by rw [bits16]; rcases hk with rfl | rfl <;> decide
  have hp1 : (16 : Int) ^ kk.toNat ≤ 4096 := by rcases hk with rfl | rfl <;> decide
  have hq1 := pow16_pos kk.toNat
  have hq2 := pow16_pos (7 - kk).toNat
  refine wpAny_BinOp (wpAny_BinOp (eL z₉ rfl rfl rfl (wpAny_BinOp (eInt fun t6 k6 => eL (z₉.tok k6) rfl rfl rfl (pow_int hk0 hb1 (floordiv_int (by omega) (wpAny_BinOp (eInt fun t7 k7 => wpAny_BinOp (eInt fun t8 k8 => eL (z₉.tok _) rfl rfl rfl (sub_int (pow_int hk7 hb2 (mod_int (by omega) ?_)))))) (.inl (PyProof.noPylong_small (by omega)))))))))
  have z₁₀ := (z₉.tok (k8 + 1 + 1 + 1))
  refine fAppendL (pre := [(I₁, oI₁), (r, W.listOf (vs.take 3).toArray 0), (I, oI)]) z₁₀ (fun s₁₁ z₁₁ => ?_) ?_
  · refine fin₁ s₁₁ [(("k" : Str), Value.int kk tk)] _ ⟨rfl, _, _, rfl, ?_⟩ (z₁₁.weak (of_lk rfl))
    have e4 : ((ns.take 3).take (j + 1)).map (dz kk) = ((ns.take 3).take j).map (dz kk) ++ [dz kk x] := by
      rw [List.take_add_one, hx]; simp
    rw [e4, ← List.append_assoc, Array.toList_push]
    exact hits'.append (.cons _ _ .nil)
  · have hlen := hits'.length
    show its'.size ≤ 16777216
    have hlen2 : its'.toList.length ≤ 9 := by
      rw [hlen]
      rcases i with _ | _ | i
      · simp; omega
      · simp [List.flatMap]; omega
      · omega
    simp at hlen2
    omega
end
end Mine
end -- D0
section -- T3
set_option maxRecDepth 100000
set_option maxHeartbeats 1000000
namespace Mine
def catS (ys : List Str) : List Nat := (ys.map (fun y => y.cps.toList)).flatten
theorem fold_cps : ∀ (ys : List Str) (a : Array Nat), (ys.foldl (fun acc (p : Str) => acc ++ (Str.ofString "").cps ++ p.cps) a).toList = a.toList ++ catS ys
  | [], a => by simp [catS]
  | y :: r, a => by
    rw [List.foldl_cons, fold_cps r]
    have e : (Str.ofString "").cps = #[] := by decide +kernel
    rw [e]
    simp [catS]
theorem join_empty (ys : List Str) : (Txt.join "" ys).cps.toList = catS ys := by
  cases ys with
  | nil => rfl
  | cons y r =>
    show (r.foldl (fun acc (p : Str) => acc ++ (Str.ofString "").cps ++ p.cps) y.cps).toList = _
    rw [fold_cps]
    simp [catS]
theorem catS_append (a b : List Str) : catS (a ++ b) = catS a ++ catS b := by simp [catS]
theorem cat_lets (ds : List Nat) : catS (ds.map oneS) = lets ds := by
  induction ds with
  | nil => rfl
  | cons d r ih =>
    show (oneS d).cps.toList ++ catS (r.map oneS) = _
    rw [ih]; rfl
def patR (ds : List Nat) : Str := ⟨((Str.ofString "(?s:").cps.toList ++ lets ds ++ (Str.ofString ".*)\\Z").cps.toList).toArray⟩
theorem str_ext {a b : Str} (h : a.cps.toList = b.cps.toList) : a = b := by
  cases a; cases b
  congr 1
  exact Array.ext' h
theorem str_cps (a b : Str) : (a ++ b).cps.toList = a.cps.toList ++ b.cps.toList := by
  show (a.cps ++ b.cps).toList = _
  simp
theorem patR_eq (ds : List Nat) : ((Str.empty ++ Str.ofString "(?s:") ++ Txt.join "" (ds.map oneS ++ [Str.ofString ".*"])) ++ Str.ofString ")\\Z" = patR ds := by
  apply str_ext
  rw [str_cps, str_cps, str_cps, join_empty, catS_append, cat_lets]
  have e1 : Str.empty.cps.toList = [] := rfl
  have e2 : (Str.ofString ".*)\\Z").cps.toList = (Str.ofString ".*").cps.toList ++ (Str.ofString ")\\Z").cps.toList := by decide +kernel
  show _ = (Str.ofString "(?s:").cps.toList ++ lets ds ++ (Str.ofString ".*)\\Z").cps.toList
  rw [e1, e2]
  simp [catS]
theorem len_append (a b : Str) : (a ++ b).length = a.length + b.length := by
  show (a.cps ++ b.cps).size = _
  simp; rfl
theorem len_pieces : ∀ ds : List Nat, ((ds.map oneS ++ [Str.ofString ".*"]).map (·.length)).sum = ds.length + 2
  | [] => by decide +kernel
  | d :: r => by
    have := len_pieces r
    show 1 + ((r.map oneS ++ [Str.ofString ".*"]).map (·.length)).sum = _
    rw [this, List.length_cons]; omega
theorem len_join (ds : List Nat) : (Txt.join "" (ds.map oneS ++ [Str.ofString ".*"])).length = ds.length + 2 := by
  show Array.size _ = _
  rw [← Array.length_toList, join_empty, catS_append, cat_lets, List.length_append]
  simp [lets, catS]
  decide +kernel
theorem len_s1 : (Str.empty ++ Str.ofString "(?s:").length = 4 := by decide +kernel
theorem len_s2 : (Str.ofString ")\\Z").length = 3 := by decide +kernel
section
variable {w : World} {A : Around} {s : Shared} {E : Value → Shared → Prop}
theorem join_call {Q : Value → Shared → Prop} {li st : Addr} {vs : List Value} {ds : List Nat} (C : Cx w s.heap) (hd : Rm A 4) (hli : s.heap.IsList li (vs ++ [Value.ref st]).toArray) (hvs : StrsAre vs (ds.map oneS)) (hl : ds.length ≤ 16)
    (h : ∀ s' t', After s s' → Q (.str (patR ds) t') s') : wpAny (MM w) A (call (.ref 83) [.ref li, .ref st]) Q E s := by
  have hlen : vs.length = ds.length := by have := hvs.length; simpa using this
  refine callF (fd := fdJoin) [("inp", .ref li), ("STAR", .ref st)] 4 C (hd.le (by omega)) rfl rfl rfl rfl rfl rfl fun s₁ x₁ => ?_
  have hD : Rm (A.deeper (callEnv fdJoin s.heap.objs.size 83)) 3 := hd.deep
  generalize hA : A.deeper (callEnv fdJoin s.heap.objs.size 83) = A' at hD ⊢
  show wpAny _ _ (execs [_, _, _, _, _, _, _, _] _) _ _ _
  refine wpAny_execs_cons (wpAny_Assign_Name (fNewList x₁ fun s₂ lr x₂ => sL x₂ rfl rfl fun s₃ x₃ => ?_))
  have o₃ := (x₃.N _ (.head _)).1
  refine wpAny_execs_cons (wpAny_Assign_Name (Attribute_Name_ (eL x₃ rfl rfl rfl (getAttr_append o₃ rfl rfl rfl fun tk => ?_))))
  have x₄ := (x₃.push (bndO "list.append" lr)).tok tk
  generalize hlb : s₃.heap.objs.size = lb at x₄ ⊢
  refine sL x₄ rfl rfl fun s₅ x₅ => ?_
  have o₅ : s₅.heap.get? lb = some (bndO "list.append" lr) := (x₅.N _ (.head _)).1
  have L₀ : ∀ {h' : Heap}, Sub s.heap h' → h'.IsList li (vs ++ [Value.ref st]).toArray := fun k => hli.at fun o e => k _ _ e
  refine wpAny_execs_cons (asgPair hD.hh rfl rfl rfl (eInt fun t6 k6 => eCall (eB (C.up (x₅.tok k6).keep) 19 6 rfl rfl rfl rfl rfl rfl (cB (aC (eL (x₅.tok k6) rfl rfl rfl (aN (Calls.call_len_list (L₀ x₅.keep) (by simp; omega) ⟨_, _, _, x₅.tok _, fun s₇ x₇ => ?_⟩))))))))
  have hsz : (vs ++ [Value.ref st]).toArray.size = ds.length + 1 := by simp [hlen]
  rw [hsz] at x₇
  refine wpAny_execs_cons (wpAny_While (codeAny_whileLoop (fun r s' => ∃ k its cnt ti tn, k + r = ds.length ∧
    Fm s s.heap.objs.size [("i", .int ((k : Nat) : Int) ti), ("n", .int ((ds.length + 1 : Nat) : Int) tn), ("inp", .ref li), ("STAR", .ref st), ("res", .ref lr), ("add", .ref lb)] [(lb, bndO "list.append" lr), (lr, listOf its cnt)] s' ∧
    StrsAre its.toList ((ds.take k).map oneS)) ?_ ds.length ?_))
  · rintro r s₈ ⟨k, its, cnt, ti, tn, hk, x₈, hv⟩
    refine wpAny_isTrue_BoolOp (wpAny_allTrue_And_cons (wpAny_isTrue_Compare1 (eL x₈ rfl rfl rfl (eL x₈ rfl rfl rfl (lt_int (wpAny_truthy_bool ?_))))))
    rw [if_pos (by simpa using by omega)]
    by_cases hlt : k < ds.length
    · obtain ⟨tk, hget⟩ := hvs.at (j := k) (y := oneS ds[k]) (by simp [hlt])
      have hg : (vs ++ [Value.ref st])[(((k : Nat) : Int)).toNat]? = some (.str (oneS ds[k]) tk) := by rw [Int.toNat_natCast, List.getElem?_append_left (by omega)]; exact hget
      refine wpAny_allTrue_And_cons (wpAny_isTrue_Compare1 (Subscript_ (eL x₈ rfl rfl rfl (eL x₈ rfl rfl rfl (item_listL (L₀ x₈.keep) (by omega) (by omega) hg (eL x₈ rfl rfl rfl (isnot_star (.inr ⟨_, rfl⟩) (wpAny_truthy_bool ?_))))))))
      rw [if_pos rfl]
      refine wpAny_allTrue_And_nil ?_
      rw [if_pos rfl]
      refine wpAny_execs_cons (wpAny_Expr (eCall (eL x₈ rfl rfl rfl (cBnd (id := "list.append") (l := lr) (aC (Subscript_ (eL x₈ rfl rfl rfl (eL x₈ rfl rfl rfl (item_listL (L₀ x₈.keep) (by omega) (by omega) hg (aN ⟨(x₈.N _ (.head _)).1, fAppendB (pre := [_]) x₈ (x₈.N _ (.head _)).1 (fun s₉ x₉ => ?_) ?_⟩))))))))))
      · refine wpAny_execs_cons (wpAny_AugAssign_Name (nL x₉ rfl rfl rfl (eInt fun ta ka => iadd_int (sL (x₉.tok _) rfl rfl fun s₁₀ x₁₀ => wpAny_execs_nil ?_))))
        refine ⟨r - 1, by omega, k + 1, _, _, _, _, by omega, x₁₀.weak (of_lk rfl), ?_⟩
        rw [Array.toList_push, List.take_succ_eq_append_getElem hlt, List.map_append]
        exact strs_snoc hv
      · have := hv.length
        rw [List.length_map, List.length_take, Array.length_toList] at this
        show _ ≤ 16777216
        omega
    · have hkk : k = ds.length := by omega
      have hg : (vs ++ [Value.ref st])[(((k : Nat) : Int)).toNat]? = some (.ref st) := by rw [Int.toNat_natCast, List.getElem?_append_right (by omega)]; simp [hkk, hlen]
      refine wpAny_allTrue_And_cons (wpAny_isTrue_Compare1 (Subscript_ (eL x₈ rfl rfl rfl (eL x₈ rfl rfl rfl (item_listL (L₀ x₈.keep) (by omega) (by omega) hg (eL x₈ rfl rfl rfl (wpAny_isNot_ref_self (wpAny_truthy_bool ?_))))))))
      rw [if_neg (by decide), if_neg (by decide)]
      refine wpAny_execs_nil ?_
      refine wpAny_execs_cons (wpAny_While (codeAny_whileLoop (fun r s' => s' = s₈) ?_ 0 rfl))
      rintro _ _ rfl
      refine wpAny_isTrue_Compare1 (eL x₈ rfl rfl rfl (eL x₈ rfl rfl rfl (lt_int (wpAny_truthy_bool ?_))))
      rw [if_pos (by simpa using by omega)]
      refine wpAny_execs_cons (wpAny_Assert_holds (wpAny_isTrue_Compare1 (Subscript_ (eL x₈ rfl rfl rfl (eL x₈ rfl rfl rfl (item_listL (L₀ x₈.keep) (by omega) (by omega) hg (eL x₈ rfl rfl rfl (wpAny_is_ref_self (wpAny_truthy_bool ⟨rfl, ?_⟩)))))))))
      refine wpAny_execs_cons (wpAny_AugAssign_Name (nL x₈ rfl rfl rfl (eInt fun ta ka => iadd_int (sL (x₈.tok _) rfl rfl fun s₁₀ x₁₀ => ?_))))
      refine wpAny_execs_cons (wpAny_If (wpAny_isTrue_Compare1 (eL x₁₀ rfl rfl rfl (eL x₁₀ rfl rfl rfl (eq_int (wpAny_truthy_bool ?_))))))
      rw [if_pos (by simp; omega)]
      refine wpAny_execs_cons (wpAny_Expr (eCall (eL x₁₀ rfl rfl rfl (cBnd (id := "list.append") (l := lr) (aC (eStr fun tb kb => aN ⟨(x₁₀.N _ (.head _)).1, fAppendB (pre := [_]) (x₁₀.tok kb) (x₁₀.N _ (.head _)).1 (fun s₁₁ x₁₁ => ?_) ?_⟩))))))
      · refine wpAny_execs_cons (wpAny_Break ?_)
        refine wpAny_execs_cons (wpAny_Assert_holds (wpAny_isTrue_Compare1 (eL x₁₁ rfl rfl rfl (eL x₁₁ rfl rfl rfl (eq_int (wpAny_truthy_bool ⟨by simp; omega, ?_⟩))))))
        have hv' : StrsAre (its.push (.str (Str.ofString ".*") tb)).toList (ds.map oneS ++ [Str.ofString ".*"]) := by
          rw [Array.toList_push]
          rw [hkk, List.take_length] at hv
          exact strs_snoc hv
        refine wpAny_execs_cons (wpAny_Assign_Name (eM (eStr fun tc kc => getMethod_builtin (typeIs_str _ _ _) F.plainAttrs_str F.slot_str_join F.type_str_join (fun a h => nomatch h) (cB (aC (eL (x₁₁.tok kc) rfl rfl rfl (aN (join_list ⟨_, (x₁₁.N _ (.tail _ (.head _))).1, rfl, _, rfl⟩ hv' ?_ fun t' k' => sL (x₁₁.tok k') rfl rfl fun s₁₂ x₁₂ => ?_))))))))
        · rw [len_pieces, show (Str.ofString "").length = 0 by decide +kernel]; omega
        · have hz : ∀ y z : Nat, y ≤ 100 → z ≤ 100 → y + z ≤ sizeLine := fun y z h1 h2 => by show _ ≤ 16777216; omega
          refine wpAny_execs_cons (wpAny_Return_some (JoinedStr_many (joinParts_cons (eStr fun td kd => ⟨?_, joinParts_cons (FormattedValue_plain (eL (x₁₂.tok kd) rfl rfl rfl (formatField_str (fun te ke => ⟨?_, joinParts_cons (eStr fun tf kf => ⟨?_, joinParts_nil ?_ ?_⟩)⟩) ?_)))⟩))))
          · rw [len_s1]; show _ ≤ 16777216; omega
          · rw [len_append, len_s1, len_join]; show _ ≤ 16777216; omega
          · rw [len_append, len_append, len_s1, len_s2, len_join]; show _ ≤ 16777216; omega
          · rw [patR_eq]
            exact h _ _ (x₁₂.tok _).aft
          · rw [len_append, len_append, len_s1, len_s2, len_join]; show _ ≤ 16777216; omega
          · rw [len_join]; show _ ≤ 16777216; omega
      · have := hv.length
        rw [List.length_map, List.length_take, Array.length_toList] at this
        show _ ≤ 16777216
        omega
  · exact ⟨0, #[], 0, _, _, by omega, x₇.weak (of_lk rfl), .nil⟩
end
end Mine
end -- T3
section -- C1
set_option maxRecDepth 100000
set_option maxHeartbeats 1000000
namespace Mine
def hexs (n : Nat) : List Nat := if h : n = 0 then [] else hexs (n / 16) ++ [n % 16]
termination_by n
decreasing_by omega
theorem hexs_zero : hexs 0 = [] := by rw [hexs]; rfl
theorem hexs_pos {n : Nat} (h : n ≠ 0) : hexs n = hexs (n / 16) ++ [n % 16] := by rw [hexs]; rw [dif_neg h]
theorem hexs_len : ∀ (j n : Nat), n < 16 ^ j → (hexs n).length ≤ j
  | 0, n, h => by
    have : n = 0 := by simpa using h
    subst this; rw [hexs_zero]; exact Nat.le_refl _
  | j + 1, n, h => by
    by_cases e : n = 0
    · subst e; rw [hexs_zero]; exact Nat.zero_le _
    · rw [hexs_pos e, List.length_append]
      have := hexs_len j (n / 16) (by rw [Nat.pow_succ] at h; omega)
      simp; exact this
def apB (ds : List Nat) : Array UInt8 := (ds.map (fun d => UInt8.ofNat (65 + d))).toArray
theorem apB_cons (d : Nat) (ds : List Nat) : apB [d] ++ apB ds = apB (d :: ds) := by simp [apB]
theorem apB_size (ds : List Nat) : (apB ds).size = ds.length := by simp [apB]
def apLit : Array UInt8 := [65, 66, 67, 68, 69, 70, 71, 72, 73, 74, 75, 76, 77, 78, 79, 80].toArray
theorem ap_slice : ∀ k : Fin 16, KBy.picked apLit (some ((k.val : Nat) : Int)) (some (((k.val : Nat) : Int) + 1)) = apB [k.val] ∧ KBy.whole apLit (some ((k.val : Nat) : Int)) (some (((k.val : Nat) : Int) + 1)) = false := by decide +kernel

theorem int2AP_call {w : World} {A : Around} {s : Shared} {Q : Value → Shared → Prop} {E : Value → Shared → Prop} (C : Cx w s.heap) (hd : Rm A 2) (i : Int) (t : Tok) (hi : i.natAbs < 16 ^ 7)
    (hQ : ∀ h' t' k, Sub s.heap h' → Q (.bytes (apB (hexs i.natAbs)) t') { s with heap := h', toks := k }) : wpAny (MM w) A (call (.ref 45) [.int i t]) Q E s := by
  refine callF (fd := fdInt2AP) [("num", .int i t)] 0 C (hd.le (by omega)) rfl rfl rfl rfl rfl rfl fun s₁ x₁ => ?_
  have hD : Rm (A.deeper (callEnv fdInt2AP s.heap.objs.size 45)) 1 := hd.deep
  generalize hA : A.deeper (callEnv fdInt2AP s.heap.objs.size 45) = A' at hD ⊢
  show wpAny _ _ (execs [_, _, _, _, _] _) _ _ _
  refine wpAny_execs_cons (wpAny_Assign_Name (eBytes fun t1 k1 => sL (x₁.tok k1) rfl rfl fun s₂ x₂ => ?_))
  refine wpAny_execs_cons (wpAny_Assign_Name (eBytes fun t2 k2 => sL (x₂.tok k2) rfl rfl fun s₃ x₃ => ?_))
  refine wpAny_execs_cons (wpAny_Assign_Name (eCall (eB (C.up x₃.keep) 13 0 rfl rfl rfl rfl rfl rfl (cT (aC (eCall (eB (C.up x₃.keep) 14 1 rfl rfl rfl rfl rfl rfl (cB (aC (eL x₃ rfl rfl rfl (aN (call_abs_int fun u5 k5 => aN (call_int_int (sL (x₃.tok _) rfl rfl fun s₄ x₄ => ?_))))))))))))))
  refine wpAny_execs_cons (wpAny_While (codeAny_whileLoop (fun n s' => ∃ ds tn tap tv, Fm s s.heap.objs.size [("num", .int (n : Int) tn), ("AP", .bytes apLit tap), ("val", .bytes (apB ds) tv)] [] s' ∧ hexs i.natAbs = hexs n ++ ds) ?_ i.natAbs ?_))
  · rintro n s₅ ⟨ds, tn, tap, tv, x₅, hx⟩
    refine wpAny_isTrue_value (eL x₅ rfl rfl rfl (truthy_int ?_))
    by_cases h0 : n = 0
    · subst h0
      rw [if_neg (by simp)]
      refine wpAny_execs_nil ?_
      refine wpAny_execs_cons (wpAny_Return_some (eL x₅ rfl rfl rfl ?_))
      obtain ⟨h', tk, rfl, k⟩ := x₅.done
      rw [hexs_zero, List.nil_append] at hx
      rw [← hx]
      exact hQ _ _ _ k
    · rw [if_pos (by simpa using h0)]
      have hn : (n : Nat) ≠ 0 := h0
      refine wpAny_execs_cons (Assign_Tuple (eCall (eB (C.up x₅.keep) 15 2 rfl rfl rfl rfl rfl rfl (cB (aC (eL x₅ rfl rfl rfl (aC (eInt fun t3 k3 => aN (fDivmod (x₅.tok _) (by decide) fun s₆ r o ta tb x₆ ht => fUnpack x₆ ht hD.hh rfl rfl fun s₇ x₇' => ?_)))))))) rfl)
      have x₇ := x₇'.less (List.nil_sublist _)
      refine assignInOrder_cons (wpAny_assign_Name (sL x₇ rfl rfl fun s₈ x₈ => assignInOrder_cons (wpAny_assign_Name (sL x₈ rfl rfl fun s₉ x₉ => assignInOrder_nil ?_))))
      refine wpAny_execs_cons (wpAny_Assign_Name (wpAny_BinOp (Subscript_ (eL x₉ rfl rfl rfl (wpAny_Slice (wpAny_evalPart_some (eL x₉ rfl rfl rfl (wpAny_evalPart_some (wpAny_BinOp (eL x₉ rfl rfl rfl (eInt fun t10 k10 => add_int (wpAny_evalPart_none ?_))))))))))))
      have hmod : Int.fmod (n : Int) 16 = ((n % 16 : Nat) : Int) := by rw [Int.fmod_eq_emod_of_nonneg _ (by decide)]; rfl
      have hdiv : Int.fdiv (n : Int) 16 = ((n / 16 : Nat) : Int) := by rw [Int.fdiv_eq_ediv_of_nonneg _ (by decide)]; rfl
      obtain ⟨a1, a2⟩ := ap_slice ⟨n % 16, Nat.mod_lt _ (by decide)⟩
      refine fSliceB (x₉.tok _) (.int _ _) (.int _ _) (by rw [hmod]; exact a2) (by rw [hmod, a1, apB_size]; simp) fun s₁₁ t11 x₁₁ => ?_
      rw [hmod, a1]
      rw [hmod, hdiv] at x₁₁
      rw [hexs_pos hn, List.append_assoc, List.singleton_append] at hx
      refine eL x₁₁ rfl rfl rfl (KBy.add_bytes ?_ fun t12 k12 => ?_)
      · have := hexs_len 7 _ hi
        rw [hx, List.length_append, List.length_cons] at this
        rw [apB_size, apB_size]
        simp
        omega
      rw [apB_cons]
      exact sL (x₁₁.tok k12) rfl rfl fun s₁₃ x₁₃ => wpAny_execs_nil ⟨n / 16, by omega, _, _, _, _, x₁₃.weak (of_lk rfl), hx⟩
  · have e : (if i < 0 then -i else i) = (i.natAbs : Int) := by split <;> omega
    rw [e] at x₄
    exact ⟨[], _, _, _, x₄.weak (of_lk rfl), (List.append_nil _).symm⟩
end Mine
end -- C1
section -- W1
set_option maxRecDepth 100000
set_option maxHeartbeats 1000000
namespace Mine
def pW (n : Nat) : Value → Bool
  | .int k _ => decide ((16 : Int) ^ k.toNat ≤ n)
  | _ => false
def fW (n : Nat) (v y : Value) : Prop := ∃ k t u, v = .int k t ∧ y = .str (oneS (n / 16 ^ k.toNat % 16)) u
theorem pow_room (i : Nat) (hi : i < 7) : (Builtin.Int.intBits 16 : Int) * (6 + (i : Int) * -1) ≤ 2 ^ 27 := by
  have : Builtin.Int.intBits 16 = 5 := by decide +kernel
  rw [this]; omega
def letters : Str := Str.ofString "ABCDEFGHIJKLMNOP"
theorem lit_item : ∀ d : Fin 16, Txt.item (Str.ofString "ABCDEFGHIJKLMNOP") ((d.val : Nat) : Int) = oneS d.val ∧ (Str.ofString "ABCDEFGHIJKLMNOP").length = 16 := by decide +kernel
theorem ints_of_get : ∀ (vs : List Value) (ks : List Int), vs.length = ks.length → (∀ (j : Nat) v k, vs[j]? = some v → ks[j]? = some k → ∃ t, v = .int k t) → IntsAre vs ks
  | [], [], _, _ => .nil
  | v :: vs, k :: ks, hl, h => by
    obtain ⟨t, rfl⟩ := h 0 v k rfl rfl
    exact .cons k t (ints_of_get vs ks (by simpa using hl) fun j v k hv hk => h (j + 1) v k hv hk)
  | [], _ :: _, hl, _ => by simp at hl
  | _ :: _, [], hl, _ => by simp at hl
theorem pairedW {n : Nat} : ∀ (ks : List Nat) (vs ys : List Value), IntsAre vs (ks.map Int.ofNat) → Paired (fW n) (vs.filter (pW n)) ys → StrsAre ys (((ks.filter fun k => decide (16 ^ k ≤ n)).map fun k => n / 16 ^ k % 16).map oneS)
  | [], _, ys, .nil, hp => by cases hp; exact .nil
  | k :: ks, _, ys, .cons _ t h, hp => by
    have e : pW n (.int (Int.ofNat k) t) = decide (16 ^ k ≤ n) := by
      show decide ((16 : Int) ^ (Int.ofNat k).toNat ≤ n) = _
      have e2 : (Int.ofNat k).toNat = k := rfl
      rw [e2]
      have : ((16 : Int) ^ k) = ((16 ^ k : Nat) : Int) := by push_cast; rfl
      rw [this]
      simp only [Int.ofNat_le]
    by_cases hc : 16 ^ k ≤ n
    · rw [List.filter_cons, e, if_pos (by simpa using hc)] at hp
      rw [List.filter_cons, if_pos (by simpa using hc)]
      cases hp with
      | cons hf hr =>
        obtain ⟨k', t', u, e1, e2⟩ := hf
        cases e1
        subst e2
        exact .cons _ u (pairedW ks _ _ h hr)
    · rw [List.filter_cons, e, if_neg (by simpa using hc)] at hp
      rw [List.filter_cons, if_neg (by simpa using hc)]
      exact pairedW ks _ _ h hp
theorem hexs_range : ∀ (m n : Nat), n < 16 ^ m → ((((List.range m).reverse).filter fun k => decide (16 ^ k ≤ n)).map fun k => n / 16 ^ k % 16) = hexs n
  | 0, n, h => by
    have : n = 0 := by simpa using h
    subst this; rw [hexs_zero]; rfl
  | m + 1, n, h => by
    have e1 : (List.range (m + 1)).reverse = (List.range m).reverse.map (· + 1) ++ [0] := by
      rw [List.range_succ_eq_map, List.reverse_cons, List.map_reverse]
    have ih := hexs_range m (n / 16) (by rw [Nat.pow_succ] at h; omega)
    rw [e1, List.filter_append, List.map_append, List.filter_map, List.map_map]
    have e2 : (fun k => decide (16 ^ k ≤ n)) ∘ (· + 1) = fun k => decide (16 ^ k ≤ n / 16) := by
      funext k
      simp only [Function.comp]
      rw [Nat.pow_succ]
      congr 1
      rw [Nat.le_div_iff_mul_le (by decide)]
    have e3 : ((fun k => n / 16 ^ k % 16) ∘ (· + 1)) = fun k => n / 16 / 16 ^ k % 16 := by
      funext k
      simp only [Function.comp]
      rw [Nat.pow_succ, Nat.mul_comm, Nat.div_div_eq_div_mul]
    rw [e2, e3, ih]
    by_cases h0 : n = 0
    · subst h0
      rw [hexs_zero]; rfl
    · rw [hexs_pos h0, List.filter_cons, if_pos (by simp; omega)]
      simp
theorem sum_oneS : ∀ ds : List Nat, ((ds.map oneS).map (·.length)).sum = ds.length
  | [] => rfl
  | d :: r => by
    have := sum_oneS r
    show 1 + ((r.map oneS).map (·.length)).sum = _
    rw [this, List.length_cons]; omega
section
variable {w : World} {A : Around} {s : Shared} {E : Value → Shared → Prop}
theorem word_call {Q : Value → Shared → Prop} {n : Nat} {t : Tok} (C : Cx w s.heap) (hd : Rm A 4) (hn : n < 16 ^ 7)
    (h : ∀ s' t', After s s' → Q (.str ⟨(lets (hexs n)).toArray⟩ t') s') : wpAny (MM w) A (call (.ref 208) [.int (n : Int) t]) Q E s := by
  refine callFC (fd := fdWord) [("number", .int n t)] 14 C (hd.le (by omega)) rfl rfl rfl rfl rfl rfl rfl fun s₁ x₁ y₁ => ?_
  have hD : Rm (A.deeper (callEnvC fdWord s.heap.objs.size 208)) 3 := hd.deep
  generalize hA : A.deeper (callEnvC fdWord s.heap.objs.size 208) = A' at hD ⊢
  have hcell : s₁.heap.IsCell (s.heap.objs.size + 1) (some (.int n t)) := y₁.cell "number" (s.heap.objs.size + 1) rfl
  show wpAny _ _ (execs [_] _) _ _ _
  refine wpAny_execs_cons (wpAny_Return_some (eM (eStr fun t2 k2 => getMethod_builtin (typeIs_str _ _ _) F.plainAttrs_str F.slot_str_join F.type_str_join (fun a h => nomatch h) (cB (aC (fComp (cl := [("number", s.heap.objs.size + 1)]) (pW n) (fW n) [("number", .int n t)] rfl rfl rfl rfl rfl ?_))))))
  have x₂ := x₁.tok k2
  refine eCall (eB (C.up x₂.keep) 20 7 rfl rfl rfl rfl rfl rfl (cT (aC (eInt fun t3 k3 => aC (wpAny_UnaryOp (eInt fun t4 k4 => neg_int (aC (wpAny_UnaryOp (eInt fun t5 k5 => neg_int (aN (call_range_3 (by decide) ⟨7, _, opens_range hD.hh (IsRange.new _ _ _ _ _ _ _) (by decide +kernel) 7 (by decide +kernel), by decide, ?_, ?_, ?_, ?_⟩)))))))))))
  · intro p hp
    simp at hp
    subst hp
    exact ⟨_, rfl, hcell.keeps (sub_push _ _)⟩
  · rintro s₃ C₁ i v E' k₃ ⟨hi, tv, rfl⟩ ev
    have hnn : 0 ≤ 6 + (i : Int) * -1 := by omega
    refine tests1 (wpAny_isTrue_Compare1 (vC ev rfl rfl rfl (wpAny_BinOp (eInt fun t6 k6 => vL (ev.tok k6) rfl rfl rfl (pow_int hnn (pow_room i hi) (ge_int (wpAny_truthy_bool ⟨?_, (ev.tok _).aft⟩)))))))
    rfl
  · rintro s₃ C₁ i v E' k₃ ⟨hi, tv, rfl⟩ hp ev
    have hnn : 0 ≤ 6 + (i : Int) * -1 := by omega
    have hk : (6 + (i : Int) * -1).toNat ≤ 6 := by omega
    generalize hkk : (6 + (i : Int) * -1).toNat = k at hk
    have hpw : (16 : Int) ^ k ≠ 0 := by
      have : (0 : Int) < 16 ^ k := Int.pow_pos (by decide)
      omega
    refine Subscript_ (eStr fun t6 k6 => wpAny_BinOp (wpAny_BinOp (vC (ev.tok k6) rfl rfl rfl (wpAny_BinOp (eInt fun t7 k7 => vL (ev.tok k7) rfl rfl rfl (pow_int hnn (pow_room i hi) ?_))))))
    rw [hkk]
    refine floordiv_int hpw (eInt fun t8 k8 => mod_int (by decide) ?_) ?_
    · have e : ((n : Int).fdiv (16 ^ k)).fmod 16 = ((n / 16 ^ k % 16 : Nat) : Int) := by
        rw [Int.fdiv_eq_ediv_of_nonneg _ (by have : (0 : Int) < 16 ^ k := Int.pow_pos (by decide); omega), Int.fmod_eq_emod_of_nonneg _ (by decide)]
        push_cast
        rfl
      rw [e]
      have hd16 : n / 16 ^ k % 16 < 16 := Nat.mod_lt _ (by decide)
      obtain ⟨a1, a2⟩ := lit_item ⟨n / 16 ^ k % 16, hd16⟩
      refine item_str ?_ ?_ ?_ fun _ => ?_
      · simp [fitsSsize]; omega
      · rw [a2]; omega
      · rw [a2]; omega
      · rw [a1]
        exact ⟨⟨_, _, _, rfl, by rw [hkk]⟩, (ev.tok _).aft⟩
    · have h1 : (16 : Int) ^ k ≤ 16 ^ 6 := by
        have : (16 : Nat) ^ k ≤ 16 ^ 6 := Nat.pow_le_pow_right (by decide) hk
        exact_mod_cast this
      have h2 : (0 : Int) < 16 ^ k := Int.pow_pos (by decide)
      exact .inl (PyProof.noPylong_small (by omega))
  · intro s' D n' ys vs af hD1 hD2 hl hP hF
    have hints : IntsAre vs ((List.range 7).reverse.map Int.ofNat) := by
      refine ints_of_get _ _ (by rw [hl]; rfl) fun j v k hv hk => ?_
      obtain ⟨hj, t7, rfl⟩ := hP j v hv
      refine ⟨t7, ?_⟩
      congr 1
      have : ∀ j : Fin 7, ((List.range 7).reverse.map Int.ofNat)[j.val]? = some (6 + (j.val : Int) * -1) := by decide
      have e := this ⟨j, hj⟩
      rw [hk] at e
      exact (Option.some.inj e).symm
    have hstr := pairedW _ _ _ hints hF
    rw [hexs_range 7 n hn] at hstr
    refine aN (join_list ⟨_, hD2, rfl, _, rfl⟩ hstr ?_ fun t' k' => ?_)
    · rw [sum_oneS, show (Str.ofString "").length = 0 by decide +kernel]
      have := hexs_len 7 n hn
      omega
    · have e : Txt.join "" ((hexs n).map oneS) = ⟨(lets (hexs n)).toArray⟩ := str_ext (by rw [join_empty, cat_lets])
      rw [e]
      exact h _ _ ((x₂.go (After.of (tk := _) (sub_push _ _))).go af |>.tok k').aft
end
end Mine
end -- W1
section -- D1
set_option maxRecDepth 100000
set_option maxHeartbeats 1000000
namespace Mine
def firsts (ds : List Int) : List Nat := (List.range ds.length).filter fun k => !((ds.take k).any (· == ds.getD k 0))
def numsI (ds : List Int) : List Int := (firsts ds).map fun k => ds.getD k 0
def pD (ds : List Int) : Value → Bool
  | .int k _ => !((ds.take k.toNat).any (· == ds.getD k.toNat 0))
  | _ => false
def fD (its : List Value) (v y : Value) : Prop := ∃ (k : Nat) (t : Tok), v = .int (k : Int) t ∧ its[k]? = some y
theorem pairedD {its : List Value} {ds : List Int} (hi : IntsAre its ds) : ∀ (ks : List Nat) (vs ys : List Value), IntsAre vs (ks.map Int.ofNat) → (∀ k ∈ ks, k < ds.length) → Paired (fD its) (vs.filter (pD ds)) ys → IntsAre ys ((ks.filter fun k => !((ds.take k).any (· == ds.getD k 0))).map fun k => ds.getD k 0)
  | [], _, ys, .nil, _, hp => by cases hp; exact .nil
  | k :: ks, _, ys, .cons _ t h, hlt, hp => by
    have e : pD ds (.int (Int.ofNat k) t) = !((ds.take k).any (· == ds.getD k 0)) := rfl
    by_cases hc : (!((ds.take k).any (· == ds.getD k 0))) = true
    · rw [List.filter_cons, e, if_pos hc] at hp
      rw [List.filter_cons, if_pos hc]
      cases hp with
      | cons hf hr =>
        obtain ⟨k', t', e1, e2⟩ := hf
        cases e1
        obtain ⟨n, u, e3, rfl⟩ := ints_at hi e2
        have e4 : ds.getD k 0 = n := by simp [List.getD, e3]
        rw [List.map_cons, e4]
        exact .cons n u (pairedD hi ks _ _ h (fun x hx => hlt x (.tail _ hx)) hr)
    · rw [List.filter_cons, e, if_neg hc] at hp
      rw [List.filter_cons, if_neg hc]
      exact pairedD hi ks _ _ h (fun x hx => hlt x (.tail _ hx)) hp
section
variable {w : World} {A : Around} {s s₀ s₃ : Shared} {E : Value → Shared → Prop} {L : Addr} {m : Loc} {own xs rest : List (Addr × Obj)} {env : Env} {l cv : Loc}
theorem vSlice {value slice : Expr} {l : Addr} {items : Array Value} {vl vu : Value} {lo hi : Option Int} {Q : Value → Shared → Prop} (hl : s.heap.IsList l items) (pl : IsPart vl lo) (pu : IsPart vu hi) (hsz : items.size ≤ sizeLine)
    (h : ∀ s' r, After s s' → s'.heap.get? r = some (listOf (slicePick items lo hi none) 0) → Q (.ref r) s')
    (hs : subscripted slice false (.ref l) (.ref s.heap.objs.size) = operate [.ref s.heap.objs.size, .ref l] (getItem (.ref l) (.ref s.heap.objs.size)) := by with_unfolding_all rfl)
    (ht : ∀ r, letTemporaryGo value (.ref l) r = pure () := by intro _; with_unfolding_all rfl) :
    wpAny (MM w) A (subscriptTail value slice (.ref l) (.ref s.heap.objs.size)) Q E { s with heap := s.heap.push { cls := .type "slice", data := .fields #[vl, vu, .none] } } := by
  refine subscriptTail_ops (Heap.IsList.typeIs (s := { s with heap := s.heap.push { cls := .type "slice", data := .fields #[vl, vu, .none] } }) (hl.push _)) list_getitem_lookup
    (wpAny_getItem_list_slice (hl.push _) (Heap.IsSliceOf.new ..) pl pu .none (by simp) ?_ hsz) hs ht
  exact h _ _ (After.of (tk := s.toks) fun b o e => sub_push _ _ _ _ (sub_push _ _ _ _ e)) (Heap.get?_push_size _ rfl)
theorem fLstComp {elt iter : Expr} {x : Str} {px : Pos} {ifs : List Expr} {scope : Scope} {cl : List (Str × Addr)} {pos : Pos} {Q : Value → Shared → Prop} (p : Value → Bool) (F : Value → Value → Prop) (cv : Loc) (hh : A.handled = none)
    (hclos : closureFor scope env = pure cl) (hcell : (scope.names.all fun y => y.2 != .cell) = true) (hkind : scope.kind = .function) (hnames : (scope.names.all fun y => y.2 != .local || scope.names.lookup y.1 == some .local) = true) (hx : scope.names.lookup x = some .local)
    (h : wpAny (MM w) A (eval iter env) (fun xv s₁ => ∃ ax items m own, xv = .ref ax ∧ Fm s₀ L m own s₁ ∧ s₁.heap.IsList ax items ∧ items.size ≤ sizeLine ∧ (∀ p ∈ cv, ∃ c, cl.lookup p.1 = some c ∧ s₁.heap.IsCell c (some p.2)) ∧
      (∀ s₃ C (i : Nat) v E', Sub s₁.heap s₃.heap → items[i]? = some v → Ev s₃ (compEnvC scope cl C env) [(x, v)] cv s₃ →
        wpAny (MM w) A (testsOf ifs (compEnvC scope cl C env)) (fun ok s₄ => ok = p v ∧ After s₃ s₄) E' s₃) ∧
      (∀ s₃ C (i : Nat) v E', Sub s₁.heap s₃.heap → items[i]? = some v → p v = true → Ev s₃ (compEnvC scope cl C env) [(x, v)] cv s₃ → wpAny (MM w) A (eval elt (compEnvC scope cl C env)) (fun y s₄ => F v y ∧ After s₃ s₄) E' s₃) ∧
      (∀ s' D n' ys, Fm s₀ L m ((D, listOf ys n') :: own) s' → Paired F (items.toList.filter p) ys.toList → Q (.ref D) s')) E s)
    (hs : ∀ x, foldedSetIterable iter env x = pure x := by intro _; rfl) :
    wpAny (MM w) A (eval (.ListComp elt [⟨.Name x px, iter, ifs, 0⟩] scope pos) env) Q E s := by
  refine fComp p F cv hclos hcell hkind hnames hx (wpAny_mono h (fun xv s₁ h₁ => ?_) fun _ _ e => e) hs
  obtain ⟨ax, items, m, own, rfl, y, hl, hsz, hcv, ht, he, hq⟩ := h₁
  refine ⟨items.size, _, opens_list hh hl, hsz, hcv, ht, he, fun s' D n' ys vs a hD hD2 hlen hP hF => hq s' D n' ys (y.goNew a hD2 hD) ?_⟩
  have e : vs = items.toList := by
    refine List.ext_getElem? fun j => ?_
    rcases hv : vs[j]? with _ | v
    · rw [List.getElem?_eq_none_iff] at hv
      symm
      rw [List.getElem?_eq_none_iff]
      simpa [hlen] using hv
    · rw [Array.getElem?_toList, hP j v hv]
  rw [← e]
  exact hF
theorem numbers_ev {Q : Value → Shared → Prop} {oS : Obj} {D : Addr} {its : List Value} {ds : List Int} {k0 : Nat} (hd : Rm A 2) (y : Fm s₀ L m own s) (C₀ : Cx w s₀.heap) (hS : (L + 2, oS) ∈ own) (hSd : oS.data = .cell (some (.ref D))) (hD : (D, listOf its.toArray k0) ∈ own) (hi : IntsAre its ds) (hsz : ds.length ≤ 100)
    (h : ∀ s' D' n' its', Fm s₀ L m ((D', listOf its' n') :: own) s' → IntsAre its'.toList (numsI ds) → Q (.ref D') s') : wpAny (MM w) A (eval (asgE (lawSt 1)) (lawEnv L)) Q E s := by
  have hlen := hi.length
  refine fComp (cl := [("drawn", L + 2)]) (pD ds) (fD its) [("drawn", .ref D)] rfl rfl rfl rfl rfl ?_
  refine eCall (eB (C₀.up y.keep) 20 7 rfl rfl rfl rfl rfl rfl (cT (aC (eCall (eB (C₀.up y.keep) 19 6 rfl rfl rfl rfl rfl rfl (cB (aC (wpAny_Name (wpAny_loadName_cell (c := L + 2) (v := .ref D) rfl rfl rfl ⟨oS, (y.N _ hS).1, hSd⟩ (aN (len_list (items := its.toArray) ⟨_, (y.N _ hD).1, rfl, k0, rfl⟩ (by simp; omega) (aN (call_range_1 ?_))))) rfl))))))))
  have hsm : Builtin.Range.small 0 (its.toArray.size : Int) 1 = true := small_one (by decide) (by decide) (by omega) (by simp; omega)
  have hrs : Builtin.Range.rangeSize 0 (its.toArray.size : Int) 1 = (ds.length : Nat) := by rw [rangeSize_nat]; simp [hlen]
  have y₁ := ((y.tok (s.toks + 1 + 1)).push { cls := .type "range", data := .fields #[.int 0 (s.toks + 1 + 1), .int its.toArray.size (s.toks + 1), .int 1 (s.toks + 1 + 1 + 1)] }).tok (s.toks + 1 + 1 + 1 + 1)
  have hcell : ∀ {s' : Shared}, Sub s.heap s'.heap → s'.heap.get? (L + 2) = some oS := fun k => k _ _ (y.N _ hS).1
  have hlist : ∀ {s' : Shared}, Sub s.heap s'.heap → s'.heap.IsList D its.toArray := fun k => ⟨_, k _ _ (y.N _ hD).1, rfl, k0, rfl⟩
  have hpush : Sub s.heap (s.heap.push { cls := .type "range", data := .fields #[.int 0 (s.toks + 1 + 1), .int its.toArray.size (s.toks + 1), .int 1 (s.toks + 1 + 1 + 1)] }) := sub_push _ _
  refine ⟨ds.length, _, opens_range hd.hh (IsRange.new _ _ _ _ _ _ _) hsm ds.length hrs, by show ds.length ≤ 16777216; omega, ?_, ?_, ?_, ?_⟩
  · intro p hp
    simp at hp
    subst hp
    exact ⟨_, rfl, oS, hcell hpush, hSd⟩
  · rintro s₃ C₁ i v E' k₃ ⟨hi', tv, rfl⟩ ev
    have hl3 : ∀ {s' : Shared}, After s₃ s' → s'.heap.IsList D its.toArray := fun a => hlist fun b o e => a.keep _ _ (k₃ _ _ (hpush _ _ e))
    have hil : i < its.length := by omega
    have hget : its[i]? = some its[i] := List.getElem?_eq_getElem hil
    obtain ⟨n, tn, e3, e5⟩ := ints_at hi hget
    have e4 : ds.getD i 0 = n := by simp [List.getD, e3]
    have ei : (0 + (i : Int) * 1) = (i : Int) := by omega
    rw [ei]
    rw [ei] at ev
    refine tests1 (wpAny_isTrue_Compare1 (Subscript_ (vC ev rfl rfl rfl (vL ev rfl rfl rfl (item_listL (hl3 .refl) (by omega) (by omega) (x := its[i]) (by simpa using hget) ?_)))))
    refine Subscript_ (vC ev rfl rfl rfl (wpAny_Slice (wpAny_evalPart_none (wpAny_evalPart_some (vL ev rfl rfl rfl (wpAny_evalPart_none (vSlice (hl3 .refl) .none (.int _ _) (by show its.toArray.size ≤ 16777216; simp; omega) fun s₅ r a₅ hr => ?_)))))))
    have hpk : slicePick its.toArray none (some (i : Int)) none = (its.take i).toArray := slicePick_upto' its.toArray i
    rw [hpk] at hr
    rw [e5]
    refine notin_list_ints ⟨_, hr, rfl, 0, rfl⟩ (hi.take i) (wpAny_truthy_bool ⟨?_, a₅⟩)
    show _ = pD ds (.int (i : Int) tv)
    simp only [pD, Int.toNat_natCast, e4]
  · rintro s₃ C₁ i v E' k₃ ⟨hi', tv, rfl⟩ _ ev
    have hl3 : ∀ {s' : Shared}, After s₃ s' → s'.heap.IsList D its.toArray := fun a => hlist fun b o e => a.keep _ _ (k₃ _ _ (hpush _ _ e))
    have hil : i < its.length := by omega
    have hget : its[i]? = some its[i] := List.getElem?_eq_getElem hil
    have ei : (0 + (i : Int) * 1) = (i : Int) := by omega
    rw [ei]
    rw [ei] at ev
    exact Subscript_ (vC ev rfl rfl rfl (vL ev rfl rfl rfl (item_listL (hl3 .refl) (by omega) (by omega) (x := its[i]) (by simpa using hget) ⟨⟨i, tv, rfl, hget⟩, .refl⟩)))
  · intro s' D' n' ys vs a hD1 hD2 hl hP hF
    refine h s' D' n' ys ((y₁.goNew a hD2 hD1).less ((List.sublist_cons_self _ _).cons_cons _)) ?_
    refine pairedD hi (List.range ds.length) vs ys.toList (ints_of_get _ _ (by simpa using hl) fun j v k hv hk => ?_) (fun k hk => List.mem_range.mp hk) hF
    obtain ⟨hj, t7, rfl⟩ := hP j v hv
    rw [List.getElem?_map, List.getElem?_range (by omega)] at hk
    simp at hk
    subst hk
    have e0 : (0 + (j : Int) * 1) = (j : Int) := by omega
    rw [e0]
    exact ⟨t7, rfl⟩
end
end Mine
end -- D1
section -- B7
set_option maxRecDepth 100000
set_option maxHeartbeats 1000000
namespace Mine
open Builtin
theorem forIn_steps {β : Type} (f : Nat → β → Sem (ForInStep β)) (g : Nat → β) : ∀ (m k : Nat), (∀ i, k ≤ i → i < k + m → f i (g i) = pure (.yield (g (i + 1)))) → forIn (List.range' k m) (g k) f = pure (g (k + m))
  | 0, k, _ => by simp
  | m + 1, k, h => by
    rw [List.range'_succ, List.forIn_cons, h k (Nat.le_refl _) (by omega), pure_bind]
    have := forIn_steps f g m (k + 1) fun i h1 h2 => h i (by omega) (by omega)
    rw [show k + (m + 1) = k + 1 + m by omega]
    exact this
theorem dec_step (id : String) (b : Array UInt8) (hb : ∀ c ∈ b, c.toNat < 128) (hs : b.size ≤ 100) : _codecs.runDecoder id _codecs.asciiDecoder none true b 0 [] = pure (b.map fun c => c.toNat, b.size) := by
  unfold _codecs.runDecoder
  simp only [Std.Legacy.Range.forIn_eq_forIn_range']
  have hsz : [:b.size].size = b.size := by simp [Std.Legacy.Range.size]
  rw [hsz]
  refine Eq.trans (b := (pure (b.size, b.map (fun c => c.toNat), ({ } : _codecs.Faults)) : Sem (Nat × Array Nat × _codecs.Faults)) >>= fun r => pure (r.2.1, r.1)) (congrArg (fun z => z >>= _) ?_) (pure_bind _ _)
  have eN : ((b.toList.take b.size).map fun c => c.toNat).toArray = b.map fun c => c.toNat := by
    rw [← Array.length_toList, List.take_length]
    apply Array.toList_inj.mp
    simp
  refine (forIn_steps _ (fun i => (i, ((b.toList.take i).map fun c => c.toNat).toArray, ({ } : _codecs.Faults))) b.size 0 (fun i _ hi => ?_)).trans (by rw [Nat.zero_add, eN])
  rw [Nat.zero_add] at hi
  dsimp only
  have h1 : ¬ (((b.toList.take i).map fun c => c.toNat).toArray.size > sizeLine) := by
    rw [sizeLine_eq]; simp; omega
  rw [if_neg h1, if_neg (by omega)]
  have hget : b.getD i 0 = b[i] := by simp [hi]
  have hlt := hb b[i] (by simp)
  have hfind : _codecs.asciiDecoder.find true b i = .text [b[i].toNat] (i + 1) := by
    show (if (b.getD i 0).toNat < 128 then _codecs.Found.char (b.getD i 0).toNat (i + 1) else _) = _
    rw [hget, if_pos hlt]
    rfl
  rw [hfind]
  dsimp only
  congr 4
  rw [List.take_add_one, List.map_append]
  simp [hi]
theorem forIn_one {β : Type} (f : Nat → β → Sem (ForInStep β)) (b c : β) (n : Nat) (h0 : f 0 b = pure (.yield c)) (h1 : f 1 c = pure (.done c)) : forIn (List.range' 0 (n + 1)) b f = pure c := by
  rw [List.range'_succ, List.forIn_cons, h0, pure_bind]
  cases n with
  | zero => simp
  | succ n =>
    dsimp only
    rw [List.range'_succ, List.forIn_cons, Nat.zero_add, h1, pure_bind]
theorem foldl_apps (xs : List Nat) (a : Array UInt8) : xs.foldl (fun acc y => acc ++ (_codecs.asciiCodec.bytesOf y).toArray) a = a ++ (xs.map fun c => c.toUInt8).toArray := by
  induction xs generalizing a with
  | nil => simp
  | cons x xs ih =>
    rw [List.foldl_cons, ih]
    apply Array.toList_inj.mp
    simp [_codecs.asciiCodec]
theorem enc_step (id : String) (self : Value) (s : Str) (hb : ∀ c ∈ s.cps, c < 128) (hs : s.cps.size ≤ 100) : _codecs.encodeNarrow id _codecs.asciiCodec none self s = pure (s.cps.map fun c => c.toUInt8) := by
  unfold _codecs.encodeNarrow
  simp only [Std.Legacy.Range.forIn_eq_forIn_range']
  have hsz : [:s.length].size = s.cps.size := by simp [Std.Legacy.Range.size, Str.length]
  rw [hsz]
  refine Eq.trans (b := (pure (s.cps.size, s.cps.map (fun c => c.toUInt8), ({ } : _codecs.Faults)) : Sem (Nat × Array UInt8 × _codecs.Faults)) >>= fun r => pure r.2.1) (congrArg (fun z => z >>= _) ?_) (pure_bind _ _)
  cases hn : s.cps.size with
  | zero =>
    have : s.cps = #[] := Array.eq_empty_of_size_eq_zero hn
    rw [show List.range' 0 0 = [] from rfl, List.forIn_nil, this]
    simp
  | succ n =>
    refine forIn_one _ _ _ n ?_ ?_
    · dsimp only
      have h0 : ¬ ((#[] : Array UInt8).size > sizeLine) := by simp
      have hx : s.cps[0]? = some s.cps[0] := by simp
      have hbad : (!_codecs.asciiCodec.bad s.cps[0]) = true := by
        have := hb s.cps[0] (by simp)
        show (!decide (s.cps[0] ≥ 128)) = true
        rw [decide_eq_false (by omega)]
        rfl
      rw [if_neg h0, hx]
      dsimp only
      rw [if_pos hbad]
      have e1 : s.cps.extract 0 (n + 1) = s.cps := by rw [← hn]; simp
      have e2 : Array.findIdx? _codecs.asciiCodec.bad s.cps = none := by
        rw [Array.findIdx?_eq_none_iff]
        intro c hc
        have := hb c hc
        show decide (c ≥ 128) = false
        exact decide_eq_false (by omega)
      rw [e1, e2]
      dsimp only [Option.getD]
      rw [hn, e1, Nat.zero_add, ← Array.foldl_toList, foldl_apps]
      congr 4
      apply Array.toList_inj.mp
      simp
    · dsimp only
      have h0 : ¬ ((s.cps.map fun c => c.toUInt8).size > sizeLine) := by rw [sizeLine_eq]; simp; omega
      have hx : s.cps[n + 1]? = none := by simp [hn]
      rw [if_neg h0, hx]
abbrev ASC : Str := Str.ofString "ascii"
theorem road_asc {id : String} {b : Array UInt8} : _codecs.decodeRoad id b ASC none [] = (_codecs.runDecoder id _codecs.asciiDecoder none true b 0 [] >>= fun r => mkStr ⟨r.1⟩) := by kernel_rfl
theorem eroad_asc {id : String} {self : Value} {s : Str} : _codecs.encodeRoad id self s ASC none = (_codecs.encodeNarrow id _codecs.asciiCodec none self s >>= fun r => mkBytes r) := by kernel_rfl
theorem meets_text {b : Array UInt8} {t t1 t2 : Tok} {d : Str} (hb : ∀ c ∈ b, c.toNat < 128) (hs : b.size ≤ 100) :
    Meets («_codecs.decode.text» ⟨[.bytes b t, .str ASC t1, .none, .str d t2], []⟩) (fun _ R s => ∀ t' k, R (.ok (.ret (.str ⟨b.map fun c => c.toNat⟩ t'))) { s with toks := k }) := by
  refine .of_wp fun prog w A R s h => ?_
  show wpAny _ _ (Bytes.bytesLike _ (.bytes b t) >>= fun r => _) _ _ s
  refine wpAny_bind (wpAny_of_eq KBd.like_eq ?_)
  refine wpAny_bind (wpAny_of_eq KBd.held_eq ?_)
  show wpAny _ _ (_codecs.decodeRoad _ b ASC none [] >>= fun v => _) _ _ s
  rw [road_asc, dec_step _ _ hb hs]
  refine wpAny_bind (wpAny_bind (wpAny_pure ?_))
  exact wpAny_mkStr (wpAny_pure ⟨_, rfl, h _ _⟩) (by rw [sizeLine_eq]; show (b.map _).size ≤ _; simp; omega)
theorem dec_nil {t u : Tok} : «bytes.decode» ⟨[.bytes #[] t], [(Str.ofString "encoding", .str ASC u)]⟩ = (rule "bytes.decode.empty" >>= fun _ => retStr Str.empty) := by kernel_rfl
theorem dec_cons {c : UInt8} {cs : List UInt8} {t u : Tok} : «bytes.decode» ⟨[.bytes (c :: cs).toArray t], [(Str.ofString "encoding", .str ASC u)]⟩ = (mkStr (Str.ofString "utf-8") >>= fun _ => mkStr ASC >>= fun e => mkStr (Str.ofString "bytes.decode") >>= fun d =>
    call (.builtin "_codecs.decode.text") [.bytes (c :: cs).toArray t, e, .none, d] >>= fun v => ret v) := by kernel_rfl
theorem meets_dec {b : Array UInt8} {t u : Tok} (hb : ∀ c ∈ b, c.toNat < 128) (hs : b.size ≤ 100) : Meets («bytes.decode» ⟨[.bytes b t], [(Str.ofString "encoding", .str ASC u)]⟩) (fun _ R s => ∀ t' k, R (.ok (.ret (.str ⟨b.map fun c => c.toNat⟩ t'))) { s with toks := k }) := by
  refine .of_wp fun prog w A R s h => ?_
  obtain ⟨l⟩ := b
  cases l with
  | nil =>
    rw [show (⟨[]⟩ : Array UInt8) = #[] from rfl, dec_nil]
    refine wpAny_bind (wpAny_rule ?_)
    unfold retStr
    have e : (⟨(⟨[]⟩ : Array UInt8).map fun c => c.toNat⟩ : Str) = Str.empty := by
      rw [show (⟨[]⟩ : Array UInt8) = #[] from rfl, Array.map_empty]; rfl
    refine wpAny_bind (wpAny_mkStr (wpAny_pure ⟨_, rfl, ?_⟩) (by decide))
    rw [← e]
    exact h _ _
  | cons c cs =>
    rw [dec_cons]
    refine wpAny_bind (wpAny_mkStr ?_ (by decide))
    refine wpAny_bind (wpAny_mkStr ?_ (by decide))
    refine wpAny_bind (wpAny_mkStr ?_ (by decide))
    exact wpAny_bind (call_function_meets KBd.kind_text KBd.plain_text KBd.entry_text (KBd.args_text _ _ _ _) (meets_text hb hs) fun t' k => wpAny_pure ⟨_, rfl, h _ _⟩)
theorem args_dec_kw (a v : Value) : argsOk "bytes.decode" ⟨[a], [(Str.ofString "encoding", v)]⟩ := by unfold argsOk; kernel_rfl
theorem typeCall_str_2 (a b : Value) : checkTypeCall "str" ⟨[a, b], []⟩ = pure () := by kernel_rfl
theorem newCall_str_2 (a b : Value) : checkBuiltinCall "str.__new__" ⟨[.type "str", a, b], []⟩ = pure () := by kernel_rfl
theorem new_tree {b : Array UInt8} {t u : Tok} : «str.__new__» ⟨[.type "str", .bytes b t, .str ASC u], []⟩ = (do
    if !(← isType (.type "str")) then
      rule "str.__new__.cls-no-type"; raiseError "TypeError" s!"str.__new__(X): X is not a type object ({← typeNameOf (.type "str")})"
    if !(← isSubtype (.type "str") (.type "str")) then
      rule "str.__new__.cls-no-subtype"; raiseError "TypeError" s!"str.__new__({← typeName (.type "str")}): {← typeName (.type "str")} is not a subtype of str"
    let e ← mkStr ASC
    if ← isInstance (.bytes b t) (.type "bytes") then rule "str.__new__.decode-bytes" else unsupported ""
    ret (← call (.builtin "bytes.decode") [.bytes b t] [(Str.ofString "encoding", e)])) := by kernel_rfl
theorem meets_new {b : Array UInt8} {t u : Tok} (hb : ∀ c ∈ b, c.toNat < 128) (hs : b.size ≤ 100) : Meets («str.__new__» ⟨[.type "str", .bytes b t, .str ASC u], []⟩) (fun _ R s => ∀ t' k, R (.ok (.ret (.str ⟨b.map fun c => c.toNat⟩ t'))) { s with toks := k }) := by
  refine .of_wp fun prog w A R s h => ?_
  rw [new_tree]
  refine wpAny_bind (wpAny_pure ?_)
  refine wpAny_bind (wpAny_of_eq isSubtype_str_str ?_)
  refine wpAny_bind (wpAny_mkStr ?_ (by decide))
  refine wpAny_bind (wpAny_isInstance (T := "bytes") (b := true) (typeIs_bytes _ _ _) (by rw [isSubtype_type]; kernel_rfl) ?_)
  refine wpAny_bind (wpAny_rule ?_)
  refine wpAny_bind (wpAny_call (codeAny_call_builtin FB.slot_bytes_decode.plain FB.entry_bytes_decode (FB.slot_bytes_decode.check _ _ _ _ _ _ _ _ (typeIs_bytes _ _ _) (args_dec_kw _ _) (meets_dec hb hs prog w A.in1 (fun r s' => match r with | .ok (.ret v) => wpAny (model prog w) A.in1 (ret v) (fun fin s' => ∃ v, fin = .done (.ret v) ∧ R (.ok (.ret v)) s') (fun e s' => R (.error e) s') s' | .ok _ => False | .error e => R (.error e) s') _ ?_))))
  intro t' k
  exact wpAny_pure ⟨_, rfl, h t' k⟩
section
variable {w : World} {A : Around} {s : Shared} {E : Value → Shared → Prop}
theorem call_str_asc {b : Array UInt8} {t u : Tok} {Q : Value → Shared → Prop} (hb : ∀ c ∈ b, c.toNat < 128) (hs : b.size ≤ 100) (h : ∀ t' k, Q (.str ⟨b.map fun c => c.toNat⟩ t') { s with toks := k }) : wpAny (MM w) A (call (.type "str") [.bytes b t, .str ASC u]) Q E s :=
  callType_new PySem.F.called_str (by decide) (typeCall_str_2 _ _) (newCall_str_2 _ _) (fun obj => PySem.F.args_object_init_3 obj _ _) PySem.F.entry_str_new (meets_new hb hs) fun t' k => ⟨typeIs_str _ _ _, h t' k⟩
theorem enc_tree {s : Str} {t u : Tok} : «str.encode» ⟨[.str s t, .str ASC u], []⟩ = (_codecs.encodeRoad "str.encode" (.str s t) s ASC none >>= fun v => ret v) := by kernel_rfl
theorem meets_enc {x : Str} {t u : Tok} (hb : ∀ c ∈ x.cps, c < 128) (hs : x.cps.size ≤ 100) : Meets («str.encode» ⟨[.str x t, .str ASC u], []⟩) (fun _ R s => ∀ t' k, R (.ok (.ret (.bytes (x.cps.map fun c => c.toUInt8) t'))) { s with toks := k }) := by
  refine .of_wp fun prog w A R s h => ?_
  rw [enc_tree, eroad_asc, enc_step _ _ _ hb hs]
  refine wpAny_bind (wpAny_bind (wpAny_pure ?_))
  exact wpAny_mkBytes (wpAny_pure ⟨_, rfl, h _ _⟩) (by rw [sizeLine_eq]; simp; omega)
theorem call_enc {x : Str} {t u : Tok} {Q : Value → Shared → Prop} (hb : ∀ c ∈ x.cps, c < 128) (hs : x.cps.size ≤ 100) (h : ∀ t' k, Q (.bytes (x.cps.map fun c => c.toUInt8) t') { s with toks := k }) : wpAny (MM w) A (call (.builtin "str.encode") [.str x t, .str ASC u]) Q E s :=
  call_meets PySem.F.slot_str_encode (typeIs_str _ _ _) PySem.F.entry_str_encode (PySem.F.args_str_encode_2 _ _) (meets_enc hb hs) h
end
end Mine
end -- B7
section -- D2
set_option maxRecDepth 100000
set_option maxHeartbeats 1000000
namespace Mine
inductive BysAre : List Value → List (Array UInt8) → Prop
  | nil : BysAre [] []
  | cons (b : Array UInt8) (t : Tok) {vs : List Value} {bs : List (Array UInt8)} (h : BysAre vs bs) : BysAre (.bytes b t :: vs) (b :: bs)
theorem hexs_lt : ∀ (n : Nat), ∀ d ∈ hexs n, d < 16 := by
  intro n
  induction n using Nat.strongRecOn with
  | ind n ih =>
    intro d hd
    by_cases h : n = 0
    · subst h; rw [hexs_zero] at hd; nomatch hd
    · rw [hexs_pos h] at hd
      rcases List.mem_append.mp hd with hd | hd
      · exact ih (n / 16) (by omega) d hd
      · simp at hd; omega
theorem apB_str (ds : List Nat) (h : ∀ d ∈ ds, d < 16) : (⟨(apB ds).map fun c => c.toNat⟩ : Str) = wS ds := by
  refine str_ext' ?_
  simp only [wS, apB, lets, Array.toList_map, List.map_map]
  refine List.map_congr_left fun d hd => ?_
  have := h d hd
  simp
  omega
theorem apB_ascii (ds : List Nat) (h : ∀ d ∈ ds, d < 16) : ∀ c ∈ apB ds, c.toNat < 128 := by
  intro c hc
  simp [apB] at hc
  obtain ⟨d, hd, rfl⟩ := hc
  have := h d hd
  simp
  omega
theorem wS_ascii (ds : List Nat) (h : ∀ d ∈ ds, d < 16) : ∀ c ∈ (wS ds).cps, c < 128 := by
  intro c hc
  simp [wS, lets] at hc
  obtain ⟨d, hd, rfl⟩ := hc
  have := h d hd
  omega
theorem wS_bytes (ds : List Nat) (h : ∀ d ∈ ds, d < 16) : ((wS ds).cps.map fun c => c.toUInt8) = apB ds := by
  simp only [wS, apB, lets]
  refine Array.toList_inj.mp ?_
  simp
theorem paired_strs2 {F : Value → Value → Prop} {f : Int → Str} : ∀ {ns : List Int} {its ys : List Value}, IntsAre its ns → (∀ n ∈ ns, ∀ t y, F (.int n t) y → ∃ t', y = .str (f n) t') → Paired F its ys → StrsAre ys (ns.map f)
  | _, _, _, .nil, _, hp => by cases hp; exact .nil
  | _, _, _, .cons n t h, hF, hp => by
    cases hp with
    | cons hf hr =>
      obtain ⟨t', rfl⟩ := hF n (.head _) t _ hf
      exact .cons _ _ (paired_strs2 h (fun k hk => hF k (.tail _ hk)) hr)
theorem paired_bys2 {F : Value → Value → Prop} {f : Int → Array UInt8} : ∀ {ns : List Int} {its ys : List Value}, IntsAre its ns → (∀ n ∈ ns, ∀ t y, F (.int n t) y → ∃ t', y = .bytes (f n) t') → Paired F its ys → BysAre ys (ns.map f)
  | _, _, _, .nil, _, hp => by cases hp; exact .nil
  | _, _, _, .cons n t h, hF, hp => by
    cases hp with
    | cons hf hr =>
      obtain ⟨t', rfl⟩ := hF n (.head _) t _ hf
      exact .cons _ _ (paired_bys2 h (fun k hk => hF k (.tail _ hk)) hr)
theorem paired_bysS {F : Value → Value → Prop} {f : Str → Array UInt8} : ∀ {ss : List Str} {its ys : List Value}, StrsAre its ss → (∀ n ∈ ss, ∀ t y, F (.str n t) y → ∃ t', y = .bytes (f n) t') → Paired F its ys → BysAre ys (ss.map f)
  | _, _, _, .nil, _, hp => by cases hp; exact .nil
  | _, _, _, .cons n t h, hF, hp => by
    cases hp with
    | cons hf hr =>
      obtain ⟨t', rfl⟩ := hF n (.head _) t _ hf
      exact .cons _ _ (paired_bysS h (fun k hk => hF k (.tail _ hk)) hr)
theorem paired_strsS {F : Value → Value → Prop} {f : Str → Str} : ∀ {ss : List Str} {its ys : List Value}, StrsAre its ss → (∀ n ∈ ss, ∀ t y, F (.str n t) y → ∃ t', y = .str (f n) t') → Paired F its ys → StrsAre ys (ss.map f)
  | _, _, _, .nil, _, hp => by cases hp; exact .nil
  | _, _, _, .cons n t h, hF, hp => by
    cases hp with
    | cons hf hr =>
      obtain ⟨t', rfl⟩ := hF n (.head _) t _ hf
      exact .cons _ _ (paired_strsS h (fun k hk => hF k (.tail _ hk)) hr)
theorem bys_at : ∀ {vs : List Value} {bs : List (Array UInt8)}, BysAre vs bs → ∀ {i : Nat} {v : Value}, vs[i]? = some v → ∃ b t, bs[i]? = some b ∧ v = .bytes b t
  | _, _, .nil, i, v, e => by simp at e
  | _, _, .cons b t h, i, v, e => by
    cases i with
    | zero => simp at e; exact ⟨b, t, rfl, e.symm⟩
    | succ i => simpa using bys_at h (i := i) (v := v) (by simpa using e)
theorem BysAre.len {vs : List Value} {bs : List (Array UInt8)} (h : BysAre vs bs) : vs.length = bs.length := by
  induction h with
  | nil => rfl
  | cons b t h ih => simp [ih]
section
variable {w : World} {A : Around} {s s₀ s₃ : Shared} {E : Value → Shared → Prop} {L : Addr} {m : Loc} {own xs rest : List (Addr × Obj)} {env : Env} {l cv : Loc}
theorem eqB (A : Around) (s : Shared) (a : Array UInt8) (t u : Tok) : SeqAt.EqAt A s (.bytes a t) (.bytes a u) true := fun prog w E Q h => by
  unfold eqBool
  refine wpAny_holding ?_
  refine wpAny_ite_split (fun hab => wpAny_bind (wpAny_rule (wpAny_pure h))) (fun _ => ?_)
  exact wpAny_bind (richCompare_gives (T := "bytes") (typeIs_bytes s a t) (typeIs_bytes s a u) FB.slot_bytes_eq FB.entry_bytes_eq (FB.args_bytes_eq_2 _ _) (gives_bytes_eq a a t u) (fun x => nomatch x) (wpAny_truthy_bool (by simpa using h)))
theorem eqStrs {vs ws : List Value} {ss : List Str} (hv : StrsAre vs ss) (hw : StrsAre ws ss) (A : Around) (s : Shared) : ∀ j (h1 : j < vs.toArray.size) (h2 : j < ws.toArray.size), SeqAt.EqAt A s vs.toArray[j] ws.toArray[j] true := fun j h1 h2 => by
  obtain ⟨p, t, e1, e2⟩ := strs_at hv (i := j) (v := vs.toArray[j]) (by simp at h1; simp [h1])
  obtain ⟨q, u, e3, e4⟩ := strs_at hw (i := j) (v := ws.toArray[j]) (by simp at h2; simp [h2])
  rw [e1] at e3
  cases e3
  rw [e2, e4]
  have := SeqAt.EqAt.str_str (A := A) (s := s) p t p u
  rwa [beq_self_eq_true] at this
theorem eqBys {vs ws : List Value} {ss : List (Array UInt8)} (hv : BysAre vs ss) (hw : BysAre ws ss) (A : Around) (s : Shared) : ∀ j (h1 : j < vs.toArray.size) (h2 : j < ws.toArray.size), SeqAt.EqAt A s vs.toArray[j] ws.toArray[j] true := fun j h1 h2 => by
  obtain ⟨p, t, e1, e2⟩ := bys_at hv (i := j) (v := vs.toArray[j]) (by simp at h1; simp [h1])
  obtain ⟨q, u, e3, e4⟩ := bys_at hw (i := j) (v := ws.toArray[j]) (by simp at h2; simp [h2])
  rw [e1] at e3
  cases e3
  rw [e2, e4]
  exact eqB A s p t u
theorem neLists {l b : Addr} {vs ws : Array Value} {Q : Value → Shared → Prop} (hl : s.heap.IsList l vs) (hb : s.heap.IsList b ws) (hsz : vs.size = ws.size) (hu : A.units < cLine) (he : ∀ j (h1 : j < vs.size) (h2 : j < ws.size), SeqAt.EqAt A.in1 s vs[j] ws[j] true)
    (h : Q (.bool false) s) : wpAny (MM w) A (compareOp .NotEq (.ref l) (.ref b)) Q E s := by
  refine SeqAt.RcNeAt.lists (e := fun _ => true) hl hb hsz hu he pw w _ _ ?_
  have : (List.range vs.size).all (fun _ => true) = true := by simp
  rw [this]
  exact h
end
end Mine
end -- D2
section -- D3
set_option maxRecDepth 100000
set_option maxHeartbeats 1000000
namespace Mine
def wI (n : Int) : Str := wS (hexs n.natAbs)
def bI (n : Int) : Array UInt8 := apB (hexs n.natAbs)
theorem filtT (its : List Value) : List.filter (fun _ => true) its.toArray.toList = its := List.filter_eq_self.mpr fun _ _ => rfl
theorem hexs_size {n : Int} (h : n.natAbs < 16 ^ 7) : (hexs n.natAbs).length ≤ 7 := hexs_len 7 _ h
section
variable {w : World} {A : Around} {s s₀ s₃ : Shared} {E : Value → Shared → Prop} {L : Addr} {m : Loc} {own xs rest : List (Addr × Obj)} {env : Env} {l cv : Loc}
theorem words_ev {Q : Value → Shared → Prop} {oS : Obj} {D : Addr} {its : List Value} {ns : List Int} {k0 : Nat} (hd : Rm A 2) (y : Fm s₀ L m own s) (C₀ : Cx w s₀.heap) (hS : (L + 3, oS) ∈ own) (hSd : oS.data = .cell (some (.ref D))) (hD : (D, listOf its.toArray k0) ∈ own) (hi : IntsAre its ns) (hsz : ns.length ≤ 100) (hb : ∀ n ∈ ns, n.natAbs < 16 ^ 7)
    (h : ∀ s' D' n' its', Fm s₀ L m ((D', listOf its' n') :: own) s' → StrsAre its'.toList (ns.map wI) → Q (.ref D') s') : wpAny (MM w) A (eval (asgE (lawSt 2)) (lawEnv L)) Q E s := by
  have hlen := hi.length
  refine fLstComp (s₀ := s₀) (L := L) (cl := []) (fun _ => true) (fun v y => ∃ n t t', v = .int n t ∧ y = .str (wI n) t') [] hd.hh rfl rfl rfl rfl rfl (eC (c := L + 3) (env := lawEnv L) y hS hSd rfl rfl rfl ⟨D, its.toArray, m, own, rfl, y, ⟨_, (y.N _ hD).1, rfl, k0, rfl⟩, (by show its.toArray.size ≤ 16777216; simp; omega), (fun p hp => nomatch hp), ?_, ?_, ?_⟩)
  · intro s₃ C i v E' k hv ev
    exact tests0 ⟨rfl, .refl⟩
  · intro s₃ C i v E' k hv _ ev
    obtain ⟨n, t, hn, rfl⟩ := ints_at hi (by simpa using hv)
    have hn16 := hb n (List.mem_of_getElem? hn)
    have C₃ : Cx w s₃.heap := (C₀.up y.keep).up k
    refine eCall (eB C₃ 18 5 rfl rfl rfl rfl rfl rfl (cT (aC (eCall (eG C₃ 0 rfl rfl rfl rfl (cF (fd := fdInt2AP) rfl (aC (vL ev rfl rfl rfl (aN ⟨C₃.F.K, int2AP_call C₃ hd n t hn16 fun h' t' k' kk => aC (eStr fun t2 k2 => aN (call_str_asc (apB_ascii _ (hexs_lt _)) (by rw [apB_size]; have := hexs_size hn16; omega) fun t3 k3 => ⟨⟨n, t, t3, rfl, ?_⟩, .of kk⟩))⟩)))))))))
    rw [apB_str _ (hexs_lt _)]
    rfl
  · intro s' D' n' ys y' hp
    refine h s' D' n' ys y' (paired_strs2 hi ?_ (by rw [filtT] at hp; exact hp))
    rintro n _ t y ⟨n', t1, t2, e1, e2⟩
    cases e1
    exact ⟨t2, e2⟩
theorem word2_ev {Q : Value → Shared → Prop} {oS : Obj} {D : Addr} {its : List Value} {ns : List Int} {k0 : Nat} {px pos : Pos} {pi p1 p2 p3 : Pos} (hd : Rm A 4) (y : Fm s₀ L m own s) (C₀ : Cx w s₀.heap) (hS : (L + 3, oS) ∈ own) (hSd : oS.data = .cell (some (.ref D))) (hD : (D, listOf its.toArray k0) ∈ own) (hi : IntsAre its ns) (hsz : ns.length ≤ 100) (hb : ∀ n ∈ ns, 0 ≤ n ∧ n.natAbs < 16 ^ 7)
    (h : ∀ s' D' n' its', Fm s₀ L m ((D', listOf its' n') :: own) s' → StrsAre its'.toList (ns.map wI) → Q (.ref D') s') :
    wpAny (MM w) A (eval (.ListComp (.Call (.Name "_law_word" p1) [.Name "number" p2] [] p3) [⟨.Name "number" px, .Name "numbers" pi, [], 0⟩] ⟨.function, [(".0", .local), ("number", .local), ("_law_word", .globalImplicit)], false, false, []⟩ pos) (lawEnv L)) Q E s := by
  have hlen := hi.length
  refine fLstComp (s₀ := s₀) (L := L) (cl := []) (fun _ => true) (fun v y => ∃ n t t', v = .int n t ∧ y = .str (wI n) t') [] hd.hh rfl rfl rfl rfl rfl (eC (c := L + 3) (env := lawEnv L) y hS hSd rfl rfl rfl ⟨D, its.toArray, m, own, rfl, y, ⟨_, (y.N _ hD).1, rfl, k0, rfl⟩, (by show its.toArray.size ≤ 16777216; simp; omega), (fun p hp => nomatch hp), ?_, ?_, ?_⟩)
  · intro s₃ C i v E' k hv ev
    exact tests0 ⟨rfl, .refl⟩
  · intro s₃ C i v E' k hv _ ev
    obtain ⟨n, t, hn, rfl⟩ := ints_at hi (by simpa using hv)
    obtain ⟨hn0, hn16⟩ := hb n (List.mem_of_getElem? hn)
    obtain ⟨j, rfl⟩ := Int.eq_ofNat_of_zero_le hn0
    have C₃ : Cx w s₃.heap := (C₀.up y.keep).up k
    refine eCall (eG C₃ 10 rfl rfl rfl rfl (cF (fd := fdWord) rfl (aC (vL ev rfl rfl rfl (aN ⟨C₃.F.K, word_call C₃ hd (by simpa using hn16) fun s' t' a => ⟨⟨_, t, t', rfl, rfl⟩, a⟩⟩)))))
  · intro s' D' n' ys y' hp
    refine h s' D' n' ys y' (paired_strs2 hi ?_ (by rw [filtT] at hp; exact hp))
    rintro n _ t y ⟨n', t1, t2, e1, e2⟩
    cases e1
    exact ⟨t2, e2⟩
theorem neg_ev {Q : Value → Shared → Prop} {oS : Obj} {D : Addr} {its : List Value} {ns : List Int} {k0 : Nat} {px pos : Pos} {pi p1 p2 p3 p4 p5 : Pos} {kk : Nat} (hd : Rm A 2) (y : Fm s₀ L m own s) (C₀ : Cx w s₀.heap) (hS : (L + 3, oS) ∈ own) (hSd : oS.data = .cell (some (.ref D))) (hD : (D, listOf its.toArray k0) ∈ own) (hi : IntsAre its ns) (hsz : ns.length ≤ 100) (hb : ∀ n ∈ ns, 0 ≤ n ∧ n.natAbs < 16 ^ 7)
    (h : ∀ s' D' n' its', Fm s₀ L m ((D', listOf its' n') :: own) s' → BysAre its'.toList (ns.map bI) → Q (.ref D') s') :
    wpAny (MM w) A (eval (.ListComp (.Call (.Name "Int2AP" p1) [.BinOp (.Constant (.int 0) kk p4) .Sub (.Name "number" p2) p5] [] p3) [⟨.Name "number" px, .Name "numbers" pi, [], 0⟩] ⟨.function, [(".0", .local), ("number", .local), ("Int2AP", .globalImplicit)], false, false, []⟩ pos) (lawEnv L)) Q E s := by
  have hlen := hi.length
  refine fLstComp (s₀ := s₀) (L := L) (cl := []) (fun _ => true) (fun v y => ∃ n t t', v = .int n t ∧ y = .bytes (bI n) t') [] hd.hh rfl rfl rfl rfl rfl (eC (c := L + 3) (env := lawEnv L) y hS hSd rfl rfl rfl ⟨D, its.toArray, m, own, rfl, y, ⟨_, (y.N _ hD).1, rfl, k0, rfl⟩, (by show its.toArray.size ≤ 16777216; simp; omega), (fun p hp => nomatch hp), ?_, ?_, ?_⟩)
  · intro s₃ C i v E' k hv ev
    exact tests0 ⟨rfl, .refl⟩
  · intro s₃ C i v E' k hv _ ev
    obtain ⟨n, t, hn, rfl⟩ := ints_at hi (by simpa using hv)
    obtain ⟨hn0, hn16⟩ := hb n (List.mem_of_getElem? hn)
    have C₃ : Cx w s₃.heap := (C₀.up y.keep).up k
    have en : (0 - n).natAbs = n.natAbs := by omega
    refine eCall (eG C₃ 0 rfl rfl rfl rfl (cF (fd := fdInt2AP) rfl (aC (wpAny_BinOp (eInt fun t1 k1 => vL (ev.tok k1) rfl rfl rfl (sub_int (aN ⟨C₃.F.K, int2AP_call (by exact C₃) hd (0 - n) _ (by rw [en]; exact hn16) fun h' t' k' kk => ⟨⟨n, t, t', rfl, ?_⟩, .of kk⟩⟩)))))))
    rw [en]; rfl
  · intro s' D' n' ys y' hp
    refine h s' D' n' ys y' (paired_bys2 hi ?_ (by rw [filtT] at hp; exact hp))
    rintro n _ t y ⟨n', t1, t2, e1, e2⟩
    cases e1
    exact ⟨t2, e2⟩
end
end Mine
end -- D3
section -- O1
set_option maxRecDepth 100000
set_option maxHeartbeats 1000000
namespace Mine
theorem mro_object : mroOf (.type "object") = pure [.type "object"] := by rw [mroOf_type]; kernel_rfl
theorem lookup_object_new : typeLookup (.type "object") "__new__" = pure (some (.builtin "object.__new__")) := by rw [typeLookup_type, builtinLookup_eq_fast]; kernel_rfl
theorem called_object : TypeCalled "object" "object.__new__" "object.__init__" :=
  ⟨by decide +kernel, by decide +kernel, ⟨_, _, mro_object⟩, madeBy_type mro_object lookup_object_new (by decide +kernel), by decide +kernel, by rw [isSubtype_type]; kernel_rfl, F.slot_object_init⟩
theorem typeCall_object_0 : checkTypeCall "object" ⟨[], []⟩ = pure () := by kernel_rfl
theorem newCall_object_0 : checkBuiltinCall "object.__new__" ⟨[.type "object"], []⟩ = pure () := by kernel_rfl
theorem plain_object_new : plainId "object.__new__" = true := by decide +kernel
theorem madeHere_object : Bind.madeHere "object.__new__" (.type "object") = pure () := by kernel_rfl
theorem isType_object : isType (.type "object") = pure true := by first | rfl | kernel_rfl
def objO : Obj := { cls := .type "object", dict := none, data := .plain }
section
variable {prog : Program} {w : World} {A : Around} {E : Value → Shared → Prop} {s : Shared}
theorem code_object_new {Q₁ : Value → Shared → Prop} (h : Q₁ (.ref s.heap.objs.size) { s with heap := s.heap.push objO }) :
    codeAny (model prog w) A (.call (.builtin "object.__new__") ⟨[.type "object"], []⟩) (wants Q₁ E) s := by
  refine codeAny_of_tree ?_
  show wpAny _ A.in1 (do checkBuiltinCall "object.__new__" ⟨[.type "object"], []⟩; again (.builtin "object.__new__" ⟨[.type "object"], []⟩)) _ _ s
  refine wpAny_bind (wpAny_of_eq newCall_object_0 (wpAny_pure ⟨plainId_quiet plain_object_new _, codeAny_builtin F.entry_object_new ?_⟩))
  rw [Around.under_plainId plain_object_new _]
  unfold Builtin.«object.__new__»
  refine wpAny_bind (wpAny_of_eq isType_object ?_)
  simp only [Bool.not_true, Bool.false_eq_true, if_false]
  rw [if_neg (by decide +kernel)]
  refine wpAny_bind (wpAny_of_eq madeHere_object ?_)
  rw [if_neg (by decide +kernel)]
  rw [if_neg (by decide +kernel)]
  refine wpAny_bind (wpAny_pure ?_)
  refine wpAny_bind (wpAny_newObj_type ?_)
  rw [if_neg (by decide +kernel)]
  exact wpAny_pure h
theorem call_object_0 {Q : Value → Shared → Prop} (h : Q (.ref s.heap.objs.size) { s with heap := s.heap.push objO }) : wpAny (model prog w) A (call (.type "object") []) Q E s := by
  obtain ⟨c, tl, hmro⟩ := called_object.mro
  have hmade := called_object.made
  have hsub := called_object.sub
  refine wpAny_call (codeAny_of_tree ?_)
  show wpAny _ _ (callAny (.type "object") _) _ _ _
  refine wpAny_pure ⟨Code.quiet_builtin _ (by decide +kernel), codeAny_builtin F.entry_type_call ?_⟩
  rw [Around.under_plain (weight_type_call_type "object" [] []) rfl]
  have h1 := called_object.notType
  have h2 := called_object.canCreate
  have hct := typeCall_object_0
  repeat (any_goals (first | assumption | wp_step))
  refine codeAny_mono (code_object_new (E := E) (Q₁ := fun obj s₁ => obj = .ref s.heap.objs.size ∧ s₁ = { s with heap := s.heap.push objO }) ⟨rfl, rfl⟩) fun r s₁ hr => ?_
  cases r with
  | error e => exact hr
  | ok fl =>
    cases fl with
    | ret obj =>
      obtain ⟨rfl, rfl⟩ := hr
      have hS : (s.heap.push objO).get? s.heap.objs.size = some objO := Heap.get?_push_size _ rfl
      have hT : Shared.TypeIs { s with heap := s.heap.push objO } (.ref s.heap.objs.size) "object" := ⟨_, hS, rfl⟩
      have hli := called_object.init.lookup
      have hbi := called_object.init.bind (.ref s.heap.objs.size)
      repeat (any_goals (first | assumption | wp_step))
      refine codeAny_mono (codeAny_call_builtin (R := wants (fun r s₂ => r = .none ∧ Q (.ref s.heap.objs.size) s₂) E) called_object.init.plain entry_oi (F.slot_object_init.check _ _ _ _ _ _ _ _ hT (F.args_object_init_1 _) ?_)) fun r₂ s₂ hr₂ => ?_
      · show wpAny _ _ (ret .none) _ _ _
        exact wpAny_pure ⟨rfl, h⟩
      · cases r₂ with
        | error e => exact hr₂
        | ok fl₂ =>
          cases fl₂ with
          | ret r =>
            obtain ⟨rfl, hq⟩ := hr₂
            repeat (any_goals (first | assumption | wp_step))
          | _ => exact hr₂.elim
    | _ => exact hr.elim
end
end Mine
end -- O1
section -- T4
set_option maxRecDepth 100000
set_option maxHeartbeats 1000000
namespace Mine
section
variable {w : World} {A : Around} {s : Shared} {E : Value → Shared → Prop}
theorem trans_call {Q : Value → Shared → Prop} {x : Str} {t : Tok} {ds : List Nat} (C : Cx w s.heap) (hd : Rm A 5) (hx : x.cps.toList = lets ds ++ [42]) (hds : ∀ d ∈ ds, d < 16) (hl : ds.length ≤ 16)
    (h : ∀ s' t', After s s' → Q (.str (patR ds) t') s') : wpAny (MM w) A (call (.ref 57) [.str x t]) Q E s := by
  refine callF (fd := fdTranslate) [("pat", .str x t)] 1 C (hd.le (by omega)) rfl rfl rfl rfl rfl rfl fun s₁ x₁ => ?_
  have hD : Rm (A.deeper (callEnv fdTranslate s.heap.objs.size 57)) 4 := hd.deep
  generalize hA : A.deeper (callEnv fdTranslate s.heap.objs.size 57) = A' at hD ⊢
  show wpAny _ _ (execs [_, _, _] _) _ _ _
  refine wpAny_execs_cons (wpAny_Assign_Name (eCall (eB (C.up x₁.keep) 16 3 rfl rfl rfl rfl rfl rfl (cT0 (call_object_0 ?_)))))
  have x₂ := x₁.push objO
  generalize s₁.heap.objs.size = st at x₂ ⊢
  refine sL x₂ rfl rfl fun s₃ x₃ => ?_
  refine wpAny_execs_cons (wpAny_Assign_Name (eCall (eG (C.up x₃.keep) 3 rfl rfl rfl rfl (cF (fd := fdTr) rfl (aC (eL x₃ rfl rfl rfl (aC (eL x₃ rfl rfl rfl (aC (eStr fun t4 k4 => aN ⟨(C.up x₃.keep).F.K, translate_call (C.up (x₃.tok k4).keep) hD hx hds hl (.inr ⟨_, rfl⟩) fun s₅ l its vs af hp hf hv1 hv2 => ?_⟩))))))))))
  obtain ⟨n, hp⟩ := hp
  have x₅ := (x₃.tok k4).goNew af hp hf
  refine sL x₅ rfl rfl fun s₆ x₆ => ?_
  have hli : s₆.heap.IsList l (vs ++ [Value.ref st]).toArray := ⟨_, (x₆.N _ (.head _)).1, rfl, n, by rw [← hv1]⟩
  refine wpAny_execs_cons (wpAny_Return_some (eCall (eG (C.up x₆.keep) 4 rfl rfl rfl rfl (cF (fd := fdJoin) rfl (aC (eL x₆ rfl rfl rfl (aC (eL x₆ rfl rfl rfl (aN ⟨(C.up x₆.keep).F.K, join_call (C.up x₆.keep) hD hli hv2 hl fun s₇ t₇ af₇ => ?_⟩)))))))))
  exact h _ _ (x₆.go af₇).aft
end
end Mine
end -- T4
section -- D4
set_option maxRecDepth 100000
set_option maxHeartbeats 1000000
namespace Mine
def ifE : Stmt → Nat → Expr
  | .If (.BoolOp _ es _) _ _ _, i => es[i]?.getD default
  | _, _ => default
def cmpA : Expr → Expr
  | .Compare a _ _ _ => a
  | _ => default
def cmpB : Expr → Expr
  | .Compare _ _ (b :: _) _ => b
  | _ => default
def starW (x : Str) : Str := x ++ Str.ofString "*"
theorem star_cps (ds : List Nat) : (starW (wS ds)).cps.toList = lets ds ++ [42] := by
  have e1 : (Str.ofString "*").cps.toList = [42] := by decide +kernel
  show ((wS ds).cps ++ (Str.ofString "*").cps).toList = _
  rw [Array.toList_append, e1]; rfl
theorem pat_cat (ds : List Nat) : (Str.ofString "(?s:" ++ wS ds) ++ Str.ofString ".*)\\Z" = patR ds := by
  refine str_ext' ?_
  show (((Str.ofString "(?s:").cps ++ (wS ds).cps) ++ (Str.ofString ".*)\\Z").cps).toList = _
  rw [Array.toList_append, Array.toList_append]; rfl
theorem wS_len (ds : List Nat) : (wS ds).length = ds.length := by simp [wS, lets, Str.length]
theorem wI_len {n : Int} (h : n.natAbs < 16 ^ 7) : (wI n).length ≤ 7 := by unfold wI; rw [wS_len]; exact hexs_size h
theorem strs_mem {vs : List Value} {ns : List Int} (h : StrsAre vs (ns.map wI)) {i : Nat} {v : Value} (e : vs[i]? = some v) : ∃ n t, n ∈ ns ∧ ns[i]? = some n ∧ v = .str (wI n) t := by
  obtain ⟨p, t, e1, e2⟩ := strs_at h e
  rw [List.getElem?_map] at e1
  obtain ⟨n, e3, e4⟩ := Option.map_eq_some_iff.mp e1
  exact ⟨n, t, List.mem_of_getElem? e3, e3, by rw [e2, e4]⟩
theorem paired_strsI {α : Type} {F : Value → Value → Prop} {f : α → Str} {g : α → Str} : ∀ {ns : List α} {its ys : List Value}, StrsAre its (ns.map g) → (∀ n ∈ ns, ∀ t y, F (.str (g n) t) y → ∃ t', y = .str (f n) t') → Paired F its ys → StrsAre ys (ns.map f)
  | [], _, _, .nil, _, hp => by cases hp; exact .nil
  | n :: ns, _, _, .cons _ t h, hF, hp => by
    cases hp with
    | cons hf hr =>
      obtain ⟨t', rfl⟩ := hF n (.head _) t _ hf
      exact .cons _ _ (paired_strsI h (fun k hk => hF k (.tail _ hk)) hr)
theorem paired_bysI {α : Type} {F : Value → Value → Prop} {f : α → Array UInt8} {g : α → Str} : ∀ {ns : List α} {its ys : List Value}, StrsAre its (ns.map g) → (∀ n ∈ ns, ∀ t y, F (.str (g n) t) y → ∃ t', y = .bytes (f n) t') → Paired F its ys → BysAre ys (ns.map f)
  | [], _, _, .nil, _, hp => by cases hp; exact .nil
  | n :: ns, _, _, .cons _ t h, hF, hp => by
    cases hp with
    | cons hf hr =>
      obtain ⟨t', rfl⟩ := hF n (.head _) t _ hf
      exact .cons _ _ (paired_bysI h (fun k hk => hF k (.tail _ hk)) hr)
theorem wS_inj {ds es : List Nat} (h : wS ds = wS es) : ds = es := by
  have h1 : lets ds = lets es := by
    have := congrArg (fun x : Str => x.cps.toList) h
    simpa [wS] using this
  unfold lets at h1
  exact (List.map_inj_right (fun a b e => by omega)).mp h1
theorem hexs_inj : ∀ (n m : Nat), hexs n = hexs m → n = m := by
  intro n
  induction n using Nat.strongRecOn with
  | ind n ih =>
    intro m e
    by_cases hn : n = 0
    · subst hn
      by_cases hm : m = 0
      · exact hm.symm
      · rw [hexs_zero, hexs_pos hm] at e; simp at e
    · by_cases hm : m = 0
      · subst hm
        rw [hexs_zero, hexs_pos hn] at e; simp at e
      · rw [hexs_pos hn, hexs_pos hm] at e
        obtain ⟨e1, e2⟩ := List.append_inj' e rfl
        have := ih (n / 16) (by omega) _ e1
        simp at e2
        omega
section
variable {w : World} {A : Around} {s s₀ s₃ : Shared} {E : Value → Shared → Prop} {L : Addr} {m : Loc} {own xs rest : List (Addr × Obj)} {env : Env} {l cv : Loc}
theorem enc_ev {Q : Value → Shared → Prop} {oS : Obj} {D : Addr} {its : Array Value} {ns : List Int} {k0 : Nat} (hd : Rm A 2) (y : Fm s₀ L m own s) (hS : (L + 4, oS) ∈ own) (hSd : oS.data = .cell (some (.ref D))) (hD : (D, listOf its k0) ∈ own) (hi : StrsAre its.toList (ns.map wI)) (hsz : ns.length ≤ 100) (hb : ∀ n ∈ ns, 0 ≤ n ∧ n.natAbs < 16 ^ 7)
    (h : ∀ s' D' n' its', Fm s₀ L m ((D', listOf its' n') :: own) s' → BysAre its'.toList (ns.map bI) → Q (.ref D') s') :
    wpAny (MM w) A (eval (cmpB (ifE (lawSt 3) 1)) (lawEnv L)) Q E s := by
  have hlen := hi.length
  refine fLstComp (s₀ := s₀) (L := L) (cl := []) (fun _ => true) (fun v y => ∃ n t t', n ∈ ns ∧ v = .str (wI n) t ∧ y = .bytes (bI n) t') [] hd.hh rfl rfl rfl rfl rfl (eC (c := L + 4) (env := lawEnv L) y hS hSd rfl rfl rfl ⟨D, its, m, own, rfl, y, ⟨_, (y.N _ hD).1, rfl, k0, rfl⟩, (by show its.size ≤ 16777216; simp at hlen; omega), (fun p hp => nomatch hp), ?_, ?_, ?_⟩)
  · intro s₃ C i v E' k hv ev
    exact tests0 ⟨rfl, .refl⟩
  · intro s₃ C i v E' k hv _ ev
    obtain ⟨n, t, hm, hn, rfl⟩ := strs_mem hi (by simpa using hv)
    have hn16 := (hb n hm).2
    have hsz9 : (wI n).cps.size ≤ 100 := by have := wI_len hn16; have e : (wI n).length = (wI n).cps.size := rfl; omega
    refine eM (vL ev rfl rfl rfl (getMethod_builtin (typeIs_str _ _ _) F.plainAttrs_str F.slot_str_encode F.type_str_encode (fun a h => nomatch h) (cB (aC (eStr fun t2 k2 => aN (call_enc (wS_ascii _ (hexs_lt _)) hsz9 fun t3 k3 => ⟨⟨n, t, t3, hm, rfl, ?_⟩, (ev.tok k3).aft⟩))))))
    show Value.bytes ((wS (hexs n.natAbs)).cps.map fun c => c.toUInt8) t3 = _
    rw [wS_bytes _ (hexs_lt _)]; rfl
  · intro s' D' n' ys y' hp
    refine h s' D' n' ys y' (paired_bysI hi ?_ (by rw [filtT] at hp; exact hp))
    rintro n hn t y ⟨n', t1, t2, hm, e1, e2⟩
    have e3 : wI n = wI n' := by injection e1
    have : bI n = bI n' := by
      unfold bI; rw [wS_inj e3]
    exact ⟨t2, by rw [this]; exact e2⟩
end
end Mine
end -- D4
section -- D5
set_option maxRecDepth 100000
set_option maxHeartbeats 1000000
namespace Mine
section
variable {w : World} {A : Around} {s s₀ s₃ : Shared} {E : Value → Shared → Prop} {L : Addr} {m : Loc} {own xs rest : List (Addr × Obj)} {env : Env} {l cv : Loc}
theorem chk3 {Q : Flow → Shared → Prop} {oN oW : Obj} {DN DW : Addr} {itsN : List Value} {itsW : Array Value} {ns : List Int} {kN kW : Nat} (hd : Rm A 4) (y : Fm s₀ L m own s) (C₀ : Cx w s₀.heap) (hN : (L + 3, oN) ∈ own) (hNd : oN.data = .cell (some (.ref DN))) (hDN : (DN, listOf itsN.toArray kN) ∈ own) (hiN : IntsAre itsN ns)
    (hW : (L + 4, oW) ∈ own) (hWd : oW.data = .cell (some (.ref DW))) (hDW : (DW, listOf itsW kW) ∈ own) (hiW : StrsAre itsW.toList (ns.map wI)) (hsz : ns.length ≤ 100) (hb : ∀ n ∈ ns, 0 ≤ n ∧ n.natAbs < 16 ^ 7)
    (h : ∀ s', Fm s₀ L m own s' → Q .next s') : wpAny (MM w) A (exec (lawSt 3) (lawEnv L)) Q E s := by
  have hu : A.units < cLine := by have := hd.un; show _ < 9900; omega
  refine wpAny_If (isTrue_or (wpAny_isTrue_Compare1 (eC (c := L + 4) (env := lawEnv L) y hW hWd rfl rfl rfl (word2_ev hd y C₀ hN hNd hDN hiN hsz hb fun s₁ D₁ n₁ its₁ y₁ h₁ => ?_))))
  have l1 := hiW.length
  have l2 := h₁.length
  refine neLists (vs := itsW) (ws := its₁) ⟨_, (y₁.N _ (.tail _ hDW)).1, rfl, kW, rfl⟩ ⟨_, (y₁.N _ (.head _)).1, rfl, n₁, rfl⟩ (by simp at l1 l2; omega) hu (eqStrs hiW h₁ A.in1 s₁) (wpAny_truthy_bool ?_)
  rw [if_neg (by decide)]
  refine isTrue_or (wpAny_isTrue_Compare1 (neg_ev (hd.le (by omega)) y₁ C₀ (.tail _ hN) hNd (.tail _ hDN) hiN hsz hb fun s₂ D₂ n₂ its₂ y₂ h₂ => ?_))
  refine enc_ev (hd.le (by omega)) y₂ (.tail _ (.tail _ hW)) hWd (.tail _ (.tail _ hDW)) hiW hsz hb fun s₃ D₃ n₃ its₃ y₃ h₃ => ?_
  have l3 := h₂.len
  have l4 := h₃.len
  refine neLists (vs := its₂) (ws := its₃) ⟨_, (y₃.N _ (.tail _ (.head _))).1, rfl, n₂, rfl⟩ ⟨_, (y₃.N _ (.head _)).1, rfl, n₃, rfl⟩ (by simp at l3 l4; omega) hu (eqBys h₂ h₃ A.in1 s₃) (wpAny_truthy_bool ?_)
  rw [if_neg (by decide)]
  refine isTrue_or_nil ?_
  rw [if_neg (by decide)]
  exact wpAny_execs_nil (h _ (y₃.less (List.sublist_append_right [_, _, _] own)))
end
end Mine
end -- D5
section -- D6
set_option maxRecDepth 100000
set_option maxHeartbeats 1000000
namespace Mine
section
variable {w : World} {A : Around} {s s₀ s₃ : Shared} {E : Value → Shared → Prop} {L : Addr} {m : Loc} {own xs rest : List (Addr × Obj)} {env : Env} {l cv : Loc}
theorem fLstF {elt iter : Expr} {x : Str} {px : Pos} {ifs : List Expr} {scope : Scope} {cl : List (Str × Addr)} {pos : Pos} {Q : Value → Shared → Prop} (J : Nat → List (Addr × Obj) → Array Value → Prop) (hh : A.handled = none)
    (hclos : closureFor scope env = pure cl) (hcell : (scope.names.all fun y => y.2 != .cell) = true) (hkind : scope.kind = .function) (hnames : (scope.names.all fun y => y.2 != .local || scope.names.lookup y.1 == some .local) = true) (hx : ∀ C, (compEnvG scope cl C env).kindOf x = some .local)
    (h : wpAny (MM w) A (eval iter env) (fun xv s₁ => ∃ ax items k m own, xv = .ref ax ∧ Fm s₀ L m own s₁ ∧ (ax, listOf items k) ∈ own ∧ items.size ≤ sizeLine ∧ J 0 [] #[] ∧ (∀ i own₁ its₁, J i own₁ its₁ → its₁.size ≤ i) ∧
      (∀ (b₀ : Shared) C (i : Nat) v own₁ its₁ k₁ s₁ D I oI E', Sub s₀.heap b₀.heap → (∀ p ∈ own, b₀.heap.get? p.1 = some p.2) → i < items.size → items[i]? = some v → J i own₁ its₁ → Fm b₀ C [(x, v)] ((I, oI) :: (D, listOf its₁ k₁) :: own₁) s₁ →
        wpAny (MM w) A (testsOf ifs (compEnvG scope cl C env)) (fun ok s₃ => if ok = true then wpAny (MM w) A (eval elt (compEnvG scope cl C env)) (fun yv s₄ => ∃ m₂ own₂, J (i + 1) own₂ (its₁.push yv) ∧ Fm b₀ C m₂ ((I, oI) :: (D, listOf its₁ k₁) :: own₂) s₄) E' s₃
          else ∃ m₂ own₂, J (i + 1) own₂ its₁ ∧ Fm b₀ C m₂ ((I, oI) :: (D, listOf its₁ k₁) :: own₂) s₃) E' s₁) ∧
      (∀ s' D n own' its, J items.size own' its → Fm s₀ L m ((D, listOf its n) :: (own' ++ own)) s' → Q (.ref D) s')) E s)
    (hs : ∀ x, foldedSetIterable iter env x = pure x := by intro _; rfl) :
    wpAny (MM w) A (eval (.ListComp elt [⟨.Name x px, iter, ifs, 0⟩] scope pos) env) Q E s := by
  refine fCompF (s₀ := s₀) (L := L) hclos hkind hnames hcell (wpAny_mono h (fun xv s₁ h₁ => ?_) fun _ _ e => e) hs
  obtain ⟨ax, items, k, m, own, rfl, y, hax, hsz, J0, Jsz, hstep, hq⟩ := h₁
  refine fIterL y (items := items) ⟨_, (y.N _ hax).1, rfl, k, rfl⟩ fun s₂ I y₂ => ?_
  refine ⟨[_], own, m, y₂, fun s₄ Q E k q => wpAny_pyIter_listiter (i := 0) ⟨_, k _ _ (y₂.N _ (.head _)).1, rfl, rfl⟩ q, ?_⟩
  clear y₂ s₂
  intro s₂ s₄ D _ y₂ x₀
  have hIC : I ≠ D + 1 := (x₀.N _ (.tail _ (.head _))).2.1
  have hI0 : (hid s₂ [(I, litO ax 0)]).heap.get? I = none := (x₀.N _ (.tail _ (.head _))).2.2
  have ha : ∀ p ∈ own, (hid s₂ [(I, litO ax 0)]).heap.get? p.1 = some p.2 := fun p hp => y₂.hidGet (own := [(I, litO ax 0)]) hp
  have hk0 : Sub s₀.heap (hid s₂ [(I, litO ax 0)]).heap := y₂.hidSub (own := [(I, litO ax 0)])
  have hne : ax ≠ I := by
    rintro rfl
    have := ha _ hax
    rw [hI0] at this; cases this
  have hIo : I ∉ [(D, listOf (#[] : Array Value) 0)].map (·.1) := by
    have := x₀.nd
    simp at this ⊢
    exact fun e => this e.symm
  generalize hs₀ : hid s₂ [(I, litO ax 0)] = b₀ at *
  refine cLoopW (own := []) (m := []) (Walks.list hh I ax hne items) hsz hI0 (x₀.perm (List.Perm.swap ..) |>.less (List.sublist_cons_self _ _)) hIo hIC ⟨⟨_, (x₀.N _ (.tail _ (.head _))).1, rfl, rfl⟩, ⟨_, x₀.keep _ _ (ha _ hax), rfl, k, rfl⟩⟩ (fun i h st => by obtain ⟨⟨o, ho, _⟩, _⟩ := st; exact ⟨o, ho⟩) (fun i _ own₁ its₁ => J i own₁ its₁) J0 (fun i _ own₁ its₁ hJ => Jsz i own₁ its₁ hJ) ?hfp ?step ?done
  case hfp =>
    intro b hb hbn
    rcases List.mem_cons.mp hb with rfl | hb
    · exact absurd rfl hbn
    · rcases List.mem_cons.mp hb with rfl | hb
      · exact ⟨_, fun i m₁ own₁ its₁ k₁ s₁ _ _ z => z.keep _ _ (ha _ hax)⟩
      · nomatch hb
  case step =>
    intro i v m₁ own₁ its₁ k₁ s₁ oI hi hv hJ z
    refine sL z (hx _) hkind fun s₃ z₃ => ?_
    have z₄ : Fm b₀ (D + 1) [(x, v)] ((I, oI) :: (D, listOf its₁ k₁) :: own₁) s₃ := z₃.weak fun p hp => by
      simp at hp; subst hp; simp
    exact hstep b₀ (D + 1) i v own₁ its₁ k₁ s₃ D I oI _ hk0 ha hi hv hJ z₄
  case done =>
    intro m₁ own₁ its₁ k₁ s₁ hJ z
    refine ⟨rfl, m₁, own₁, its₁, k₁, z, fun s'' z' => hq s'' D k₁ own₁ its₁ hJ z'⟩
end
end Mine
end -- D6
section -- D7
set_option maxRecDepth 100000
set_option maxHeartbeats 1000000
namespace Mine
structure Pc where
  l : Addr
  vs : List Value
  k : Nat
def pcO (q : Pc) : Addr × Obj := (q.l, listOf (q.vs ++ [Value.none]).toArray q.k)
inductive PcOk : List Pc → List Int → Prop
  | nil : PcOk [] []
  | cons {q : Pc} {n : Int} {qs : List Pc} {ns : List Int} (h : StrsAre q.vs ((hexs n.natAbs).map oneS)) (r : PcOk qs ns) : PcOk (q :: qs) (n :: ns)
theorem PcOk.snoc {q : Pc} {n : Int} (h : StrsAre q.vs ((hexs n.natAbs).map oneS)) : ∀ {qs : List Pc} {ns : List Int}, PcOk qs ns → PcOk (qs ++ [q]) (ns ++ [n])
  | _, _, .nil => .cons h .nil
  | _, _, .cons h' r => .cons h' (PcOk.snoc h r)
theorem PcOk.len : ∀ {qs : List Pc} {ns : List Int}, PcOk qs ns → qs.length = ns.length
  | _, _, .nil => rfl
  | _, _, .cons _ r => by simp [PcOk.len r]
theorem PcOk.at_ : ∀ {qs : List Pc} {ns : List Int}, PcOk qs ns → ∀ {i : Nat} {n : Int}, ns[i]? = some n → ∃ q, qs[i]? = some q ∧ StrsAre q.vs ((hexs n.natAbs).map oneS)
  | _, _, .nil, i, n, e => by simp at e
  | _, _, .cons (q := q) h r, i, n, e => by
    cases i with
    | zero => simp at e; subst e; exact ⟨q, rfl, h⟩
    | succ i => simpa using r.at_ (i := i) (n := n) (by simpa using e)
section
variable {w : World} {A : Around} {s s₀ s₃ : Shared} {E : Value → Shared → Prop} {L : Addr} {m : Loc} {own xs rest : List (Addr × Obj)} {env : Env} {l cv : Loc}
def Jp (ns : List Int) (i : Nat) (own₁ : List (Addr × Obj)) (its₁ : Array Value) : Prop := ∃ ps : List Pc, own₁ = ps.reverse.map pcO ∧ its₁.toList = ps.map (fun q => Value.ref q.l) ∧ PcOk ps (ns.take i) ∧ its₁.size ≤ i
theorem Jp.next {ns : List Int} {i : Nat} {own₁ : List (Addr × Obj)} {its₁ : Array Value} {q : Pc} {n : Int} (h : Jp ns i own₁ its₁) (hn : ns[i]? = some n) (hq : StrsAre q.vs ((hexs n.natAbs).map oneS)) : Jp ns (i + 1) (pcO q :: own₁) (its₁.push (.ref q.l)) := by
  obtain ⟨ps, h1, h2, h3, h4⟩ := h
  refine ⟨ps ++ [q], by rw [h1]; simp, by simp [h2], ?_, by simp; omega⟩
  rw [List.take_add_one, hn]
  exact h3.snoc hq
theorem pieces_ev {Q : Value → Shared → Prop} {oS : Obj} {D : Addr} {its : Array Value} {ns : List Int} {k0 : Nat} (hd : Rm A 4) (y : Fm s₀ L m own s) (C₀ : Cx w s₀.heap) (hS : (L + 4, oS) ∈ own) (hSd : oS.data = .cell (some (.ref D))) (hD : (D, listOf its k0) ∈ own) (hi : StrsAre its.toList (ns.map wI)) (hsz : ns.length ≤ 100) (hb : ∀ n ∈ ns, n.natAbs < 16 ^ 7)
    (h : ∀ s' D' n' its' ps, Fm s₀ L m ((D', listOf its' n') :: (ps.reverse.map pcO ++ own)) s' → its'.toList = ps.map (fun q => Value.ref q.l) → PcOk ps ns → Q (.ref D') s') :
    wpAny (MM w) A (eval (asgE (lawSt 4)) (lawEnv L)) Q E s := by
  have hlen := hi.length
  have hsize : its.size = ns.length := by simpa using hlen
  refine fLstF (s₀ := s₀) (L := L) (cl := []) (Jp ns) hd.hh rfl rfl rfl rfl (fun C => rfl) (eC (c := L + 4) (env := lawEnv L) y hS hSd rfl rfl rfl ⟨D, its, k0, m, own, rfl, y, hD, (by show its.size ≤ 16777216; omega), ⟨[], rfl, rfl, .nil, Nat.le_refl _⟩, (fun i own₁ its₁ hJ => by obtain ⟨_, _, _, _, h4⟩ := hJ; exact h4), ?_, ?_⟩)
  · intro b₀ C i v own₁ its₁ k₁ s₁ D₁ I oI E' k hown hi' hv hJ z
    obtain ⟨n, t, hm, hn, rfl⟩ := strs_mem hi (by simpa using hv)
    have hn16 := hb n hm
    refine tests0 ?_
    rw [if_pos rfl]
    have C₃ : Cx w s₁.heap := (C₀.up k).up z.keep
    have hl := wI_len hn16
    have e1 : (Str.ofString "*").length = 1 := by decide +kernel
    refine eCall (eG C₃ 3 rfl rfl rfl rfl (cF (fd := fdTr) rfl (aC (wpAny_BinOp (eL z rfl rfl rfl (eStr fun t1 k1 => add_str (hsz := by rw [e1]; show _ ≤ 16777216; omega) (fun t2 k2 => aC (wpAny_Constant_none (aC (eStr fun t3 k3 => aN ⟨C₃.F.K, translate_call (ds := hexs n.natAbs) (by exact C₃) hd (star_cps _) (hexs_lt _) (by have := hexs_size hn16; omega) (.inl rfl) fun s' l its' vs a hpl hnew hits hstr => ?_⟩))))))))))
    obtain ⟨n', hpl⟩ := hpl
    have z₂ := (z.tok k3).goNew a hpl hnew
    have ei : its' = (vs ++ [Value.none]).toArray := by rw [← hits]
    subst ei
    refine ⟨_, pcO ⟨l, vs, n'⟩ :: own₁, hJ.next hn hstr, z₂.perm ?_⟩
    exact (List.Perm.swap _ _ _).trans (List.Perm.cons _ (List.Perm.swap _ _ _))
  · rintro s' D' n own' its' ⟨ps, rfl, h2, h3, _⟩ z
    rw [hsize, List.take_length] at h3
    exact h s' D' n its' ps z h2 h3
end
end Mine
end -- D7
section -- D8
set_option maxRecDepth 100000
set_option maxHeartbeats 1000000
namespace Mine
theorem signs_strs (ds : List Nat) : ∀ (k : Nat) (vs : List Value), vs.length + k = ds.length → (∀ (j : Nat) v, vs[j]? = some v → SignAt (wS ds) (k + j) v) → StrsAre vs ((ds.drop k).map oneS)
  | k, [], hl, h => by
    have : ds.drop k = [] := List.drop_eq_nil_of_le (by simp at hl; omega)
    rw [this]; exact .nil
  | k, v :: vs, hl, h => by
    obtain ⟨c, u, e1, rfl⟩ := h 0 v rfl
    have hk : k < ds.length := by simp at hl; omega
    have e2 : c = 65 + ds[k] := by
      have : (wS ds).cps[k + 0]? = some (65 + ds[k]) := by simp [wS, lets, hk]
      rw [this] at e1; cases e1; rfl
    subst e2
    rw [List.drop_eq_getElem_cons hk, List.map_cons]
    refine .cons _ _ (signs_strs ds (k + 1) vs (by simp at hl; omega) fun j v hv => ?_)
    have := h (j + 1) v (by simpa using hv)
    rwa [show k + (j + 1) = k + 1 + j by omega] at this
theorem paired_id : ∀ {vs ys : List Value}, Paired (fun v y => y = v) vs ys → ys = vs
  | [], _, h => by cases h; rfl
  | v :: vs, _, h => by
    cases h with
    | cons hf hr => rw [hf, paired_id hr]
theorem wS_size (ds : List Nat) : (wS ds).cps.size = ds.length := by simp [wS, lets]
section
variable {w : World} {A : Around} {s s₀ s₃ : Shared} {E : Value → Shared → Prop} {L : Addr} {m : Loc} {own xs rest : List (Addr × Obj)} {env : Env} {l cv : Loc}
theorem eqPc {vs ws : List Value} {ss : List Str} (hv : StrsAre vs ss) (hw : StrsAre ws ss) (A : Around) (s : Shared) : ∀ j (h1 : j < (vs ++ [Value.none]).toArray.size) (h2 : j < (ws ++ [Value.none]).toArray.size), SeqAt.EqAt A s (vs ++ [Value.none]).toArray[j] (ws ++ [Value.none]).toArray[j] true := fun j h1 h2 => by
  have l1 := hv.length
  have l2 := hw.length
  by_cases hj : j < vs.length
  · have := eqStrs hv hw A s j (by simpa using hj) (by simp; omega)
    have e1 : (vs ++ [Value.none]).toArray[j] = vs.toArray[j]'(by simpa using hj) := by simp [List.getElem_append_left hj]
    have e2 : (ws ++ [Value.none]).toArray[j] = ws.toArray[j]'(by simp; omega) := by simp [List.getElem_append_left (show j < ws.length by omega)]
    rw [e1, e2]
    exact this
  · have hj2 : j = vs.length := by simp at h1; omega
    subst hj2
    have e1 : (vs ++ [Value.none]).toArray[vs.length] = Value.none := by simp
    have e2 : (ws ++ [Value.none]).toArray[vs.length] = Value.none := by
      have : vs.length = ws.length := by omega
      simp [this]
    rw [e1, e2]
    exact SeqAt.EqAt.same _
theorem eqPcs {ps qs : List Pc} {ns : List Int} (h1 : PcOk ps ns) (h2 : PcOk qs ns) (hp : ∀ q ∈ ps, s.heap.get? (pcO q).1 = some (pcO q).2) (hq : ∀ q ∈ qs, s.heap.get? (pcO q).1 = some (pcO q).2) (hne : ∀ p ∈ ps, ∀ q ∈ qs, p.l ≠ q.l) (hu : A.units < cLine) :
    ∀ j (h1 : j < (ps.map fun q => Value.ref q.l).toArray.size) (h2 : j < (qs.map fun q => Value.ref q.l).toArray.size), SeqAt.EqAt A s (ps.map fun q => Value.ref q.l).toArray[j] (qs.map fun q => Value.ref q.l).toArray[j] true := fun j i1 i2 => by
  have l1 := h1.len
  have l2 := h2.len
  have k1 : j < ps.length := by simpa using i1
  have k2 : j < qs.length := by simpa using i2
  have hn : ns[j]? = some (ns[j]'(by omega)) := List.getElem?_eq_getElem (by omega)
  obtain ⟨p, e1, e2⟩ := h1.at_ hn
  obtain ⟨q, e3, e4⟩ := h2.at_ hn
  have e5 : (ps.map fun q => Value.ref q.l).toArray[j] = Value.ref p.l := by
    have : ps[j] = p := by rw [List.getElem?_eq_getElem k1] at e1; exact Option.some.inj e1
    simp [this]
  have e6 : (qs.map fun q => Value.ref q.l).toArray[j] = Value.ref q.l := by
    have : qs[j] = q := by rw [List.getElem?_eq_getElem k2] at e3; exact Option.some.inj e3
    simp [this]
  rw [e5, e6]
  have mp := List.mem_of_getElem? e1
  have mq := List.mem_of_getElem? e3
  have l3 := e2.length
  have l4 := e4.length
  have := SeqAt.RcAt.lists (e := fun _ => true) (A := A) (s := s) ⟨_, hp p mp, rfl, p.k, rfl⟩ ⟨_, hq q mq, rfl, q.k, rfl⟩ (by simp; omega) hu (eqPc e2 e4 A.in1 s)
  rw [show (List.range (p.vs ++ [Value.none]).toArray.size).all (fun _ => true) = true by simp] at this
  exact SeqAt.EqAt.of_refs (hne p mp q mq) this
theorem nest_ev {Q : Value → Shared → Prop} {oS : Obj} {D : Addr} {its : Array Value} {ns : List Int} {k0 : Nat} (hd : Rm A 4) (y : Fm s₀ L m own s) (hS : (L + 4, oS) ∈ own) (hSd : oS.data = .cell (some (.ref D))) (hD : (D, listOf its k0) ∈ own) (hi : StrsAre its.toList (ns.map wI)) (hsz : ns.length ≤ 100) (hb : ∀ n ∈ ns, n.natAbs < 16 ^ 7)
    (h : ∀ s' D' n' its' ps, Fm s₀ L m ((D', listOf its' n') :: (ps.reverse.map pcO ++ own)) s' → its'.toList = ps.map (fun q => Value.ref q.l) → PcOk ps ns → Q (.ref D') s') :
    wpAny (MM w) A (eval (cmpB (ifE (lawSt 5) 0)) (lawEnv L)) Q E s := by
  have hlen := hi.length
  have hsize : its.size = ns.length := by simpa using hlen
  refine fLstF (s₀ := s₀) (L := L) (cl := []) (Jp ns) hd.hh rfl rfl rfl rfl (fun C => rfl) (eC (c := L + 4) (env := lawEnv L) y hS hSd rfl rfl rfl ⟨D, its, k0, m, own, rfl, y, hD, (by show its.size ≤ 16777216; omega), ⟨[], rfl, rfl, .nil, Nat.le_refl _⟩, (fun i own₁ its₁ hJ => by obtain ⟨_, _, _, _, h4⟩ := hJ; exact h4), ?_, ?_⟩)
  · intro b₀ C i v own₁ its₁ k₁ s₁ D₁ I oI E' k hown hi' hv hJ z
    obtain ⟨n, t, hm, hn, rfl⟩ := strs_mem hi (by simpa using hv)
    have hn16 := hb n hm
    refine tests0 ?_
    rw [if_pos rfl]
    have hl := wI_len hn16
    have hz7 := hexs_size hn16
    have hcs : (wI n).cps.size = (hexs n.natAbs).length := wS_size _
    refine wpAny_BinOp (fComp (cl := []) (fun _ => true) (fun v y => y = v) [] rfl rfl rfl rfl rfl (eL z rfl rfl rfl ⟨(wI n).cps.size, _, opens_str hd.hh, (by show _ ≤ 16777216; omega), (fun p hp => nomatch hp), ?_, ?_, ?_⟩))
    · intro s₃ C i v E' k hv ev
      exact tests0 ⟨rfl, .refl⟩
    · intro s₃ C i v E' k hv _ ev
      exact vL ev rfl rfl rfl ⟨rfl, .refl⟩
    · intro s' D' n' ys vs a hD1 hD2 hl' hP hF
      have hys : ys.toList = vs := by rw [List.filter_eq_self.mpr fun _ _ => rfl] at hF; exact paired_id hF
      have hstr := signs_strs (hexs n.natAbs) 0 ys.toList (by rw [hys, hl', hcs]; rfl) (fun j v hv => by rw [hys] at hv; have := hP j v hv; rw [Nat.zero_add]; exact this)
      rw [List.drop_zero] at hstr
      have z₂ := z.goNew a hD2 hD1
      refine wpAny_List (aC (wpAny_Constant_none (aN ⟨(by show 1 ≤ 16777216; omega), ?_⟩)))
      have z₃ := z₂.push { cls := .type "list", data := .seq [Value.none].toArray }
      have hyl := hstr.length
      refine fAddL z₃ (vs := ys.toList) (ws := [Value.none]) ⟨_, (z₃.N _ (.tail _ (.head _))).1, rfl, n', by simp⟩ ⟨_, (z₃.N _ (.head _)).1, rfl, 0, rfl⟩ (by rw [hyl]; simp; show _ ≤ 16777216; omega) fun s₅ D₅ z₅ => ?_
      refine ⟨_, pcO ⟨D₅, ys.toList, 0⟩ :: own₁, hJ.next hn hstr, (z₅.less ((List.sublist_append_right [_, _] ((I, oI) :: (D₁, listOf its₁ k₁) :: own₁)).cons_cons _)).perm ?_⟩
      exact (List.Perm.swap _ _ _).trans (List.Perm.cons _ (List.Perm.swap _ _ _))
  · rintro s' D' n own' its' ⟨ps, rfl, h2, h3, _⟩ z
    rw [hsize, List.take_length] at h3
    exact h s' D' n its' ps z h2 h3
end
end Mine
end -- D8
section -- D9
set_option maxRecDepth 100000
set_option maxHeartbeats 1000000
namespace Mine
def patI (n : Int) : Str := patR (hexs n.natAbs)
section
variable {w : World} {A : Around} {s s₀ s₃ : Shared} {E : Value → Shared → Prop} {L : Addr} {m : Loc} {own xs rest : List (Addr × Obj)} {env : Env} {l cv : Loc}
theorem trl_ev {Q : Value → Shared → Prop} {oS : Obj} {D : Addr} {its : Array Value} {ns : List Int} {k0 : Nat} (hd : Rm A 5) (y : Fm s₀ L m own s) (C₀ : Cx w s₀.heap) (hS : (L + 4, oS) ∈ own) (hSd : oS.data = .cell (some (.ref D))) (hD : (D, listOf its k0) ∈ own) (hi : StrsAre its.toList (ns.map wI)) (hsz : ns.length ≤ 100) (hb : ∀ n ∈ ns, n.natAbs < 16 ^ 7)
    (h : ∀ s' D' n' its', Fm s₀ L m ((D', listOf its' n') :: own) s' → StrsAre its'.toList (ns.map patI) → Q (.ref D') s') :
    wpAny (MM w) A (eval (cmpA (ifE (lawSt 5) 1)) (lawEnv L)) Q E s := by
  have hlen := hi.length
  refine fLstComp (s₀ := s₀) (L := L) (cl := []) (fun _ => true) (fun v y => ∃ n t t', n ∈ ns ∧ v = .str (wI n) t ∧ y = .str (patI n) t') [] hd.hh rfl rfl rfl rfl rfl (eC (c := L + 4) (env := lawEnv L) y hS hSd rfl rfl rfl ⟨D, its, m, own, rfl, y, ⟨_, (y.N _ hD).1, rfl, k0, rfl⟩, (by show its.size ≤ 16777216; simp at hlen; omega), (fun p hp => nomatch hp), ?_, ?_, ?_⟩)
  · intro s₃ C i v E' k hv ev
    exact tests0 ⟨rfl, .refl⟩
  · intro s₃ C i v E' k hv _ ev
    obtain ⟨n, t, hm, hn, rfl⟩ := strs_mem hi (by simpa using hv)
    have hn16 := hb n hm
    have C₃ : Cx w s₃.heap := (C₀.up y.keep).up k
    have hl := wI_len hn16
    have e1 : (Str.ofString "*").length = 1 := by decide +kernel
    refine eCall (eG C₃ 1 rfl rfl rfl rfl (cF (fd := fdTranslate) rfl (aC (wpAny_BinOp (vL ev rfl rfl rfl (eStr fun t1 k1 => add_str (hsz := by rw [e1]; show _ ≤ 16777216; omega) (fun t2 k2 => aN ⟨C₃.F.K, trans_call (ds := hexs n.natAbs) (by exact C₃) hd (star_cps _) (hexs_lt _) (by have := hexs_size hn16; omega) fun s' t' a => ⟨⟨n, t, t', hm, rfl, rfl⟩, (ev.tok k2).aft.trans a⟩⟩)))))))
  · intro s' D' n' ys y' hp
    refine h s' D' n' ys y' (paired_strsI hi ?_ (by rw [filtT] at hp; exact hp))
    rintro n hn t y ⟨n', t1, t2, hm, e1, e2⟩
    have e3 : wI n = wI n' := by injection e1
    have : patI n = patI n' := by
      unfold patI; rw [wS_inj e3]
    exact ⟨t2, by rw [this]; exact e2⟩
theorem pat_ev {Q : Value → Shared → Prop} {oS : Obj} {D : Addr} {its : Array Value} {ns : List Int} {k0 : Nat} (hd : Rm A 5) (y : Fm s₀ L m own s) (hS : (L + 4, oS) ∈ own) (hSd : oS.data = .cell (some (.ref D))) (hD : (D, listOf its k0) ∈ own) (hi : StrsAre its.toList (ns.map wI)) (hsz : ns.length ≤ 100) (hb : ∀ n ∈ ns, n.natAbs < 16 ^ 7)
    (h : ∀ s' D' n' its', Fm s₀ L m ((D', listOf its' n') :: own) s' → StrsAre its'.toList (ns.map patI) → Q (.ref D') s') :
    wpAny (MM w) A (eval (cmpB (ifE (lawSt 5) 1)) (lawEnv L)) Q E s := by
  have hlen := hi.length
  refine fLstComp (s₀ := s₀) (L := L) (cl := []) (fun _ => true) (fun v y => ∃ n t t', n ∈ ns ∧ v = .str (wI n) t ∧ y = .str (patI n) t') [] hd.hh rfl rfl rfl rfl rfl (eC (c := L + 4) (env := lawEnv L) y hS hSd rfl rfl rfl ⟨D, its, m, own, rfl, y, ⟨_, (y.N _ hD).1, rfl, k0, rfl⟩, (by show its.size ≤ 16777216; simp at hlen; omega), (fun p hp => nomatch hp), ?_, ?_, ?_⟩)
  · intro s₃ C i v E' k hv ev
    exact tests0 ⟨rfl, .refl⟩
  · intro s₃ C i v E' k hv _ ev
    obtain ⟨n, t, hm, hn, rfl⟩ := strs_mem hi (by simpa using hv)
    have hn16 := hb n hm
    have hl := wI_len hn16
    have e1 : (Str.ofString "(?s:").length = 4 := by decide +kernel
    have e2 : (Str.ofString ".*)\\Z").length = 5 := by decide +kernel
    have e3 : (Str.ofString "(?s:" ++ wI n).length = 4 + (wI n).length := by
      show ((Str.ofString "(?s:").cps ++ (wI n).cps).size = _
      rw [Array.size_append]
      show (Str.ofString "(?s:").length + _ = _
      rw [e1]; rfl
    refine wpAny_BinOp (wpAny_BinOp (eStr fun t1 k1 => vL (ev.tok k1) rfl rfl rfl (add_str (hsz := by rw [e1]; show _ ≤ 16777216; omega) fun t2 k2 => eStr fun t3 k3 => add_str (hsz := by rw [e2, e3]; show _ ≤ 16777216; omega) fun t4 k4 => ⟨⟨n, t, t4, hm, rfl, ?_⟩, (ev.tok k4).aft⟩)))
    show Value.str ((Str.ofString "(?s:" ++ wS (hexs n.natAbs)) ++ Str.ofString ".*)\\Z") t4 = _
    rw [pat_cat]; rfl
  · intro s' D' n' ys y' hp
    refine h s' D' n' ys y' (paired_strsI hi ?_ (by rw [filtT] at hp; exact hp))
    rintro n hn t y ⟨n', t1, t2, hm, e1, e2⟩
    have e3 : wI n = wI n' := by injection e1
    have : patI n = patI n' := by
      unfold patI; rw [wS_inj e3]
    exact ⟨t2, by rw [this]; exact e2⟩
theorem chk5 {Q : Flow → Shared → Prop} {oP oW : Obj} {DP DW : Addr} {itsP itsW : Array Value} {ns : List Int} {kP kW : Nat} {ps : List Pc} (hd : Rm A 5) (y : Fm s₀ L m own s) (C₀ : Cx w s₀.heap) (hP : (L + 5, oP) ∈ own) (hPd : oP.data = .cell (some (.ref DP))) (hDP : (DP, listOf itsP kP) ∈ own) (hiP : itsP.toList = ps.map (fun q => Value.ref q.l)) (hok : PcOk ps ns) (hps : ∀ q ∈ ps, pcO q ∈ own)
    (hW : (L + 4, oW) ∈ own) (hWd : oW.data = .cell (some (.ref DW))) (hDW : (DW, listOf itsW kW) ∈ own) (hiW : StrsAre itsW.toList (ns.map wI)) (hsz : ns.length ≤ 100) (hb : ∀ n ∈ ns, n.natAbs < 16 ^ 7)
    (h : ∀ s', Fm s₀ L m own s' → Q .next s') : wpAny (MM w) A (exec (lawSt 5) (lawEnv L)) Q E s := by
  have hu : A.units < cLine := by have := hd.un; show _ < 9900; omega
  have hu1 : A.in1.units < cLine := by have := (hd.le (show 1 ≤ 5 by omega)).un; show A.units + 1 < 9900; omega
  refine wpAny_If (isTrue_or (wpAny_isTrue_Compare1 (eC (c := L + 5) (env := lawEnv L) y hP hPd rfl rfl rfl (nest_ev (hd.le (by omega)) y hW hWd hDW hiW hsz hb fun s₁ D₁ n₁ its₁ qs y₁ h₁ hok₁ => ?_))))
  have l1 := hok.len
  have l2 := hok₁.len
  have e1 : itsP = (ps.map fun q => Value.ref q.l).toArray := by rw [← hiP]
  have e2 : its₁ = (qs.map fun q => Value.ref q.l).toArray := by rw [← h₁]
  have mP : ∀ q ∈ ps, pcO q ∈ (D₁, listOf its₁ n₁) :: (qs.reverse.map pcO ++ own) := fun q hq => .tail _ (List.mem_append.mpr (.inr (hps q hq)))
  have mQ : ∀ q ∈ qs, pcO q ∈ (D₁, listOf its₁ n₁) :: (qs.reverse.map pcO ++ own) := fun q hq => .tail _ (List.mem_append.mpr (.inl (List.mem_map.mpr ⟨q, List.mem_reverse.mpr hq, rfl⟩)))
  have nd := y₁.nd
  rw [List.map_cons, List.nodup_cons, List.map_append, List.nodup_append] at nd
  refine neLists (vs := itsP) (ws := its₁) ⟨_, (y₁.N _ (.tail _ (List.mem_append.mpr (.inr hDP)))).1, rfl, kP, rfl⟩ ⟨_, (y₁.N _ (.head _)).1, rfl, n₁, rfl⟩ (by rw [e1, e2]; simp; omega) hu (by
    subst e1 e2
    exact eqPcs hok hok₁ (fun q hq => (y₁.N _ (mP q hq)).1) (fun q hq => (y₁.N _ (mQ q hq)).1) (fun p hp q hq e => nd.2.2.2 q.l (List.mem_map.mpr ⟨pcO q, List.mem_map.mpr ⟨q, List.mem_reverse.mpr hq, rfl⟩, rfl⟩) p.l (List.mem_map.mpr ⟨pcO p, hps p hp, rfl⟩) e.symm) hu1) (wpAny_truthy_bool ?_)
  rw [if_neg (by decide)]
  have y₂ : Fm s₀ L m own s₁ := y₁.less (List.sublist_append_right (_ :: qs.reverse.map pcO) own)
  refine isTrue_or (wpAny_isTrue_Compare1 (trl_ev hd y₂ C₀ hW hWd hDW hiW hsz hb fun s₂ D₂ n₂ its₂ y₃ h₂ => pat_ev hd y₃ (.tail _ hW) hWd (.tail _ hDW) hiW hsz hb fun s₃ D₃ n₃ its₃ y₄ h₃ => ?_))
  have l3 := h₂.length
  have l4 := h₃.length
  refine neLists (vs := its₂) (ws := its₃) ⟨_, (y₄.N _ (.tail _ (.head _))).1, rfl, n₂, rfl⟩ ⟨_, (y₄.N _ (.head _)).1, rfl, n₃, rfl⟩ (by simp at l3 l4; omega) hu (eqStrs h₂ h₃ A.in1 s₃) (wpAny_truthy_bool ?_)
  rw [if_neg (by decide)]
  refine isTrue_or_nil ?_
  rw [if_neg (by decide)]
  exact wpAny_execs_nil (h _ (y₄.less (List.sublist_append_right [_, _] own)))
end
end Mine
end -- D9
section -- D10
set_option maxRecDepth 100000
set_option maxHeartbeats 1000000
namespace Mine
def hx (ns : List Int) (k : Nat) : List Nat := hexs (ns.getD k 0).natAbs
def wtIdx (ns : List Int) (j : Nat) : List Nat := (List.range ns.length).filter fun k => k != j && (hx ns k).isPrefixOf (hx ns j)
def waitsOf (ns : List Int) (j : Nat) : List Str := (wtIdx ns j).map fun k => wI (ns.getD k 0)
def pWt (ns : List Int) (j : Nat) : Value → Bool
  | .int k _ => k.toNat != j && (hx ns k.toNat).isPrefixOf (hx ns j)
  | _ => false
theorem pairedWt {its : List Value} {ns : List Int} {j : Nat} (hi : StrsAre its (ns.map wI)) : ∀ (ks : List Nat) (vs ys : List Value), IntsAre vs (ks.map Int.ofNat) → Paired (fD its) (vs.filter (pWt ns j)) ys → StrsAre ys ((ks.filter fun k => k != j && (hx ns k).isPrefixOf (hx ns j)).map fun k => wI (ns.getD k 0))
  | [], _, ys, .nil, hp => by cases hp; exact .nil
  | k :: ks, _, ys, .cons _ t h, hp => by
    have e : pWt ns j (.int (Int.ofNat k) t) = (k != j && (hx ns k).isPrefixOf (hx ns j)) := rfl
    by_cases hc : (k != j && (hx ns k).isPrefixOf (hx ns j)) = true
    · rw [List.filter_cons, e, if_pos hc] at hp
      rw [List.filter_cons, if_pos hc]
      cases hp with
      | cons hf hr =>
        obtain ⟨k', t', e1, e2⟩ := hf
        cases e1
        obtain ⟨n, u, _, e3, rfl⟩ := strs_mem hi e2
        have e4 : ns.getD k 0 = n := by simp [List.getD, e3]
        rw [List.map_cons, e4]
        exact .cons _ u (pairedWt hi ks _ _ h hr)
    · rw [List.filter_cons, e, if_neg hc] at hp
      rw [List.filter_cons, if_neg hc]
      exact pairedWt hi ks _ _ h hp
def forBody : Stmt → List Stmt
  | .For _ _ b _ _ => b
  | _ => []
def bodySt (i j : Nat) : Stmt := (forBody (lawSt i))[j]?.getD (.Pass default)
section
variable {w : World} {A : Around} {s s₀ s₃ : Shared} {E : Value → Shared → Prop} {L : Addr} {m : Loc} {own xs rest : List (Addr × Obj)} {env : Env} {l cv : Loc}
theorem waits_st {Q : Flow → Shared → Prop} {oP oW oJ : Obj} {DP DW : Addr} {itsP itsW : Array Value} {ns : List Int} {kP kW j : Nat} {tj : Tok} {ps : List Pc} (hd : Rm A 9) (y : Fm s₀ L m own s) (C₀ : Cx w s₀.heap) (hP : (L + 5, oP) ∈ own) (hPd : oP.data = .cell (some (.ref DP))) (hDP : (DP, listOf itsP kP) ∈ own) (hiP : itsP.toList = ps.map (fun q => Value.ref q.l)) (hok : PcOk ps ns) (hps : ∀ q ∈ ps, pcO q ∈ own)
    (hW : (L + 4, oW) ∈ own) (hWd : oW.data = .cell (some (.ref DW))) (hDW : (DW, listOf itsW kW) ∈ own) (hiW : StrsAre itsW.toList (ns.map wI)) (hJ : (L + 6, oJ) ∈ own) (hJd : oJ.data = .cell (some (.int j tj))) (hj : j < ns.length) (hsz : ns.length ≤ 100) (hb : ∀ n ∈ ns, n.natAbs < 16 ^ 7)
    (h : ∀ s' D' n' its', Fm s₀ L (("waits", .ref D') :: m.filter (fun p => p.1 != "waits")) ((D', listOf its' n') :: own) s' → StrsAre its'.toList (waitsOf ns j) → Q .next s') : wpAny (MM w) A (exec (bodySt 7 0) (lawEnv L)) Q E s := by
  have hlenW := hiW.length
  rw [List.length_map, Array.length_toList] at hlenW
  refine fAsgComp (s₀ := s₀) (env := lawEnv L) (cl := [("words", L + 4), ("pieces", L + 5), ("j", L + 6)]) (pWt ns j) (fD itsW.toList) [("j", .int j tj), ("pieces", .ref DP), ("words", .ref DW)] rfl rfl rfl rfl rfl rfl rfl ?_
  refine eCall (eB (C₀.up y.keep) 20 7 rfl rfl rfl rfl rfl rfl (cT (aC (eCall (eB (C₀.up y.keep) 19 6 rfl rfl rfl rfl rfl rfl (cB (aC (wpAny_Name (wpAny_loadName_cell (c := L + 4) (v := .ref DW) rfl rfl rfl ⟨oW, (y.N _ hW).1, hWd⟩ (aN (len_list (items := itsW) ⟨_, (y.N _ hDW).1, rfl, kW, rfl⟩ (by omega) (aN (call_range_1 ?_))))) rfl))))))))
  have hsm : Builtin.Range.small 0 (itsW.size : Int) 1 = true := small_one (by decide) (by decide) (by omega) (by omega)
  have hrs : Builtin.Range.rangeSize 0 (itsW.size : Int) 1 = (ns.length : Nat) := by rw [rangeSize_nat]; simp [hlenW]
  have y₁ := ((y.tok (s.toks + 1 + 1)).push { cls := .type "range", data := .fields #[.int 0 (s.toks + 1 + 1), .int itsW.size (s.toks + 1), .int 1 (s.toks + 1 + 1 + 1)] }).tok (s.toks + 1 + 1 + 1 + 1)
  have hup : ∀ {s' : Shared} {a o}, Sub s.heap s'.heap → (a, o) ∈ own → s'.heap.get? a = some o := fun k hm => k _ _ (y.N _ hm).1
  have hpush : Sub s.heap (s.heap.push { cls := .type "range", data := .fields #[.int 0 (s.toks + 1 + 1), .int itsW.size (s.toks + 1), .int 1 (s.toks + 1 + 1 + 1)] }) := sub_push _ _
  have psl := hok.len
  refine ⟨ns.length, _, m, _ :: own, y₁, opens_range hd.hh (IsRange.new _ _ _ _ _ _ _) hsm ns.length hrs, by show ns.length ≤ 16777216; omega, ?_, ?_, ?_, ?_⟩
  · intro p hp
    simp at hp
    rcases hp with rfl | rfl | rfl
    · exact ⟨_, rfl, oJ, hup hpush hJ, hJd⟩
    · exact ⟨_, rfl, oP, hup hpush hP, hPd⟩
    · exact ⟨_, rfl, oW, hup hpush hW, hWd⟩
  · rintro s₃ C₁ i v E' k₃ ⟨hi', tv, rfl⟩ ev
    have k₄ : Sub s.heap s₃.heap := fun b o e => k₃ _ _ (hpush _ _ e)
    have ei : (0 + (i : Int) * 1) = (i : Int) := by omega
    rw [ei]
    rw [ei] at ev
    refine tests1 (isTrue_and (wpAny_isTrue_Compare1 (vL ev rfl rfl rfl (vC ev rfl rfl rfl (ne_int (wpAny_truthy_bool ?_))))))
    have eij : ((i : Int) != (j : Int)) = (i != j) := by
      by_cases e : i = j
      · subst e; simp
      · have : (i : Int) ≠ (j : Int) := by omega
        have h1 : ((i : Int) == (j : Int)) = false := beq_eq_false_iff_ne.mpr this
        have h2 : (i == j) = false := beq_eq_false_iff_ne.mpr e
        simp only [bne, h1, h2]
    rw [eij]
    have ep : pWt ns j (.int (i : Int) tv) = (i != j && (hx ns i).isPrefixOf (hx ns j)) := rfl
    rw [ep]
    by_cases hij : i = j
    · subst hij
      have : (i != i) = false := by simp
      rw [this, if_neg (by decide)]
      exact ⟨rfl, .refl⟩
    · have : (i != j) = true := by simpa using hij
      rw [this, if_pos rfl]
      have hn : ns[i]? = some ns[i] := List.getElem?_eq_getElem hi'
      obtain ⟨q, e1, e2⟩ := hok.at_ hn
      have hnj : ns[j]? = some ns[j] := List.getElem?_eq_getElem hj
      have egi : hx ns i = hexs (ns[i]).natAbs := by unfold hx; simp [List.getD, hn]
      have egj : hx ns j = hexs (ns[j]).natAbs := by unfold hx; simp [List.getD, hnj]
      have b1 := hexs_size (hb _ (List.mem_of_getElem? hn))
      have b2 := hexs_size (hb _ (List.mem_of_getElem? hnj))
      have eP : itsP.toList[i]? = some (.ref q.l) := by rw [hiP, List.getElem?_map, e1]; rfl
      have hjW : j < itsW.toList.length := by rw [Array.length_toList]; omega
      have eW0 : itsW.toList[j]? = some itsW.toList[j] := List.getElem?_eq_getElem hjW
      obtain ⟨nj, uj, _, e3, e4⟩ := strs_mem hiW eW0
      rw [hnj] at e3
      cases e3
      rw [e4] at eW0
      have C₃ : Cx w s₃.heap := (C₀.up y.keep).up k₄
      refine isTrue_and (isTrue_plain (eCall (eG C₃ 11 rfl rfl rfl rfl (cF (fd := fdFits) rfl (aC (Subscript_ (vC ev rfl rfl rfl (vL ev rfl rfl rfl (item_list (items := itsP) ⟨_, hup k₄ hDP, rfl, kP, rfl⟩ (by omega) (by omega) (x := .ref q.l) (by simpa using eP) (aC (Subscript_ (vC ev rfl rfl rfl (vC ev rfl rfl rfl (item_list (items := itsW) ⟨_, hup k₄ hDW, rfl, kW, rfl⟩ (by omega) (by omega) (x := .str (wI ns[j]) uj) (by simpa using eW0) (aN ⟨C₃.F.K, fits_call (hexs (ns[i]).natAbs) (hexs (ns[j]).natAbs) C₃ (hd.le (by omega)) ⟨_, hup k₄ (hps q (List.mem_of_getElem? e1)), rfl, q.k, rfl⟩ e2 (by omega) (by omega) fun s₅ a₅ => wpAny_truthy_bool ?_⟩)))))))))))))))
      rw [← egi, ← egj]
      cases hpf : (hx ns i).isPrefixOf (hx ns j) with
      | false =>
        rw [if_neg (by decide)]
        exact ⟨rfl, a₅⟩
      | true =>
        rw [if_pos rfl]
        exact isTrue_and_nil ⟨rfl, a₅⟩
  · rintro s₃ C₁ i v E' k₃ ⟨hi', tv, rfl⟩ _ ev
    have k₄ : Sub s.heap s₃.heap := fun b o e => k₃ _ _ (hpush _ _ e)
    have hil : i < itsW.toList.length := by rw [Array.length_toList]; omega
    have hget : itsW.toList[i]? = some itsW.toList[i] := List.getElem?_eq_getElem hil
    have ei : (0 + (i : Int) * 1) = (i : Int) := by omega
    rw [ei]
    rw [ei] at ev
    exact Subscript_ (vC ev rfl rfl rfl (vL ev rfl rfl rfl (item_list (items := itsW) ⟨_, hup k₄ hDW, rfl, kW, rfl⟩ (by omega) (by omega) (x := itsW.toList[i]) (by simpa using hget) ⟨⟨i, tv, rfl, hget⟩, .refl⟩)))
  · intro s' D' n' ys vs z hl hP hF
    refine h s' D' n' ys (z.less ((List.sublist_cons_self _ _).cons_cons _)) ?_
    refine pairedWt hiW (List.range ns.length) vs ys.toList (ints_of_get _ _ (by simpa using hl) fun j v k hv hk => ?_) hF
    obtain ⟨hj, t7, rfl⟩ := hP j v hv
    rw [List.getElem?_map, List.getElem?_range (by omega)] at hk
    simp at hk
    subst hk
    have e0 : (0 + (j : Int) * 1) = (j : Int) := by omega
    rw [e0]
    exact ⟨t7, rfl⟩
end
end Mine
end -- D10
section -- D11
set_option maxRecDepth 100000
set_option maxHeartbeats 1000000
namespace Mine
abbrev St3 := List Str × (Str → Int) × (Str → List Str)
def addS (st : St3) (nm : Str) (ps : List Str) : St3 := (ps.foldl insE (insE st.1 nm), addNp st.2.1 nm ps.length, ps.foldl (fun sc p => addSc sc p nm) st.2.2)
def addJ (ns : List Int) (st : St3) (j : Nat) : St3 := addS (addS st (wI (ns.getD j 0)) ((waitsOf ns j).take 1 ++ (waitsOf ns j).take 1)) (wI (ns.getD j 0)) ((waitsOf ns j).drop 1)
def stJ (ns : List Int) (i : Nat) : St3 := (List.range i).foldl (addJ ns) ([], fun _ => 0, fun _ => [])
theorem stJ_succ (ns : List Int) (i : Nat) : stJ ns (i + 1) = addJ ns (stJ ns i) i := by
  unfold stJ; rw [List.range_succ, List.foldl_append]; rfl
theorem waits_len (ns : List Int) (j : Nat) : (waitsOf ns j).length ≤ ns.length := by
  unfold waitsOf wtIdx
  rw [List.length_map]
  exact Nat.le_trans (List.length_filter_le ..) (by simp)
theorem addS_len {st : St3} {nm : Str} {ps : List Str} : (addS st nm ps).1.length ≤ st.1.length + 1 + ps.length := by
  have h1 := insEs_len ps (insE st.1 nm)
  have h2 := insE_len st.1 nm
  show (ps.foldl insE (insE st.1 nm)).length ≤ _
  omega
theorem addS_sc {st : St3} {nm x : Str} {ps : List Str} : ((addS st nm ps).2.2 x).length ≤ (st.2.2 x).length + ps.length := addScs_len nm ps st.2.2 x
theorem stJ_len (ns : List Int) (hn : ns.length ≤ 14) : ∀ i, (stJ ns i).1.length ≤ 20 * i ∧ ∀ x, ((stJ ns i).2.2 x).length ≤ 20 * i
  | 0 => ⟨Nat.le_refl _, fun _ => Nat.le_refl _⟩
  | i + 1 => by
    obtain ⟨h1, h2⟩ := stJ_len ns hn i
    rw [stJ_succ]
    have hw := waits_len ns i
    have l1 : ((waitsOf ns i).take 1 ++ (waitsOf ns i).take 1).length ≤ 2 := by simp; omega
    have l2 : ((waitsOf ns i).drop 1).length ≤ 14 := by simp; omega
    have a1 := addS_len (st := stJ ns i) (nm := wI (ns.getD i 0)) (ps := (waitsOf ns i).take 1 ++ (waitsOf ns i).take 1)
    have a2 := addS_len (st := addS (stJ ns i) (wI (ns.getD i 0)) ((waitsOf ns i).take 1 ++ (waitsOf ns i).take 1)) (nm := wI (ns.getD i 0)) (ps := (waitsOf ns i).drop 1)
    refine ⟨by show (addS _ _ _).1.length ≤ _; omega, fun x => ?_⟩
    have b0 := h2 x
    have b1 := addS_sc (st := stJ ns i) (nm := wI (ns.getD i 0)) (ps := (waitsOf ns i).take 1 ++ (waitsOf ns i).take 1) (x := x)
    have b2 := addS_sc (st := addS (stJ ns i) (wI (ns.getD i 0)) ((waitsOf ns i).take 1 ++ (waitsOf ns i).take 1)) (nm := wI (ns.getD i 0)) (ps := (waitsOf ns i).drop 1) (x := x)
    show ((addS _ _ _).2.2 x).length ≤ _
    omega
theorem strs_take {vs : List Value} {ss : List Str} (h : StrsAre vs ss) : ∀ k, StrsAre (vs.take k) (ss.take k) := by
  induction h with
  | nil => intro k; simp; exact .nil
  | cons n t h ih =>
    intro k
    cases k with
    | zero => exact .nil
    | succ k => exact .cons n t (ih k)
theorem strs_drop {vs : List Value} {ss : List Str} (h : StrsAre vs ss) : ∀ k, StrsAre (vs.drop k) (ss.drop k) := by
  induction h with
  | nil => intro k; simp; exact .nil
  | cons n t h ih =>
    intro k
    cases k with
    | zero => exact .cons n t h
    | succ k => exact ih k
theorem strs_app : ∀ {vs ws : List Value} {ss ts : List Str}, StrsAre vs ss → StrsAre ws ts → StrsAre (vs ++ ws) (ss ++ ts)
  | _, _, _, _, .nil, h => h
  | _, _, _, _, .cons n t r, h => .cons n t (strs_app r h)
section
variable {w : World} {A : Around} {s s₀ s₃ : Shared} {E : Value → Shared → Prop} {L : Addr} {m : Loc} {own xs rest : List (Addr × Obj)} {env : Env} {lv cv : Loc} {σ : So} {l : List Nd} {N : List Str} {np : Str → Int} {sc : Str → List Str}
theorem fStar {a : Addr} {o : Obj} {T : String} {its : Array Value} {n : Nat} {Q : List Value → Shared → Prop} (y : Fm s₀ L m own s) (hm : (a, o) ∈ own) (hc : o.cls = .type T) (hd : o.data = .seq its n) (hT : T = "list" ∨ T = "tuple") (hz : its.size ≤ sizeLine) (h : ∀ s', Fm s₀ L m own s' → Q its.toList s') : StarOf (MM w) A E (.ref a) Q s := by
  obtain ⟨mm, F, hm'⟩ := y.loc
  exact star_seq F y.N hm hc hd hT rfl hz fun h' F' N' => h _ (y.of (tk := s.toks) F' hm' N' y.nd)
theorem eMS {o : Expr} {name : Str} {apos pos : Pos} {args : List Expr} {Q : Value → Shared → Prop}
    (h : wpAny (MM w) A (eval o env) (fun ov s₁ => wpAny (MM w) A (getAttr ov name true) (fun f s₂ => wpAny (MM w) A (callWith pos f [] (backTo pos (starEach args env)) []) Q E s₂) E s₁) E s)
    (he : eval (.Call (.Attribute o name apos) args [] pos) env = (do
      let ov ← eval o env
      standAt apos.atName
      let (f, first) ← holding [ov] (do pure (← getAttr ov name true, []))
      callWith pos f first (backTo pos (starEach args env)) []) := by rfl) : wpAny (MM w) A (eval (.Call (.Attribute o name apos) args [] pos) env) Q E s := by
  rw [he]
  exact wpAny_bind (wpAny_mono h (fun ov s₁ h₁ => wpAny_bind (wpAny_standAt (wpAny_bind (wpAny_holding (wpAny_bind (wpAny_mono h₁ (fun f s₂ h₂ => wpAny_pure h₂) fun _ _ x => x)))))) fun _ _ x => x)
theorem fBound {Q : Value → Shared → Prop} {name : Str} {expr : Bool} {x C f : Addr} {ox : Obj} {es : List DictEntry} {n : Nat} (y : Fm s₀ L m own s) (C₀ : Cx w s₀.heap) (I : InstAt s.heap x ox C (some (dictOf es n)))
    (hg : plainGet (KF w.params) C name = true) (hh : hasDictIn (KF w.params) C = true) (ha : findIn (KF w.params) (.ref C) name = some (some (.ref f))) (hf : isFn (KF w.params) (.ref f) = true)
    (hgf : specialIn (KF w.params) (.ref f) "__get__" = some (some (.builtin "function.__get__"))) (ht : takesIn (KF w.params) (.ref f) = some false) (hc : copiedNames.contains name = false) (hl : getL name es = some none)
    (h : ∀ s' q, Fm s₀ L m ((q, methodObj (.ref f) (.ref x)) :: own) s' → Q (.ref q) s') : wpAny (MM w) A (getAttr (.ref x) name expr) Q E s := by
  obtain ⟨mm, F, hm⟩ := y.loc
  exact kbm_bound F C₀.F.K y.N I hg hh ha hf hgf ht hc hl fun q h' F' N' hq => h _ q (y.of (tk := s.toks + 1) F' hm N' (nd_new y hq))
theorem cMS {q g : Addr} {self : Value} {pos : Pos} {e : Expr} {rest : List Expr} {Q : Value → Shared → Prop} (hf : fnIn (KF w.params) g = true)
    (h : wpAny (MM w) A (spliced (backTo pos (starEach (e :: rest) env))) (fun vs s₁ => MethP (KF w.params) q g self s₁.heap ∧ codeAny (MM w) A (.call (.ref g) ⟨self :: vs, []⟩) (fun r s' => match r with | .ok (.ret v) => Q v s' | .ok _ => False | .error e => E e s') s₁) E s)
    (he : starEach (e :: rest) env = (false, eval e env) :: starEach rest env := by rfl) (hst : (backTo pos (starEach rest env)).any (·.1) = true := by rfl) :
    wpAny (MM w) A (callWith pos (.ref q) [] (backTo pos (starEach (e :: rest) env)) []) Q E s := by
  rw [he] at h ⊢
  exact ks_call (P := fun h => MethP (KF w.params) q g self h) (by show (false || (backTo pos (starEach rest env)).any (·.1)) = true; rw [hst]; rfl) (keeps_M hf) (Calls.evalArgs_plain (wpAny_mono h (fun vs s₁ h₁ => ⟨h₁.1, wpAny_call (method_call h₁.1.1 h₁.2)⟩) fun _ _ x => x))
theorem cMS1 {q g : Addr} {self : Value} {pos p : Pos} {e : Expr} {Q : Value → Shared → Prop} (hf : fnIn (KF w.params) g = true)
    (h : wpAny (MM w) A (eval e env) (fun v s₁ => StarOf (MM w) A E v (fun vs s₂ => MethP (KF w.params) q g self s₂.heap ∧ codeAny (MM w) A (.call (.ref g) ⟨self :: vs, []⟩) (fun r s' => match r with | .ok (.ret v) => Q v s' | .ok _ => False | .error e => E e s') s₂) s₁) E s)
    (he : starEach [.Starred e p] env = [(true, eval e env)] := by rfl) :
    wpAny (MM w) A (callWith pos (.ref q) [] (backTo pos (starEach [.Starred e p] env)) []) Q E s := by
  rw [he]
  refine ks_call (P := fun h => MethP (KF w.params) q g self h) rfl (keeps_M hf) (ks_lone (wpAny_mono h (fun v s₁ h₁ => ?_) fun _ _ x => x))
  unfold StarOf at h₁ ⊢
  exact wpAny_mono h₁ (fun b s₂ h₂ => ⟨h₂.1, wpAny_mono h₂.2 (fun vs s₃ h₃ => ⟨h₃.1, wpAny_call (method_call h₃.1.1 h₃.2)⟩) fun _ _ x => x⟩) fun _ _ x => x
theorem adds_st {Q : Flow → Shared → Prop} {oW oJ : Obj} {DW Dw : Addr} {itsW itsw : Array Value} {ns : List Int} {kW kw j : Nat} {tj : Tok} (hd : Rm A 9) (y : Fm s₀ L [("waits", .ref Dw), ("sorter", .ref σ.X)] (σ.own w.params l ++ rest) s) (C₀ : Cx w s₀.heap) (O : σ.Ok w l) (R : Rep l N np sc) (hrd : σ.rd = .none)
    (hw : (Dw, listOf itsw kw) ∈ rest) (hiw : StrsAre itsw.toList (waitsOf ns j))
    (hW : (L + 4, oW) ∈ rest) (hWd : oW.data = .cell (some (.ref DW))) (hDW : (DW, listOf itsW kW) ∈ rest) (hiW : StrsAre itsW.toList (ns.map wI)) (hJ : (L + 6, oJ) ∈ rest) (hJd : oJ.data = .cell (some (.int j tj))) (hj : j < ns.length) (hsz : ns.length ≤ 14) (hN : N.length ≤ 500) (hsc : ∀ x, (sc x).length ≤ 500)
    (h : ∀ s' od' l', Rep l' (addJ ns (N, np, sc) j).1 (addJ ns (N, np, sc) j).2.1 (addJ ns (N, np, sc) j).2.2 → ({ σ with od := od' } : So).Ok w l' → Fm s₀ L [("sorter", .ref σ.X)] (({ σ with od := od' } : So).own w.params l' ++ rest) s' → Q .next s') :
    wpAny (MM w) A (execs [bodySt 7 1, bodySt 7 2] (lawEnv L)) Q E s := by
  have hwl := waits_len ns j
  have hiwl := hiw.length
  rw [Array.length_toList] at hiwl
  have hWl := hiW.length
  rw [List.length_map, Array.length_toList] at hWl
  have mR : ∀ {q : Addr × Obj} {xs : List (Addr × Obj)}, q ∈ rest → q ∈ xs ++ rest := fun h => List.mem_append.mpr (.inr h)
  have hjW : j < itsW.toList.length := by rw [Array.length_toList]; omega
  have eW0 : itsW.toList[j]? = some itsW.toList[j] := List.getElem?_eq_getElem hjW
  obtain ⟨nj, uj, _, e3, e4⟩ := strs_mem hiW eW0
  have enj : ns.getD j 0 = nj := by simp [List.getD, e3]
  rw [e4] at eW0
  have hjlt : (j : Int) < 2 ^ 63 := by omega
  have hj0 : (0 : Int) ≤ (j : Int) := by omega
  refine wpAny_execs_cons (wpAny_Expr (eMS (eL y rfl rfl rfl (fBound (f := 149) y C₀ (So.inst y (so_mem _)) rfl rfl rfl rfl rfl rfl rfl rfl fun s₁ q y₁ => cMS (g := 149) (self := .ref σ.X) rfl (aC (Subscript_ (eC (c := L + 4) (env := lawEnv L) y₁ (.tail _ (mR hW)) hWd rfl rfl rfl (eC (c := L + 6) (env := lawEnv L) y₁ (.tail _ (mR hJ)) hJd rfl rfl rfl (item_list (items := itsW) ⟨_, (y₁.N _ (.tail _ (mR hDW))).1, rfl, kW, rfl⟩ hj0 hjlt (x := .str (wI nj) uj) (by simpa using eW0) ?_)))))))))
  refine items_star (wpAny_BinOp (Subscript_ (eL y₁ rfl rfl rfl (wpAny_Slice (wpAny_evalPart_none (wpAny_evalPart_some (eInt fun t3 k3 => wpAny_evalPart_none (fSliceL (y₁.tok k3) ⟨_, (y₁.N _ (.tail _ (mR hw))).1, rfl, kw, rfl⟩ .none (.int _ _) (by show itsw.size ≤ 16777216; omega) fun s₅ r y₅ => eInt fun t4 k4 => ?_))))))))
  have hpk : slicePick itsw none (some 1) none = (itsw.toList.take 1).toArray := slicePick_upto' itsw 1
  rw [hpk] at y₅
  have l1 : (itsw.toList.take 1).length ≤ 1 := by rw [List.length_take]; omega
  refine fMulL (vs := itsw.toList.take 1) (ws := itsw.toList.take 1 ++ itsw.toList.take 1) (y₅.tok k4) ⟨_, (y₅.N _ (.head _)).1, rfl, 0, rfl⟩ (by decide) (by decide) (by show (itsw.toList.take 1).length * 2 ≤ 256; omega) (by show (List.replicate 2 _).flatten = _; simp) fun s₆ D₆ y₆ => ?_
  refine fStar y₆ (.head _) rfl rfl (.inl rfl) (by simp; show _ ≤ 16777216; omega) fun s₇ y₇ => aN ⟨⟨(y₇.N _ (.tail _ (.tail _ (.head _)))).1, (C₀.up y₇.keep).F.K⟩, ?_⟩
  have y₈ : Fm s₀ L [("waits", .ref Dw), ("sorter", .ref σ.X)] (σ.own w.params l ++ rest) s₇ := y₇.less (List.sublist_append_right [_, _, _] _)
  have hst1 := strs_app (strs_take hiw 1) (strs_take hiw 1)
  have l2 : ((waitsOf ns j).take 1 ++ (waitsOf ns j).take 1).length ≤ 2 := by simp; omega
  have l3 : ((waitsOf ns j).drop 1).length ≤ 14 := by simp; omega
  show codeAny _ A (.call (.ref 149) ⟨.ref σ.X :: .str (wI nj) uj :: ((itsw.toList.take 1 ++ itsw.toList.take 1) ++ []), []⟩) _ _
  rw [List.append_nil]
  refine add_code (E := E) y₈ C₀ hd O R hrd hst1 (by omega) (fun x => by have := hsc x; omega) fun s₈ od l₁ R₁ O₁ y₉ => ?_
  have a1 := addS_len (st := (N, np, sc)) (nm := wI nj) (ps := (waitsOf ns j).take 1 ++ (waitsOf ns j).take 1)
  have b1 := fun x => addS_sc (st := (N, np, sc)) (nm := wI nj) (ps := (waitsOf ns j).take 1 ++ (waitsOf ns j).take 1) (x := x)
  refine wpAny_execs_cons (wpAny_Expr (eMS (eL y₉ rfl rfl rfl (fBound (f := 149) y₉ C₀ (So.inst (σ := { σ with od := od }) y₉ (so_mem _)) rfl rfl rfl rfl rfl rfl rfl rfl fun s₉ q₂ z₁ => cMS (g := 149) (self := .ref σ.X) rfl (aC (Subscript_ (eC (c := L + 4) (env := lawEnv L) z₁ (.tail _ (mR hW)) hWd rfl rfl rfl (eC (c := L + 6) (env := lawEnv L) z₁ (.tail _ (mR hJ)) hJd rfl rfl rfl (item_list (items := itsW) ⟨_, (z₁.N _ (.tail _ (mR hDW))).1, rfl, kW, rfl⟩ hj0 hjlt (x := .str (wI nj) uj) (by simpa using eW0) ?_)))))))))
  refine items_star (Subscript_ (eL z₁ rfl rfl rfl (wpAny_Slice (wpAny_evalPart_some (eInt fun t3 k3 => wpAny_evalPart_none (wpAny_evalPart_none (fSliceL (z₁.tok k3) ⟨_, (z₁.N _ (.tail _ (mR hw))).1, rfl, kw, rfl⟩ (.int _ _) .none (by show itsw.size ≤ 16777216; omega) fun s₅ r z₅ => ?_)))))))
  have hpk2 : slicePick itsw (some 1) none none = (itsw.toList.drop 1).toArray := slicePick_from' itsw 1
  rw [hpk2] at z₅
  refine fStar z₅ (.head _) rfl rfl (.inl rfl) (Nat.le_trans (by simp : (itsw.toList.drop 1).toArray.size ≤ itsw.size) (by show itsw.size ≤ 16777216; omega)) fun s₇ y₁₀ => aN ⟨⟨(y₁₀.N _ (.tail _ (.head _))).1, (C₀.up y₁₀.keep).F.K⟩, ?_⟩
  have y₁₁ : Fm s₀ L [("waits", .ref Dw), ("sorter", .ref σ.X)] (({ σ with od := od } : So).own w.params l₁ ++ rest) s₇ := y₁₀.less (List.sublist_append_right [_, _] _)
  show codeAny _ A (.call (.ref 149) ⟨.ref σ.X :: .str (wI nj) uj :: (itsw.toList.drop 1 ++ []), []⟩) _ _
  rw [List.append_nil]
  refine add_code (E := E) (σ := { σ with od := od }) y₁₁ C₀ hd O₁ R₁ hrd (strs_drop hiw 1) (by have a2 : ((((waitsOf ns j).take 1 ++ (waitsOf ns j).take 1)).foldl insE (insE N (wI nj))).length ≤ N.length + 1 + ((waitsOf ns j).take 1 ++ (waitsOf ns j).take 1).length := a1; omega) (fun x => by have h9 := hsc x; have h8 := b1 x; dsimp only [addS] at h8; omega) fun s₈ od₂ l₂ R₂ O₂ y₁₂ => ?_
  refine wpAny_execs_nil (h s₈ od₂ l₂ ?_ O₂ (y₁₂.weak (of_lk rfl)))
  unfold addJ
  rw [enj]
  exact R₂
end
end Mine
end -- D11
section -- D12
set_option maxRecDepth 100000
set_option maxHeartbeats 1000000
namespace Mine
theorem perm_front {α : Type} (a s t : List α) : (a ++ (s ++ t)).Perm (s ++ (a ++ t)) := by
  rw [← List.append_assoc, ← List.append_assoc]
  exact List.perm_append_comm.append_right t
section
variable {w : World} {A : Around} {s s₀ s₃ : Shared} {L : Addr} {m : Loc} {own xs rest : List (Addr × Obj)} {σ : So} {l : List Nd}
theorem st7 {Q : Flow → Shared → Prop} {oP oW oJ : Obj} {v₀ : Option Value} {DP DW : Addr} {itsP itsW : Array Value} {ns : List Int} {kP kW : Nat} {ps : List Pc} (hd : Rm A 9) (y : Fm s₀ L [("sorter", .ref σ.X)] (σ.own w.params l ++ (L + 6, oJ) :: rest) s) (C₀ : Cx w s₀.heap) (O : σ.Ok w l) (R : Rep l [] (fun _ => 0) (fun _ => [])) (hrd : σ.rd = .none)
    (hP : (L + 5, oP) ∈ rest) (hPd : oP.data = .cell (some (.ref DP))) (hDP : (DP, listOf itsP kP) ∈ rest) (hiP : itsP.toList = ps.map (fun q => Value.ref q.l)) (hok : PcOk ps ns) (hps : ∀ q ∈ ps, pcO q ∈ rest)
    (hW : (L + 4, oW) ∈ rest) (hWd : oW.data = .cell (some (.ref DW))) (hDW : (DW, listOf itsW kW) ∈ rest) (hiW : StrsAre itsW.toList (ns.map wI)) (hJd : oJ.data = .cell v₀) (hsz : ns.length ≤ 14) (hb : ∀ n ∈ ns, n.natAbs < 16 ^ 7)
    (h : ∀ s' od' l' oJ', Rep l' (stJ ns ns.length).1 (stJ ns ns.length).2.1 (stJ ns ns.length).2.2 → ({ σ with od := od' } : So).Ok w l' → Fm s₀ L [("sorter", .ref σ.X)] (({ σ with od := od' } : So).own w.params l' ++ (L + 6, oJ') :: rest) s' → Q .next s') :
    wpAny (MM w) A (exec (lawSt 7) (lawEnv L)) Q (fun _ _ => False) s := by
  have hlenW := hiW.length
  rw [List.length_map, Array.length_toList] at hlenW
  have mR : ∀ {q : Addr × Obj} {xs : List (Addr × Obj)} {p : Addr × Obj}, q ∈ rest → q ∈ xs ++ p :: rest := fun h => List.mem_append.mpr (.inr (.tail _ h))
  refine wpAny_For (eCall (eB (C₀.up y.keep) 20 7 rfl rfl rfl rfl rfl rfl (cT (aC (eCall (eB (C₀.up y.keep) 19 6 rfl rfl rfl rfl rfl rfl (cB (aC (eC (c := L + 4) (env := lawEnv L) y (mR hW) hWd rfl rfl rfl (aN (len_list (items := itsW) ⟨_, (y.N _ (mR hDW)).1, rfl, kW, rfl⟩ (by omega) (aN (call_range_1 ?_)))))))))))))
  have hsm : Builtin.Range.small 0 (itsW.size : Int) 1 = true := small_one (by decide) (by decide) (by omega) (by omega)
  have hrs : Builtin.Range.rangeSize 0 (itsW.size : Int) 1 = (ns.length : Nat) := by rw [rangeSize_nat]; simp [hlenW]
  have y₁ := (((y.tok (s.toks + 1 + 1)).push { cls := .type "range", data := .fields #[.int 0 (s.toks + 1 + 1), .int itsW.size (s.toks + 1), .int 1 (s.toks + 1 + 1 + 1)] }).tok (s.toks + 1 + 1 + 1 + 1)).less (List.sublist_cons_self _ _)
  refine forRangeG (env := lawEnv L) (own := σ.own w.params l ++ (L + 6, oJ) :: rest) (m := [("sorter", .ref σ.X)]) PassesOwn.never hd.hh y₁ (IsRange.new _ _ _ _ _ _ _) hsm ns.length hrs
    (fun i m₁ own₁ => m₁ = ([(("sorter" : Str), Value.ref σ.X)] : Loc) ∧ ∃ od l₁ oJ₁, own₁ = ({ σ with od := od } : So).own w.params l₁ ++ (L + 6, oJ₁) :: rest ∧ ({ σ with od := od } : So).Ok w l₁ ∧ Rep l₁ (stJ ns i).1 (stJ ns i).2.1 (stJ ns i).2.2 ∧ ∃ v, oJ₁.data = .cell v)
    ⟨rfl, σ.od, l, oJ, rfl, O, R, v₀, hJd⟩ ?step ?done
  case done =>
    rintro m₁ own₁ s₁ ⟨rfl, od, l₁, oJ₁, rfl, O₁, R₁, _⟩ z
    exact h s₁ od l₁ oJ₁ R₁ O₁ z
  rintro i t m₁ own₁ s₁ I oI hi ⟨rfl, od, l₁, oJ₁, rfl, O₁, R₁, v₁, hd₁⟩ z
  have ei : (0 + (i : Int) * 1) = (i : Int) := by omega
  rw [ei]
  refine sC (env := lawEnv L) (c := L + 6) (pre := (I, oI) :: ({ σ with od := od } : So).own w.params l₁) (o := oJ₁) (v₀ := v₁) z hd₁ rfl rfl rfl fun s₂ oJ₂ hd₂ z₂ => ?_
  show wpAny _ A (execs [bodySt 7 0, bodySt 7 1, bodySt 7 2] _) _ _ _
  have mR2 : ∀ {q : Addr × Obj}, q ∈ rest → q ∈ (I, oI) :: ({ σ with od := od } : So).own w.params l₁ ++ (L + 6, oJ₂) :: rest := fun h => mR h
  refine wpAny_execs_cons (waits_st hd z₂ C₀ (mR2 hP) hPd (mR2 hDP) hiP hok (fun q hq => mR2 (hps q hq)) (mR2 hW) hWd (mR2 hDW) hiW (List.mem_append.mpr (.inr (.head _))) hd₂ hi (by omega) hb fun s₃ Dw kw itsw z₃ hiw => ?_)
  have hl := stJ_len ns hsz i
  have z₄ : Fm s₀ L [("waits", .ref Dw), ("sorter", .ref σ.X)] (({ σ with od := od } : So).own w.params l₁ ++ ([(Dw, listOf itsw kw), (I, oI)] ++ (L + 6, oJ₂) :: rest)) s₃ := (z₃.weak (of_lk rfl)).perm (perm_front [(Dw, listOf itsw kw), (I, oI)] (({ σ with od := od } : So).own w.params l₁) ((L + 6, oJ₂) :: rest))
  refine adds_st (σ := { σ with od := od }) hd z₄ C₀ O₁ R₁ hrd (.head _) hiw (.tail _ (.tail _ (.tail _ hW))) hWd (.tail _ (.tail _ (.tail _ hDW))) hiW (.tail _ (.tail _ (.head _))) hd₂ hi hsz (by omega) (fun x => by have := hl.2 x; omega) fun s₅ od₂ l₂ R₂ O₂ z₅ => ?_
  refine ⟨[(("sorter" : Str), Value.ref σ.X)], ({ σ with od := od₂ } : So).own w.params l₂ ++ (L + 6, oJ₂) :: rest, ⟨rfl, od₂, l₂, oJ₂, rfl, O₂, by rw [stJ_succ]; exact R₂, _, hd₂⟩, ?_⟩
  exact (z₅.perm (perm_front [(Dw, listOf itsw kw), (I, oI)] (({ σ with od := od₂ } : So).own w.params l₂) ((L + 6, oJ₂) :: rest)).symm).less (List.sublist_cons_self _ _)
end
end Mine
end -- D12
section -- D13
set_option maxRecDepth 100000
set_option maxHeartbeats 1000000
namespace Mine
section
variable {w : World} {A : Around} {s s₀ s₃ : Shared} {E : Value → Shared → Prop} {L : Addr} {m : Loc} {own xs rest : List (Addr × Obj)} {env : Env}
theorem Fm.dropBut {C : Addr} {oC : Obj} {h' : Heap} (x : Fm s₀ L m ((C, oC) :: own) s) (hs : Heap.SameBut C s.heap h') : Fm s₀ L m own { s with heap := h' } := by
  have hC := x.N _ (.head _)
  have nd := x.nd
  rw [List.map_cons, List.nodup_cons] at nd
  obtain ⟨mm, F, hm⟩ := x.loc
  have k0 : Sub s₀.heap h' := fun b o e => hs.extBut b o (fun q => by subst q; rw [hC.2.2] at e; cases e) (F.keep b o e)
  refine ⟨let ⟨_, tk, e⟩ := x.same; ⟨h', tk, by rw [e]⟩, ⟨mm, ⟨F.ns.at' fun o e => hs.extBut L o (fun q => hC.2.1 q.symm) e, k0, F.above⟩, hm⟩, fun p hp => ?_, nd.2⟩
  have z := x.N p (.tail _ hp)
  exact ⟨hs.extBut _ _ (fun q => nd.1 (List.mem_map.mpr ⟨p, hp, q⟩)) z.1, z.2⟩
theorem fAsgCompL {elt target iter : Expr} {y : Str} {py : Pos} {ifs : List Expr} {gs : List Comprehension} {scope : Scope} {cl : List (Str × Addr)} {pos spos : Pos} {Q : Flow → Shared → Prop}
    (hclos : closureFor scope env = pure cl) (hkind : scope.kind = .function) (hnames : (scope.names.all fun y => y.2 != .local || scope.names.lookup y.1 == some .local) = true)
    (hy : env.kindOf y = some .local) (hk : env.scope.kind = .function)
    (h : wpAny (MM w) A (eval iter env) (fun xv s₁ => wpAny (MM w) A (pyIter xv) (fun it s₂ => ∃ xs rest m, Fm s₀ env.locals m (xs ++ rest) s₂ ∧ (∀ (s₄ : Shared) (Q : Value → Shared → Prop) (E : Value → Shared → Prop), Sub s₂.heap s₄.heap → Q it s₄ → wpAny (MM w) A (pyIter it) Q E s₄) ∧
      ∀ s₂ s₄ D, D = s₂.heap.objs.size → Fm s₀ env.locals m (xs ++ rest) s₂ → Fm (hid s₂ xs) (D + 1) [] ((D, listOf #[] 0) :: xs) s₄ → s₄.heap.objs.size = D + 2 → 
        codeAny (MM w) A (.compLoop (.ListComp elt (⟨target, iter, ifs, 0⟩ :: gs) scope pos) 0 it (.ref D) (compEnvG scope (cellsFrom (D + 2) scope.names cl) (D + 1) env))
        (fun r s' => r = .ok .next ∧ ∃ m' own' its n, Fm (hid s₂ xs) (D + 1) m' ((D, listOf its n) :: own') s' ∧ ∀ s'', Fm s₀ env.locals ((y, .ref D) :: m.filter (fun p => p.1 != y)) ((D, listOf its n) :: (own' ++ rest)) s'' → Q .next s'') { s₄ with heap := pushCells s₄.heap scope.names }) E s₁) E s)
    (hsw : swapsWith (.ListComp elt (⟨target, iter, ifs, 0⟩ :: gs) scope pos) (some (.Name y py)) spos.line env = pure true := by rfl)
    (hs : ∀ x, foldedSetIterable iter env x = pure x := by intro _; rfl) :
    wpAny (MM w) A (exec (.Assign [.Name y py] (.ListComp elt (⟨target, iter, ifs, 0⟩ :: gs) scope pos) spos) env) Q E s := by
  rw [exec_Assign_Name_used _ _ _ _ hsw]
  refine wpAny_bind (wpAny_standAt (wpAny_bind ?_))
  show wpAny _ A (do let _ ← comprehension (.ListComp elt (⟨target, iter, ifs, 0⟩ :: gs) scope pos) scope env _ (newList []) false (eval iter env) (some (assign (.Name y py) env))) _ _ s
  refine wpAny_bind (wpAny_mono (wpAny_comprehension_free (use := some (assign (.Name y py) env)) (Q := fun _ s' => Q .next s') rfl hs hclos hkind (fun z hz hl => ?_)
    (wpAny_mono h (fun xv s₁ h₁ => wpAny_mono h₁ (fun it s₂ h₂ => ?_) fun _ _ e => e) fun _ _ e => e)) (fun _ s' hq => wpAny_pure (wpAny_pure hq)) fun _ _ e => e)
  · have := List.all_eq_true.mp hnames z hz
    rw [hl] at this
    simpa using this
  obtain ⟨xs, rest, m, Y, hself, hloop⟩ := h₂
  refine wpAny_newObj_type (newCompEnv ?_)
  rw [show ({ s₂ with heap := s₂.heap.push { cls := .type "list", dict := none, data := .seq ([] : List Value).toArray } } : Shared).heap.objs.size = s₂.heap.objs.size + 1 from Heap.size_push ..]
  have hsz4 : ({ s₂ with heap := (s₂.heap.push (listOf #[] 0)).push emptyDict } : Shared).heap.objs.size = s₂.heap.objs.size + 2 := by
    show ((s₂.heap.push (listOf #[] 0)).push emptyDict).objs.size = _
    rw [Heap.size_push, Heap.size_push]
  have lp := hloop s₂ _ _ rfl Y (compFm Y.owns) hsz4
  have lp' := codeAny_mono (R' := compPost (MM w) A E (some (assign (.Name y py) env)) (fun _ s' => Q .next s') (.ref s₂.heap.objs.size) (s₂.heap.objs.size + 1)) lp (fun r s' hr => by
    obtain ⟨rfl, m', own', its, n, x, hq⟩ := hr
    show wpAny _ A (assign (.Name y py) env (.ref s₂.heap.objs.size)) _ _ _
    have Z : Fm s₀ env.locals m (((s₂.heap.objs.size, listOf its n) :: own') ++ rest) s' := Y.goO x.aftO
    obtain ⟨mC, FC, hmC⟩ := x.loc
    obtain ⟨oC, es, ep, hoC, rC⟩ := FC.ns
    have hC2 : s₂.heap.get? (s₂.heap.objs.size + 1) = none := by
      cases e : s₂.heap.get? (s₂.heap.objs.size + 1) with
      | none => rfl
      | some o => exact absurd (Heap.lt_size e) (Nat.not_lt.mpr (Nat.le_succ _))
    have hC0 : s₀.heap.get? (s₂.heap.objs.size + 1) = none := by
      cases e : s₀.heap.get? (s₂.heap.objs.size + 1) with
      | none => rfl
      | some o => have := Y.keep _ _ e; rw [hC2] at this; cases this
    obtain ⟨mY, FY, hmY⟩ := Y.loc
    have hCL : s₂.heap.objs.size + 1 ≠ env.locals := fun e => by
      have := FY.ns.lt
      rw [← e] at this
      exact absurd this (Nat.not_lt.mpr (Nat.le_succ _))
    have Z₂ : Fm s₀ env.locals m ((s₂.heap.objs.size + 1, oC) :: (((s₂.heap.objs.size, listOf its n) :: own') ++ rest)) s' := by
      refine ⟨Z.same, Z.loc, fun p hp => ?_, ?_⟩
      · rcases List.mem_cons.mp hp with rfl | hp
        · exact ⟨hoC, hCL, hC0⟩
        · exact Z.N p hp
      · rw [List.map_cons, List.nodup_cons]
        refine ⟨fun hm => ?_, Z.nd⟩
        rw [List.map_append, List.mem_append] at hm
        rcases hm with hm | hm
        · obtain ⟨p, hp, e⟩ := List.mem_map.mp hm
          exact (x.N p hp).2.1 e
        · obtain ⟨p, hp, e⟩ := List.mem_map.mp hm
          have := (Y.N p (List.mem_append.mpr (.inr hp))).1
          rw [e] at this
          rw [show (s₂.heap.objs.size + 1, oC).1 = s₂.heap.objs.size + 1 from rfl, hC2] at this
          cases this
    refine wpAny_assign_Name (sL Z₂ hy hk fun s₃ Z₃ => ?_)
    refine ⟨mC, ⟨oC, es, ep, (Z₃.N _ (.head _)).1, rC⟩, fun h' hsb => hq _ (Z₃.dropBut hsb)⟩)
  refine codeAny_compStart_list lp' (hself _ _ _ (fun b o e => ?_) lp')
  exact pushCells_keeps _ _ _ _ (sub_push _ _ _ _ (sub_push _ _ _ _ e))
end
end Mine
end -- D13
section -- D14
set_option maxRecDepth 100000
set_option maxHeartbeats 1000000
namespace Mine
theorem notin_last {α : Type} {a b i : α} (h : [a, b, i].Nodup) : i ∉ [a, b] := fun hm => (List.nodup_append.mp (show ([a, b] ++ [i]).Nodup from h)).2.2 i hm i (.head _) rfl
theorem pow16_le (k : Nat) (h : k ≤ 7) : (16 : Int) ^ k ≤ 268435456 := by
  have : ∀ k : Fin 8, (16 : Int) ^ k.val ≤ 268435456 := by decide
  exact this ⟨k, by omega⟩
def ks7 : List Int := [1, 2, 3, 4, 5, 6, 7]
def quots (n : Int) : List Int := ks7.map fun k => n.fdiv (16 ^ k.toNat)
def isAb (n o : Int) : Bool := o != n && (quots n).any (· == o)
def lvl (ns : List Int) (n : Int) : Int := ((ns.filter (isAb n)).length : Nat)
def pLv (n : Int) : Value → Bool
  | .int o _ => isAb n o
  | _ => false
theorem filtLv {n : Int} : ∀ {ns : List Int} {its : List Value}, IntsAre its ns → (its.filter (pLv n)).length = (ns.filter (isAb n)).length
  | _, _, .nil => rfl
  | _, _, .cons o t h => by
    have e : pLv n (.int o t) = isAb n o := rfl
    rw [List.filter_cons, List.filter_cons, e]
    split
    · simp [filtLv h]
    · exact filtLv h
theorem paired_ints2 {F : Value → Value → Prop} {f : Int → Int} : ∀ {ns : List Int} {its ys : List Value}, IntsAre its ns → (∀ n ∈ ns, ∀ t y, F (.int n t) y → ∃ t', y = .int (f n) t') → Paired F its ys → IntsAre ys (ns.map f)
  | _, _, _, .nil, _, hp => by cases hp; exact .nil
  | _, _, _, .cons n t h, hF, hp => by
    cases hp with
    | cons hf hr =>
      obtain ⟨t', rfl⟩ := hF n (.head _) t _ hf
      exact .cons _ _ (paired_ints2 h (fun k hk => hF k (.tail _ hk)) hr)
section
variable {w : World} {A : Around} {s s₀ s₃ : Shared} {E : Value → Shared → Prop} {L : Addr} {m : Loc} {own xs rest : List (Addr × Obj)} {env : Env}
theorem levels_st {Q : Flow → Shared → Prop} {oS : Obj} {DN : Addr} {its : List Value} {ns : List Int} {k0 : Nat} (hd : Rm A 2) (y : Fm s₀ L m own s) (C₀ : Cx w s₀.heap) (hS : (L + 3, oS) ∈ own) (hSd : oS.data = .cell (some (.ref DN))) (hD : (DN, listOf its.toArray k0) ∈ own) (hi : IntsAre its ns) (hsz : ns.length ≤ 100)
    (h : ∀ s' D' n' its', Fm s₀ L (("levels", .ref D') :: m.filter (fun p => p.1 != "levels")) ((D', listOf its' n') :: own) s' → IntsAre its'.toList (ns.map (lvl ns)) → Q .next s') : wpAny (MM w) A (exec (lawSt 8) (lawEnv L)) Q E s := by
  have hlen := hi.length
  refine fAsgCompL (s₀ := s₀) (env := lawEnv L) (cl := [("numbers", L + 3)]) rfl rfl rfl rfl rfl (eC (c := L + 3) (env := lawEnv L) y hS hSd rfl rfl rfl (fIterL y (items := its.toArray) ⟨_, (y.N _ hD).1, rfl, k0, rfl⟩ fun s₂ I y₂ => ?_))
  refine ⟨[_], own, m, y₂, fun s₄ Q E k q => wpAny_pyIter_listiter (i := 0) ⟨_, k _ _ (y₂.N _ (.head _)).1, rfl, rfl⟩ q, ?_⟩
  clear y₂ s₂
  intro s₂ s₄ D _ y₂ x₀ hs4
  have hIC : I ≠ D + 1 := (x₀.N _ (.tail _ (.head _))).2.1
  have hI0 : (hid s₂ [(I, litO DN 0)]).heap.get? I = none := (x₀.N _ (.tail _ (.head _))).2.2
  have hDb : (hid s₂ [(I, litO DN 0)]).heap.get? DN = some (listOf its.toArray k0) := y₂.hidGet (own := [(I, litO DN 0)]) hD
  have hSb : (hid s₂ [(I, litO DN 0)]).heap.get? (L + 3) = some oS := y₂.hidGet (own := [(I, litO DN 0)]) hS
  have hk0 : Sub s₀.heap (hid s₂ [(I, litO DN 0)]).heap := y₂.hidSub (own := [(I, litO DN 0)])
  have hne : DN ≠ I := by
    rintro rfl
    rw [hI0] at hDb; cases hDb
  have x₁ := x₀.push { cls := .type "cell", data := .cell none }
  rw [hs4] at x₁
  generalize hs₀ : hid s₂ [(I, litO DN 0)] = b₀ at *
  have hnd := x₁.nd
  have hI1 := (x₁.N _ (.tail _ (.tail _ (.head _)))).1
  have x₂ : Fm b₀ (D + 1) [] [(D + 2, { cls := .type "cell", data := .cell none }), (D, listOf #[] 0)] _ := x₁.less (((List.Sublist.refl _).cons _).cons_cons _ |>.cons_cons _)
  refine cLoop (Turn b₀ (D + 1) I its.toArray.size (fun i h => h.IsListIter I DN i ∧ h.IsList DN its.toArray) fun i m₁ own₁ => m₁ = ([] : Loc) ∧ ∃ its₁ n₁ oc v₁, own₁ = [(D + 2, oc), (D, listOf its₁ n₁)] ∧ oc.data = .cell v₁ ∧ IntsAre its₁.toList ((ns.take i).map (lvl ns)) ∧ its₁.size ≤ i) ?turn (its.toArray.size + 1) ?init
  case init => exact listTurn (items := its.toArray) x₂ (notin_last hnd) ⟨_, hI1, rfl, rfl⟩ ⟨_, x₁.keep _ _ hDb, rfl, k0, rfl⟩ ⟨rfl, #[], 0, _, none, rfl, rfl, .nil, Nat.le_refl _⟩
  intro c s' hT
  refine listNext hd.hh hne hI0 hIC ⟨_, fun i m₁ own₁ s₁ _ _ z => z.keep _ _ hDb⟩ hT ?step ?done
  case done =>
    rintro m₁ own₁ s₁ ⟨rfl, its₁, n₁, oc, v₁, rfl, hoc, hits, _⟩ z
    refine ⟨rfl, [], [(D + 2, oc)], its₁, n₁, z.perm (List.Perm.swap _ _ _), fun s'' z' => h s'' D n₁ its₁ (z'.less ((List.sublist_cons_self _ _).cons_cons _)) ?_⟩
    have e3 : ns.take its.toArray.size = ns := List.take_of_length_le (by simp; omega)
    rw [e3] at hits
    exact hits
  rintro i v m₁ own₁ s₁ oI hi₁ hv ⟨rfl, its₁, n₁, oc, v₁, rfl, hoc, hits, hz₁⟩ z fin
  obtain ⟨n, t, hn, rfl⟩ := ints_at hi (by simpa using hv)
  refine wpAny_of_eq (a := ()) rfl (wpAny_assign_Name (sC (env := compEnvG _ [("number", D + 2), ("numbers", L + 3)] (D + 1) (lawEnv L)) (c := D + 2) (pre := [(I, oI)]) z hoc rfl rfl rfl fun s₃ oc₂ hoc₂ z₃ => tests0 ?_))
  rw [if_pos rfl]
  have C₃ : Cx w s₃.heap := (C₀.up hk0).up z₃.keep
  have hcN : s₃.heap.IsCell (D + 2) (some (.int n t)) := ⟨oc₂, (z₃.N _ (.tail _ (.head _))).1, hoc₂⟩
  refine eCall (eB C₃ 19 6 rfl rfl rfl rfl rfl rfl (cB (aC (fLstComp (s₀ := b₀) (L := D + 1) (cl := [("number", D + 2)]) (pLv n) (fun v y => y = v) [("number", .int n t)] hd.hh rfl rfl rfl rfl rfl (wpAny_Name (wpAny_loadName_cell (c := L + 3) (v := .ref DN) rfl rfl rfl ⟨oS, z₃.keep _ _ hSb, hSd⟩ ⟨DN, its.toArray, [], _, rfl, z₃, ⟨_, z₃.keep _ _ hDb, rfl, k0, rfl⟩, (by show its.toArray.size ≤ 16777216; simp; omega), ?_, ?_, ?_, ?_⟩) rfl)))))
  · intro p hp
    simp at hp
    subst hp
    exact ⟨_, rfl, hcN⟩
  · intro s₅ C₁ j v E' k₅ hv₅ ev
    obtain ⟨o, to, ho, rfl⟩ := ints_at hi (by simpa using hv₅)
    have C₅ : Cx w s₅.heap := C₃.up k₅
    refine tests1 (isTrue_and (wpAny_isTrue_Compare1 (vL ev rfl rfl rfl (vC ev rfl rfl rfl (ne_int (wpAny_truthy_bool ?_))))))
    have ep : pLv n (.int o to) = (o != n && (quots n).any (· == o)) := rfl
    rw [ep]
    by_cases hon : (o != n) = true
    · rw [hon, if_pos rfl]
      refine isTrue_and (wpAny_isTrue_Compare1 (vL ev rfl rfl rfl (fComp (cl := [("number", D + 2)]) (fun _ => true) (fun v y => ∃ k t', v = .int k t' ∧ ∃ t'', y = .int (n.fdiv (16 ^ k.toNat)) t'') [("number", .int n t)] rfl rfl rfl rfl rfl ?_)))
      refine eCall (eB C₅ 20 7 rfl rfl rfl rfl rfl rfl (cT (aC (eInt fun t1 k1 => aC (eInt fun t2 k2 => aN (call_range_2 ⟨7, _, opens_range hd.hh (IsRange.new _ _ _ _ _ _ _) (by decide +kernel) 7 (by decide +kernel), by decide, ?_, ?_, ?_, ?_⟩))))))
      · intro p hp
        simp at hp
        subst hp
        exact ⟨_, rfl, oc₂, sub_push _ _ _ _ (k₅ _ _ (z₃.N _ (.tail _ (.head _))).1), hoc₂⟩
      · intro s₆ C₂ i₆ v₆ E₆ k₆ hv₆ ev₆
        exact tests0 ⟨rfl, .refl⟩
      · rintro s₆ C₂ i₆ v₆ E₆ k₆ ⟨hi₆, t₆, rfl⟩ _ ev₆
        have hnn : (0 : Int) ≤ 1 + (i₆ : Int) * 1 := by omega
        have hroom : (Builtin.Int.intBits 16 : Int) * (1 + (i₆ : Int) * 1) ≤ 2 ^ 27 := by rw [bits16]; omega
        have hk7 : (1 + (i₆ : Int) * 1).toNat ≤ 7 := by omega
        have hq0 := pow16_pos (1 + (i₆ : Int) * 1).toNat
        have hq1 := pow16_le _ hk7
        exact wpAny_BinOp (vC ev₆ rfl rfl rfl (wpAny_BinOp (eInt fun t7 k7 => vL (ev₆.tok k7) rfl rfl rfl (pow_int hnn hroom (floordiv_int (by omega) ⟨⟨_, t₆, rfl, _, rfl⟩, (ev₆.tok _).aft⟩ (.inl (PyProof.noPylong_small (by omega))))))))
      · intro s' D' n' ys vs a hD1 hD2 hl hP hF
        have hints : IntsAre vs ks7 := by
          refine ints_of_get _ _ (by rw [hl]; rfl) fun j v k hv hk => ?_
          obtain ⟨hj, t7, rfl⟩ := hP j v hv
          refine ⟨t7, ?_⟩
          congr 1
          have : ∀ j : Fin 7, ks7[j.val]? = some (1 + (j.val : Int) * 1) := by decide
          have e := this ⟨j, hj⟩
          rw [hk] at e
          exact (Option.some.inj e).symm
        rw [List.filter_eq_self.mpr fun _ _ => rfl] at hF
        have hq : IntsAre ys.toList (quots n) := paired_ints2 hints (by
          rintro k _ tk y ⟨k', t1, e1, t2, e2⟩
          cases e1
          exact ⟨t2, e2⟩) hF
        have af : After s₅ s' := (After.of (tk := _) (sub_push _ _)).trans a
        refine in_list_ints (vs := ys.toList) ⟨_, hD2, rfl, n', by simp⟩ hq (wpAny_truthy_bool ?_)
        cases hqq : (quots n).any (· == o) with
        | false =>
          rw [if_neg (by decide)]
          exact ⟨rfl, af⟩
        | true =>
          rw [if_pos rfl]
          exact isTrue_and_nil ⟨rfl, af⟩
    · have : (o != n) = false := by simpa using hon
      rw [this, if_neg (by decide)]
      exact ⟨rfl, .refl⟩
  · intro s₅ C₁ j v E' k₅ hv₅ _ ev
    exact vL ev rfl rfl rfl ⟨rfl, .refl⟩
  · intro s₅ D₅ n₅ ys z₅ hp
    have hys := paired_id hp
    have hyl : ys.size = (ns.filter (isAb n)).length := by
      have := filtLv (n := n) hi
      rw [← this, ← Array.length_toList, hys]
    refine aN (len_list (items := ys) ⟨_, (z₅.N _ (.head _)).1, rfl, n₅, rfl⟩ (by have := List.length_filter_le (isAb n) ns; omega) ?_)
    have z₆ := (z₅.less (List.sublist_cons_self _ _)).tok (s₅.toks + 1 + 1)
    refine fAppendL (pre := [(I, oI), (D + 2, oc₂)]) z₆ (fun s₇ z₇ => ?_) (by show its₁.size ≤ 16777216; have : i < its.toArray.size := hi₁; simp at this; omega)
    refine fin s₇ [] _ ⟨rfl, _, _, oc₂, _, rfl, hoc₂, ?_, by simp; omega⟩ (z₇.weak (of_lk rfl))
    have e4 : (ns.take (i + 1)).map (lvl ns) = (ns.take i).map (lvl ns) ++ [lvl ns n] := by
      rw [List.take_add_one, hn]; simp
    rw [e4, Array.toList_push]
    refine hits.append ?_
    show IntsAre [Value.int ((ys.size : Nat) : Int) _] [lvl ns n]
    rw [hyl]
    exact .cons _ _ .nil
end
end Mine
end -- D14
section -- D15
set_option maxRecDepth 100000
set_option maxHeartbeats 1000000
namespace Mine
section
variable {w : World} {A : Around} {s s₀ s₃ : Shared} {E : Value → Shared → Prop} {L : Addr} {m : Loc} {own xs rest : List (Addr × Obj)} {env : Env}
theorem fSorted {a : Addr} {o : Obj} {T : String} {its : Array Value} {n : Nat} {ss : List Str} {Q : Value → Shared → Prop} (y : Fm s₀ L m own s) (hm : (a, o) ∈ own) (hc : o.cls = .type T) (hd : o.data = .seq its n) (hT : T = "list" ∨ T = "tuple") (hS : StrsAre its.toList ss) (h64 : its.size < 64)
    (h : ∀ s' D its' e ss', Fm s₀ L m ((D, listOf its' e) :: own) s' → StrsAre its'.toList ss' → ss'.Perm ss → sortedS ss' = true → Q (.ref D) s') : wpAny (MM w) A (call (.builtin "sorted") [.ref a]) Q E s := by
  refine Calls.call_function_entry kind_sorted plain_sorted entry_sorted (args_sorted1 _) ?_
  unfold Builtin.«sorted»
  refine wpAny_bind (m := checkCount "sorted" 1 1 _) (wpAny_pure ?_)
  refine wpAny_bind (wpAny_collect_seq (hsz := by show its.size ≤ 16777216; omega) a hT (y.N _ hm).1 hc hd (fun h' hk => ?_))
  refine wpAny_bind (wpAny_newList (hsz := by rw [Array.length_toList]; show its.size ≤ 16777216; omega) ?_)
  have hoL : (h'.push (seqObj "list" its.toList.toArray 0)).get? h'.objs.size = some (seqObj "list" its.toList.toArray 0) := Heap.get?_push_size _ rfl
  have y₁ : Fm s₀ L m own { s with heap := h' } := y.up' hk
  show wpAny _ _ _ _ _ { s with heap := h'.push (seqObj "list" its.toList.toArray 0) }
  refine wpAny_bind (wpAny_holding (wpAny_call_entry slot_list_sort ⟨_, hoL, rfl⟩ entry_list_sort (list_sort_treeK strKind_oneLt hoL hS.keysOf (fun v₁ v₂ rest e => keyKind_strs (by rw [← e]; exact hS)) (by simpa using h64) fun st' a1 a2 => ⟨_, rfl, ?_⟩) (args_list_sort _)))
  refine wpAny_pure ⟨_, rfl, ?_⟩
  obtain ⟨ss', h1, h2, h3⟩ := sorted_out_str hS a1 a2
  obtain ⟨e, he⟩ := sortedHeap_at (vs := its.toList) (out := (arrOf st').map (·.2)) hoL
  have k2 : Sub h' (sortedHeap (h'.push (seqObj "list" its.toList.toArray 0)) h'.objs.size its.toList ((arrOf st').map (·.2))) := fun b o hb => by
    have hlt := Heap.lt_size hb
    rw [sortedHeap_old (Nat.ne_of_lt hlt) (by rw [Heap.size_push]; exact Nat.lt_succ_of_lt hlt)]
    exact Heap.get?_push_of_some _ hb
  have y₂ := y₁.up' (s := { s with heap := h' }) k2
  refine h _ h'.objs.size ((arrOf st').map (·.2)) e ss' ?_ h1 h2 h3
  obtain ⟨mm, F, hmm⟩ := y₁.loc
  refine ⟨y₂.same, y₂.loc, fun p hp => ?_, nd_new y₁ fun p hp => Heap.lt_size (y₁.N p hp).1⟩
  rcases List.mem_cons.mp hp with rfl | hp
  · exact ⟨he, Nat.ne_of_gt F.ns.lt, next_is_new F⟩
  · exact y₂.N p hp
end
theorem lexLe_trans {a b c : List Nat} (h1 : ¬ b < a) (h2 : ¬ c < b) : ¬ c < a := fun h => by
  have h1' : a ≤ b := h1
  have h2' : b ≤ c := h2
  exact List.le_trans h1' h2' h
theorem rising_pw : ∀ (l : List Str) (p : Str), risingS p l = true → (p :: l).Pairwise (fun a b => ¬ b.cps.toList < a.cps.toList)
  | [], p, _ => by simp
  | x :: l, p, h => by
    simp only [risingS, Bool.and_eq_true, Bool.not_eq_true'] at h
    have ih := rising_pw l x h.2
    have h1 : ¬ x.cps.toList < p.cps.toList := by
      have := h.1
      rw [ltCps_eq] at this
      exact of_decide_eq_false this
    rw [List.pairwise_cons]
    refine ⟨fun b hb => ?_, ih⟩
    rcases List.mem_cons.mp hb with rfl | hb
    · exact h1
    · exact lexLe_trans h1 ((List.pairwise_cons.mp ih).1 b hb)
theorem sortedS_pw (l : List Str) (h : sortedS l = true) : l.Pairwise (fun a b => ¬ b.cps.toList < a.cps.toList) := by
  cases l with
  | nil => exact .nil
  | cons x l => exact rising_pw l x h
theorem sorted_unique {a b : List Str} (h1 : sortedS a = true) (h2 : sortedS b = true) (hp : a.Perm b) : a = b :=
  List.Perm.eq_of_pairwise (fun x y _ _ h3 h4 => str_ext' (List.le_antisymm h3 h4)) (sortedS_pw a h1) (sortedS_pw b h2) hp
end Mine
end -- D15
section -- D16
set_option maxRecDepth 100000
set_option maxHeartbeats 1000000
namespace Mine
theorem Fm.addAll {s₀ s : Shared} {L : Addr} {m : Loc} {own news : List (Addr × Obj)} (x : Fm s₀ L m own s) (h : ∀ p ∈ news, s.heap.get? p.1 = some p.2 ∧ p.1 ≠ L ∧ s₀.heap.get? p.1 = none) (nd : ((news ++ own).map (·.1)).Nodup) : Fm s₀ L m (news ++ own) s :=
  ⟨x.same, x.loc, fun p hp => (List.mem_append.mp hp).elim (h p) (x.N p), nd⟩
theorem Fm.step {s₀ s : Shared} {L : Addr} {m : Loc} {own : List (Addr × Obj)} {wr : List Addr} {h' : Heap} {tk : Nat} (x : Fm s₀ L m own s) (hk : ∀ b o, b ∉ wr → s.heap.get? b = some o → h'.get? b = some o) (hL : L ∉ wr) (h0 : ∀ b ∈ wr, s₀.heap.get? b = none) (ho : ∀ p ∈ own, p.1 ∉ wr) : Fm s₀ L m own { s with heap := h', toks := tk } := by
  obtain ⟨mm, F, hm⟩ := x.loc
  exact x.of (tk := tk) ⟨F.ns.at' fun o e => hk _ o hL e, fun b o e => hk b o (fun hb => by rw [h0 b hb] at e; cases e) (F.keep b o e), F.above⟩ hm (fun p hp => ⟨hk _ _ (ho p hp) (x.N p hp).1, (x.N p hp).2⟩) x.nd
def pickL (ns ls : List Int) (lv : Int) : List Str := ((ns.zip ls).filter fun p => p.2 == lv).map fun p => wI p.1
section
variable {w : World} {A : Around} {s s₀ s₃ : Shared} {E : Value → Shared → Prop} {L : Addr} {m : Loc} {own xs rest : List (Addr × Obj)} {env : Env}
abbrev zipO (TI TO : Addr) : Obj := { cls := .type "zip", dict := none, data := .fields #[.none, .bool false, .bool false, .ref TI, .ref TO], slots := #[] }
abbrev pairO (a b : Value) : Obj := { cls := .type "tuple", data := .seq #[a, b] }
theorem zipApart_of (n l1 l2 : Nat) (h1 : l1 < n) (h2 : l2 < n) : ZipApart (n + 4) (n + 2) (n + 3) n (n + 1) l1 l2 := by
  constructor <;> (show @Ne Nat _ _; omega)
theorem nat_absurd (n p a : Nat) (h : p < n) (ha : a = n + 4 ∨ a = n + 3 ∨ a = n ∨ a = n + 1 ∨ a = n + 2) (e : a = p) : False := by omega
theorem fZip {l1 l2 : Addr} {xs ys : Array Value} {Q : Value → Shared → Prop} (y : Fm s₀ L m own s) (hl1 : s.heap.IsList l1 xs) (hl2 : s.heap.IsList l2 ys)
    (h : ∀ s' z TI TO i1 i2 o1 o2, Fm s₀ L m ([(z, zipO TI TO), (TO, pairO .none .none), (i1, o1), (i2, o2)] ++ ((TI, pairO (.ref i1) (.ref i2)) :: own)) s' → s'.heap.IsListIter i1 l1 0 → s'.heap.IsListIter i2 l2 0 → ZipApart z TI TO i1 i2 l1 l2 → Q (.ref z) s') :
    wpAny (MM w) A (call (.type "zip") [.ref l1, .ref l2]) Q E s := by
  refine call_zip_2 hl1 hl2 fun h' a1 a2 a3 a4 a5 a6 hk => ?_
  obtain ⟨o1, b1, b2⟩ := id a4
  obtain ⟨o2, c1, c2⟩ := id a5
  obtain ⟨mm, F, hm⟩ := y.loc
  have y₁ : Fm s₀ L m own { s with heap := h' } := y.up' hk
  have lt1 : l1 < s.heap.objs.size := by obtain ⟨o, ho, _⟩ := hl1; exact Heap.lt_size ho
  have lt2 : l2 < s.heap.objs.size := by obtain ⟨o, ho, _⟩ := hl2; exact Heap.lt_size ho
  have big : ∀ k, s.heap.objs.size + k ≠ L ∧ s₀.heap.get? (s.heap.objs.size + k) = none := fun k => by
    have hL := F.ns.lt
    refine ⟨Nat.ne_of_gt (Nat.lt_of_lt_of_le hL (Nat.le_add_right _ _)), ?_⟩
    cases e : s₀.heap.get? (s.heap.objs.size + k) with
    | none => rfl
    | some o => exact absurd (Heap.lt_size (F.keep _ _ e)) (Nat.not_lt.mpr (Nat.le_add_right _ _))
  have hown : ∀ p ∈ own, p.1 < s.heap.objs.size := fun p hp => Heap.lt_size (y.N p hp).1
  generalize hn : s.heap.objs.size = n at *
  have y₂ := y₁.addAll (news := [(n + 4, zipO (n + 2) (n + 3)), (n + 3, pairO .none .none), (n, o1), (n + 1, o2), (n + 2, pairO (.ref n) (.ref (n + 1)))]) (by
    intro p hp
    simp only [List.mem_cons, List.not_mem_nil, or_false] at hp
    rcases hp with rfl | rfl | rfl | rfl | rfl
    · exact ⟨a1, big 4⟩
    · exact ⟨a3, big 3⟩
    · exact ⟨b1, big 0⟩
    · exact ⟨c1, big 1⟩
    · exact ⟨a2, big 2⟩) (by
    rw [List.map_append, List.nodup_append]
    refine ⟨?_, y.nd, ?_⟩
    · simp
    · intro a ha b hb e
      obtain ⟨p, hp, rfl⟩ := List.mem_map.mp hb
      have := hown p hp
      simp at ha
      exact nat_absurd n p.1 a this ha e)
  exact h _ (n + 4) (n + 2) (n + 3) n (n + 1) o1 o2 y₂ a4 a5 (zipApart_of n l1 l2 lt1 lt2)
end
end Mine
end -- D16
section -- D17
set_option maxRecDepth 100000
set_option maxHeartbeats 1000000
namespace Mine
theorem notin_four {o1 o2 o3 o4 o5 : Obj} {a b c d e : Addr} (h : (([(a, o1), (b, o2), (c, o3), (d, o4)] ++ [(e, o5)]).map (·.1)).Nodup) : e ∉ [a, b, c, d] := fun hm => (List.nodup_append.mp (show ([a, b, c, d] ++ [e]).Nodup from h)).2.2 e hm e (.head _) rfl
theorem pick_succ {ns ls : List Int} {lv : Int} {i : Nat} {n q : Int} (h1 : ns[i]? = some n) (h2 : ls[i]? = some q) : pickL (ns.take (i + 1)) (ls.take (i + 1)) lv = pickL (ns.take i) (ls.take i) lv ++ if q == lv then [wI n] else [] := by
  have l1 : i < ns.length := (List.getElem?_eq_some_iff.mp h1).1
  have l2 : i < ls.length := (List.getElem?_eq_some_iff.mp h2).1
  unfold pickL
  rw [List.take_add_one, List.take_add_one, h1, h2]
  simp only [Option.toList_some]
  rw [List.zip_append (by simp; omega), List.filter_append, List.map_append]
  congr 1
  by_cases hq : (q == lv) = true
  · simp [List.filter_cons, hq]
  · simp [List.filter_cons, hq]
section
variable {w : World} {A : Around} {s s₀ s₃ : Shared} {E : Value → Shared → Prop} {L : Addr} {m : Loc} {own xs rest : List (Addr × Obj)} {env : Env}
theorem lev_ev {Q : Value → Shared → Prop} {oW oV : Obj} {DW DL : Addr} {itsW itsL : Array Value} {ns ls : List Int} {kW kL : Nat} {lv : Int} {tv : Tok} (hd : Rm A 2) (y : Fm s₀ L m own s) (C₀ : Cx w s₀.heap) (hW : (L + 4, oW) ∈ own) (hWd : oW.data = .cell (some (.ref DW))) (hDW : (DW, listOf itsW kW) ∈ own) (hiW : StrsAre itsW.toList (ns.map wI))
    (hV : (L + 7, oV) ∈ own) (hVd : oV.data = .cell (some (.int lv tv))) (hml : m.lookup ("levels" : Str) = some (.ref DL)) (hDL : (DL, listOf itsL kL) ∈ own) (hiL : IntsAre itsL.toList ls) (hll : ls.length = ns.length) (hsz : ns.length ≤ 14)
    (h : ∀ s' D its e ss', Fm s₀ L m ((D, listOf its e) :: own) s' → StrsAre its.toList ss' → ss'.Perm (pickL ns ls lv) → sortedS ss' = true → Q (.ref D) s') : wpAny (MM w) A (eval (cmpB (ifE (bodySt 10 2) 0)) (lawEnv L)) Q E s := by
  have lW := hiW.length
  have lL := hiL.length
  rw [List.length_map, Array.length_toList] at lW
  rw [Array.length_toList] at lL
  refine eCall (eB (C₀.up y.keep) 27 14 rfl rfl rfl rfl rfl rfl (cB (aC (fCompF (s₀ := s₀) (L := L) (cl := [("level", L + 7)]) rfl rfl rfl rfl (eCall (eB (C₀.up y.keep) 28 15 rfl rfl rfl rfl rfl rfl (cT (aC (eC (c := L + 4) (env := lawEnv L) y hW hWd rfl rfl rfl (aC (eL (env := lawEnv L) y rfl rfl hml (aN (fZip y (xs := itsW) (ys := itsL) ⟨_, (y.N _ hDW).1, rfl, kW, rfl⟩ ⟨_, (y.N _ hDL).1, rfl, kL, rfl⟩ fun s₁ z TI TO i1 i2 o1 o2 y₁ a4 a5 ap => ?_)))))))))))))
  refine wpAny_pyIter_zip (y₁.N _ (.head _)).1 ⟨[(z, zipO TI TO), (TO, pairO .none .none), (i1, o1), (i2, o2)], (TI, pairO (.ref i1) (.ref i2)) :: own, m, y₁, fun s₄ Q E k q => wpAny_pyIter_zip (k _ _ (y₁.N _ (.head _)).1) q, ?_⟩
  have e1 := (y₁.N (i1, o1) (.tail _ (.tail _ (.head _)))).1
  have e2 := (y₁.N (i2, o2) (.tail _ (.tail _ (.tail _ (.head _))))).1
  obtain ⟨o1', f1, g1⟩ := a4
  obtain ⟨o2', f2, g2⟩ := a5
  rw [e1] at f1
  rw [e2] at f2
  cases f1
  cases f2
  clear y₁ e1 e2 s₁
  intro s₂ s₄ D _ y₂ x₀
  have wrC : ∀ b ∈ [z, TO, i1, i2], b ≠ D + 1 ∧ (hid s₂ [(z, zipO TI TO), (TO, pairO .none .none), (i1, o1), (i2, o2)]).heap.get? b = none := fun b hb => by
    simp only [List.mem_cons, List.not_mem_nil, or_false] at hb
    rcases hb with rfl | rfl | rfl | rfl
    · exact (x₀.N (_, _) (.tail _ (.head _))).2
    · exact (x₀.N (_, _) (.tail _ (.tail _ (.head _)))).2
    · exact (x₀.N (_, _) (.tail _ (.tail _ (.tail _ (.head _))))).2
    · exact (x₀.N (_, _) (.tail _ (.tail _ (.tail _ (.tail _ (.head _)))))).2
  have bTI : (hid s₂ [(z, zipO TI TO), (TO, pairO .none .none), (i1, o1), (i2, o2)]).heap.get? TI = some _ := y₂.hidGet (own := [(z, zipO TI TO), (TO, pairO .none .none), (i1, o1), (i2, o2)]) (.head _)
  have bDW : (hid s₂ [(z, zipO TI TO), (TO, pairO .none .none), (i1, o1), (i2, o2)]).heap.get? DW = some _ := y₂.hidGet (own := [(z, zipO TI TO), (TO, pairO .none .none), (i1, o1), (i2, o2)]) (.tail _ hDW)
  have bDL : (hid s₂ [(z, zipO TI TO), (TO, pairO .none .none), (i1, o1), (i2, o2)]).heap.get? DL = some _ := y₂.hidGet (own := [(z, zipO TI TO), (TO, pairO .none .none), (i1, o1), (i2, o2)]) (.tail _ hDL)
  have bV : (hid s₂ [(z, zipO TI TO), (TO, pairO .none .none), (i1, o1), (i2, o2)]).heap.get? (L + 7) = some _ := y₂.hidGet (own := [(z, zipO TI TO), (TO, pairO .none .none), (i1, o1), (i2, o2)]) (.tail _ hV)
  generalize hs₀ : hid s₂ [(z, zipO TI TO), (TO, pairO .none .none), (i1, o1), (i2, o2)] = b₀ at *
  have W := WalksT.zip2 (prog := pw) (w := w) hd.hh z TI TO i1 i2 DW DL ap itsW itsL
  have hmin : min itsW.size itsL.size = ns.length := by omega
  rw [hmin] at W
  have x₁ : Fm b₀ (D + 1) [] ([(z, zipO TI TO), (TO, pairO .none .none), (i1, o1), (i2, o2)] ++ [(D, listOf #[] 0)]) s₄ := x₀.perm (by
    have := (List.perm_append_comm (l₁ := [(D, (listOf #[] 0 : Obj))]) (l₂ := [(z, zipO TI TO), (TO, pairO .none .none), (i1, o1), (i2, o2)]))
    exact this)
  have wL : D + 1 ∉ [z, TO, i1, i2] := fun hm => (wrC _ hm).1 rfl
  have w0 : ∀ b ∈ [z, TO, i1, i2], b₀.heap.get? b = none := fun b hb => (wrC b hb).2
  have nd4 : ∀ (oz oT oa ob : Obj) (od : Obj), (([(z, oz), (TO, oT), (i1, oa), (i2, ob)] ++ [(D, od)]).map (·.1)).Nodup := fun _ _ _ _ _ => x₁.nd
  have Dwr : D ∉ [z, TO, i1, i2] := notin_four x₁.nd
  refine cLoop (fun c s' => ∃ i a b oa ob its n, Fm b₀ (D + 1) [] ([(z, zipO TI TO), (TO, pairO a b), (i1, oa), (i2, ob)] ++ [(D, listOf its n)]) s' ∧ s'.heap.IsListIter i1 DW i ∧ s'.heap.IsListIter i2 DL i ∧ i ≤ ns.length ∧ c = ns.length + 1 - i ∧ StrsAre its.toList (pickL (ns.take i) (ls.take i) lv) ∧ its.size ≤ i) ?turn (ns.length + 1) ?init
  case init => exact ⟨0, .none, .none, o1, o2, #[], 0, x₁, ⟨_, (x₁.N (i1, o1) (.tail _ (.tail _ (.head _)))).1, g1⟩, ⟨_, (x₁.N (i2, o2) (.tail _ (.tail _ (.tail _ (.head _))))).1, g2⟩, Nat.zero_le _, rfl, by simpa [pickL] using StrsAre.nil, Nat.le_refl _⟩
  rintro c s' ⟨i, a, b, oa, ob, its, n, X, it1, it2, hi, rfl, hits, hzi⟩
  have X₁ : Fm b₀ (D + 1) [] [(D, listOf its n)] s' := X.less (List.sublist_append_right _ _)
  have hSt : IsZip s'.heap z TI TO .none ∧ IsPair s'.heap TI (.ref i1) (.ref i2) ∧ (∃ a b, IsPair s'.heap TO a b) ∧ s'.heap.IsListIter i1 DW i ∧ s'.heap.IsListIter i2 DL i ∧ s'.heap.IsList DW itsW ∧ s'.heap.IsList DL itsL :=
    ⟨(X.N _ (.head _)).1, X.keep _ _ bTI, ⟨a, b, (X.N (TO, pairO a b) (.tail _ (.head _))).1⟩, it1, it2, ⟨_, X.keep _ _ bDW, rfl, kW, rfl⟩, ⟨_, X.keep _ _ bDL, rfl, kL, rfl⟩⟩
  by_cases hlt : i < ns.length
  · refine W.item i _ _ _ hlt hSt fun T vals h₁ tk₁ hPt hT htup hMid hk₁ => ?_
    have Y₁ := X₁.step (tk := tk₁) hk₁ wL w0 (by simpa using Dwr)
    refine W.go _ _ _ i T _ _ _ hMid fun h₂ hSt₂ hk₂ => ?_
    have Y₂ := Y₁.step (tk := tk₁) hk₂ wL w0 (by simpa using Dwr)
    obtain ⟨x, yv, hx, hyv, rfl⟩ := hPt
    have htup₂ : h₂.IsTuple T #[x, yv] := by
      obtain ⟨o, ho, r⟩ := htup
      exact ⟨o, hk₂ _ _ (W.apart i T _ hMid) ho, r⟩
    obtain ⟨nn, tx, hmem, hn, rfl⟩ := strs_mem hiW (by simpa using hx)
    obtain ⟨q, tq, hq, rfl⟩ := ints_at hiL (by simpa using hyv)
    obtain ⟨z2, _, ⟨a', b', t2⟩, ⟨oa', j1, j2⟩, ⟨ob', m1, m2⟩, _, _⟩ := hSt₂
    have Y₃ := Y₂.addAll (news := [(z, zipO TI TO), (TO, pairO a' b'), (i1, oa'), (i2, ob')]) (by
      intro p hp
      simp only [List.mem_cons, List.not_mem_nil, or_false] at hp
      rcases hp with rfl | rfl | rfl | rfl
      · exact ⟨z2, wrC _ (by simp)⟩
      · exact ⟨t2, wrC _ (by simp)⟩
      · exact ⟨j1, wrC _ (by simp)⟩
      · exact ⟨m1, wrC _ (by simp)⟩) (nd4 _ _ _ _ _)
    refine wpAny_assign_Tuple hd.hh htup₂ rfl rfl fun h₃ he₃ => ?_
    obtain ⟨mm, F3, hm3⟩ := Y₃.loc
    have Y₄ := Y₃.of (tk := tk₁) (F3.extBut he₃ (Nat.le_refl _)) hm3 (Y₃.N.extBut he₃ (Nat.le_refl _)) Y₃.nd
    refine assignInOrder_cons (wpAny_assign_Name (sL Y₄ rfl rfl fun s₅ Y₅ => assignInOrder_cons (wpAny_assign_Name (sL Y₅ rfl rfl fun s₆ Y₆ => assignInOrder_nil ?_))))
    refine tests1 (wpAny_isTrue_Compare1 (eL Y₆ rfl rfl rfl (wpAny_Name (wpAny_loadName_cell (c := L + 7) (v := .int lv tv) rfl rfl rfl ⟨oV, Y₆.keep _ _ bV, hVd⟩ (eq_int (wpAny_truthy_bool ?_))) rfl)))
    have hps := pick_succ (lv := lv) hn hq
    cases hql : q == lv with
    | false =>
      rw [if_neg (by decide)]
      rw [hql, if_neg (by decide), List.append_nil] at hps
      exact ⟨ns.length + 1 - (i + 1), by omega, i + 1, a', b', oa', ob', its, n, Y₆.weak (of_lk rfl), ⟨oa', (Y₆.N (i1, oa') (.tail _ (.tail _ (.head _)))).1, j2⟩, ⟨ob', (Y₆.N (i2, ob') (.tail _ (.tail _ (.tail _ (.head _))))).1, m2⟩, hlt, rfl, by rw [hps]; exact hits, by omega⟩
    | true =>
      rw [if_pos rfl]
      rw [hql, if_pos rfl] at hps
      refine eL Y₆ rfl rfl rfl (fAppendL (pre := [(z, zipO TI TO), (TO, pairO a' b'), (i1, oa'), (i2, ob')]) (post := []) Y₆ (fun s₇ Y₇ => ?_) (by show its.size ≤ 16777216; omega))
      refine ⟨ns.length + 1 - (i + 1), by omega, i + 1, a', b', oa', ob', _, _, Y₇.weak (of_lk rfl), ⟨oa', (Y₇.N (i1, oa') (.tail _ (.tail _ (.head _)))).1, j2⟩, ⟨ob', (Y₇.N (i2, ob') (.tail _ (.tail _ (.tail _ (.head _))))).1, m2⟩, hlt, rfl, ?_, by simp; omega⟩
      rw [hps, Array.toList_push]
      exact strs_app hits (.cons _ _ .nil)
  · have hin : i = ns.length := by omega
    subst hin
    refine W.done _ _ _ hSt fun h₁ tk₁ hk₁ => ?_
    have Y₁ := X₁.step (tk := tk₁) hk₁ wL w0 (by simpa using Dwr)
    have et1 : ns.take ns.length = ns := List.take_length
    have et2 : ls.take ns.length = ls := by rw [← hll]; exact List.take_length
    rw [et1, et2] at hits
    refine ⟨rfl, [], [], its, n, Y₁, fun s'' z' => aN (fSorted z' (.head _) rfl rfl (.inl rfl) hits (by omega) fun s₃ D₃ its₃ e₃ ss' z₃ g1 g2 g3 => h s₃ D₃ its₃ e₃ ss' (z₃.less ((List.sublist_append_right [_, _] own).cons_cons _)) g1 g2 g3)⟩
end
end Mine
end -- D17
section -- D18
set_option maxRecDepth 100000
set_option maxHeartbeats 1000000
namespace Mine
section
variable {w : World} {A : Around} {s s₀ s₃ : Shared} {E : Value → Shared → Prop} {L : Addr} {m : Loc} {own xs rest : List (Addr × Obj)} {env : Env} {σ : So} {l : List Nd} {N : List Str} {np : Str → Int} {sc : Str → List Str}
theorem neTups0 {l b : Addr} {Q : Value → Shared → Prop} (hl : s.heap.IsTuple l #[]) (hb : s.heap.IsTuple b #[]) (hu : A.units < cLine) (h : Q (.bool false) s) : wpAny (MM w) A (compareOp .NotEq (.ref l) (.ref b)) Q E s :=
  SeqAt.RcNeAt.tuples (e := fun _ => true) hl hb hu (fun j h1 _ => absurd h1 (Nat.not_lt_zero _)) pw w _ _ h
theorem round_st {Q : Flow → Shared → Prop} {oW oV : Obj} {DW DL R : Addr} {its itsW itsL : Array Value} {ns ls : List Int} {kW kL c : Nat} {lv : Int} {tv : Tok} {rs : List Str} (hd : Rm A 9) (y : Fm s₀ L [("sorter", .ref σ.X), ("levels", .ref DL)] (σ.ownR w.params l R its c ++ rest) s) (C₀ : Cx w s₀.heap)
    (O : σ.Ok w l) (P : Rep l N np sc) (hrd : σ.rd = .ref R) (hrs : StrsAre its.toList rs) (hne : rs ≠ []) (hperm : rs.Perm (pickL ns ls lv)) (hin : ∀ r ∈ rs, r ∈ N) (hnd : rs.Nodup) (hsc : ∀ r ∈ rs, ∀ x ∈ sc r, x ∈ N ∧ x ∉ rs) (hz2 : rs.length ≤ 20) (hz3 : ∀ x, (sc x).length ≤ 1000)
    (hW : (L + 4, oW) ∈ rest) (hWd : oW.data = .cell (some (.ref DW))) (hDW : (DW, listOf itsW kW) ∈ rest) (hiW : StrsAre itsW.toList (ns.map wI))
    (hV : (L + 7, oV) ∈ rest) (hVd : oV.data = .cell (some (.int lv tv))) (hDL : (DL, listOf itsL kL) ∈ rest) (hiL : IntsAre itsL.toList ls) (hll : ls.length = ns.length) (hsz : ns.length ≤ 14)
    (h : ∀ s' l' its' c' po' nf' tpo' tnf', Rep l' N (doneAll sc (outNp np rs (-1), []) rs).1 sc → StrsAre its'.toList (doneAll sc (outNp np rs (-1), []) rs).2 → ({ σ with po := po', tpo := tpo', nf := nf', tnf := tnf' } : So).Ok w l' → (po' = σ.po + rs.length) → nf' = σ.nf + rs.length →
      Fm s₀ L [("sorter", .ref σ.X), ("levels", .ref DL)] (({ σ with po := po', tpo := tpo', nf := nf', tnf := tnf' } : So).ownR w.params l' R its' c' ++ rest) s' → Q .next s') :
    wpAny (MM w) A (execs [bodySt 10 0, bodySt 10 1, bodySt 10 2, bodySt 10 3] (lawEnv L)) Q E s := by
  have hlen := hrs.length
  rw [Array.length_toList] at hlen
  have hu : A.units < cLine := by have := hd.un; show _ < 9900; omega
  have hpos : 0 < rs.length := List.length_pos_iff.mpr hne
  refine wpAny_execs_cons (wpAny_If (isTrue_not (isTrue_plain (eM (eL y rfl rfl rfl (fMeth (f := 168) y C₀ (So.inst y ownR_mem) rfl rfl rfl rfl (cF0 (fd := fdAct) (C₀.up y.keep) rfl (isa_call y C₀ (hd.le (by omega)) hrd (by omega) fun s₁ y₁ => wpAny_truthy_bool ?_))))))))
  have hact : (decide (σ.nf < σ.po) || !its.isEmpty) = true := by
    have : its.isEmpty = false := by rw [Array.isEmpty_eq_false_iff]; intro e; rw [e] at hlen; simp at hlen; omega
    rw [this]; simp
  rw [hact, if_neg (by decide)]
  refine wpAny_execs_nil ?_
  refine wpAny_execs_cons (wpAny_Assign_Name (eM (eL y₁ rfl rfl rfl (fMeth (f := 161) y₁ C₀ (So.inst y₁ ownR_mem) rfl rfl rfl rfl (cF0 (fd := fdReady) (C₀.up y₁.keep) rfl (gr_call y₁ C₀ (hd.le (by omega)) O P hrd hrs hin (by omega) fun s₂ l₂ T c₂ tp P₂ O₂ y₂ => sL y₂ rfl rfl fun s₃ y₃ => ?_))))))
  have y₄ : Fm s₀ L [("sorter", .ref σ.X), ("levels", .ref DL), ("ready", .ref T)] _ s₃ := y₃.weak (of_lk rfl)
  clear y₃ y₂ y₁
  have mR : ∀ {q t : Addr × Obj} {xs : List (Addr × Obj)}, q ∈ rest → q ∈ xs ++ t :: rest := fun h => List.mem_append.mpr (.inr (.tail _ h))
  have mR' : ∀ {q t : Addr × Obj} {xs ys : List (Addr × Obj)}, q ∈ ys → q ∈ xs ++ t :: ys := fun h => List.mem_append.mpr (.inr (.tail _ h))
  have mT : ∀ {t : Addr × Obj} {xs ys : List (Addr × Obj)}, t ∈ xs ++ t :: ys := List.mem_append.mpr (.inr (.head _))
  refine wpAny_execs_cons (wpAny_If (isTrue_or (wpAny_isTrue_Compare1 (eCall (eB (C₀.up y₄.keep) 27 14 rfl rfl rfl rfl rfl rfl (cB (aC (eL y₄ rfl rfl rfl (aN (fSorted y₄ mT rfl rfl (.inr rfl) hrs (by omega) fun s₅ D₅ its₅ e₅ ss₅ y₅ g1 g2 g3 => ?_))))))))))
  refine lev_ev (hd.le (by omega)) y₅ C₀ (.tail _ (mR hW)) hWd (.tail _ (mR hDW)) hiW (.tail _ (mR hV)) hVd rfl (.tail _ (mR hDL)) hiL hll hsz fun s₆ D₆ its₆ e₆ ss₆ y₆ f1 f2 f3 => ?_
  have hss : ss₅ = ss₆ := sorted_unique g3 f3 (g2.trans (hperm.trans f2.symm))
  subst hss
  have l5 := g1.length
  have l6 := f1.length
  rw [Array.length_toList] at l5 l6
  refine neLists (vs := its₅) (ws := its₆) ⟨_, (y₆.N _ (.tail _ (.head _))).1, rfl, e₅, rfl⟩ ⟨_, (y₆.N _ (.head _)).1, rfl, e₆, rfl⟩ (by omega) hu (eqStrs g1 f1 A.in1 s₆) (wpAny_truthy_bool ?_)
  rw [if_neg (by decide)]
  have y₇ := y₆.less (List.sublist_append_right [_, _] _)
  clear y₆ y₅
  refine isTrue_or (wpAny_isTrue_Compare1 (eM (eL y₇ rfl rfl rfl (fMeth (f := 161) y₇ C₀ (So.inst (σ := { σ with po := σ.po + its.size, tpo := tp }) y₇ ownR_mem) rfl rfl rfl rfl (cF0 (fd := fdReady) (C₀.up y₇.keep) rfl (gr_call (σ := { σ with po := σ.po + its.size, tpo := tp }) (rs := []) y₇ C₀ (hd.le (by omega)) O₂ P₂ hrd .nil (fun r hr => nomatch hr) (Nat.zero_le _) fun s₇ l₃ T₂ c₃ tp₂ P₃ O₃ y₈ => ?_))))))
  refine wpAny_Tuple (aN ⟨Nat.zero_le _, ?_⟩)
  have y₉ := y₈.push { cls := .type "tuple", data := .seq ([] : List Value).toArray }
  refine neTups0 ⟨_, (y₉.N (T₂, tupO #[]) (.tail _ mT)).1, rfl, 0, rfl⟩ ⟨_, (y₉.N _ (.head _)).1, rfl, 0, rfl⟩ hu (wpAny_truthy_bool ?_)
  rw [if_neg (by decide)]
  refine isTrue_or_nil ?_
  rw [if_neg (by decide)]
  refine wpAny_execs_nil ?_
  have y₁₀ := y₉.less (List.sublist_cons_self _ _)
  clear y₉ y₈ y₇ y₄
  have hnp : outNp (outNp np rs (-1)) [] (-1) = outNp np rs (-1) := by funext x; simp [outNp]
  rw [hnp] at P₃
  refine wpAny_execs_cons (wpAny_Expr (eMS (eL y₁₀ rfl rfl rfl (fBound (f := 182) y₁₀ C₀ (So.inst (σ := { σ with po := σ.po + its.size + (#[] : Array Value).size, tpo := tp₂ }) y₁₀ ownR_mem) rfl rfl rfl rfl rfl rfl rfl rfl fun s₈ q y₁₁ => cMS1 (g := 182) (self := .ref σ.X) rfl (eL y₁₁ rfl rfl rfl (fStar y₁₁ (o := tupO its) (.tail _ (mR' (.head _))) rfl rfl (.inr rfl) (by show its.size ≤ 16777216; omega) fun s₉ y₁₂ => ⟨⟨(y₁₂.N _ (.head _)).1, (C₀.up y₁₂.keep).F.K⟩, ?_⟩))))))
  have y₁₃ := y₁₂.less (List.sublist_cons_self _ _)
  refine done_code (E := E) (σ := { σ with po := σ.po + its.size + (#[] : Array Value).size, tpo := tp₂ }) (ys := []) y₁₃ C₀ (hd.le (by omega)) O₃ P₃ hrd hrs .nil hin (fun r hr => by simp [outNp, hr]) hnd hsc (Nat.zero_le _) (by omega) hz3 fun s₁₀ l₄ its₄ c₄ tn P₄ h₄ O₄ y₁₄ => ?_
  refine wpAny_execs_nil (h s₁₀ l₄ its₄ c₄ _ _ _ _ P₄ h₄ O₄ (by simp [hlen]) rfl ((y₁₄.less ((List.Sublist.refl _).append (List.sublist_append_right [_, _] rest))).weak (of_lk rfl)))
end
end Mine
end -- D18
section -- D19
set_option maxRecDepth 100000
set_option maxHeartbeats 1000000
namespace Mine
def RS (sc : Str → List Str) (N : List Str) (np : Str → Int) : Nat → NR
  | 0 => (np, N.filter fun x => np x == 0)
  | i + 1 => doneAll sc (outNp (RS sc N np i).1 (RS sc N np i).2 (-1), []) (RS sc N np i).2
structure RoundsOk (ns ls : List Int) (N : List Str) (np : Str → Int) (sc : Str → List Str) (M : Nat) : Prop where
  ne : ∀ i ≤ M, (RS sc N np i).2 ≠ []
  perm : ∀ i ≤ M, (RS sc N np i).2.Perm (pickL ns ls i)
  mem : ∀ i ≤ M, ∀ r ∈ (RS sc N np i).2, r ∈ N
  nd : ∀ i ≤ M, (RS sc N np i).2.Nodup
  scs : ∀ i ≤ M, ∀ r ∈ (RS sc N np i).2, ∀ x ∈ sc r, x ∈ N ∧ x ∉ (RS sc N np i).2
  len : ∀ i, (RS sc N np i).2.length ≤ 20
  last : (RS sc N np (M + 1)).2 = []
section
variable {w : World} {A : Around} {s s₀ s₃ : Shared} {L : Addr} {m : Loc} {own xs rest : List (Addr × Obj)} {env : Env} {σ : So} {l : List Nd} {N : List Str} {np : Str → Int} {sc : Str → List Str}
theorem st10 {Q : Flow → Shared → Prop} {oW oV : Obj} {v₀ : Option Value} {DW DL R : Addr} {its itsW itsL : Array Value} {ns ls : List Int} {kW kL c M : Nat} (hd : Rm A 9) (y : Fm s₀ L [("sorter", .ref σ.X), ("levels", .ref DL)] (σ.ownR w.params l R its c ++ (L + 7, oV) :: rest) s) (C₀ : Cx w s₀.heap)
    (O : σ.Ok w l) (P : Rep l N np sc) (hrd : σ.rd = .ref R) (hrs : StrsAre its.toList (N.filter fun x => np x == 0)) (ok : RoundsOk ns ls N np sc M) (hpn : σ.po = σ.nf) (hz3 : ∀ x, (sc x).length ≤ 1000)
    (hW : (L + 4, oW) ∈ rest) (hWd : oW.data = .cell (some (.ref DW))) (hDW : (DW, listOf itsW kW) ∈ rest) (hiW : StrsAre itsW.toList (ns.map wI))
    (hVd : oV.data = .cell v₀) (hDL : (DL, listOf itsL kL) ∈ rest) (hiL : IntsAre itsL.toList ls) (hll : ls.length = ns.length) (hne : 0 < ls.length) (hM : ∀ k, k ∈ ls → (∀ a ∈ ls, a ≤ k) → k = (M : Int)) (hM9 : M ≤ 100) (hsz : ns.length ≤ 14)
    (h : ∀ s' l' oV' σ' c', Fm s₀ L [("sorter", .ref σ.X), ("levels", .ref DL)] (So.ownR σ' w.params l' R #[] c' ++ (L + 7, oV') :: rest) s' → σ'.X = σ.X → σ'.rd = .ref R → σ'.po = σ'.nf → Q .next s') :
    wpAny (MM w) A (exec (lawSt 10) (lawEnv L)) Q (fun _ _ => False) s := by
  have lL := hiL.length
  rw [Array.length_toList] at lL
  have mR : ∀ {q t : Addr × Obj} {xs : List (Addr × Obj)}, q ∈ rest → q ∈ xs ++ t :: rest := fun h => List.mem_append.mpr (.inr (.tail _ h))
  obtain ⟨mm, F, hm⟩ := y.loc
  refine wpAny_For (eCall (eB (C₀.up y.keep) 20 7 rfl rfl rfl rfl rfl rfl (cT (aC (wpAny_BinOp (eCall (eB (C₀.up y.keep) 26 13 rfl rfl rfl rfl rfl rfl (cB (aC (eL y rfl rfl rfl (aN (max_list_N (vs := itsL.toList) (ns := ls) hd.hh F y.N ⟨_, (y.N _ (mR hDL)).1, rfl, kL, by simp⟩ hiL hne fun h' k t tk F' N' hk1 hk2 => eInt fun t1 k1 => add_int (aN (call_range_1 ?_))))))))))))))
  have hk := hM k hk1 hk2
  subst hk
  have hsm : Builtin.Range.small 0 ((M : Int) + 1) 1 = true := small_one (by decide) (by decide) (by omega) (by omega)
  have hrs1 : Builtin.Range.rangeSize 0 ((M : Int) + 1) 1 = ((M + 1 : Nat) : Int) := by rw [rangeSize_nat]; omega
  have y₀ : Fm s₀ L [("sorter", .ref σ.X), ("levels", .ref DL)] (σ.ownR w.params l R its c ++ (L + 7, oV) :: rest) { s with heap := h', toks := tk } := y.of F' hm N' y.nd
  have y₁ := ((y₀.push { cls := .type "range", data := .fields #[.int 0 (tk + 1 + 1), .int ((M : Int) + 1) (tk + 1), .int 1 (tk + 1 + 1 + 1)] }).tok (tk + 1 + 1 + 1 + 1)).less (List.sublist_cons_self _ _)
  refine forRangeG (env := lawEnv L) (own := σ.ownR w.params l R its c ++ (L + 7, oV) :: rest) (m := [("sorter", .ref σ.X), ("levels", .ref DL)]) PassesOwn.never hd.hh (y₀.up (sub_push _ _)) (IsRange.new _ _ _ _ _ _ _) hsm (M + 1) hrs1
    (fun i m₁ own₁ => m₁ = ([(("sorter" : Str), Value.ref σ.X), (("levels" : Str), Value.ref DL)] : Loc) ∧ ∃ (σ' : So) (l' : List Nd) (its' : Array Value) (c' : Nat) (oV' : Obj), own₁ = σ'.ownR w.params l' R its' c' ++ (L + 7, oV') :: rest ∧ σ'.X = σ.X ∧ σ'.rd = .ref R ∧ σ'.po = σ'.nf ∧ σ'.Ok w l' ∧ Rep l' N (RS sc N np i).1 sc ∧ StrsAre its'.toList (RS sc N np i).2 ∧ ∃ v, oV'.data = .cell v)
    ⟨rfl, σ, l, its, c, oV, rfl, rfl, hrd, hpn, O, P, hrs, v₀, hVd⟩ ?step ?done
  case done =>
    rintro m₁ own₁ s₁ ⟨rfl, σ', l', its', c', oV', rfl, hX, hrd', hpn', O', P', hrs', _⟩ z
    rw [ok.last] at hrs'
    have : its' = #[] := by
      cases e : its' with
      | mk xs => rw [e] at hrs'; cases hrs'; rfl
    subst this
    exact h s₁ l' oV' σ' c' z hX hrd' hpn'
  rintro i t₂ m₁ own₁ s₁ I oI hi ⟨rfl, σ', l', its', c', oV', rfl, hX, hrd', hpn', O', P', hrs', v₁, hd₁⟩ z
  have ei : (0 + (i : Int) * 1) = (i : Int) := by omega
  rw [ei]
  rw [← hX] at z
  refine sC (env := lawEnv L) (c := L + 7) (pre := (I, oI) :: σ'.ownR w.params l' R its' c') (o := oV') (v₀ := v₁) z hd₁ rfl rfl rfl fun s₂ oV₂ hd₂ z₂ => ?_
  show wpAny _ A (execs [bodySt 10 0, bodySt 10 1, bodySt 10 2, bodySt 10 3] _) _ _ _
  have him : i ≤ M := by omega
  have z₃ : Fm s₀ L [("sorter", .ref σ'.X), ("levels", .ref DL)] (σ'.ownR w.params l' R its' c' ++ ((I, oI) :: (L + 7, oV₂) :: rest)) s₂ := z₂.perm (perm_front [(I, oI)] (σ'.ownR w.params l' R its' c') ((L + 7, oV₂) :: rest))
  refine round_st (ns := ns) (ls := ls) (lv := i) hd z₃ C₀ O' P' hrd' hrs' (ok.ne i him) (ok.perm i him) (ok.mem i him) (ok.nd i him) (ok.scs i him) (ok.len i) hz3 (.tail _ (.tail _ hW)) hWd (.tail _ (.tail _ hDW)) hiW (.tail _ (.head _)) hd₂ (.tail _ (.tail _ hDL)) hiL hll hsz fun s₄ l₂ its₂ c₂ po₂ nf₂ tpo₂ tnf₂ P₂ h₂ O₂ e1 e2 z₄ => ?_
  refine ⟨[(("sorter" : Str), Value.ref σ.X), (("levels" : Str), Value.ref DL)], ({ σ' with po := po₂, tpo := tpo₂, nf := nf₂, tnf := tnf₂ } : So).ownR w.params l₂ R its₂ c₂ ++ (L + 7, oV₂) :: rest, ⟨rfl, { σ' with po := po₂, tpo := tpo₂, nf := nf₂, tnf := tnf₂ }, l₂, its₂, c₂, oV₂, rfl, hX, hrd', by show po₂ = nf₂; rw [e1, e2, hpn'], O₂, P₂, h₂, _, hd₂⟩, ?_⟩
  have z₅ := z₄.perm (perm_front [(I, oI)] (({ σ' with po := po₂, tpo := tpo₂, nf := nf₂, tnf := tnf₂ } : So).ownR w.params l₂ R its₂ c₂) ((L + 7, oV₂) :: rest)).symm
  rw [← hX]
  exact z₅
end
end Mine
end -- D19
section -- D20
set_option maxRecDepth 100000
set_option maxHeartbeats 1000000
namespace Mine
structure PureOk (ns : List Int) (rank : Str → Nat) (M : Nat) : Prop where
  hsz : ns.length ≤ 14
  hb : ∀ n ∈ ns, 0 ≤ n ∧ n.natAbs < 16 ^ 7
  hr : ∀ x ∈ (stJ ns ns.length).1, ∀ y ∈ (stJ ns ns.length).2.2 x, y ∈ (stJ ns ns.length).1 ∧ rank x < rank y
  hne : 0 < ns.length
  hM : ∀ k, k ∈ ns.map (lvl ns) → (∀ a ∈ ns.map (lvl ns), a ≤ k) → k = (M : Int)
  hM9 : M ≤ 100
  rounds : RoundsOk ns (ns.map (lvl ns)) (stJ ns ns.length).1 (stJ ns ns.length).2.1 (stJ ns ns.length).2.2 M
theorem drI_len (ns : List Int) : (drI ns).length ≤ 14 := by
  unfold drI drC
  simp [List.flatMap]
  omega
section
variable {w : World} {s s₀ : Shared}
theorem mem_cell {cs : List (Str × Addr)} {L : Addr} {m cm : Str → Option Value} (x : InCallC s₀ L m cs cm s) {n : Str} {c : Addr} (h : cs.lookup n = some c) : ∃ o, s.heap.get? c = some o ∧ o.data = .cell (cm n) := x.cell n c h
theorem seven (n : Nat) (o1 o2 o3 o4 o5 o6 o7 : Obj) : (([(n + 1, o1), (n + 2, o2), (n + 3, o3), (n + 4, o4), (n + 5, o5), (n + 6, o6), (n + 7, o7)] ++ ([] : List (Addr × Obj))).map (·.1)).Nodup := by simp
theorem size_ne (h : Heap) (k : Nat) : h.objs.size + (k + 1) ≠ h.objs.size := Nat.ne_of_gt (Nat.lt_succ_of_le (Nat.le_add_right _ _))
theorem law_walk (pure : ∀ ns0, ns0.length ≤ 63 → ∃ rank M, PureOk (numsI (drI ns0)) rank M) (s : Shared) (l : Addr) (vs : List Value) (ns : List Int) (R : Result → Shared → Prop) (F : Facts w s.heap) (hlim : s.heap.NoLimit) (hl : s.heap.IsList l vs.toArray) (hi : IntsAre vs ns) (hsz : ns.length ≤ 63)
    (h : ∀ h' tk, (∀ b o, s.heap.get? b = some o → h'.get? b = some o) → R (.ok (.ret (.bool true))) { s with heap := h', toks := tk }) : codeAny (MM w) callerA (.call (.ref 220) ⟨[.ref l], []⟩) R s := by
  have C : Cx w s.heap := ⟨F, hlim⟩
  obtain ⟨rank, M, PO⟩ := pure ns hsz
  refine codeAny_call_cells (fd := fdLaw) (body := stBody (topSt 22)) (binds := [("script", .ref l)]) (by decide) (F.K _ _ rfl) rfl hlim (F.c _ (List.mem_of_getElem? (i := 16) rfl)) rfl rfl rfl (fun x hx => ?_) (fun s₁ x₁ => ?_)
  · rw [List.mem_singleton.mp hx]
    exact .inr ⟨rfl, rfl⟩
  have hD : Rm (callerA.deeper (callEnvC fdLaw s.heap.objs.size 220)) 9 := (show Rm callerA 10 from ⟨rfl, by decide, by decide⟩).deep
  have hF : (callerA.deeper (callEnvC fdLaw s.heap.objs.size 220)).frames = some [callEnvC fdLaw s.heap.objs.size 220] := Around.frames_deeper rfl
  generalize hA : callerA.deeper (callEnvC fdLaw s.heap.objs.size 220) = A' at hD hF ⊢
  have c1 := mem_cell x₁ (n := "script") (c := s.heap.objs.size + 1) rfl
  have c2 := mem_cell x₁ (n := "drawn") (c := s.heap.objs.size + 2) rfl
  have c3 := mem_cell x₁ (n := "numbers") (c := s.heap.objs.size + 3) rfl
  have c4 := mem_cell x₁ (n := "words") (c := s.heap.objs.size + 4) rfl
  have c5 := mem_cell x₁ (n := "pieces") (c := s.heap.objs.size + 5) rfl
  have c6 := mem_cell x₁ (n := "j") (c := s.heap.objs.size + 6) rfl
  have c7 := mem_cell x₁ (n := "level") (c := s.heap.objs.size + 7) rfl
  obtain ⟨o1, g1, d1⟩ := c1
  obtain ⟨o2, g2, d2⟩ := c2
  obtain ⟨o3, g3, d3⟩ := c3
  obtain ⟨o4, g4, d4⟩ := c4
  obtain ⟨o5, g5, d5⟩ := c5
  obtain ⟨o6, g6, d6⟩ := c6
  obtain ⟨o7, g7, d7⟩ := c7
  have yz : Fm s s.heap.objs.size [] [] s₁ := .of_inCall x₁.toInCall fun p hp => nomatch hp
  have y₀ := yz.addAll (news := [(s.heap.objs.size + 1, o1), (s.heap.objs.size + 2, o2), (s.heap.objs.size + 3, o3), (s.heap.objs.size + 4, o4), (s.heap.objs.size + 5, o5), (s.heap.objs.size + 6, o6), (s.heap.objs.size + 7, o7)]) (by
    intro p hp
    simp only [List.mem_cons, List.not_mem_nil, or_false] at hp
    rcases hp with rfl | rfl | rfl | rfl | rfl | rfl | rfl
    · exact ⟨g1, size_ne _ _, fresh_above _ _⟩
    · exact ⟨g2, size_ne _ _, fresh_above _ _⟩
    · exact ⟨g3, size_ne _ _, fresh_above _ _⟩
    · exact ⟨g4, size_ne _ _, fresh_above _ _⟩
    · exact ⟨g5, size_ne _ _, fresh_above _ _⟩
    · exact ⟨g6, size_ne _ _, fresh_above _ _⟩
    · exact ⟨g7, size_ne _ _, fresh_above _ _⟩) (seven _ _ _ _ _ _ _ _)
  change Fm s s.heap.objs.size [] [(s.heap.objs.size + 1, o1), (s.heap.objs.size + 2, o2), (s.heap.objs.size + 3, o3), (s.heap.objs.size + 4, o4), (s.heap.objs.size + 5, o5), (s.heap.objs.size + 6, o6), (s.heap.objs.size + 7, o7)] s₁ at y₀
  have d1' : o1.data = .cell (some (.ref l)) := d1
  clear d1 g1 g2 g3 g4 g5 g6 g7 yz x₁ hA
  have hsz0 := drI_len ns
  have hnl := PO.hsz
  have hR : ∀ s', Fm s s.heap.objs.size [] [] s' → R (.ok (.ret (.bool true))) s' := fun s' z => by
    obtain ⟨h', tk, rfl, k⟩ := z.done
    exact h h' tk k
  show wpAny _ A' (execs (stBody (topSt 22)) (lawEnv s.heap.objs.size)) _ _ s₁
  refine wpAny_mono (E := fun _ _ => False) (Q := fun f s' => f = .ret (.bool true) ∧ Fm s s.heap.objs.size [] [] s') ?_ (fun f s' hf => by obtain ⟨rfl, z⟩ := hf; exact hR s' z) (fun _ _ hf => hf.elim)
  generalize s.heap.objs.size = L at y₀ hF ⊢
  show wpAny _ A' (execs [lawSt 0, lawSt 1, lawSt 2, lawSt 3, lawSt 4, lawSt 5, lawSt 6, lawSt 7, lawSt 8, lawSt 9, lawSt 10, lawSt 11] (lawEnv L)) _ _ s₁
  refine wpAny_execs_cons (wpAny_Assign_Name (drawn_ev hD.hh y₀ (.head _) d1' hl hi hsz fun s₂ D0 its0 y₁ h0 => ?_))
  refine sC (env := lawEnv L) (c := L + 2) (pre := [(D0, listOf its0.toArray 0), (L + 1, o1)]) y₁ d2 rfl rfl rfl fun s₃ o2 e2 y₂ => ?_
  refine wpAny_execs_cons (wpAny_Assign_Name (numbers_ev (hD.le (by omega)) y₂ C (.tail _ (.tail _ (.head _))) e2 (.head _) h0 (by omega) fun s₄ D1 n1 its1 y₃ h1 => ?_))
  refine sC (env := lawEnv L) (c := L + 3) (pre := [(D1, listOf its1 n1), (D0, listOf its0.toArray 0), (L + 1, o1), (L + 2, o2)]) y₃ d3 rfl rfl rfl fun s₅ o3 e3 y₄ => ?_
  generalize numsI (drI ns) = ms at PO h1 hnl
  have hb := PO.hb
  have hb' : ∀ n ∈ ms, n.natAbs < 16 ^ 7 := fun n hn => (hb n hn).2
  have y₄' : Fm s L [] [(D1, listOf its1.toList.toArray n1), (D0, listOf its0.toArray 0), (L + 1, o1), (L + 2, o2), (L + 3, o3), (L + 4, o4), (L + 5, o5), (L + 6, o6), (L + 7, o7)] s₅ := y₄
  refine wpAny_execs_cons (wpAny_Assign_Name (words_ev (hD.le (by omega)) y₄' C (.tail _ (.tail _ (.tail _ (.tail _ (.head _))))) e3 (.head _) h1 (by omega) hb' fun s₆ D2 n2 its2 y₅ h2 => ?_))
  refine sC (env := lawEnv L) (c := L + 4) (pre := [(D2, listOf its2 n2), (D1, listOf its1.toList.toArray n1), (D0, listOf its0.toArray 0), (L + 1, o1), (L + 2, o2), (L + 3, o3)]) y₅ d4 rfl rfl rfl fun s₇ o4 e4 y₆ => ?_
  refine wpAny_execs_cons (chk3 (hD.le (by omega)) y₆ C (.tail _ (.tail _ (.tail _ (.tail _ (.tail _ (.head _)))))) e3 (.tail _ (.head _)) h1 (.tail _ (.tail _ (.tail _ (.tail _ (.tail _ (.tail _ (.head _))))))) e4 (.head _) h2 (by omega) hb fun s₈ y₇ => ?_)
  refine wpAny_execs_cons (wpAny_Assign_Name (pieces_ev (hD.le (by omega)) y₇ C (.tail _ (.tail _ (.tail _ (.tail _ (.tail _ (.tail _ (.head _))))))) e4 (.head _) h2 (by omega) hb' fun s₉ D4 n4 its4 ps y₈ h4 hok => ?_))
  have y₉ : Fm s L [] ([(D4, listOf its4 n4), (D2, listOf its2 n2), (D1, listOf its1.toList.toArray n1), (D0, listOf its0.toArray 0), (L + 1, o1), (L + 2, o2), (L + 3, o3), (L + 4, o4)] ++ (L + 5, o5) :: ([(L + 6, o6), (L + 7, o7)] ++ ps.reverse.map pcO)) s₉ := y₈.perm (List.perm_append_comm.cons _)
  refine sC (env := lawEnv L) (c := L + 5) (pre := [(D4, listOf its4 n4), (D2, listOf its2 n2), (D1, listOf its1.toList.toArray n1), (D0, listOf its0.toArray 0), (L + 1, o1), (L + 2, o2), (L + 3, o3), (L + 4, o4)]) y₉ d5 rfl rfl rfl fun s₁₀ o5 e5 y₁₀ => ?_
  have hps : ∀ q ∈ ps, pcO q ∈ ([(D4, listOf its4 n4), (D2, listOf its2 n2), (D1, listOf its1.toList.toArray n1), (D0, listOf its0.toArray 0), (L + 1, o1), (L + 2, o2), (L + 3, o3), (L + 4, o4)] ++ (L + 5, o5) :: ([(L + 6, o6), (L + 7, o7)] ++ ps.reverse.map pcO)) := fun q hq => List.mem_append.mpr (.inr (.tail _ (.tail _ (.tail _ (List.mem_map.mpr ⟨q, List.mem_reverse.mpr hq, rfl⟩)))))
  refine wpAny_execs_cons (chk5 (hD.le (by omega)) y₁₀ C (List.mem_append.mpr (.inr (.head _))) e5 (.head _) h4 hok hps (.tail _ (.tail _ (.tail _ (.tail _ (.tail _ (.tail _ (.tail _ (.head _)))))))) e4 (.tail _ (.head _)) h2 (by omega) hb' fun s₁₁ y₁₁ => ?_)
  refine wpAny_execs_cons (wpAny_Assign_Name (eCall (eG (C.up y₁₁.keep) 9 rfl rfl rfl rfl (callWith_K0 (C.up y₁₁.keep).F.K rfl (ts_call y₁₁ C (hD.le (by omega)) fun s₁₂ x dx d o t ta tb y₁₂ hlo hdo => sL y₁₂ rfl rfl fun s₁₃ y₁₃ => ?_)))))
  let σ : So := { X := x, DX := dx, D := d, od := o, tk := t, rd := .none, po := 0, tpo := ta, nf := 0, tnf := tb }
  have O0 : σ.Ok w [] := ⟨hlo, hdo⟩
  have R0 : Rep [] [] (fun _ => 0) (fun _ => []) := ⟨rfl, (fun n hn => nomatch hn), fun _ _ => ⟨rfl, rfl⟩⟩
  have y₁₄ : Fm s L [("sorter", .ref σ.X)] (σ.own w.params [] ++ (L + 6, o6) :: ([(D4, listOf its4 n4), (D2, listOf its2 n2), (D1, listOf its1.toList.toArray n1), (D0, listOf its0.toArray 0), (L + 1, o1), (L + 2, o2), (L + 3, o3), (L + 4, o4), (L + 5, o5)] ++ ((L + 7, o7) :: ps.reverse.map pcO))) s₁₃ :=
    y₁₃.perm (List.Perm.append_left (σ.own w.params []) (List.perm_middle (l₁ := [(D4, listOf its4 n4), (D2, listOf its2 n2), (D1, listOf its1.toList.toArray n1), (D0, listOf its0.toArray 0), (L + 1, o1), (L + 2, o2), (L + 3, o3), (L + 4, o4), (L + 5, o5)])))
  have hps2 : ∀ q ∈ ps, pcO q ∈ ([(D4, listOf its4 n4), (D2, listOf its2 n2), (D1, listOf its1.toList.toArray n1), (D0, listOf its0.toArray 0), (L + 1, o1), (L + 2, o2), (L + 3, o3), (L + 4, o4), (L + 5, o5)] ++ ((L + 7, o7) :: ps.reverse.map pcO)) := fun q hq => List.mem_append.mpr (.inr (.tail _ (List.mem_map.mpr ⟨q, List.mem_reverse.mpr hq, rfl⟩)))
  refine wpAny_execs_cons (st7 (σ := σ) hD y₁₄ C O0 R0 rfl (.tail _ (.tail _ (.tail _ (.tail _ (.tail _ (.tail _ (.tail _ (.tail _ (.head _))))))))) e5 (.head _) h4 hok hps2 (.tail _ (.tail _ (.tail _ (.tail _ (.tail _ (.tail _ (.tail _ (.head _)))))))) e4 (.tail _ (.head _)) h2 d6 hnl hb' fun s₁₄ od l₁ o6 R1 O1 y₁₅ => ?_)
  have mR : ∀ {q : Addr × Obj} {xs ys : List (Addr × Obj)}, q ∈ ys → q ∈ xs ++ ys := fun h => List.mem_append.mpr (.inr h)
  have hl9 := stJ_len ms hnl ms.length
  refine wpAny_execs_cons (levels_st (hD.le (by omega)) y₁₅ C (mR (.tail _ (.tail _ (.tail _ (.tail _ (.tail _ (.tail _ (.tail _ (.head _))))))))) e3 (mR (.tail _ (.tail _ (.tail _ (.head _))))) h1 (by omega) fun s₁₅ D8 n8 its8 y₁₆ h8 => ?_)
  have y₁₇ : Fm s L [("sorter", .ref ({ σ with od := od } : So).X), ("levels", .ref D8)] (({ σ with od := od } : So).own w.params l₁ ++ ([(D8, listOf its8 n8), (L + 6, o6), (D4, listOf its4 n4), (D2, listOf its2 n2), (D1, listOf its1.toList.toArray n1), (D0, listOf its0.toArray 0), (L + 1, o1), (L + 2, o2), (L + 3, o3), (L + 4, o4), (L + 5, o5)] ++ ((L + 7, o7) :: ps.reverse.map pcO))) s₁₅ :=
    (y₁₆.weak (of_lk rfl)).perm (perm_front [(D8, listOf its8 n8)] (({ σ with od := od } : So).own w.params l₁) _)
  refine wpAny_execs_cons (wpAny_Expr (eM (eL y₁₇ rfl rfl rfl (fMeth (f := 154) y₁₇ C (So.inst (σ := { σ with od := od }) y₁₇ (so_mem _)) rfl rfl rfl rfl (cF0 (fd := fdPrep) (C.up y₁₇.keep) rfl (prep_call (σ := { σ with od := od }) (rank := rank) hF rfl (show ScopeKind.function ≠ ScopeKind.module by decide) y₁₇ C (hD.le (by omega)) O1 R1 rfl PO.hr (by omega) (fun x => by have := hl9.2 x; omega) fun s₁₆ RR itsR cR hR1 O2 y₁₈ => ?_))))))
  have y₁₉ : Fm s L [("sorter", .ref σ.X), ("levels", .ref D8)] (({ σ with od := od, rd := .ref RR } : So).ownR w.params l₁ RR itsR cR ++ (L + 7, o7) :: ([(D8, listOf its8 n8), (L + 6, o6), (D4, listOf its4 n4), (D2, listOf its2 n2), (D1, listOf its1.toList.toArray n1), (D0, listOf its0.toArray 0), (L + 1, o1), (L + 2, o2), (L + 3, o3), (L + 4, o4), (L + 5, o5)] ++ ps.reverse.map pcO)) s₁₆ :=
    y₁₈.perm (List.Perm.append_left _ List.perm_middle)
  refine wpAny_execs_cons (st10 (σ := { σ with od := od, rd := .ref RR }) (ns := ms) (ls := ms.map (lvl ms)) hD y₁₉ C O2 R1 rfl hR1 PO.rounds rfl (fun x => by have := hl9.2 x; omega) (.tail _ (.tail _ (.tail _ (.tail _ (.tail _ (.tail _ (.tail _ (.tail _ (.tail _ (.head _)))))))))) e4 (.tail _ (.tail _ (.tail _ (.head _)))) h2 d7 (.head _) h8 (by simp) (by simpa using PO.hne) PO.hM PO.hM9 hnl fun s₁₇ l₂ o7 σ₂ c₂ y₂₀ hX hrd hpn => ?_)
  rw [← hX] at y₂₀
  refine wpAny_execs_cons (wpAny_Return_some (UnaryOp_ (eM (eL y₂₀ rfl rfl rfl (fMeth (f := 168) y₂₀ C (So.inst y₂₀ ownR_mem) rfl rfl rfl rfl (cF0 (fd := fdAct) (C.up y₂₀.keep) rfl (isa_call y₂₀ C (hD.le (by omega)) hrd (Nat.zero_le _) fun s₁₈ y₂₂ => not_of (wpAny_truthy_bool ?_))))))))
  rw [hpn]
  exact ⟨by simp, (y₂₂.less (List.nil_sublist _)).weak (of_lk rfl)⟩
end
end Mine
end -- D20
section -- E1
set_option maxRecDepth 100000
set_option maxHeartbeats 1000000
namespace Mine
theorem dz_range (k x : Int) (hk : k = 0 ∨ k = 3) : 0 ≤ dz k x ∧ (dz k x).natAbs < 16 ^ 7 := by
  unfold dz
  have h1 : (0 : Int) < 16 ^ (7 - k).toNat := pow16_pos _
  have h2 : (16 : Int) ^ (7 - k).toNat ≤ 268435456 := pow16_le _ (by rcases hk with rfl | rfl <;> decide)
  have h3 := Int.fmod_nonneg_of_pos (x.fdiv (16 ^ k.toNat)) h1
  have h4 := Int.fmod_lt_of_pos (x.fdiv (16 ^ k.toNat)) h1
  refine ⟨h3, ?_⟩
  have : (16 : Nat) ^ 7 = 268435456 := by decide
  omega
theorem drI_range (ns : List Int) : ∀ d ∈ drI ns, 0 ≤ d ∧ d.natAbs < 16 ^ 7 := by
  intro d hd
  rcases List.mem_append.mp hd with hd | hd
  · obtain ⟨k, hk, hd⟩ := List.mem_flatMap.mp hd
    obtain ⟨x, _, rfl⟩ := List.mem_map.mp hd
    exact dz_range k x (by simpa using hk)
  · simp at hd
    have : (16 : Nat) ^ 7 = 268435456 := by decide
    rcases hd with rfl | rfl | rfl | rfl | rfl | rfl | rfl | rfl <;> (rw [this]; decide)
end Mine
end -- E1
section -- E2
set_option maxRecDepth 100000
set_option maxHeartbeats 1000000
namespace Mine
theorem hexs_div1 (n : Nat) : hexs (n / 16) = (hexs n).dropLast := by
  by_cases h : n = 0
  · subst h; simp [hexs_zero]
  · rw [hexs_pos h]; simp
theorem hexs_div (n : Nat) : ∀ k, hexs (n / 16 ^ k) = (hexs n).take ((hexs n).length - k)
  | 0 => by simp
  | k + 1 => by
    rw [Nat.pow_succ, ← Nat.div_div_eq_div_mul, hexs_div1, hexs_div n k, List.dropLast_eq_take, List.take_take, List.length_take]
    congr 1
    omega
theorem numsI_mem {ds : List Int} {n : Int} (h : n ∈ numsI ds) : n ∈ ds := by
  obtain ⟨k, hk, rfl⟩ := List.mem_map.mp h
  have hlt := List.mem_range.mp (List.mem_filter.mp hk).1
  simp [List.getD, hlt]
theorem numsI_len (ds : List Int) : (numsI ds).length ≤ ds.length := by
  unfold numsI firsts
  rw [List.length_map]
  exact Nat.le_trans (List.length_filter_le ..) (by simp)
end Mine
end -- E2
section -- E3
set_option maxRecDepth 100000
set_option maxHeartbeats 1000000
namespace Mine
theorem fdivN (m k : Nat) : ((m : Int)).fdiv ((16 : Int) ^ k) = ((m / 16 ^ k : Nat) : Int) := by
  have h := pow16_pos k
  rw [Int.fdiv_eq_ediv_of_nonneg _ (by omega)]
  push_cast
  rfl
theorem ks7_in : ∀ q ∈ ks7, 1 ≤ q ∧ q ≤ 7 := by decide
theorem ks7_of : ∀ k : Fin 8, 1 ≤ k.val → ((k.val : Nat) : Int) ∈ ks7 := by decide
theorem quots_any (m p : Nat) : (quots (m : Int)).any (· == (p : Int)) = true ↔ ∃ k, 1 ≤ k ∧ k ≤ 7 ∧ p = m / 16 ^ k := by
  rw [List.any_eq_true]
  constructor
  · rintro ⟨x, hx, e⟩
    obtain ⟨q, hq, rfl⟩ := List.mem_map.mp hx
    obtain ⟨h1, h2⟩ := ks7_in q hq
    rw [fdivN] at e
    refine ⟨q.toNat, by omega, by omega, ?_⟩
    have := eq_of_beq e
    omega
  · rintro ⟨k, h1, h2, rfl⟩
    refine ⟨_, List.mem_map.mpr ⟨_, ks7_of ⟨k, by omega⟩ h1, rfl⟩, ?_⟩
    rw [fdivN]
    simp
theorem pre_iff {m p : Nat} (hm : m < 16 ^ 7) (hne : p ≠ m) : (hexs p).isPrefixOf (hexs m) = true ↔ ∃ k, 1 ≤ k ∧ k ≤ 7 ∧ p = m / 16 ^ k := by
  have hl := hexs_len 7 m hm
  rw [List.isPrefixOf_iff_prefix]
  constructor
  · intro h
    have h1 := h.length_le
    have h2 : hexs p = (hexs m).take (hexs p).length := by
      obtain ⟨t, ht⟩ := h
      rw [← ht]; simp
    by_cases hj : (hexs p).length = (hexs m).length
    · rw [hj, List.take_length] at h2
      exact absurd (hexs_inj _ _ h2) hne
    · refine ⟨(hexs m).length - (hexs p).length, by omega, by omega, ?_⟩
      refine hexs_inj _ _ ?_
      rw [hexs_div]
      rw [show (hexs m).length - ((hexs m).length - (hexs p).length) = (hexs p).length by omega]
      exact h2
  · rintro ⟨k, h1, h2, rfl⟩
    rw [hexs_div]
    exact List.take_prefix _ _
theorem isAb_pre {m p : Nat} (hm : m < 16 ^ 7) : isAb (m : Int) (p : Int) = (((p : Int) != (m : Int)) && (hexs p).isPrefixOf (hexs m)) := by
  unfold isAb
  by_cases h : p = m
  · subst h
    simp
  · have h1 : (((p : Int) != (m : Int))) = true := by
      simp only [bne_iff_ne, ne_eq]
      omega
    rw [h1, Bool.true_and, Bool.true_and, Bool.eq_iff_iff, quots_any, pre_iff hm h]
end Mine
end -- E3
section -- E4
set_option maxRecDepth 100000
set_option maxHeartbeats 1000000
namespace Mine
def hit (a : Int) (b : Nat) : Nat := if 0 < a ∧ a ≤ (b : Int) then 1 else 0
theorem hit_pos {a : Int} {b : Nat} (h1 : 0 < a) (h2 : a ≤ (b : Int)) : hit a b = 1 := if_pos ⟨h1, h2⟩
theorem hit_low {a : Int} {b : Nat} (h : a ≤ 0) : hit a b = 0 := if_neg (by omega)
theorem hit_high {a : Int} {b : Nat} (h : (b : Int) < a) : hit a b = 0 := if_neg (by omega)
theorem hit_shift {a : Int} {b c : Nat} : hit a b + hit (a - b) c = hit a (b + c) := by
  unfold hit
  split <;> split <;> split <;> omega
theorem decS_fold (z : Str) : ∀ (xs : List Str) (st : NR), (xs.foldl decS st).1 z = st.1 z - (xs.count z : Nat) ∧ (xs.foldl decS st).2.count z = st.2.count z + hit (st.1 z) (xs.count z)
  | [], st => by
    refine ⟨by simp, ?_⟩
    have : hit (st.1 z) (([] : List Str).count z) = 0 := by unfold hit; rw [List.count_nil]; exact if_neg (by omega)
    rw [this]; rfl
  | x :: xs, st => by
    obtain ⟨h1, h2⟩ := decS_fold z xs (decS st x)
    rw [List.foldl_cons, h1, h2]
    by_cases e : x = z
    · subst e
      have e1 : (decS st x).1 x = st.1 x - 1 := by simp [decS, addNp]; rfl
      rw [List.count_cons_self, e1]
      refine ⟨by omega, ?_⟩
      by_cases h0 : st.1 x = 1
      · have e2 : (decS st x).2 = st.2 ++ [x] := by simp [decS, addNp, h0]
        rw [e2, List.count_append, hit_low (by omega), hit_pos (by omega) (by omega)]
        simp
      · have e2 : (decS st x).2 = st.2 := by
          simp only [decS, addNp, if_true]; rw [if_neg (by omega)]
        rw [e2]
        congr 1
        by_cases h3 : st.1 x ≤ 0
        · rw [hit_low (by omega), hit_low h3]
        · by_cases h4 : st.1 x ≤ ((xs.count x + 1 : Nat) : Int)
          · rw [hit_pos (by omega) (by omega), hit_pos (by omega) h4]
          · rw [hit_high (by omega), hit_high (by omega)]
    · have e1 : (decS st x).1 z = st.1 z := by simp only [decS, addNp]; rw [if_neg (fun h => e h.symm)]
      have e2 : (decS st x).2.count z = st.2.count z := by
        unfold decS; dsimp only; split
        · rw [List.count_append, List.count_singleton]
          simp [e]
        · rfl
      rw [e1, e2, List.count_cons_of_ne e]
      exact ⟨rfl, rfl⟩
theorem doneAll_fold (sc : Str → List Str) (z : Str) : ∀ (rs : List Str) (st : NR), z ∉ rs → (doneAll sc st rs).1 z = st.1 z - ((rs.flatMap sc).count z : Nat) ∧ (doneAll sc st rs).2.count z = st.2.count z + hit (st.1 z) ((rs.flatMap sc).count z)
  | [], st, _ => decS_fold z [] st
  | r :: rs, st, hz => by
    have hr : z ≠ r := fun e => hz (e ▸ .head _)
    obtain ⟨h1, h2⟩ := doneAll_fold sc z rs (doneOne sc st r) fun h => hz (.tail _ h)
    obtain ⟨g1, g2⟩ := decS_fold z (sc r) (setNp st.1 r (-2), st.2)
    have e0 : setNp st.1 r (-2) z = st.1 z := by simp [setNp, hr]
    have e1 : (doneOne sc st r).1 z = st.1 z - ((sc r).count z : Nat) := by rw [← e0]; exact g1
    have e2 : (doneOne sc st r).2.count z = st.2.count z + hit (st.1 z) ((sc r).count z) := by rw [← e0]; exact g2
    show (doneAll sc (doneOne sc st r) rs).1 z = _ ∧ (doneAll sc (doneOne sc st r) rs).2.count z = _
    rw [h1, h2, e1, e2, List.flatMap_cons, List.count_append, ← hit_shift]
    exact ⟨by omega, by omega⟩
theorem decS_out (z : Str) : ∀ (xs : List Str) (st : NR), z ∉ xs → (xs.foldl decS st).2.count z = st.2.count z := fun xs st h => by
  rw [(decS_fold z xs st).2, List.count_eq_zero.mpr h]
  show _ + hit _ 0 = _
  unfold hit
  rw [if_neg (by omega)]; rfl
theorem doneAll_out (sc : Str → List Str) (z : Str) : ∀ (rs : List Str) (st : NR), (∀ r ∈ rs, z ∉ sc r) → (doneAll sc st rs).2.count z = st.2.count z
  | [], _, _ => rfl
  | r :: rs, st, h => by
    show (doneAll sc (doneOne sc st r) rs).2.count z = _
    rw [doneAll_out sc z rs _ fun q hq => h q (.tail _ hq)]
    exact decS_out z (sc r) _ (h r (.head _))
end Mine
end -- E4
section -- E5
set_option maxRecDepth 100000
set_option maxHeartbeats 1000000
namespace Mine
structure Lv (N : List Str) (np : Str → Int) (sc : Str → List Str) (lv : Str → Nat) : Prop where
  nd : N.Nodup
  cnt : ∀ x ∈ N, np x = ((N.flatMap sc).count x : Nat)
  up : ∀ p ∈ N, ∀ x ∈ sc p, x ∈ N ∧ lv p < lv x
  down : ∀ x ∈ N, ∀ k < lv x, ∃ p ∈ N, lv p = k ∧ x ∈ sc p
def ats (N : List Str) (lv : Str → Nat) (i : Nat) : List Str := N.filter fun x => lv x == i
def frs (N : List Str) (lv : Str → Nat) (i : Nat) : List Str := N.filter fun x => decide (i ≤ lv x)
theorem mem_ats {N : List Str} {lv : Str → Nat} {i : Nat} {x : Str} : x ∈ ats N lv i ↔ x ∈ N ∧ lv x = i := by simp [ats]
theorem mem_frs {N : List Str} {lv : Str → Nat} {i : Nat} {x : Str} : x ∈ frs N lv i ↔ x ∈ N ∧ i ≤ lv x := by simp [frs]
theorem frs_zero {N : List Str} {lv : Str → Nat} : frs N lv 0 = N := by simp [frs]
theorem frs_perm {lv : Str → Nat} {i : Nat} : ∀ N : List Str, (frs N lv i).Perm (ats N lv i ++ frs N lv (i + 1))
  | [] => .nil
  | x :: N => by
    have ih := frs_perm (lv := lv) (i := i) N
    unfold frs ats at ih ⊢
    simp only [List.filter_cons]
    by_cases h1 : lv x = i
    · rw [if_pos (by simp [h1]), if_pos (by simp [h1]), if_neg (by simp [h1])]
      exact ih.cons _
    · by_cases h2 : i ≤ lv x
      · rw [if_pos (by simp [h2]), if_neg (by simp [h1]), if_pos (by simp; omega)]
        exact (ih.cons _).trans List.perm_middle.symm
      · rw [if_neg (by simp; omega), if_neg (by simp [h1]), if_neg (by simp; omega)]
        exact ih
theorem cnt_perm {sc : Str → List Str} {xs ys : List Str} (h : xs.Perm ys) (z : Str) : (xs.flatMap sc).count z = (ys.flatMap sc).count z := (List.Perm.flatMap_right sc h).count_eq z
theorem perm_of_counts {xs ys : List Str} (hy : ys.Nodup) (h : ∀ z, xs.count z = if z ∈ ys then 1 else 0) : xs.Perm ys := by
  rw [List.perm_iff_count]
  intro z
  rw [h z, hy.count]
theorem Lv.rounds {N : List Str} {np : Str → Int} {sc : Str → List Str} {lv : Str → Nat} (H : Lv N np sc lv) : ∀ i, (RS sc N np i).2.Perm (ats N lv i) ∧ ∀ x ∈ N, i ≤ lv x → (RS sc N np i).1 x = (((frs N lv i).flatMap sc).count x : Nat)
  | 0 => by
    refine ⟨?_, fun x hx _ => by rw [frs_zero]; exact H.cnt x hx⟩
    show (N.filter fun x => np x == 0).Perm (N.filter fun x => lv x == 0)
    refine List.Perm.of_eq (List.filter_congr fun x hx => ?_)
    rw [Bool.eq_iff_iff, beq_iff_eq, beq_iff_eq, H.cnt x hx]
    constructor
    · intro h
      cases e : lv x with
      | zero => rfl
      | succ k =>
        obtain ⟨p, hp, _, hq⟩ := H.down x hx k (by omega)
        have : 0 < (N.flatMap sc).count x := List.count_pos_iff.mpr (List.mem_flatMap.mpr ⟨p, hp, hq⟩)
        omega
    · intro h
      have : (N.flatMap sc).count x = 0 := by
        rw [List.count_eq_zero]
        intro hm
        obtain ⟨p, hp, hq⟩ := List.mem_flatMap.mp hm
        have := (H.up p hp x hq).2
        omega
      omega
  | i + 1 => by
    obtain ⟨h1, h2⟩ := H.rounds i
    generalize hst : RS sc N np i = st at h1 h2
    have hrs : RS sc N np (i + 1) = doneAll sc (outNp st.1 st.2 (-1), []) st.2 := by rw [← hst]; rfl
    rw [hrs]
    have hm : ∀ z, z ∈ st.2 ↔ z ∈ N ∧ lv z = i := fun z => (h1.mem_iff).trans mem_ats
    have hc : ∀ z, (st.2.flatMap sc).count z = ((ats N lv i).flatMap sc).count z := cnt_perm h1
    have hs : ∀ z, ((frs N lv i).flatMap sc).count z = ((ats N lv i).flatMap sc).count z + ((frs N lv (i + 1)).flatMap sc).count z := fun z => by
      rw [cnt_perm (frs_perm N) z, List.flatMap_append, List.count_append]
    have hz0 : ∀ z, z ∉ st.2 → outNp st.1 st.2 (-1) z = st.1 z := fun z h => by simp [outNp, h]
    refine ⟨?_, fun x hx hl => ?_⟩
    · refine perm_of_counts (H.nd.filter _) fun z => ?_
      by_cases hzi : ∃ r ∈ st.2, z ∈ sc r
      · obtain ⟨r, hr, hz⟩ := hzi
        obtain ⟨hrN, hri⟩ := (hm r).mp hr
        obtain ⟨hzN, hzl⟩ := H.up r hrN z hz
        have hzr : z ∉ st.2 := fun h => by have := ((hm z).mp h).2; omega
        rw [(doneAll_fold sc z st.2 (outNp st.1 st.2 (-1), []) hzr).2]
        show ([] : List Str).count z + hit (outNp st.1 st.2 (-1) z) _ = _
        rw [hz0 z hzr, h2 z hzN (by omega), hc, hs, List.count_nil, Nat.zero_add]
        have hpos : 0 < ((ats N lv i).flatMap sc).count z := List.count_pos_iff.mpr (List.mem_flatMap.mpr ⟨r, mem_ats.mpr ⟨hrN, hri⟩, hz⟩)
        by_cases e : lv z = i + 1
        · have h0 : ((frs N lv (i + 1)).flatMap sc).count z = 0 := by
            rw [List.count_eq_zero]
            intro hm
            obtain ⟨p, hp, hq⟩ := List.mem_flatMap.mp hm
            obtain ⟨hp1, hp2⟩ := mem_frs.mp hp
            have := (H.up p hp1 z hq).2
            omega
          rw [h0, hit_pos (by omega) (by omega), if_pos (mem_ats.mpr ⟨hzN, e⟩)]
        · obtain ⟨p, hp, hpl, hq⟩ := H.down z hzN (i + 1) (by omega)
          have h0 : 0 < ((frs N lv (i + 1)).flatMap sc).count z := List.count_pos_iff.mpr (List.mem_flatMap.mpr ⟨p, mem_frs.mpr ⟨hp, by omega⟩, hq⟩)
          rw [hit_high (by omega), if_neg (fun h => e (mem_ats.mp h).2)]
      · rw [doneAll_out sc z st.2 _ fun r hr hz => hzi ⟨r, hr, hz⟩]
        rw [if_neg]
        · rfl
        · intro h
          obtain ⟨hzN, hzl⟩ := mem_ats.mp h
          obtain ⟨p, hp, hpl, hq⟩ := H.down z hzN i (by omega)
          exact hzi ⟨p, (hm p).mpr ⟨hp, hpl⟩, hq⟩
    · have hzr : x ∉ st.2 := fun h => by have := ((hm x).mp h).2; omega
      rw [(doneAll_fold sc x st.2 (outNp st.1 st.2 (-1), []) hzr).1]
      show outNp st.1 st.2 (-1) x - _ = _
      rw [hz0 x hzr, h2 x hx (by omega), hc, hs]
      omega
end Mine
end -- E5
section -- E6
set_option maxRecDepth 100000
set_option maxHeartbeats 1000000
namespace Mine
theorem mem_insE2 {ns : List Str} {a x : Str} : x ∈ insE ns a ↔ x ∈ ns ∨ x = a := by
  unfold insE; split
  · exact ⟨.inl, fun h => h.elim id fun e => e ▸ by assumption⟩
  · simp
theorem mem_insE2s {x : Str} : ∀ (ps ns : List Str), x ∈ ps.foldl insE ns ↔ x ∈ ns ∨ x ∈ ps
  | [], ns => by simp
  | p :: ps, ns => by
    rw [List.foldl_cons, mem_insE2s ps, mem_insE2, List.mem_cons, or_assoc]
structure Bk (N : List Str) (np : Str → Int) (sc : Str → List Str) : Prop where
  nd : N.Nodup
  out : ∀ p, p ∉ N → sc p = []
  cnt : ∀ x, np x = ((N.flatMap sc).count x : Nat)
theorem Bk.ins {N : List Str} {np : Str → Int} {sc : Str → List Str} (B : Bk N np sc) (a : Str) : Bk (insE N a) np sc := by
  unfold insE
  split
  · exact B
  · rename_i h
    refine ⟨?_, fun p hp => B.out p fun hm => hp (List.mem_append.mpr (.inl hm)), fun x => ?_⟩
    · rw [List.nodup_append]
      refine ⟨B.nd, by simp, fun x hx y hy e => ?_⟩
      rw [List.mem_singleton] at hy
      exact h (hy ▸ e ▸ hx)
    · rw [B.cnt x, List.flatMap_append]
      simp [B.out a h]
theorem Bk.inss {np : Str → Int} {sc : Str → List Str} : ∀ (ps : List Str) {N : List Str}, Bk N np sc → Bk (ps.foldl insE N) np sc
  | [], _, B => B
  | p :: ps, _, B => Bk.inss ps (B.ins p)
theorem flat_other {sc : Str → List Str} {p a : Str} : ∀ (N : List Str), p ∉ N → N.flatMap (addSc sc p a) = N.flatMap sc
  | [], _ => rfl
  | x :: N, h => by
    have hx : x ≠ p := fun e => h (e ▸ .head _)
    rw [List.flatMap_cons, List.flatMap_cons, flat_other N fun hm => h (.tail _ hm)]
    simp [addSc, hx]
theorem flat_one {sc : Str → List Str} {p a z : Str} : ∀ (N : List Str), N.Nodup → p ∈ N → (N.flatMap (addSc sc p a)).count z = (N.flatMap sc).count z + (if z = a then 1 else 0)
  | [], _, h => nomatch h
  | x :: N, hn, h => by
    rw [List.nodup_cons] at hn
    rw [List.flatMap_cons, List.flatMap_cons, List.count_append, List.count_append]
    by_cases e : x = p
    · subst e
      rw [flat_other N hn.1]
      have : addSc sc x a x = sc x ++ [a] := by simp [addSc]
      rw [this, List.count_append, List.count_singleton]
      have : (a == z) = decide (z = a) := by rw [Bool.eq_iff_iff, beq_iff_eq, decide_eq_true_eq, eq_comm]
      rw [this]
      simp only [decide_eq_true_eq]
      omega
    · have hp : p ∈ N := by
        cases h with
        | head => exact absurd rfl e
        | tail _ h => exact h
      rw [flat_one N hn.2 hp]
      have : addSc sc p a x = sc x := by simp [addSc, e]
      rw [this]
      omega
theorem flat_many {a z : Str} {N : List Str} (hn : N.Nodup) : ∀ (ps : List Str) (sc : Str → List Str), (∀ p ∈ ps, p ∈ N) → (N.flatMap (ps.foldl (fun sc p => addSc sc p a) sc)).count z = (N.flatMap sc).count z + (if z = a then ps.length else 0)
  | [], sc, _ => by simp
  | p :: ps, sc, h => by
    rw [List.foldl_cons, flat_many hn ps _ fun q hq => h q (.tail _ hq), flat_one N hn (h p (.head _)), List.length_cons]
    split <;> omega
theorem addScs_mem {a x q : Str} : ∀ (ps : List Str) (sc : Str → List Str), x ∈ ps.foldl (fun sc p => addSc sc p a) sc q ↔ x ∈ sc q ∨ (x = a ∧ q ∈ ps)
  | [], sc => by simp
  | p :: ps, sc => by
    rw [List.foldl_cons, addScs_mem ps, List.mem_cons]
    have : x ∈ addSc sc p a q ↔ x ∈ sc q ∨ (x = a ∧ q = p) := by
      unfold addSc
      split
      · rename_i e; simp [e]
      · rename_i e; simp [e]
    rw [this, or_assoc, ← and_or_left]
theorem addS_bk {st : St3} (B : Bk st.1 st.2.1 st.2.2) (a : Str) (ps : List Str) : Bk (addS st a ps).1 (addS st a ps).2.1 (addS st a ps).2.2 := by
  have B₁ := Bk.inss ps (B.ins a)
  have hps : ∀ p ∈ ps, p ∈ ps.foldl insE (insE st.1 a) := fun p hp => (mem_insE2s ps _).mpr (.inr hp)
  refine ⟨B₁.nd, fun p hp => ?_, fun x => ?_⟩
  · rw [List.eq_nil_iff_forall_not_mem]
    intro x hx
    rcases (addScs_mem ps st.2.2).mp hx with h | h
    · rw [B₁.out p hp] at h; cases h
    · exact hp (hps p h.2)
  · show addNp st.2.1 a ps.length x = _
    have e : ((ps.foldl insE (insE st.1 a)).flatMap (ps.foldl (fun sc p => addSc sc p a) st.2.2)).count x = _ := flat_many B₁.nd ps st.2.2 hps
    show _ = (((ps.foldl insE (insE st.1 a)).flatMap (ps.foldl (fun sc p => addSc sc p a) st.2.2)).count x : Int)
    rw [e]
    have := B₁.cnt x
    unfold addNp
    split <;> omega
theorem addS_names {st : St3} {a x : Str} {ps : List Str} : x ∈ (addS st a ps).1 ↔ x ∈ st.1 ∨ x = a ∨ x ∈ ps := by
  show x ∈ ps.foldl insE (insE st.1 a) ↔ _
  rw [mem_insE2s, mem_insE2, or_assoc]
theorem addS_succ {st : St3} {a x q : Str} {ps : List Str} : x ∈ (addS st a ps).2.2 q ↔ x ∈ st.2.2 q ∨ (x = a ∧ q ∈ ps) := addScs_mem ps st.2.2
end Mine
end -- E6
section -- E7
set_option maxRecDepth 100000
set_option maxHeartbeats 1000000
namespace Mine
theorem mem_split1 {α : Type} {q : α} (l : List α) : q ∈ l ↔ q ∈ l.take 1 ++ l.take 1 ∨ q ∈ l.drop 1 := by
  cases l with
  | nil => simp
  | cons x l => simp
theorem stJ_bk (ns : List Int) : ∀ i, Bk (stJ ns i).1 (stJ ns i).2.1 (stJ ns i).2.2
  | 0 => ⟨List.nodup_nil, fun _ _ => rfl, fun _ => rfl⟩
  | i + 1 => by
    rw [stJ_succ]
    exact addS_bk (addS_bk (stJ_bk ns i) _ _) _ _
theorem stJ_names (ns : List Int) {x : Str} : ∀ i, x ∈ (stJ ns i).1 ↔ ∃ j < i, x = wI (ns.getD j 0) ∨ x ∈ waitsOf ns j
  | 0 => ⟨(fun h => nomatch h), fun ⟨_, h, _⟩ => absurd h (Nat.not_lt_zero _)⟩
  | i + 1 => by
    rw [stJ_succ]
    unfold addJ
    rw [addS_names, addS_names, stJ_names ns i]
    constructor
    · rintro ((⟨j, hj, h⟩ | h | h) | h | h)
      · exact ⟨j, by omega, h⟩
      · exact ⟨i, by omega, .inl h⟩
      · exact ⟨i, by omega, .inr ((mem_split1 _).mpr (.inl h))⟩
      · exact ⟨i, by omega, .inl h⟩
      · exact ⟨i, by omega, .inr ((mem_split1 _).mpr (.inr h))⟩
    · rintro ⟨j, hj, h⟩
      by_cases e : j = i
      · subst e
        rcases h with h | h
        · exact .inr (.inl h)
        · rcases (mem_split1 _).mp h with h | h
          · exact .inl (.inr (.inr h))
          · exact .inr (.inr h)
      · exact .inl (.inl ⟨j, by omega, h⟩)
theorem stJ_sc (ns : List Int) {x q : Str} : ∀ i, x ∈ (stJ ns i).2.2 q ↔ ∃ j < i, x = wI (ns.getD j 0) ∧ q ∈ waitsOf ns j
  | 0 => ⟨(fun h => nomatch h), fun ⟨_, h, _⟩ => absurd h (Nat.not_lt_zero _)⟩
  | i + 1 => by
    rw [stJ_succ]
    unfold addJ
    rw [addS_succ, addS_succ, stJ_sc ns i]
    constructor
    · rintro ((⟨j, hj, h⟩ | ⟨h, h2⟩) | ⟨h, h2⟩)
      · exact ⟨j, by omega, h⟩
      · exact ⟨i, by omega, h, (mem_split1 _).mpr (.inl h2)⟩
      · exact ⟨i, by omega, h, (mem_split1 _).mpr (.inr h2)⟩
    · rintro ⟨j, hj, h, h2⟩
      by_cases e : j = i
      · subst e
        rcases (mem_split1 _).mp h2 with h2 | h2
        · exact .inl (.inr ⟨h, h2⟩)
        · exact .inr ⟨h, h2⟩
      · exact .inl (.inl ⟨j, by omega, h, h2⟩)
/-- numbers as the law keeps them -/
structure NsOk (ns : List Int) : Prop where
  nd : ns.Nodup
  b : ∀ n ∈ ns, 0 ≤ n ∧ n.natAbs < 16 ^ 7
theorem wI_inj {n p : Int} (hn : 0 ≤ n) (hp : 0 ≤ p) (h : wI n = wI p) : n = p := by
  have := hexs_inj _ _ (wS_inj h)
  omega
theorem isAb_iff {n p : Int} (hn : 0 ≤ n ∧ n.natAbs < 16 ^ 7) (hp : 0 ≤ p) : isAb n p = true ↔ p ≠ n ∧ hexs p.natAbs <+: hexs n.natAbs := by
  have e1 : n = (n.natAbs : Int) := by omega
  have e2 : p = (p.natAbs : Int) := by omega
  have h := isAb_pre (m := n.natAbs) (p := p.natAbs) hn.2
  rw [← e1, ← e2] at h
  rw [h, Bool.and_eq_true, bne_iff_ne, List.isPrefixOf_iff_prefix]
theorem mem_waits {ns : List Int} (H : NsOk ns) {j : Nat} (hj : j < ns.length) {q : Str} : q ∈ waitsOf ns j ↔ ∃ p ∈ ns, isAb (ns.getD j 0) p = true ∧ q = wI p := by
  have gd : ∀ {k : Nat} (h : k < ns.length), ns.getD k 0 = ns[k] := fun h => by simp [List.getD, h]
  unfold waitsOf wtIdx
  rw [List.mem_map]
  constructor
  · rintro ⟨k, hk, rfl⟩
    obtain ⟨h1, h2⟩ := List.mem_filter.mp hk
    have hkl := List.mem_range.mp h1
    rw [Bool.and_eq_true, bne_iff_ne, List.isPrefixOf_iff_prefix] at h2
    refine ⟨ns[k], List.getElem_mem hkl, ?_, by rw [gd hkl]⟩
    rw [gd hj, isAb_iff (H.b _ (List.getElem_mem hj)) (H.b _ (List.getElem_mem hkl)).1]
    refine ⟨fun e => h2.1 ((List.getElem_inj H.nd).mp e), ?_⟩
    have := h2.2
    unfold hx at this
    rw [gd hj, gd hkl] at this
    exact this
  · rintro ⟨p, hp, h, rfl⟩
    obtain ⟨k, hk, rfl⟩ := List.getElem_of_mem hp
    rw [gd hj, isAb_iff (H.b _ (List.getElem_mem hj)) (H.b _ hp).1] at h
    refine ⟨k, List.mem_filter.mpr ⟨List.mem_range.mpr hk, ?_⟩, by rw [gd hk]⟩
    rw [Bool.and_eq_true, bne_iff_ne, List.isPrefixOf_iff_prefix]
    refine ⟨fun e => h.1 (by subst e; rfl), ?_⟩
    unfold hx
    rw [gd hj, gd hk]
    exact h.2
theorem names_iff {ns : List Int} (H : NsOk ns) {x : Str} : x ∈ (stJ ns ns.length).1 ↔ ∃ n ∈ ns, x = wI n := by
  rw [stJ_names]
  have gd : ∀ {k : Nat} (h : k < ns.length), ns.getD k 0 = ns[k] := fun h => by simp [List.getD, h]
  constructor
  · rintro ⟨j, hj, h | h⟩
    · exact ⟨ns[j], List.getElem_mem hj, by rw [← gd hj]; exact h⟩
    · obtain ⟨p, hp, _, e⟩ := (mem_waits H hj).mp h
      exact ⟨p, hp, e⟩
  · rintro ⟨n, hn, rfl⟩
    obtain ⟨k, hk, rfl⟩ := List.getElem_of_mem hn
    exact ⟨k, hk, .inl (by rw [gd hk])⟩
theorem sc_iff {ns : List Int} (H : NsOk ns) {x q : Str} : x ∈ (stJ ns ns.length).2.2 q ↔ ∃ n ∈ ns, ∃ p ∈ ns, x = wI n ∧ q = wI p ∧ isAb n p = true := by
  rw [stJ_sc]
  have gd : ∀ {k : Nat} (h : k < ns.length), ns.getD k 0 = ns[k] := fun h => by simp [List.getD, h]
  constructor
  · rintro ⟨j, hj, h, h2⟩
    obtain ⟨p, hp, h3, e⟩ := (mem_waits H hj).mp h2
    rw [gd hj] at h h3
    exact ⟨ns[j], List.getElem_mem hj, p, hp, h, e, h3⟩
  · rintro ⟨n, hn, p, hp, h1, h2, h3⟩
    obtain ⟨k, hk, rfl⟩ := List.getElem_of_mem hn
    exact ⟨k, hk, by rw [gd hk]; exact h1, (mem_waits H hk).mpr ⟨p, hp, by rw [gd hk]; exact h3, h2⟩⟩
end Mine
end -- E7
section -- E8
set_option maxRecDepth 100000
set_option maxHeartbeats 1000000
namespace Mine
def up (ns : List Int) (n : Int) : Nat := (ns.filter (isAb n)).length
theorem lvl_up (ns : List Int) (n : Int) : lvl ns n = (up ns n : Int) := rfl
theorem filter_le {α : Type} {P Q : α → Bool} : ∀ (l : List α), (∀ a ∈ l, P a = true → Q a = true) → (l.filter P).length ≤ (l.filter Q).length
  | [], _ => Nat.le_refl _
  | x :: l, h => by
    have ih := filter_le l fun a ha => h a (.tail _ ha)
    have hx := h x (.head _)
    rw [List.filter_cons, List.filter_cons]
    by_cases e : P x = true
    · rw [if_pos e, if_pos (hx e)]; simp only [List.length_cons]; omega
    · rw [if_neg e]; split
      · simp only [List.length_cons]; omega
      · exact ih
theorem filter_lt {α : Type} {P Q : α → Bool} {p : α} (hp : P p = false) (hq : Q p = true) : ∀ (l : List α), (∀ a ∈ l, P a = true → Q a = true) → p ∈ l → (l.filter P).length < (l.filter Q).length
  | [], _, h => nomatch h
  | x :: l, h, hm => by
    have hx := h x (.head _)
    have hle := filter_le l fun a ha => h a (.tail _ ha)
    rw [List.filter_cons, List.filter_cons]
    cases hm with
    | head => rw [if_neg (by simp [hp]), if_pos hq]; simp only [List.length_cons]; omega
    | tail _ hm =>
      have ih := filter_lt hp hq l (fun a ha => h a (.tail _ ha)) hm
      by_cases e : P x = true
      · rw [if_pos e, if_pos (hx e)]; simp only [List.length_cons]; omega
      · rw [if_neg e]; split
        · simp only [List.length_cons]; omega
        · exact ih
theorem filter_one {α : Type} {P Q : α → Bool} {p : α} (hp : P p = false) : ∀ (l : List α), l.Nodup → (∀ a ∈ l, Q a = true ↔ a = p ∨ P a = true) → p ∈ l → (l.filter Q).length = (l.filter P).length + 1
  | [], _, _, h => nomatch h
  | x :: l, hn, h, hm => by
    rw [List.nodup_cons] at hn
    have hx := h x (.head _)
    rw [List.filter_cons, List.filter_cons]
    by_cases e : x = p
    · subst e
      rw [if_pos (hx.mpr (.inl rfl)), if_neg (by simp [hp])]
      have : l.filter Q = l.filter P := List.filter_congr fun a ha => by
        rw [Bool.eq_iff_iff, h a (.tail _ ha)]
        exact ⟨fun g => g.elim (fun g => absurd (g ▸ ha) hn.1) id, .inr⟩
      rw [this]; simp
    · have hm' : p ∈ l := by
        cases hm with
        | head => exact absurd rfl e
        | tail _ hm => exact hm
      have ih := filter_one hp l hn.2 (fun a ha => h a (.tail _ ha)) hm'
      have : (Q x = true) ↔ (P x = true) := hx.trans ⟨fun g => g.elim (fun g => absurd g e) id, .inr⟩
      by_cases e2 : P x = true
      · rw [if_pos (this.mpr e2), if_pos e2]; simp only [List.length_cons]; omega
      · rw [if_neg (fun g => e2 (this.mp g)), if_neg e2]; exact ih
theorem exists_top {α : Type} (f : α → Nat) : ∀ (l : List α), l ≠ [] → ∃ a ∈ l, ∀ b ∈ l, f b ≤ f a
  | [], h => absurd rfl h
  | x :: l, _ => by
    by_cases e : l = []
    · subst e
      exact ⟨x, .head _, fun b hb => by rw [List.mem_singleton.mp hb]; exact Nat.le_refl _⟩
    · obtain ⟨a, ha, h⟩ := exists_top f l e
      by_cases g : f a ≤ f x
      · refine ⟨x, .head _, fun b hb => ?_⟩
        cases hb with
        | head => exact Nat.le_refl _
        | tail _ hb => exact Nat.le_trans (h b hb) g
      · refine ⟨a, .tail _ ha, fun b hb => ?_⟩
        cases hb with
        | head => omega
        | tail _ hb => exact h b hb
theorem ab_irr {n : Int} : isAb n n = false := by simp [isAb]
theorem ab_trans {ns : List Int} (H : NsOk ns) {n p q : Int} (hn : n ∈ ns) (hp : p ∈ ns) (hq : q ∈ ns) (h1 : isAb n p = true) (h2 : isAb p q = true) : isAb n q = true := by
  rw [isAb_iff (H.b n hn) (H.b p hp).1] at h1
  rw [isAb_iff (H.b p hp) (H.b q hq).1] at h2
  rw [isAb_iff (H.b n hn) (H.b q hq).1]
  refine ⟨fun e => ?_, h2.2.trans h1.2⟩
  subst e
  have := List.IsPrefix.eq_of_length_le h1.2 h2.2.length_le
  have e2 := hexs_inj _ _ this
  have b1 := (H.b p hp).1
  have b2 := (H.b q hq).1
  exact h1.1 (by omega)
theorem up_lt {ns : List Int} (H : NsOk ns) {n p : Int} (hn : n ∈ ns) (hp : p ∈ ns) (h : isAb n p = true) : up ns p < up ns n :=
  filter_lt ab_irr h ns (fun q hq h2 => ab_trans H hn hp hq h h2) hp
theorem up_max {ns : List Int} (H : NsOk ns) {n : Int} (hn : n ∈ ns) (h : 0 < up ns n) : ∃ p ∈ ns, isAb n p = true ∧ up ns n = up ns p + 1 := by
  have hne : ns.filter (isAb n) ≠ [] := fun e => by unfold up at h; rw [e] at h; exact absurd h (Nat.lt_irrefl _)
  obtain ⟨p, hp, hmax⟩ := exists_top (fun q => (hexs q.natAbs).length) _ hne
  obtain ⟨hpn, hpa⟩ := List.mem_filter.mp hp
  refine ⟨p, hpn, hpa, filter_one ab_irr ns H.nd (fun q hq => ⟨fun hqa => ?_, ?_⟩) hpn⟩
  · by_cases e : q = p
    · exact .inl e
    · refine .inr ?_
      have hle := hmax q (List.mem_filter.mpr ⟨hq, hqa⟩)
      rw [isAb_iff (H.b n hn) (H.b p hpn).1] at hpa
      rw [isAb_iff (H.b n hn) (H.b q hq).1] at hqa
      rw [isAb_iff (H.b p hpn) (H.b q hq).1]
      exact ⟨e, List.prefix_of_prefix_length_le hqa.2 hpa.2 hle⟩
  · rintro (rfl | hqa)
    · exact hpa
    · exact ab_trans H hn hpn hq hpa hqa
theorem up_chain {ns : List Int} (H : NsOk ns) : ∀ (m : Nat) {n : Int}, n ∈ ns → up ns n = m → ∀ k < m, ∃ p ∈ ns, up ns p = k ∧ isAb n p = true
  | 0, _, _, _, k, hk => absurd hk (Nat.not_lt_zero _)
  | m + 1, n, hn, e, k, hk => by
    obtain ⟨p, hp, ha, e2⟩ := up_max H hn (by omega)
    by_cases h : k = m
    · exact ⟨p, hp, by omega, ha⟩
    · obtain ⟨q, hq, e3, hb⟩ := up_chain H m hp (by omega) k (by omega)
      exact ⟨q, hq, e3, ab_trans H hn hp hq ha hb⟩
def rk (ns : List Int) (x : Str) : Nat := match ns.find? (fun n => wI n == x) with
  | some n => up ns n
  | none => 0
theorem rk_wI {ns : List Int} (H : NsOk ns) {n : Int} (hn : n ∈ ns) : rk ns (wI n) = up ns n := by
  unfold rk
  cases e : ns.find? (fun m => wI m == wI n) with
  | none =>
    have := List.find?_eq_none.mp e n hn
    simp at this
  | some p =>
    have h1 : wI p = wI n := eq_of_beq (List.find?_some (p := fun m => wI m == wI n) e)
    have h2 := List.mem_of_find?_eq_some e
    have := wI_inj (H.b p h2).1 (H.b n hn).1 h1
    subst this; rfl
theorem stJ_lv {ns : List Int} (H : NsOk ns) : Lv (stJ ns ns.length).1 (stJ ns ns.length).2.1 (stJ ns ns.length).2.2 (rk ns) where
  nd := (stJ_bk ns ns.length).nd
  cnt := fun x _ => (stJ_bk ns ns.length).cnt x
  up := fun p _ x hx => by
    obtain ⟨n, hn, q, hq, rfl, rfl, ha⟩ := (sc_iff H).mp hx
    exact ⟨(names_iff H).mpr ⟨n, hn, rfl⟩, by rw [rk_wI H hn, rk_wI H hq]; exact up_lt H hn hq ha⟩
  down := fun x hx k hk => by
    obtain ⟨n, hn, rfl⟩ := (names_iff H).mp hx
    rw [rk_wI H hn] at hk
    obtain ⟨p, hp, e, ha⟩ := up_chain H _ hn rfl k hk
    exact ⟨wI p, (names_iff H).mpr ⟨p, hp, rfl⟩, by rw [rk_wI H hp]; exact e, (sc_iff H).mpr ⟨n, hn, p, hp, rfl, rfl, ha⟩⟩
theorem pickL_eq (f : Int → Int) (i : Int) : ∀ ns : List Int, pickL ns (ns.map f) i = (ns.filter fun n => f n == i).map wI
  | [] => rfl
  | n :: ns => by
    have ih := pickL_eq f i ns
    unfold pickL at ih ⊢
    rw [List.map_cons, List.zip_cons_cons, List.filter_cons, List.filter_cons]
    by_cases h : (f n == i) = true
    · rw [if_pos h, if_pos h, List.map_cons, List.map_cons, ih]
    · rw [if_neg h, if_neg h, ih]
theorem map_wI_nd {ns : List Int} (hb : ∀ n ∈ ns, 0 ≤ n) (h : ns.Nodup) : (ns.map wI).Nodup :=
  List.pairwise_map.mpr (h.imp_of_mem fun ha hb' hne e => hne (wI_inj (hb _ ha) (hb _ hb') e))
theorem numsI_nd (ds : List Int) : (numsI ds).Nodup := by
  unfold numsI firsts
  refine List.pairwise_map.mpr (List.Pairwise.imp_of_mem (fun {a b} ha hb hlt e => ?_) (List.Pairwise.filter _ List.pairwise_lt_range))
  obtain ⟨ha1, _⟩ := List.mem_filter.mp ha
  obtain ⟨hb1, hb2⟩ := List.mem_filter.mp hb
  have la := List.mem_range.mp ha1
  have lb := List.mem_range.mp hb1
  rw [Bool.not_eq_true', List.any_eq_false] at hb2
  refine hb2 (ds.getD a 0) ?_ (by rw [e]; simp)
  have : ds.getD a 0 = (ds.take b)[a]'(by rw [List.length_take]; omega) := by simp [List.getD, la]
  rw [this]
  exact List.getElem_mem _
theorem numsI_ne {ds : List Int} (h : 0 < ds.length) : 0 < (numsI ds).length := by
  unfold numsI firsts
  rw [List.length_map]
  refine List.length_pos_of_mem (a := 0) (List.mem_filter.mpr ⟨List.mem_range.mpr h, by simp⟩)
theorem pure_ok (ns0 : List Int) : ∃ rank M, PureOk (numsI (drI ns0)) rank M := by
  have hb : ∀ n ∈ numsI (drI ns0), 0 ≤ n ∧ n.natAbs < 16 ^ 7 := fun n hn => drI_range ns0 n (numsI_mem hn)
  have hlen : (numsI (drI ns0)).length ≤ 14 := Nat.le_trans (numsI_len _) (drI_len ns0)
  have hne : 0 < (numsI (drI ns0)).length := numsI_ne (by unfold drI; rw [List.length_append]; exact Nat.lt_of_lt_of_le (by decide : 0 < 8) (Nat.le_add_left _ _))
  have hnd := numsI_nd (drI ns0)
  generalize numsI (drI ns0) = ns at hb hlen hne hnd
  have H : NsOk ns := ⟨hnd, hb⟩
  have V := stJ_lv H
  obtain ⟨t, ht, hmax⟩ := exists_top (up ns) ns (List.length_pos_iff.mp hne)
  have hup : ∀ n, up ns n ≤ ns.length := fun n => List.length_filter_le ..
  have hNl : ∀ x ∈ (stJ ns ns.length).1, rk ns x ≤ up ns t := fun x hx => by
    obtain ⟨n, hn, rfl⟩ := (names_iff H).mp hx
    rw [rk_wI H hn]; exact hmax n hn
  have hsub : (stJ ns ns.length).1.length ≤ ns.length := by
    have : (stJ ns ns.length).1.length ≤ (ns.map wI).length := List.Nodup.length_le_of_subset V.nd fun x hx => by
      obtain ⟨n, hn, rfl⟩ := (names_iff H).mp hx
      exact List.mem_map_of_mem hn
    rwa [List.length_map] at this
  have hr := fun i => (V.rounds i).1
  have hmem : ∀ i z, z ∈ (RS (stJ ns ns.length).2.2 (stJ ns ns.length).1 (stJ ns ns.length).2.1 i).2 ↔ z ∈ (stJ ns ns.length).1 ∧ rk ns z = i := fun i z => (hr i).mem_iff.trans mem_ats
  refine ⟨rk ns, up ns t, hlen, hb, fun x hx y hy => V.up x hx y hy, hne, fun k hk hk2 => ?_, by have := hup t; omega, ?_⟩
  · obtain ⟨n, hn, rfl⟩ := List.mem_map.mp hk
    have h1 := hk2 _ (List.mem_map_of_mem ht)
    have h2 := hmax n hn
    rw [lvl_up] at h1 ⊢
    rw [lvl_up] at h1
    omega
  · refine ⟨fun i hi e => ?_, fun i _ => ?_, fun i _ r hr' => ((hmem i r).mp hr').1, fun i _ => (hr i).symm.nodup (V.nd.filter _), fun i _ r hr' x hx => ?_, fun i => ?_, ?_⟩
    · have : ∃ n ∈ ns, up ns n = i := by
        by_cases h : i = up ns t
        · exact ⟨t, ht, h.symm⟩
        · obtain ⟨p, hp, e, _⟩ := up_chain H _ ht rfl i (by omega)
          exact ⟨p, hp, e⟩
      obtain ⟨n, hn, hl⟩ := this
      have := (hmem i (wI n)).mpr ⟨(names_iff H).mpr ⟨n, hn, rfl⟩, by rw [rk_wI H hn]; exact hl⟩
      rw [e] at this
      cases this
    · refine (hr i).trans ?_
      rw [pickL_eq]
      refine (List.perm_ext_iff_of_nodup (V.nd.filter _) (map_wI_nd (fun n hn => (hb n (List.mem_filter.mp hn).1).1) (hnd.filter _))).mpr fun x => ?_
      show x ∈ ats _ _ _ ↔ _
      rw [mem_ats, names_iff H, List.mem_map]
      constructor
      · rintro ⟨⟨n, hn, rfl⟩, h⟩
        rw [rk_wI H hn] at h
        exact ⟨n, List.mem_filter.mpr ⟨hn, by rw [lvl_up, h]; simp⟩, rfl⟩
      · rintro ⟨n, hn, rfl⟩
        obtain ⟨h1, h2⟩ := List.mem_filter.mp hn
        refine ⟨⟨n, h1, rfl⟩, ?_⟩
        rw [rk_wI H h1]
        have := eq_of_beq h2
        rw [lvl_up] at this
        omega
    · obtain ⟨h1, h2⟩ := (hmem i r).mp hr'
      obtain ⟨h3, h4⟩ := V.up r h1 x hx
      refine ⟨h3, fun h => ?_⟩
      have := ((hmem i x).mp h).2
      omega
    · rw [(hr i).length_eq]
      have : (ats (stJ ns ns.length).1 (rk ns) i).length ≤ _ := List.length_filter_le ..
      omega
    · rw [List.eq_nil_iff_forall_not_mem]
      intro x hx
      obtain ⟨h1, h2⟩ := (hmem _ x).mp hx
      have := hNl x h1
      omega
theorem law_all {w : World} (s : Shared) (l : Addr) (vs : List Value) (ns : List Int) (R : Result → Shared → Prop) (F : Facts w s.heap) (hlim : s.heap.NoLimit) (hl : s.heap.IsList l vs.toArray) (hi : IntsAre vs ns) (hsz : ns.length ≤ 63)
    (h : ∀ h' tk, (∀ b o, s.heap.get? b = some o → h'.get? b = some o) → R (.ok (.ret (.bool true))) { s with heap := h', toks := tk }) : codeAny (MM w) callerA (.call (.ref 220) ⟨[.ref l], []⟩) R s :=
  law_walk (fun ns0 _ => pure_ok ns0) s l vs ns R F hlim hl hi hsz h
end Mine
end -- E8
theorem PySem.Challenge.cw_rx0142_01_holds : PySem.Challenge.rw_rx0142_01.Holds := by
  exact Mine.t1 fun _ s l vs ns R F hlim hl hi hsz _ h => Mine.law_all s l vs ns R F hlim hl hi hsz h
