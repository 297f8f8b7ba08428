import PyProof.Rows.All
import Wide.All
import OpenK.AllK
import Wide.FinOn
import PySem.Challenge.RW_oy0323_01
open PySem PySem.W PyProof.Rows
set_option Elab.async false
set_option maxRecDepth 100000
set_option maxHeartbeats 4000000
section
local macro_rules | `(tactic| refine $t) => `(tactic| first | k_extra "H:pre" | (refine' $t; k_extra "H:left"))
/-- the head's fragment and view by name (pre.heap_1, pre.view_1), so that the looks at them can be theorems of their own -/
theorem MineH.pre (h : PySem.Challenge.rw_oy0323_01.row.Holds) : PySem.Challenge.rw_oy0323_01.row.Holds := by
  (k_with "H:pre" => (assumption))
  w_on
  k_head
namespace MineH
noncomputable abbrev K : Params → Frag := pre.heap_1
noncomputable abbrev Pt : Program := PySem.Challenge.rw_oy0323_01.row.prog
noncomputable def eF : Obj := .mk .none none (.fields #[]) #[]
noncomputable def eT : Obj := .mk (.type "tuple") none (.seq #[]) #[]
noncomputable def lO (l : List (Int × Int × Addr)) : Obj := .mk .none none (.fields (List.toArray (l.flatMap fun x => [.int x.1 0, .int x.2.1 0, .ref x.2.2]))) #[]
noncomputable def sV (s : String) (n : Nat) : Value := .str (Str.ofString s) n
noncomputable def eN (P : Params) (s : String) (n : Nat) (v : Value) : DictEntry := .mk (PyData.keyHash P (Str.ofString s)) (sV s n) v
noncomputable def dt (o : Option Obj) (f : List DictEntry → Data) (g : FuncData → Data) (h : List Value → Data) : Obj :=
  o.elim eF fun o => { o with data := o.data.casesOn .plain (fun _ => .plain) (fun _ _ => .plain) (fun es _ => f es.toList) (fun _ _ _ => .plain) (fun _ _ => .plain) (fun _ => .plain) g (fun _ => .plain) (fun vs => h vs.toList) .plain }
noncomputable def fO (k : Frag) (a : Addr) : Obj :=
  { eF with data := (dt ((k.find? fun p => Nat.beq p.1 a).map (·.2)) (fun _ => .plain) (fun f => .func { f with globals := 0, closure := [], defaults := .none, kwdefaults := .none, doc := .none, pyModule := .none, annotations := none, code := .none, closureTuple := .none, builtins := 0 }) fun _ => .plain).data }
noncomputable def ob (P : Params) : List Obj := (K P).foldr (fun p ih a xs => xs.take (p.1 - a) ++ p.2 :: ih p.1.succ (xs.drop (p.1 - a))) (fun _ xs => xs) 0 [
  boot_o_0 P,
    boot_o_1 P,
    boot_o_4 P,
    boot_o_5 P,
    boot_o_6 P,
    boot_o_7 P,
    boot_o_8 P,
    boot_o_9 P,
    boot_o_10 P,
    eT,
    lO [(1, 0, 20), (6, 0, 27), (18, 0, 34), (32, 0, 41), (39, 0, 65), (41, 0, 78), (148, 0, 161), (170, 0, 201), (188, 0, 208), (195, 0, 213), (201, 0, 220), (209, 0, 225), (216, 0, 230), (227, 0, 235), (232, 0, 240)],
    .mk (.type "code") none (.fields #[sV "<module>" 182, sV "<module>" 183, sV "/claim/cut.py" 184, .int 1 0, .int 0 0, .int 0 0, .int 0 0, .int 0 0, .ref 11, .bool false, .int 181 0, .ref 12, .none, .none, .none, .none, .int 185 0, .int 1 0, sV "/claim/cut.py" 186]) #[],
    .mk (.type "frame") none .plain #[some (.ref 13), some (.ref 3), some (.ref 3), none, some (sV "__main__" 164), none, some (.ref 0)],
    eF,
    fO (K P) 21,
    eF,
    fO (K P) 28,
    eF,
    fO (K P) 35,
    eT,
    .mk (.type "builtin_function_or_method") none (.fields #[.builtin "type.__prepare__", .type "type"]) #[],
    .mk (.type "dict") none (.dict #[eN P "__module__" 231 (sV "cpy313.graphlib" 216), eN P "__qualname__" 233 (sV "_NodeInfo" 232), eN P "__firstlineno__" 235 (.int 32 234), eN P "__slots__" 239 (.ref 43), eN P "__init__" 247 (.ref 50), eN P "__static_attributes__" 251 (.ref 51)] 6) #[],
    eT,
    lO [(35, 4, 49)],
    .mk (.type "code") none (.fields #[sV "_NodeInfo" 226, sV "_NodeInfo" 227, sV "/claim/cut.py" 228, .int 32 0, .int 0 0, .int 0 0, .int 0 0, .int 0 0, .ref 39, .bool false, .int 181 0, .ref 40, .none, .none, .none, .none, .int 229 0, .int 32 0, sV "/claim/cut.py" 230]) #[],
    .mk (.type "frame") none .plain #[some (.ref 41), some (.ref 3), some (.ref 38), none, some (sV "cpy313.graphlib" 216), none, some (.ref 0)],
    eF,
    fO (K P) 50,
    .mk (.type "list") none (.seq #[sV "node" 236, sV "npredecessors" 237, sV "successors" 238] 1) #[],
    .mk (.type "super") none (.fields #[.ref 54, .ref 54, .ref 54]) #[],
    .mk (.type "builtin_function_or_method") none (.fields #[.builtin "object.__init_subclass__", .ref 54]) #[],
    .mk (.type "builtin_function_or_method") none (.fields #[.builtin "type.__prepare__", .type "type"]) #[],
    .mk (.type "dict") none (.dict #[eN P "__module__" 268 (sV "cpy313.graphlib" 216), eN P "__qualname__" 270 (sV "CycleError" 269), eN P "__firstlineno__" 272 (.int 39 271), eN P "__static_attributes__" 273 (.ref 67)] 4) #[],
    eT,
    eF,
    .mk (.type "code") none (.fields #[sV "CycleError" 263, sV "CycleError" 264, sV "/claim/cut.py" 265, .int 39 0, .int 0 0, .int 0 0, .int 0 0, .int 0 0, .ref 63, .bool false, .int 181 0, .ref 64, .none, .none, .none, .none, .int 266 0, .int 39 0, sV "/claim/cut.py" 267]) #[],
    .mk (.type "frame") none .plain #[some (.ref 65), some (.ref 3), some (.ref 62), none, some (sV "cpy313.graphlib" 216), none, some (.ref 0)],
    .mk (.type "super") none (.fields #[.ref 69, .ref 69, .ref 69]) #[],
    .mk (.type "builtin_function_or_method") none (.fields #[.builtin "object.__init_subclass__", .ref 69]) #[],
    eT,
    .mk (.type "builtin_function_or_method") none (.fields #[.builtin "type.__prepare__", .type "type"]) #[],
    .mk (.type "dict") none (.dict #[eN P "__module__" 286 (sV "cpy313.graphlib" 216), eN P "__qualname__" 288 (sV "TopologicalSorter" 287), eN P "__firstlineno__" 290 (.int 41 289), eN P "__init__" 300 (.ref 87), eN P "_get_nodeinfo" 309 (.ref 94), eN P "add" 321 (.ref 101), eN P "prepare" 327 (.ref 106), eN P "get_ready" 337 (.ref 113), eN P "is_active" 344 (.ref 120), eN P "__bool__" 351 (.ref 127), eN P "done" 365 (.ref 134), eN P "_find_cycle" 378 (.ref 141), eN P "static_order" 385 (.ref 148), eN P "__static_attributes__" 390 (.ref 149)] 14) #[],
    eT,
    lO [(43, 4, 86), (52, 4, 93), (57, 4, 100), (66, 4, 105), (74, 4, 112), (85, 4, 119), (90, 4, 126), (93, 4, 133), (116, 4, 140), (145, 4, 147)],
    .mk (.type "code") none (.fields #[sV "TopologicalSorter" 281, sV "TopologicalSorter" 282, sV "/claim/cut.py" 283, .int 41 0, .int 0 0, .int 0 0, .int 0 0, .int 0 0, .ref 76, .bool false, .int 181 0, .ref 77, .none, .none, .none, .none, .int 284 0, .int 41 0, sV "/claim/cut.py" 285]) #[],
    .mk (.type "frame") none .plain #[some (.ref 78), some (.ref 3), some (.ref 75), none, some (sV "cpy313.graphlib" 216), none, some (.ref 0)],
    eF,
    fO (K P) 87,
    eF,
    fO (K P) 94,
    eF,
    fO (K P) 101,
    eF,
    fO (K P) 106,
    eF,
    fO (K P) 113,
    eF,
    fO (K P) 120,
    eF,
    fO (K P) 127,
    eF,
    fO (K P) 134,
    eF,
    fO (K P) 141,
    eF,
    fO (K P) 148,
    .mk (.type "super") none (.fields #[.ref 151, .ref 151, .ref 151]) #[],
    .mk (.type "builtin_function_or_method") none (.fields #[.builtin "object.__init_subclass__", .ref 151]) #[],
    eF,
    fO (K P) 162,
    eF,
    fO (K P) 202,
    eF,
    fO (K P) 209,
    eF,
    fO (K P) 214,
    eF,
    fO (K P) 221,
    eF,
    fO (K P) 226,
    eF,
    fO (K P) 231,
    eF,
    fO (K P) 236,
    eF,
    fO (K P) 241
]
noncomputable def fin (P : Params) : Heap := ⟨Array.mk (ob P), {}⟩
/-- the top's state where n + 13 objects lie, k + 1 names are bound, m / 3 lines of the text's code are told -/
noncomputable def mid (w : World) (v : Value) (k m n tk : Nat) (os : OsState) : Shared :=
  ⟨⟨Array.mk ((fun l : List Obj => l.take 3 ++ dt l[3]? (fun es => .dict (List.toArray ((es.take 1).map (fun e => { e with val := v }) ++ (es.drop 1).take k)) k.succ) (fun _ => .plain) (fun _ => .plain) ::
    ((l.drop 4).take 8 ++ dt l[12]? (fun _ => .plain) (fun _ => .plain) (fun vs => .fields (List.toArray (vs.take m))) :: (l.drop 13).take n)) (ob w.params)), {}⟩, Array.mk [], {}, tk, os⟩
noncomputable def bd : List Stmt := behindTheImports Pt
noncomputable def en : Env := { scope := Pt.main.scope, locals := mainNs, globals := mainNs, cells := [], code := .ref 13, frame := some 14 }
noncomputable abbrev cE : Code := .body bd en
noncomputable abbrev p0 : Pos := ⟨0, 0, 0, 0⟩
noncomputable abbrev ann : Option Value := some (.ref 6)
noncomputable def pa : Pos := ⟨32, 0, 38, 28⟩
noncomputable def p1 : Pos := ⟨39, 0, 40, 8⟩
noncomputable def p2 : Pos := ⟨41, 0, 146, 16⟩
noncomputable def p3 : Pos := ⟨232, 0, 246, 64⟩
noncomputable abbrev B : List Frame := [topFrame p0]
noncomputable def s0 (w : World) (os : OsState) : Shared := mid w (sV "__main__" 164) 8 0 2 187 os
noncomputable def sa (w : World) (os : OsState) : Shared := mid w (sV "cpy313.graphlib" 216) 15 12 47 261 os
noncomputable def s1 (w : World) (os : OsState) : Shared := mid w (sV "cpy313.graphlib" 216) 16 15 60 279 os
noncomputable def s2 (w : World) (os : OsState) : Shared := mid w (sV "cpy313.graphlib" 216) 17 18 143 398 os
noncomputable def s3 (w : World) (os : OsState) : Shared := ⟨fin w.params, Array.mk [], {}, 537, os⟩
theorem go0 (w : World) (os : OsState) : topGo treeTable Pt w 11 ann 12 ⟨boot_heap w.params, Array.mk [], boot_drawn, boot_toks, os⟩ (topStub Pt) = some (s0 w os, ⟨denote treeTable cE, cE, p0, B⟩) := by kernel_rfl
theorem go1 (w : World) (os : OsState) : segRun treeTable Pt w 11 ann 1 1 (s0 w os) (blockOf bd en cE p0 B) = some (.next, s0 w os, cE, p0) := by kernel_rfl
theorem sg1 (w : World) (os : OsState) : segRun treeTable Pt w 11 ann 1 700 (s0 w os) (piecesOf (bd.take 9) en cE p0 B) = some (.next, sa w os, cE, pa) := by kernel_rfl
theorem sga (w : World) (os : OsState) : segRun treeTable Pt w 11 ann 1 700 (sa w os) (piecesOf ((bd.drop 9).take 1) en cE pa B) = some (.next, s1 w os, cE, p1) := by kernel_rfl
theorem sg2 (w : World) (os : OsState) : segRun treeTable Pt w 11 ann 1 700 (s1 w os) (piecesOf (((bd.drop 9).drop 1).take 1) en cE p1 B) = some (.next, s2 w os, cE, p2) := by kernel_rfl
theorem sg3 (w : World) (os : OsState) : segRun treeTable Pt w 11 ann 1 700 (s2 w os) (piecesOf (((bd.drop 9).drop 1).drop 1) en cE p2 B) = some (.next, s3 w os, cE, p3) := by kernel_rfl
theorem go2 (w : World) (os : OsState) : topRun treeTable Pt w 11 ann 2 (s3 w os) ⟨doneF .next, cE, p3, B⟩ = some (s3 w os) := by kernel_rfl
theorem bd_cut : bd = bd.take 9 ++ ((bd.drop 9).take 1 ++ (((bd.drop 9).drop 1).take 1 ++ (((bd.drop 9).drop 1).drop 1 ++ []))) := by
  rw [List.append_nil, List.take_append_drop, List.take_append_drop, List.take_append_drop]
theorem ran (w : World) (os : OsState) : topRun treeTable Pt w 11 ann (12 + (1 + (700 + (700 + (700 + (700 + 2)))))) ⟨boot_heap w.params, Array.mk [], boot_drawn, boot_toks, os⟩ (topStub Pt) = some (s3 w os) := by
  have h := piece_app (sg1 w os) (piece_app (sga w os) (piece_app (sg2 w os) (piece_app (sg3 w os) (piece_nil (go2 w os)))))
  rw [← bd_cut] at h
  exact go_top (go0 w os) (piece_block (go1 w os) h)
noncomputable abbrev V : Program := pre.view_1
noncomputable abbrev Ls : List Str := [Str.ofString "_NodeInfo", Str.ofString "_filemode_table"]
noncomputable abbrev Ms : List Str := importedModules Pt.main.body
theorem lk1 (w : World) (os : OsState) : (staticsOk Ms (boot_heap w.params) (fin w.params) && namesBound Pt (fin w.params) && gensDone (s3 w os) && laidKept (boot_heap w.params) (fin w.params)) = true := by kernel_rfl
theorem lk2 (w : World) (os : OsState) : seen ((recsOf V).map (·.name)) (ownsOf V) [] { s3 w os with gens := #[] } = expectedOf V := by kernel_rfl
theorem lk4 (w : World) : ((fin w.params).keysOk (looseW V Ls) ((recsOf V).map (·.name)) ((litsOf V).map (·.1)) ((clssOf V (looseW V Ls)).map (·.name)) && (fin w.params).accountedOkI Ms && (fin w.params).isNs mainGlobals && (fin w.params).isNs builtinsNs && tablesOk V (fin w.params)) = true := by kernel_rfl
theorem lk5 (w : World) (os : OsState) : (tabsOk V (s3 w os), pinSeenD V (drecsOf V) (s3 w os), plainSeenE V (looseW V Ls) (s3 w os), plainSeenD V Ls (s3 w os), wideSeen V (s3 w os), clsSeenW V Ls (s3 w os)) = (true, pinGoodD (drecsOf V), plainGoodE V (looseW V Ls), plainGoodD V Ls, wideGood V, clsGoodW V Ls) := by kernel_rfl
theorem seen_is {q : Program} {loose mods : List Str} {Xt : Shared → Bool} {s : Shared} (h2 : seen ((recsOf q).map (·.name)) (ownsOf q) [] { s with gens := #[] } = expectedOf q) (h3 : s.heap.bltView = bltViewBooted)
    (h4 : (s.heap.keysOk (looseW q loose) ((recsOf q).map (·.name)) ((litsOf q).map (·.1)) ((clssOf q (looseW q loose)).map (·.name)) && s.heap.accountedOkI mods && s.heap.isNs mainGlobals && s.heap.isNs builtinsNs && tablesOk q s.heap) = true)
    (hX : Xt s = true) (hg : (s.gens.size == 0) = true) (h5 : (tabsOk q s, pinSeenD q (drecsOf q) s, plainSeenE q (looseW q loose) s, plainSeenD q loose s, wideSeen q s, clsSeenW q loose s) = (true, pinGoodD (drecsOf q), plainGoodE q (looseW q loose), plainGoodD q loose, wideGood q, clsGoodW q loose)) :
    openSeen q loose mods Xt true s = openGood q loose :=
  looks_pair h2 (looks_pair h3 (looks_pair (look_both (look_both h4 hX) hg) h5))
theorem left {q : Program} {Xt : Shared → Bool} {α : Type} {Yf : Shared → α} {Ya : World → α} (hq : q = V) (hX : ∀ w os, Xt (s3 w os) = true) (hY : ∀ w os, Yf (s3 w os) = Ya w) : LeftO Pt q Ls Xt Yf Ya 3588 := by
  subst hq
  exact LeftO.of_pieces (H₀ := boot_heap) (H₁ := fin) (gs₀ := Array.mk []) (gs₁ := Array.mk []) (d₀ := boot_drawn) (d₁ := {}) (k₀ := boot_toks) (k₁ := 537) (m₀ := 11) (ann := ann) (boot_open (by kernel_rfl) (by kernel_rfl) (by intro s; kernel_rfl)) (by intro w; kernel_rfl) ran (by kernel_rfl)
    fun w => funext fun os => looks_pair (lk1 w os) (looks_pair (seen_is (lk2 w os) (by kernel_rfl) (lk4 w) (hX w os) (by kernel_rfl) (lk5 w os)) (hY w os))
theorem said0 : looksOpen Pt = true := by
  unfold looksOpen
  repeat' (with_reducible refine look_both ?_ ?_)
  all_goals decide +kernel
theorem said : PySem.Challenge.rw_oy0323_01.wellSaid = true := by
  unfold OpenLaw.wellSaid OpenRow.wellSaid OpenRow.partSaid
  rw [said0]
  decide +kernel
theorem kwh : True := by
  (k_with "H:left" => (case hl => exact MineH.left rfl (by intro w os; kernel_rfl) (by intro w os; kernel_rfl)))
  (k_with "H:law" => (refine' holds_law MineH.said fun said => ?_))
  trivial
end MineH
local macro_rules | `(tactic| o_law) => `(tactic| k_extra "H:law")
open_top hd for PySem.Challenge.rw_oy0323_01
end
open PySem.Spec PySem.Calls PyProof.V
namespace Mine
noncomputable def HidQ (prog : Program) (w : World) (A : Around) (env : Env) (rest : List Stmt) (Q : Flow → Shared → Prop) (E : Value → Shared → Prop) (Q' : Flow → Shared → Prop) : Prop :=
  (∀ s', wpAny (model prog w) A (execs rest env) Q E s' → Q' .next s') ∧ (∀ f s', f ≠ .next → Q f s' → Q' f s')
theorem execs_consG {prog : Program} {w : World} {A : Around} {env : Env} {st : Stmt} {rest : List Stmt} {Q : Flow → Shared → Prop} {E : Value → Shared → Prop} {s : Shared}
    (h : ∀ (Q' : Flow → Shared → Prop) (tk : Nat), HidQ prog w A env rest Q E Q' → wpAny (model prog w) A (exec st env) Q' E ⟨s.heap, s.gens, s.drawn, tk, s.os⟩) :
    wpAny (model prog w) A (execs (st :: rest) env) Q E s :=
  wpAny_execs_cons (h _ s.toks ⟨fun s' k => k, fun f s' hf k => by cases f <;> first | exact absurd rfl hf | exact k⟩)
section
variable {prog : Program} {w : World} {A : Around} {env : Env} {rest : List Stmt} {Q : Flow → Shared → Prop} {E : Value → Shared → Prop} {Q' : Flow → Shared → Prop} {v : Value} {s : Shared}
theorem stepN (h : HidQ prog w A env rest Q E Q') (hp : wpAny (model prog w) A (execs rest env) Q E s) : Q' .next s := h.1 s hp
theorem stepRet (h : HidQ prog w A env rest Q E Q') (hq : Q (.ret v) s) : Q' (.ret v) s := h.2 _ s (by intro c; cases c) hq
theorem stepCont (h : HidQ prog w A env rest Q E Q') (hq : Q .cont s) : Q' .cont s := h.2 _ s (by intro c; cases c) hq
theorem stepBrk (h : HidQ prog w A env rest Q E Q') (hq : Q .brk s) : Q' .brk s := h.2 _ s (by intro c; cases c) hq
end
theorem hideP {P : Prop} (h : ∀ G : Prop, (P → G) → G) : P := h _ id
theorem e0_2  {P0 P1 : Prop} {G : Prop} (h : P0 ∧ P1) (g : P0 → P1 → G) : G := by rcases h with ⟨h0, h1⟩; exact g h0 h1
theorem e0_3  {P0 P1 P2 : Prop} {G : Prop} (h : P0 ∧ P1 ∧ P2) (g : P0 → P1 → P2 → G) : G := by rcases h with ⟨h0, h1, h2⟩; exact g h0 h1 h2
theorem e0_4  {P0 P1 P2 P3 : Prop} {G : Prop} (h : P0 ∧ P1 ∧ P2 ∧ P3) (g : P0 → P1 → P2 → P3 → G) : G := by rcases h with ⟨h0, h1, h2, h3⟩; exact g h0 h1 h2 h3
theorem e0_5  {P0 P1 P2 P3 P4 : Prop} {G : Prop} (h : P0 ∧ P1 ∧ P2 ∧ P3 ∧ P4) (g : P0 → P1 → P2 → P3 → P4 → G) : G := by rcases h with ⟨h0, h1, h2, h3, h4⟩; exact g h0 h1 h2 h3 h4
theorem e0_6  {P0 P1 P2 P3 P4 P5 : Prop} {G : Prop} (h : P0 ∧ P1 ∧ P2 ∧ P3 ∧ P4 ∧ P5) (g : P0 → P1 → P2 → P3 → P4 → P5 → G) : G := by rcases h with ⟨h0, h1, h2, h3, h4, h5⟩; exact g h0 h1 h2 h3 h4 h5
theorem e0_7  {P0 P1 P2 P3 P4 P5 P6 : Prop} {G : Prop} (h : P0 ∧ P1 ∧ P2 ∧ P3 ∧ P4 ∧ P5 ∧ P6) (g : P0 → P1 → P2 → P3 → P4 → P5 → P6 → G) : G := by rcases h with ⟨h0, h1, h2, h3, h4, h5, h6⟩; exact g h0 h1 h2 h3 h4 h5 h6
theorem e1_1 {α0 : Sort _} {P0 : α0 → Prop} {G : Prop} (h : ∃ a0, P0 a0) (g : ∀ a0, P0 a0 → G) : G := by rcases h with ⟨a0, h0⟩; exact g a0 h0
theorem e1_2 {α0 : Sort _} {P0 P1 : α0 → Prop} {G : Prop} (h : ∃ a0, P0 a0 ∧ P1 a0) (g : ∀ a0, P0 a0 → P1 a0 → G) : G := by rcases h with ⟨a0, h0, h1⟩; exact g a0 h0 h1
theorem e1_3 {α0 : Sort _} {P0 P1 P2 : α0 → Prop} {G : Prop} (h : ∃ a0, P0 a0 ∧ P1 a0 ∧ P2 a0) (g : ∀ a0, P0 a0 → P1 a0 → P2 a0 → G) : G := by rcases h with ⟨a0, h0, h1, h2⟩; exact g a0 h0 h1 h2
theorem e1_4 {α0 : Sort _} {P0 P1 P2 P3 : α0 → Prop} {G : Prop} (h : ∃ a0, P0 a0 ∧ P1 a0 ∧ P2 a0 ∧ P3 a0) (g : ∀ a0, P0 a0 → P1 a0 → P2 a0 → P3 a0 → G) : G := by rcases h with ⟨a0, h0, h1, h2, h3⟩; exact g a0 h0 h1 h2 h3
theorem e2_1 {α0 : Sort _} {α1 : Sort _} {P0 : α0 → α1 → Prop} {G : Prop} (h : ∃ a0 a1, P0 a0 a1) (g : ∀ a0 a1, P0 a0 a1 → G) : G := by rcases h with ⟨a0, a1, h0⟩; exact g a0 a1 h0
theorem e2_2 {α0 : Sort _} {α1 : Sort _} {P0 P1 : α0 → α1 → Prop} {G : Prop} (h : ∃ a0 a1, P0 a0 a1 ∧ P1 a0 a1) (g : ∀ a0 a1, P0 a0 a1 → P1 a0 a1 → G) : G := by rcases h with ⟨a0, a1, h0, h1⟩; exact g a0 a1 h0 h1
theorem e2_3 {α0 : Sort _} {α1 : Sort _} {P0 P1 P2 : α0 → α1 → Prop} {G : Prop} (h : ∃ a0 a1, P0 a0 a1 ∧ P1 a0 a1 ∧ P2 a0 a1) (g : ∀ a0 a1, P0 a0 a1 → P1 a0 a1 → P2 a0 a1 → G) : G := by rcases h with ⟨a0, a1, h0, h1, h2⟩; exact g a0 a1 h0 h1 h2
theorem e2_4 {α0 : Sort _} {α1 : Sort _} {P0 P1 P2 P3 : α0 → α1 → Prop} {G : Prop} (h : ∃ a0 a1, P0 a0 a1 ∧ P1 a0 a1 ∧ P2 a0 a1 ∧ P3 a0 a1) (g : ∀ a0 a1, P0 a0 a1 → P1 a0 a1 → P2 a0 a1 → P3 a0 a1 → G) : G := by rcases h with ⟨a0, a1, h0, h1, h2, h3⟩; exact g a0 a1 h0 h1 h2 h3
theorem e2_5 {α0 : Sort _} {α1 : Sort _} {P0 P1 P2 P3 P4 : α0 → α1 → Prop} {G : Prop} (h : ∃ a0 a1, P0 a0 a1 ∧ P1 a0 a1 ∧ P2 a0 a1 ∧ P3 a0 a1 ∧ P4 a0 a1) (g : ∀ a0 a1, P0 a0 a1 → P1 a0 a1 → P2 a0 a1 → P3 a0 a1 → P4 a0 a1 → G) : G := by rcases h with ⟨a0, a1, h0, h1, h2, h3, h4⟩; exact g a0 a1 h0 h1 h2 h3 h4
theorem e3_2 {α0 : Sort _} {α1 : Sort _} {α2 : Sort _} {P0 P1 : α0 → α1 → α2 → Prop} {G : Prop} (h : ∃ a0 a1 a2, P0 a0 a1 a2 ∧ P1 a0 a1 a2) (g : ∀ a0 a1 a2, P0 a0 a1 a2 → P1 a0 a1 a2 → G) : G := by rcases h with ⟨a0, a1, a2, h0, h1⟩; exact g a0 a1 a2 h0 h1
theorem e3_3 {α0 : Sort _} {α1 : Sort _} {α2 : Sort _} {P0 P1 P2 : α0 → α1 → α2 → Prop} {G : Prop} (h : ∃ a0 a1 a2, P0 a0 a1 a2 ∧ P1 a0 a1 a2 ∧ P2 a0 a1 a2) (g : ∀ a0 a1 a2, P0 a0 a1 a2 → P1 a0 a1 a2 → P2 a0 a1 a2 → G) : G := by rcases h with ⟨a0, a1, a2, h0, h1, h2⟩; exact g a0 a1 a2 h0 h1 h2
theorem e3_4 {α0 : Sort _} {α1 : Sort _} {α2 : Sort _} {P0 P1 P2 P3 : α0 → α1 → α2 → Prop} {G : Prop} (h : ∃ a0 a1 a2, P0 a0 a1 a2 ∧ P1 a0 a1 a2 ∧ P2 a0 a1 a2 ∧ P3 a0 a1 a2) (g : ∀ a0 a1 a2, P0 a0 a1 a2 → P1 a0 a1 a2 → P2 a0 a1 a2 → P3 a0 a1 a2 → G) : G := by rcases h with ⟨a0, a1, a2, h0, h1, h2, h3⟩; exact g a0 a1 a2 h0 h1 h2 h3
theorem e3_5 {α0 : Sort _} {α1 : Sort _} {α2 : Sort _} {P0 P1 P2 P3 P4 : α0 → α1 → α2 → Prop} {G : Prop} (h : ∃ a0 a1 a2, P0 a0 a1 a2 ∧ P1 a0 a1 a2 ∧ P2 a0 a1 a2 ∧ P3 a0 a1 a2 ∧ P4 a0 a1 a2) (g : ∀ a0 a1 a2, P0 a0 a1 a2 → P1 a0 a1 a2 → P2 a0 a1 a2 → P3 a0 a1 a2 → P4 a0 a1 a2 → G) : G := by rcases h with ⟨a0, a1, a2, h0, h1, h2, h3, h4⟩; exact g a0 a1 a2 h0 h1 h2 h3 h4
theorem e4_2 {α0 : Sort _} {α1 : Sort _} {α2 : Sort _} {α3 : Sort _} {P0 P1 : α0 → α1 → α2 → α3 → Prop} {G : Prop} (h : ∃ a0 a1 a2 a3, P0 a0 a1 a2 a3 ∧ P1 a0 a1 a2 a3) (g : ∀ a0 a1 a2 a3, P0 a0 a1 a2 a3 → P1 a0 a1 a2 a3 → G) : G := by rcases h with ⟨a0, a1, a2, a3, h0, h1⟩; exact g a0 a1 a2 a3 h0 h1
theorem e4_3 {α0 : Sort _} {α1 : Sort _} {α2 : Sort _} {α3 : Sort _} {P0 P1 P2 : α0 → α1 → α2 → α3 → Prop} {G : Prop} (h : ∃ a0 a1 a2 a3, P0 a0 a1 a2 a3 ∧ P1 a0 a1 a2 a3 ∧ P2 a0 a1 a2 a3) (g : ∀ a0 a1 a2 a3, P0 a0 a1 a2 a3 → P1 a0 a1 a2 a3 → P2 a0 a1 a2 a3 → G) : G := by rcases h with ⟨a0, a1, a2, a3, h0, h1, h2⟩; exact g a0 a1 a2 a3 h0 h1 h2
theorem e4_4 {α0 : Sort _} {α1 : Sort _} {α2 : Sort _} {α3 : Sort _} {P0 P1 P2 P3 : α0 → α1 → α2 → α3 → Prop} {G : Prop} (h : ∃ a0 a1 a2 a3, P0 a0 a1 a2 a3 ∧ P1 a0 a1 a2 a3 ∧ P2 a0 a1 a2 a3 ∧ P3 a0 a1 a2 a3) (g : ∀ a0 a1 a2 a3, P0 a0 a1 a2 a3 → P1 a0 a1 a2 a3 → P2 a0 a1 a2 a3 → P3 a0 a1 a2 a3 → G) : G := by rcases h with ⟨a0, a1, a2, a3, h0, h1, h2, h3⟩; exact g a0 a1 a2 a3 h0 h1 h2 h3
theorem e4_5 {α0 : Sort _} {α1 : Sort _} {α2 : Sort _} {α3 : Sort _} {P0 P1 P2 P3 P4 : α0 → α1 → α2 → α3 → Prop} {G : Prop} (h : ∃ a0 a1 a2 a3, P0 a0 a1 a2 a3 ∧ P1 a0 a1 a2 a3 ∧ P2 a0 a1 a2 a3 ∧ P3 a0 a1 a2 a3 ∧ P4 a0 a1 a2 a3) (g : ∀ a0 a1 a2 a3, P0 a0 a1 a2 a3 → P1 a0 a1 a2 a3 → P2 a0 a1 a2 a3 → P3 a0 a1 a2 a3 → P4 a0 a1 a2 a3 → G) : G := by rcases h with ⟨a0, a1, a2, a3, h0, h1, h2, h3, h4⟩; exact g a0 a1 a2 a3 h0 h1 h2 h3 h4
theorem e4_8 {α0 : Sort _} {α1 : Sort _} {α2 : Sort _} {α3 : Sort _} {P0 P1 P2 P3 P4 P5 P6 P7 : α0 → α1 → α2 → α3 → Prop} {G : Prop} (h : ∃ a0 a1 a2 a3, P0 a0 a1 a2 a3 ∧ P1 a0 a1 a2 a3 ∧ P2 a0 a1 a2 a3 ∧ P3 a0 a1 a2 a3 ∧ P4 a0 a1 a2 a3 ∧ P5 a0 a1 a2 a3 ∧ P6 a0 a1 a2 a3 ∧ P7 a0 a1 a2 a3) (g : ∀ a0 a1 a2 a3, P0 a0 a1 a2 a3 → P1 a0 a1 a2 a3 → P2 a0 a1 a2 a3 → P3 a0 a1 a2 a3 → P4 a0 a1 a2 a3 → P5 a0 a1 a2 a3 → P6 a0 a1 a2 a3 → P7 a0 a1 a2 a3 → G) : G := by rcases h with ⟨a0, a1, a2, a3, h0, h1, h2, h3, h4, h5, h6, h7⟩; exact g a0 a1 a2 a3 h0 h1 h2 h3 h4 h5 h6 h7
theorem e5_1 {α0 : Sort _} {α1 : Sort _} {α2 : Sort _} {α3 : Sort _} {α4 : Sort _} {P0 : α0 → α1 → α2 → α3 → α4 → Prop} {G : Prop} (h : ∃ a0 a1 a2 a3 a4, P0 a0 a1 a2 a3 a4) (g : ∀ a0 a1 a2 a3 a4, P0 a0 a1 a2 a3 a4 → G) : G := by rcases h with ⟨a0, a1, a2, a3, a4, h0⟩; exact g a0 a1 a2 a3 a4 h0
theorem e5_3 {α0 : Sort _} {α1 : Sort _} {α2 : Sort _} {α3 : Sort _} {α4 : Sort _} {P0 P1 P2 : α0 → α1 → α2 → α3 → α4 → Prop} {G : Prop} (h : ∃ a0 a1 a2 a3 a4, P0 a0 a1 a2 a3 a4 ∧ P1 a0 a1 a2 a3 a4 ∧ P2 a0 a1 a2 a3 a4) (g : ∀ a0 a1 a2 a3 a4, P0 a0 a1 a2 a3 a4 → P1 a0 a1 a2 a3 a4 → P2 a0 a1 a2 a3 a4 → G) : G := by rcases h with ⟨a0, a1, a2, a3, a4, h0, h1, h2⟩; exact g a0 a1 a2 a3 a4 h0 h1 h2
theorem e5_4 {α0 : Sort _} {α1 : Sort _} {α2 : Sort _} {α3 : Sort _} {α4 : Sort _} {P0 P1 P2 P3 : α0 → α1 → α2 → α3 → α4 → Prop} {G : Prop} (h : ∃ a0 a1 a2 a3 a4, P0 a0 a1 a2 a3 a4 ∧ P1 a0 a1 a2 a3 a4 ∧ P2 a0 a1 a2 a3 a4 ∧ P3 a0 a1 a2 a3 a4) (g : ∀ a0 a1 a2 a3 a4, P0 a0 a1 a2 a3 a4 → P1 a0 a1 a2 a3 a4 → P2 a0 a1 a2 a3 a4 → P3 a0 a1 a2 a3 a4 → G) : G := by rcases h with ⟨a0, a1, a2, a3, a4, h0, h1, h2, h3⟩; exact g a0 a1 a2 a3 a4 h0 h1 h2 h3
theorem e5_5 {α0 : Sort _} {α1 : Sort _} {α2 : Sort _} {α3 : Sort _} {α4 : Sort _} {P0 P1 P2 P3 P4 : α0 → α1 → α2 → α3 → α4 → Prop} {G : Prop} (h : ∃ a0 a1 a2 a3 a4, P0 a0 a1 a2 a3 a4 ∧ P1 a0 a1 a2 a3 a4 ∧ P2 a0 a1 a2 a3 a4 ∧ P3 a0 a1 a2 a3 a4 ∧ P4 a0 a1 a2 a3 a4) (g : ∀ a0 a1 a2 a3 a4, P0 a0 a1 a2 a3 a4 → P1 a0 a1 a2 a3 a4 → P2 a0 a1 a2 a3 a4 → P3 a0 a1 a2 a3 a4 → P4 a0 a1 a2 a3 a4 → G) : G := by rcases h with ⟨a0, a1, a2, a3, a4, h0, h1, h2, h3, h4⟩; exact g a0 a1 a2 a3 a4 h0 h1 h2 h3 h4
theorem e5_6 {α0 : Sort _} {α1 : Sort _} {α2 : Sort _} {α3 : Sort _} {α4 : Sort _} {P0 P1 P2 P3 P4 P5 : α0 → α1 → α2 → α3 → α4 → Prop} {G : Prop} (h : ∃ a0 a1 a2 a3 a4, P0 a0 a1 a2 a3 a4 ∧ P1 a0 a1 a2 a3 a4 ∧ P2 a0 a1 a2 a3 a4 ∧ P3 a0 a1 a2 a3 a4 ∧ P4 a0 a1 a2 a3 a4 ∧ P5 a0 a1 a2 a3 a4) (g : ∀ a0 a1 a2 a3 a4, P0 a0 a1 a2 a3 a4 → P1 a0 a1 a2 a3 a4 → P2 a0 a1 a2 a3 a4 → P3 a0 a1 a2 a3 a4 → P4 a0 a1 a2 a3 a4 → P5 a0 a1 a2 a3 a4 → G) : G := by rcases h with ⟨a0, a1, a2, a3, a4, h0, h1, h2, h3, h4, h5⟩; exact g a0 a1 a2 a3 a4 h0 h1 h2 h3 h4 h5
theorem e5_7 {α0 : Sort _} {α1 : Sort _} {α2 : Sort _} {α3 : Sort _} {α4 : Sort _} {P0 P1 P2 P3 P4 P5 P6 : α0 → α1 → α2 → α3 → α4 → Prop} {G : Prop} (h : ∃ a0 a1 a2 a3 a4, P0 a0 a1 a2 a3 a4 ∧ P1 a0 a1 a2 a3 a4 ∧ P2 a0 a1 a2 a3 a4 ∧ P3 a0 a1 a2 a3 a4 ∧ P4 a0 a1 a2 a3 a4 ∧ P5 a0 a1 a2 a3 a4 ∧ P6 a0 a1 a2 a3 a4) (g : ∀ a0 a1 a2 a3 a4, P0 a0 a1 a2 a3 a4 → P1 a0 a1 a2 a3 a4 → P2 a0 a1 a2 a3 a4 → P3 a0 a1 a2 a3 a4 → P4 a0 a1 a2 a3 a4 → P5 a0 a1 a2 a3 a4 → P6 a0 a1 a2 a3 a4 → G) : G := by rcases h with ⟨a0, a1, a2, a3, a4, h0, h1, h2, h3, h4, h5, h6⟩; exact g a0 a1 a2 a3 a4 h0 h1 h2 h3 h4 h5 h6
theorem e6_4 {α0 : Sort _} {α1 : Sort _} {α2 : Sort _} {α3 : Sort _} {α4 : Sort _} {α5 : Sort _} {P0 P1 P2 P3 : α0 → α1 → α2 → α3 → α4 → α5 → Prop} {G : Prop} (h : ∃ a0 a1 a2 a3 a4 a5, P0 a0 a1 a2 a3 a4 a5 ∧ P1 a0 a1 a2 a3 a4 a5 ∧ P2 a0 a1 a2 a3 a4 a5 ∧ P3 a0 a1 a2 a3 a4 a5) (g : ∀ a0 a1 a2 a3 a4 a5, P0 a0 a1 a2 a3 a4 a5 → P1 a0 a1 a2 a3 a4 a5 → P2 a0 a1 a2 a3 a4 a5 → P3 a0 a1 a2 a3 a4 a5 → G) : G := by rcases h with ⟨a0, a1, a2, a3, a4, a5, h0, h1, h2, h3⟩; exact g a0 a1 a2 a3 a4 a5 h0 h1 h2 h3
theorem e6_5 {α0 : Sort _} {α1 : Sort _} {α2 : Sort _} {α3 : Sort _} {α4 : Sort _} {α5 : Sort _} {P0 P1 P2 P3 P4 : α0 → α1 → α2 → α3 → α4 → α5 → Prop} {G : Prop} (h : ∃ a0 a1 a2 a3 a4 a5, P0 a0 a1 a2 a3 a4 a5 ∧ P1 a0 a1 a2 a3 a4 a5 ∧ P2 a0 a1 a2 a3 a4 a5 ∧ P3 a0 a1 a2 a3 a4 a5 ∧ P4 a0 a1 a2 a3 a4 a5) (g : ∀ a0 a1 a2 a3 a4 a5, P0 a0 a1 a2 a3 a4 a5 → P1 a0 a1 a2 a3 a4 a5 → P2 a0 a1 a2 a3 a4 a5 → P3 a0 a1 a2 a3 a4 a5 → P4 a0 a1 a2 a3 a4 a5 → G) : G := by rcases h with ⟨a0, a1, a2, a3, a4, a5, h0, h1, h2, h3, h4⟩; exact g a0 a1 a2 a3 a4 a5 h0 h1 h2 h3 h4
theorem e6_12 {α0 : Sort _} {α1 : Sort _} {α2 : Sort _} {α3 : Sort _} {α4 : Sort _} {α5 : Sort _} {P0 P1 P2 P3 P4 P5 P6 P7 P8 P9 P10 P11 : α0 → α1 → α2 → α3 → α4 → α5 → Prop} {G : Prop} (h : ∃ a0 a1 a2 a3 a4 a5, P0 a0 a1 a2 a3 a4 a5 ∧ P1 a0 a1 a2 a3 a4 a5 ∧ P2 a0 a1 a2 a3 a4 a5 ∧ P3 a0 a1 a2 a3 a4 a5 ∧ P4 a0 a1 a2 a3 a4 a5 ∧ P5 a0 a1 a2 a3 a4 a5 ∧ P6 a0 a1 a2 a3 a4 a5 ∧ P7 a0 a1 a2 a3 a4 a5 ∧ P8 a0 a1 a2 a3 a4 a5 ∧ P9 a0 a1 a2 a3 a4 a5 ∧ P10 a0 a1 a2 a3 a4 a5 ∧ P11 a0 a1 a2 a3 a4 a5) (g : ∀ a0 a1 a2 a3 a4 a5, P0 a0 a1 a2 a3 a4 a5 → P1 a0 a1 a2 a3 a4 a5 → P2 a0 a1 a2 a3 a4 a5 → P3 a0 a1 a2 a3 a4 a5 → P4 a0 a1 a2 a3 a4 a5 → P5 a0 a1 a2 a3 a4 a5 → P6 a0 a1 a2 a3 a4 a5 → P7 a0 a1 a2 a3 a4 a5 → P8 a0 a1 a2 a3 a4 a5 → P9 a0 a1 a2 a3 a4 a5 → P10 a0 a1 a2 a3 a4 a5 → P11 a0 a1 a2 a3 a4 a5 → G) : G := by rcases h with ⟨a0, a1, a2, a3, a4, a5, h0, h1, h2, h3, h4, h5, h6, h7, h8, h9, h10, h11⟩; exact g a0 a1 a2 a3 a4 a5 h0 h1 h2 h3 h4 h5 h6 h7 h8 h9 h10 h11
theorem e7_12 {α0 : Sort _} {α1 : Sort _} {α2 : Sort _} {α3 : Sort _} {α4 : Sort _} {α5 : Sort _} {α6 : Sort _} {P0 P1 P2 P3 P4 P5 P6 P7 P8 P9 P10 P11 : α0 → α1 → α2 → α3 → α4 → α5 → α6 → Prop} {G : Prop} (h : ∃ a0 a1 a2 a3 a4 a5 a6, P0 a0 a1 a2 a3 a4 a5 a6 ∧ P1 a0 a1 a2 a3 a4 a5 a6 ∧ P2 a0 a1 a2 a3 a4 a5 a6 ∧ P3 a0 a1 a2 a3 a4 a5 a6 ∧ P4 a0 a1 a2 a3 a4 a5 a6 ∧ P5 a0 a1 a2 a3 a4 a5 a6 ∧ P6 a0 a1 a2 a3 a4 a5 a6 ∧ P7 a0 a1 a2 a3 a4 a5 a6 ∧ P8 a0 a1 a2 a3 a4 a5 a6 ∧ P9 a0 a1 a2 a3 a4 a5 a6 ∧ P10 a0 a1 a2 a3 a4 a5 a6 ∧ P11 a0 a1 a2 a3 a4 a5 a6) (g : ∀ a0 a1 a2 a3 a4 a5 a6, P0 a0 a1 a2 a3 a4 a5 a6 → P1 a0 a1 a2 a3 a4 a5 a6 → P2 a0 a1 a2 a3 a4 a5 a6 → P3 a0 a1 a2 a3 a4 a5 a6 → P4 a0 a1 a2 a3 a4 a5 a6 → P5 a0 a1 a2 a3 a4 a5 a6 → P6 a0 a1 a2 a3 a4 a5 a6 → P7 a0 a1 a2 a3 a4 a5 a6 → P8 a0 a1 a2 a3 a4 a5 a6 → P9 a0 a1 a2 a3 a4 a5 a6 → P10 a0 a1 a2 a3 a4 a5 a6 → P11 a0 a1 a2 a3 a4 a5 a6 → G) : G := by rcases h with ⟨a0, a1, a2, a3, a4, a5, a6, h0, h1, h2, h3, h4, h5, h6, h7, h8, h9, h10, h11⟩; exact g a0 a1 a2 a3 a4 a5 a6 h0 h1 h2 h3 h4 h5 h6 h7 h8 h9 h10 h11
theorem e8_2 {α0 : Sort _} {α1 : Sort _} {α2 : Sort _} {α3 : Sort _} {α4 : Sort _} {α5 : Sort _} {α6 : Sort _} {α7 : Sort _} {P0 P1 : α0 → α1 → α2 → α3 → α4 → α5 → α6 → α7 → Prop} {G : Prop} (h : ∃ a0 a1 a2 a3 a4 a5 a6 a7, P0 a0 a1 a2 a3 a4 a5 a6 a7 ∧ P1 a0 a1 a2 a3 a4 a5 a6 a7) (g : ∀ a0 a1 a2 a3 a4 a5 a6 a7, P0 a0 a1 a2 a3 a4 a5 a6 a7 → P1 a0 a1 a2 a3 a4 a5 a6 a7 → G) : G := by rcases h with ⟨a0, a1, a2, a3, a4, a5, a6, a7, h0, h1⟩; exact g a0 a1 a2 a3 a4 a5 a6 a7 h0 h1
theorem e8_3 {α0 : Sort _} {α1 : Sort _} {α2 : Sort _} {α3 : Sort _} {α4 : Sort _} {α5 : Sort _} {α6 : Sort _} {α7 : Sort _} {P0 P1 P2 : α0 → α1 → α2 → α3 → α4 → α5 → α6 → α7 → Prop} {G : Prop} (h : ∃ a0 a1 a2 a3 a4 a5 a6 a7, P0 a0 a1 a2 a3 a4 a5 a6 a7 ∧ P1 a0 a1 a2 a3 a4 a5 a6 a7 ∧ P2 a0 a1 a2 a3 a4 a5 a6 a7) (g : ∀ a0 a1 a2 a3 a4 a5 a6 a7, P0 a0 a1 a2 a3 a4 a5 a6 a7 → P1 a0 a1 a2 a3 a4 a5 a6 a7 → P2 a0 a1 a2 a3 a4 a5 a6 a7 → G) : G := by rcases h with ⟨a0, a1, a2, a3, a4, a5, a6, a7, h0, h1, h2⟩; exact g a0 a1 a2 a3 a4 a5 a6 a7 h0 h1 h2
theorem e8_7 {α0 : Sort _} {α1 : Sort _} {α2 : Sort _} {α3 : Sort _} {α4 : Sort _} {α5 : Sort _} {α6 : Sort _} {α7 : Sort _} {P0 P1 P2 P3 P4 P5 P6 : α0 → α1 → α2 → α3 → α4 → α5 → α6 → α7 → Prop} {G : Prop} (h : ∃ a0 a1 a2 a3 a4 a5 a6 a7, P0 a0 a1 a2 a3 a4 a5 a6 a7 ∧ P1 a0 a1 a2 a3 a4 a5 a6 a7 ∧ P2 a0 a1 a2 a3 a4 a5 a6 a7 ∧ P3 a0 a1 a2 a3 a4 a5 a6 a7 ∧ P4 a0 a1 a2 a3 a4 a5 a6 a7 ∧ P5 a0 a1 a2 a3 a4 a5 a6 a7 ∧ P6 a0 a1 a2 a3 a4 a5 a6 a7) (g : ∀ a0 a1 a2 a3 a4 a5 a6 a7, P0 a0 a1 a2 a3 a4 a5 a6 a7 → P1 a0 a1 a2 a3 a4 a5 a6 a7 → P2 a0 a1 a2 a3 a4 a5 a6 a7 → P3 a0 a1 a2 a3 a4 a5 a6 a7 → P4 a0 a1 a2 a3 a4 a5 a6 a7 → P5 a0 a1 a2 a3 a4 a5 a6 a7 → P6 a0 a1 a2 a3 a4 a5 a6 a7 → G) : G := by rcases h with ⟨a0, a1, a2, a3, a4, a5, a6, a7, h0, h1, h2, h3, h4, h5, h6⟩; exact g a0 a1 a2 a3 a4 a5 a6 a7 h0 h1 h2 h3 h4 h5 h6
theorem e8_14 {α0 : Sort _} {α1 : Sort _} {α2 : Sort _} {α3 : Sort _} {α4 : Sort _} {α5 : Sort _} {α6 : Sort _} {α7 : Sort _} {P0 P1 P2 P3 P4 P5 P6 P7 P8 P9 P10 P11 P12 P13 : α0 → α1 → α2 → α3 → α4 → α5 → α6 → α7 → Prop} {G : Prop} (h : ∃ a0 a1 a2 a3 a4 a5 a6 a7, P0 a0 a1 a2 a3 a4 a5 a6 a7 ∧ P1 a0 a1 a2 a3 a4 a5 a6 a7 ∧ P2 a0 a1 a2 a3 a4 a5 a6 a7 ∧ P3 a0 a1 a2 a3 a4 a5 a6 a7 ∧ P4 a0 a1 a2 a3 a4 a5 a6 a7 ∧ P5 a0 a1 a2 a3 a4 a5 a6 a7 ∧ P6 a0 a1 a2 a3 a4 a5 a6 a7 ∧ P7 a0 a1 a2 a3 a4 a5 a6 a7 ∧ P8 a0 a1 a2 a3 a4 a5 a6 a7 ∧ P9 a0 a1 a2 a3 a4 a5 a6 a7 ∧ P10 a0 a1 a2 a3 a4 a5 a6 a7 ∧ P11 a0 a1 a2 a3 a4 a5 a6 a7 ∧ P12 a0 a1 a2 a3 a4 a5 a6 a7 ∧ P13 a0 a1 a2 a3 a4 a5 a6 a7) (g : ∀ a0 a1 a2 a3 a4 a5 a6 a7, P0 a0 a1 a2 a3 a4 a5 a6 a7 → P1 a0 a1 a2 a3 a4 a5 a6 a7 → P2 a0 a1 a2 a3 a4 a5 a6 a7 → P3 a0 a1 a2 a3 a4 a5 a6 a7 → P4 a0 a1 a2 a3 a4 a5 a6 a7 → P5 a0 a1 a2 a3 a4 a5 a6 a7 → P6 a0 a1 a2 a3 a4 a5 a6 a7 → P7 a0 a1 a2 a3 a4 a5 a6 a7 → P8 a0 a1 a2 a3 a4 a5 a6 a7 → P9 a0 a1 a2 a3 a4 a5 a6 a7 → P10 a0 a1 a2 a3 a4 a5 a6 a7 → P11 a0 a1 a2 a3 a4 a5 a6 a7 → P12 a0 a1 a2 a3 a4 a5 a6 a7 → P13 a0 a1 a2 a3 a4 a5 a6 a7 → G) : G := by rcases h with ⟨a0, a1, a2, a3, a4, a5, a6, a7, h0, h1, h2, h3, h4, h5, h6, h7, h8, h9, h10, h11, h12, h13⟩; exact g a0 a1 a2 a3 a4 a5 a6 a7 h0 h1 h2 h3 h4 h5 h6 h7 h8 h9 h10 h11 h12 h13
theorem e8_15 {α0 : Sort _} {α1 : Sort _} {α2 : Sort _} {α3 : Sort _} {α4 : Sort _} {α5 : Sort _} {α6 : Sort _} {α7 : Sort _} {P0 P1 P2 P3 P4 P5 P6 P7 P8 P9 P10 P11 P12 P13 P14 : α0 → α1 → α2 → α3 → α4 → α5 → α6 → α7 → Prop} {G : Prop} (h : ∃ a0 a1 a2 a3 a4 a5 a6 a7, P0 a0 a1 a2 a3 a4 a5 a6 a7 ∧ P1 a0 a1 a2 a3 a4 a5 a6 a7 ∧ P2 a0 a1 a2 a3 a4 a5 a6 a7 ∧ P3 a0 a1 a2 a3 a4 a5 a6 a7 ∧ P4 a0 a1 a2 a3 a4 a5 a6 a7 ∧ P5 a0 a1 a2 a3 a4 a5 a6 a7 ∧ P6 a0 a1 a2 a3 a4 a5 a6 a7 ∧ P7 a0 a1 a2 a3 a4 a5 a6 a7 ∧ P8 a0 a1 a2 a3 a4 a5 a6 a7 ∧ P9 a0 a1 a2 a3 a4 a5 a6 a7 ∧ P10 a0 a1 a2 a3 a4 a5 a6 a7 ∧ P11 a0 a1 a2 a3 a4 a5 a6 a7 ∧ P12 a0 a1 a2 a3 a4 a5 a6 a7 ∧ P13 a0 a1 a2 a3 a4 a5 a6 a7 ∧ P14 a0 a1 a2 a3 a4 a5 a6 a7) (g : ∀ a0 a1 a2 a3 a4 a5 a6 a7, P0 a0 a1 a2 a3 a4 a5 a6 a7 → P1 a0 a1 a2 a3 a4 a5 a6 a7 → P2 a0 a1 a2 a3 a4 a5 a6 a7 → P3 a0 a1 a2 a3 a4 a5 a6 a7 → P4 a0 a1 a2 a3 a4 a5 a6 a7 → P5 a0 a1 a2 a3 a4 a5 a6 a7 → P6 a0 a1 a2 a3 a4 a5 a6 a7 → P7 a0 a1 a2 a3 a4 a5 a6 a7 → P8 a0 a1 a2 a3 a4 a5 a6 a7 → P9 a0 a1 a2 a3 a4 a5 a6 a7 → P10 a0 a1 a2 a3 a4 a5 a6 a7 → P11 a0 a1 a2 a3 a4 a5 a6 a7 → P12 a0 a1 a2 a3 a4 a5 a6 a7 → P13 a0 a1 a2 a3 a4 a5 a6 a7 → P14 a0 a1 a2 a3 a4 a5 a6 a7 → G) : G := by rcases h with ⟨a0, a1, a2, a3, a4, a5, a6, a7, h0, h1, h2, h3, h4, h5, h6, h7, h8, h9, h10, h11, h12, h13, h14⟩; exact g a0 a1 a2 a3 a4 a5 a6 a7 h0 h1 h2 h3 h4 h5 h6 h7 h8 h9 h10 h11 h12 h13 h14
theorem e9_8 {α0 : Sort _} {α1 : Sort _} {α2 : Sort _} {α3 : Sort _} {α4 : Sort _} {α5 : Sort _} {α6 : Sort _} {α7 : Sort _} {α8 : Sort _} {P0 P1 P2 P3 P4 P5 P6 P7 : α0 → α1 → α2 → α3 → α4 → α5 → α6 → α7 → α8 → Prop} {G : Prop} (h : ∃ a0 a1 a2 a3 a4 a5 a6 a7 a8, P0 a0 a1 a2 a3 a4 a5 a6 a7 a8 ∧ P1 a0 a1 a2 a3 a4 a5 a6 a7 a8 ∧ P2 a0 a1 a2 a3 a4 a5 a6 a7 a8 ∧ P3 a0 a1 a2 a3 a4 a5 a6 a7 a8 ∧ P4 a0 a1 a2 a3 a4 a5 a6 a7 a8 ∧ P5 a0 a1 a2 a3 a4 a5 a6 a7 a8 ∧ P6 a0 a1 a2 a3 a4 a5 a6 a7 a8 ∧ P7 a0 a1 a2 a3 a4 a5 a6 a7 a8) (g : ∀ a0 a1 a2 a3 a4 a5 a6 a7 a8, P0 a0 a1 a2 a3 a4 a5 a6 a7 a8 → P1 a0 a1 a2 a3 a4 a5 a6 a7 a8 → P2 a0 a1 a2 a3 a4 a5 a6 a7 a8 → P3 a0 a1 a2 a3 a4 a5 a6 a7 a8 → P4 a0 a1 a2 a3 a4 a5 a6 a7 a8 → P5 a0 a1 a2 a3 a4 a5 a6 a7 a8 → P6 a0 a1 a2 a3 a4 a5 a6 a7 a8 → P7 a0 a1 a2 a3 a4 a5 a6 a7 a8 → G) : G := by rcases h with ⟨a0, a1, a2, a3, a4, a5, a6, a7, a8, h0, h1, h2, h3, h4, h5, h6, h7⟩; exact g a0 a1 a2 a3 a4 a5 a6 a7 a8 h0 h1 h2 h3 h4 h5 h6 h7
theorem e10_1 {α0 : Sort _} {α1 : Sort _} {α2 : Sort _} {α3 : Sort _} {α4 : Sort _} {α5 : Sort _} {α6 : Sort _} {α7 : Sort _} {α8 : Sort _} {α9 : Sort _} {P0 : α0 → α1 → α2 → α3 → α4 → α5 → α6 → α7 → α8 → α9 → Prop} {G : Prop} (h : ∃ a0 a1 a2 a3 a4 a5 a6 a7 a8 a9, P0 a0 a1 a2 a3 a4 a5 a6 a7 a8 a9) (g : ∀ a0 a1 a2 a3 a4 a5 a6 a7 a8 a9, P0 a0 a1 a2 a3 a4 a5 a6 a7 a8 a9 → G) : G := by rcases h with ⟨a0, a1, a2, a3, a4, a5, a6, a7, a8, a9, h0⟩; exact g a0 a1 a2 a3 a4 a5 a6 a7 a8 a9 h0
theorem e13_13 {α0 : Sort _} {α1 : Sort _} {α2 : Sort _} {α3 : Sort _} {α4 : Sort _} {α5 : Sort _} {α6 : Sort _} {α7 : Sort _} {α8 : Sort _} {α9 : Sort _} {α10 : Sort _} {α11 : Sort _} {α12 : Sort _} {P0 P1 P2 P3 P4 P5 P6 P7 P8 P9 P10 P11 P12 : α0 → α1 → α2 → α3 → α4 → α5 → α6 → α7 → α8 → α9 → α10 → α11 → α12 → Prop} {G : Prop} (h : ∃ a0 a1 a2 a3 a4 a5 a6 a7 a8 a9 a10 a11 a12, P0 a0 a1 a2 a3 a4 a5 a6 a7 a8 a9 a10 a11 a12 ∧ P1 a0 a1 a2 a3 a4 a5 a6 a7 a8 a9 a10 a11 a12 ∧ P2 a0 a1 a2 a3 a4 a5 a6 a7 a8 a9 a10 a11 a12 ∧ P3 a0 a1 a2 a3 a4 a5 a6 a7 a8 a9 a10 a11 a12 ∧ P4 a0 a1 a2 a3 a4 a5 a6 a7 a8 a9 a10 a11 a12 ∧ P5 a0 a1 a2 a3 a4 a5 a6 a7 a8 a9 a10 a11 a12 ∧ P6 a0 a1 a2 a3 a4 a5 a6 a7 a8 a9 a10 a11 a12 ∧ P7 a0 a1 a2 a3 a4 a5 a6 a7 a8 a9 a10 a11 a12 ∧ P8 a0 a1 a2 a3 a4 a5 a6 a7 a8 a9 a10 a11 a12 ∧ P9 a0 a1 a2 a3 a4 a5 a6 a7 a8 a9 a10 a11 a12 ∧ P10 a0 a1 a2 a3 a4 a5 a6 a7 a8 a9 a10 a11 a12 ∧ P11 a0 a1 a2 a3 a4 a5 a6 a7 a8 a9 a10 a11 a12 ∧ P12 a0 a1 a2 a3 a4 a5 a6 a7 a8 a9 a10 a11 a12) (g : ∀ a0 a1 a2 a3 a4 a5 a6 a7 a8 a9 a10 a11 a12, P0 a0 a1 a2 a3 a4 a5 a6 a7 a8 a9 a10 a11 a12 → P1 a0 a1 a2 a3 a4 a5 a6 a7 a8 a9 a10 a11 a12 → P2 a0 a1 a2 a3 a4 a5 a6 a7 a8 a9 a10 a11 a12 → P3 a0 a1 a2 a3 a4 a5 a6 a7 a8 a9 a10 a11 a12 → P4 a0 a1 a2 a3 a4 a5 a6 a7 a8 a9 a10 a11 a12 → P5 a0 a1 a2 a3 a4 a5 a6 a7 a8 a9 a10 a11 a12 → P6 a0 a1 a2 a3 a4 a5 a6 a7 a8 a9 a10 a11 a12 → P7 a0 a1 a2 a3 a4 a5 a6 a7 a8 a9 a10 a11 a12 → P8 a0 a1 a2 a3 a4 a5 a6 a7 a8 a9 a10 a11 a12 → P9 a0 a1 a2 a3 a4 a5 a6 a7 a8 a9 a10 a11 a12 → P10 a0 a1 a2 a3 a4 a5 a6 a7 a8 a9 a10 a11 a12 → P11 a0 a1 a2 a3 a4 a5 a6 a7 a8 a9 a10 a11 a12 → P12 a0 a1 a2 a3 a4 a5 a6 a7 a8 a9 a10 a11 a12 → G) : G := by rcases h with ⟨a0, a1, a2, a3, a4, a5, a6, a7, a8, a9, a10, a11, a12, h0, h1, h2, h3, h4, h5, h6, h7, h8, h9, h10, h11, h12⟩; exact g a0 a1 a2 a3 a4 a5 a6 a7 a8 a9 a10 a11 a12 h0 h1 h2 h3 h4 h5 h6 h7 h8 h9 h10 h11 h12
theorem i8_14 {α0 : Sort _} {α1 : Sort _} {α2 : Sort _} {α3 : Sort _} {α4 : Sort _} {α5 : Sort _} {α6 : Sort _} {α7 : Sort _} {P0 P1 P2 P3 P4 P5 P6 P7 P8 P9 P10 P11 P12 P13 : α0 → α1 → α2 → α3 → α4 → α5 → α6 → α7 → Prop} (a0 : α0) (a1 : α1) (a2 : α2) (a3 : α3) (a4 : α4) (a5 : α5) (a6 : α6) (a7 : α7) (h0 : P0 a0 a1 a2 a3 a4 a5 a6 a7) (h1 : P1 a0 a1 a2 a3 a4 a5 a6 a7) (h2 : P2 a0 a1 a2 a3 a4 a5 a6 a7) (h3 : P3 a0 a1 a2 a3 a4 a5 a6 a7) (h4 : P4 a0 a1 a2 a3 a4 a5 a6 a7) (h5 : P5 a0 a1 a2 a3 a4 a5 a6 a7) (h6 : P6 a0 a1 a2 a3 a4 a5 a6 a7) (h7 : P7 a0 a1 a2 a3 a4 a5 a6 a7) (h8 : P8 a0 a1 a2 a3 a4 a5 a6 a7) (h9 : P9 a0 a1 a2 a3 a4 a5 a6 a7) (h10 : P10 a0 a1 a2 a3 a4 a5 a6 a7) (h11 : P11 a0 a1 a2 a3 a4 a5 a6 a7) (h12 : P12 a0 a1 a2 a3 a4 a5 a6 a7) (h13 : P13 a0 a1 a2 a3 a4 a5 a6 a7) : ∃ a0 a1 a2 a3 a4 a5 a6 a7, P0 a0 a1 a2 a3 a4 a5 a6 a7 ∧ P1 a0 a1 a2 a3 a4 a5 a6 a7 ∧ P2 a0 a1 a2 a3 a4 a5 a6 a7 ∧ P3 a0 a1 a2 a3 a4 a5 a6 a7 ∧ P4 a0 a1 a2 a3 a4 a5 a6 a7 ∧ P5 a0 a1 a2 a3 a4 a5 a6 a7 ∧ P6 a0 a1 a2 a3 a4 a5 a6 a7 ∧ P7 a0 a1 a2 a3 a4 a5 a6 a7 ∧ P8 a0 a1 a2 a3 a4 a5 a6 a7 ∧ P9 a0 a1 a2 a3 a4 a5 a6 a7 ∧ P10 a0 a1 a2 a3 a4 a5 a6 a7 ∧ P11 a0 a1 a2 a3 a4 a5 a6 a7 ∧ P12 a0 a1 a2 a3 a4 a5 a6 a7 ∧ P13 a0 a1 a2 a3 a4 a5 a6 a7 := ⟨a0, a1, a2, a3, a4, a5, a6, a7, h0, h1, h2, h3, h4, h5, h6, h7, h8, h9, h10, h11, h12, h13⟩
theorem i7_12 {α0 : Sort _} {α1 : Sort _} {α2 : Sort _} {α3 : Sort _} {α4 : Sort _} {α5 : Sort _} {α6 : Sort _} {P0 P1 P2 P3 P4 P5 P6 P7 P8 P9 P10 P11 : α0 → α1 → α2 → α3 → α4 → α5 → α6 → Prop} (a0 : α0) (a1 : α1) (a2 : α2) (a3 : α3) (a4 : α4) (a5 : α5) (a6 : α6) (h0 : P0 a0 a1 a2 a3 a4 a5 a6) (h1 : P1 a0 a1 a2 a3 a4 a5 a6) (h2 : P2 a0 a1 a2 a3 a4 a5 a6) (h3 : P3 a0 a1 a2 a3 a4 a5 a6) (h4 : P4 a0 a1 a2 a3 a4 a5 a6) (h5 : P5 a0 a1 a2 a3 a4 a5 a6) (h6 : P6 a0 a1 a2 a3 a4 a5 a6) (h7 : P7 a0 a1 a2 a3 a4 a5 a6) (h8 : P8 a0 a1 a2 a3 a4 a5 a6) (h9 : P9 a0 a1 a2 a3 a4 a5 a6) (h10 : P10 a0 a1 a2 a3 a4 a5 a6) (h11 : P11 a0 a1 a2 a3 a4 a5 a6) : ∃ a0 a1 a2 a3 a4 a5 a6, P0 a0 a1 a2 a3 a4 a5 a6 ∧ P1 a0 a1 a2 a3 a4 a5 a6 ∧ P2 a0 a1 a2 a3 a4 a5 a6 ∧ P3 a0 a1 a2 a3 a4 a5 a6 ∧ P4 a0 a1 a2 a3 a4 a5 a6 ∧ P5 a0 a1 a2 a3 a4 a5 a6 ∧ P6 a0 a1 a2 a3 a4 a5 a6 ∧ P7 a0 a1 a2 a3 a4 a5 a6 ∧ P8 a0 a1 a2 a3 a4 a5 a6 ∧ P9 a0 a1 a2 a3 a4 a5 a6 ∧ P10 a0 a1 a2 a3 a4 a5 a6 ∧ P11 a0 a1 a2 a3 a4 a5 a6 := ⟨a0, a1, a2, a3, a4, a5, a6, h0, h1, h2, h3, h4, h5, h6, h7, h8, h9, h10, h11⟩
theorem i6_12 {α0 : Sort _} {α1 : Sort _} {α2 : Sort _} {α3 : Sort _} {α4 : Sort _} {α5 : Sort _} {P0 P1 P2 P3 P4 P5 P6 P7 P8 P9 P10 P11 : α0 → α1 → α2 → α3 → α4 → α5 → Prop} (a0 : α0) (a1 : α1) (a2 : α2) (a3 : α3) (a4 : α4) (a5 : α5) (h0 : P0 a0 a1 a2 a3 a4 a5) (h1 : P1 a0 a1 a2 a3 a4 a5) (h2 : P2 a0 a1 a2 a3 a4 a5) (h3 : P3 a0 a1 a2 a3 a4 a5) (h4 : P4 a0 a1 a2 a3 a4 a5) (h5 : P5 a0 a1 a2 a3 a4 a5) (h6 : P6 a0 a1 a2 a3 a4 a5) (h7 : P7 a0 a1 a2 a3 a4 a5) (h8 : P8 a0 a1 a2 a3 a4 a5) (h9 : P9 a0 a1 a2 a3 a4 a5) (h10 : P10 a0 a1 a2 a3 a4 a5) (h11 : P11 a0 a1 a2 a3 a4 a5) : ∃ a0 a1 a2 a3 a4 a5, P0 a0 a1 a2 a3 a4 a5 ∧ P1 a0 a1 a2 a3 a4 a5 ∧ P2 a0 a1 a2 a3 a4 a5 ∧ P3 a0 a1 a2 a3 a4 a5 ∧ P4 a0 a1 a2 a3 a4 a5 ∧ P5 a0 a1 a2 a3 a4 a5 ∧ P6 a0 a1 a2 a3 a4 a5 ∧ P7 a0 a1 a2 a3 a4 a5 ∧ P8 a0 a1 a2 a3 a4 a5 ∧ P9 a0 a1 a2 a3 a4 a5 ∧ P10 a0 a1 a2 a3 a4 a5 ∧ P11 a0 a1 a2 a3 a4 a5 := ⟨a0, a1, a2, a3, a4, a5, h0, h1, h2, h3, h4, h5, h6, h7, h8, h9, h10, h11⟩
theorem i13_13 {α0 : Sort _} {α1 : Sort _} {α2 : Sort _} {α3 : Sort _} {α4 : Sort _} {α5 : Sort _} {α6 : Sort _} {α7 : Sort _} {α8 : Sort _} {α9 : Sort _} {α10 : Sort _} {α11 : Sort _} {α12 : Sort _} {P0 P1 P2 P3 P4 P5 P6 P7 P8 P9 P10 P11 P12 : α0 → α1 → α2 → α3 → α4 → α5 → α6 → α7 → α8 → α9 → α10 → α11 → α12 → Prop} (a0 : α0) (a1 : α1) (a2 : α2) (a3 : α3) (a4 : α4) (a5 : α5) (a6 : α6) (a7 : α7) (a8 : α8) (a9 : α9) (a10 : α10) (a11 : α11) (a12 : α12) (h0 : P0 a0 a1 a2 a3 a4 a5 a6 a7 a8 a9 a10 a11 a12) (h1 : P1 a0 a1 a2 a3 a4 a5 a6 a7 a8 a9 a10 a11 a12) (h2 : P2 a0 a1 a2 a3 a4 a5 a6 a7 a8 a9 a10 a11 a12) (h3 : P3 a0 a1 a2 a3 a4 a5 a6 a7 a8 a9 a10 a11 a12) (h4 : P4 a0 a1 a2 a3 a4 a5 a6 a7 a8 a9 a10 a11 a12) (h5 : P5 a0 a1 a2 a3 a4 a5 a6 a7 a8 a9 a10 a11 a12) (h6 : P6 a0 a1 a2 a3 a4 a5 a6 a7 a8 a9 a10 a11 a12) (h7 : P7 a0 a1 a2 a3 a4 a5 a6 a7 a8 a9 a10 a11 a12) (h8 : P8 a0 a1 a2 a3 a4 a5 a6 a7 a8 a9 a10 a11 a12) (h9 : P9 a0 a1 a2 a3 a4 a5 a6 a7 a8 a9 a10 a11 a12) (h10 : P10 a0 a1 a2 a3 a4 a5 a6 a7 a8 a9 a10 a11 a12) (h11 : P11 a0 a1 a2 a3 a4 a5 a6 a7 a8 a9 a10 a11 a12) (h12 : P12 a0 a1 a2 a3 a4 a5 a6 a7 a8 a9 a10 a11 a12) : ∃ a0 a1 a2 a3 a4 a5 a6 a7 a8 a9 a10 a11 a12, P0 a0 a1 a2 a3 a4 a5 a6 a7 a8 a9 a10 a11 a12 ∧ P1 a0 a1 a2 a3 a4 a5 a6 a7 a8 a9 a10 a11 a12 ∧ P2 a0 a1 a2 a3 a4 a5 a6 a7 a8 a9 a10 a11 a12 ∧ P3 a0 a1 a2 a3 a4 a5 a6 a7 a8 a9 a10 a11 a12 ∧ P4 a0 a1 a2 a3 a4 a5 a6 a7 a8 a9 a10 a11 a12 ∧ P5 a0 a1 a2 a3 a4 a5 a6 a7 a8 a9 a10 a11 a12 ∧ P6 a0 a1 a2 a3 a4 a5 a6 a7 a8 a9 a10 a11 a12 ∧ P7 a0 a1 a2 a3 a4 a5 a6 a7 a8 a9 a10 a11 a12 ∧ P8 a0 a1 a2 a3 a4 a5 a6 a7 a8 a9 a10 a11 a12 ∧ P9 a0 a1 a2 a3 a4 a5 a6 a7 a8 a9 a10 a11 a12 ∧ P10 a0 a1 a2 a3 a4 a5 a6 a7 a8 a9 a10 a11 a12 ∧ P11 a0 a1 a2 a3 a4 a5 a6 a7 a8 a9 a10 a11 a12 ∧ P12 a0 a1 a2 a3 a4 a5 a6 a7 a8 a9 a10 a11 a12 := ⟨a0, a1, a2, a3, a4, a5, a6, a7, a8, a9, a10, a11, a12, h0, h1, h2, h3, h4, h5, h6, h7, h8, h9, h10, h11, h12⟩
theorem i8_4 {α0 : Sort _} {α1 : Sort _} {α2 : Sort _} {α3 : Sort _} {α4 : Sort _} {α5 : Sort _} {α6 : Sort _} {α7 : Sort _} {P0 P1 P2 P3 : α0 → α1 → α2 → α3 → α4 → α5 → α6 → α7 → Prop} (a0 : α0) (a1 : α1) (a2 : α2) (a3 : α3) (a4 : α4) (a5 : α5) (a6 : α6) (a7 : α7) (h0 : P0 a0 a1 a2 a3 a4 a5 a6 a7) (h1 : P1 a0 a1 a2 a3 a4 a5 a6 a7) (h2 : P2 a0 a1 a2 a3 a4 a5 a6 a7) (h3 : P3 a0 a1 a2 a3 a4 a5 a6 a7) : ∃ a0 a1 a2 a3 a4 a5 a6 a7, P0 a0 a1 a2 a3 a4 a5 a6 a7 ∧ P1 a0 a1 a2 a3 a4 a5 a6 a7 ∧ P2 a0 a1 a2 a3 a4 a5 a6 a7 ∧ P3 a0 a1 a2 a3 a4 a5 a6 a7 := ⟨a0, a1, a2, a3, a4, a5, a6, a7, h0, h1, h2, h3⟩
noncomputable abbrev Pg : Program := PySem.Challenge.rw_oy0323_01.row.prog
noncomputable abbrev Lo : List Str := looseW hd.view_1 [Str.ofString "_NodeInfo", Str.ofString "_filemode_table"]
noncomputable abbrev Led := List (Addr × Obj)
noncomputable abbrev Nm := Str → Option Value
/-- a call's contract: under any frame of a def, with any ledger, the call of f on vs goes on with Q where `ret` asks -/
noncomputable abbrev Con (w : World) (f : Addr) (news : Led) (vs : List Value) (dep : Nat) (uni : Nat)
    (ret : (Heap) → (Addr) → Nm → Shared → (Value → Shared → Prop) → Prop) : Prop :=
  ∀ (mean : ExcName → Option Value) (mg mb : Nm) (dp un : Nat) (gd : Option (List Code)) (cn : Str) (cs : Scope) (a : Addr) (ccd : Value) (cl : List (Str × Addr)) (outer : List Env) (A₀ : Around) (base h₀ : Heap) (L : Addr) (m : Nm) (s : Shared) (Q E : Value → Shared → Prop),
    Below A₀ base outer h₀ → Fr h₀ L s.heap m → (hd.heap_1 w.params).In h₀ → News h₀ L s.heap news → Top hd.view_1 Lo mean mg mb h₀ → cs.kind = .function →
    dp + dep < recursionLimit → un + uni < cLine → ret h₀ L m s Q →
    wpAny (model Pg w) (ktrTop dp un gd cn cs L a ccd cl outer) (call (.ref f) vs) Q E s
/-- what a def's call gives back that stores into nothing it did not make -/
noncomputable abbrev PRet (h₀ : Heap) (L : Addr) (m : Nm) (s : Shared) (Q : Value → Shared → Prop) (post : Value → Led → Prop) : Prop :=
  ∀ v h' tk nw, Fr h₀ L h' m → News h₀ L h' nw → (∀ b o, s.heap.get? b = some o → h'.get? b = some o) → (∀ p ∈ nw, s.heap.get? p.1 = none) → post v nw → Q v { s with heap := h', toks := tk }
/-- its contract -/
noncomputable abbrev PCon (w : World) (f : Addr) (vs : List Value) (dep uni : Nat) (pre : Heap → Prop) (post : Value → Led → Prop) : Prop :=
  ∀ (mean : ExcName → Option Value) (mg mb : Nm) (dp un : Nat) (gd : Option (List Code)) (cn : Str) (cs : Scope) (a : Addr) (ccd : Value) (cl : List (Str × Addr)) (outer : List Env) (A₀ : Around) (base h₀ : Heap) (L : Addr) (m : Nm) (s : Shared) (Q E : Value → Shared → Prop),
    Below A₀ base outer h₀ → Fr h₀ L s.heap m → (hd.heap_1 w.params).In h₀ → Top hd.view_1 Lo mean mg mb h₀ → cs.kind = .function →
    dp + dep < recursionLimit → un + uni < cLine → pre s.heap → PRet h₀ L m s Q post →
    wpAny (model Pg w) (ktrTop dp un gd cn cs L a ccd cl outer) (call (.ref f) vs) Q E s
theorem pret {h₀ g : Heap} {L L' : Addr} {m m' : Nm} {s : Shared} {Q : Value → Shared → Prop} {post : Value → Led → Prop} {v : Value} {h' : Heap} {tk : Nat} {nw : Led}
    (ret : PRet h₀ L m s Q post) (GS : GSub s.heap g (([] : Led).map (·.1))) (F' : Fr g L' h' m') (N' : News g L' h' nw) (kF : Fr h₀ L h' m) (kN : News h₀ L h' nw) (hp : post v nw) : Q v { s with heap := h', toks := tk } :=
  ret v h' tk nw kF kN (fun b o e => F'.keep b o (GS b o e (by simp))) (fun p hp => by
    cases e : s.heap.get? p.1 with
    | none => rfl
    | some o => have := GS _ _ e (by simp); rw [(N' p hp).2.2] at this; cases this) hp
theorem grows {h₀ : Heap} {L : Addr} {h h' : Heap} {news nw : Led} (N : News h₀ L h news) (k : ∀ b o, h.get? b = some o → h'.get? b = some o) (Nw : News h₀ L h' nw) : News h₀ L h' (nw ++ news) := fun p hp => by
  rcases List.mem_append.mp hp with hp | hp
  · exact Nw p hp
  · exact ⟨k _ _ (N p hp).1, (N p hp).2⟩
end Mine
local macro_rules | `(tactic| omega) => `(tactic| first | lia | omega (splitDisjunctions := true))
namespace Mine
structure Tw {α : Type} (a b : α) : Prop where
  e : a = b
section
variable {prog : Program} {w : World} {A : Around} {E : Value → Shared → Prop} {s : Shared} {a b c : Int} {t u : Tok} {Q : Value → Shared → Prop}
variable {hp : Heap} {gn : Array GenState} {dr} {tk : Nat} {os}
theorem const_intF {M : Model} {env : Env} {i : Int} {k : Nat} {pos : Pos} (h : Q (.int i tk) ⟨hp, gn, dr, tk + 1, os⟩) : wpAny M A (eval (.Constant (.int i) k pos) env) Q E ⟨hp, gn, dr, tk, os⟩ := wpAny_Constant_int h
theorem const_strF {M : Model} {env : Env} {x : Str} {k : Nat} {pos : Pos} (h : Q (.str x tk) ⟨hp, gn, dr, tk + 1, os⟩) : wpAny M A (eval (.Constant (.str x) k pos) env) Q E ⟨hp, gn, dr, tk, os⟩ := Constant_str h
theorem powL (h1 : 0 ≤ b) (h2 : b ≤ 1000000) (h3 : a.natAbs < 2 ^ 64) (e : a ^ b.toNat = c) (h : Q (.int c tk) ⟨hp, gn, dr, tk + 1, os⟩) :
    wpAny (model prog w) A (binaryOp .Pow (.int a t) (.int b u)) Q E ⟨hp, gn, dr, tk, os⟩ := pow_int_small h1 h2 h3 (e ▸ h)
theorem mulL (e : a * b = c) (h1 : a.natAbs < 1000000) (h : Q (.int c tk) ⟨hp, gn, dr, tk + 1, os⟩) :
    wpAny (model prog w) A (binaryOp .Mult (.int a t) (.int b u)) Q E ⟨hp, gn, dr, tk, os⟩ := mul_int (e ▸ h) (IntMulOk.of_left (intBits_le_64 (by omega) (by omega)))
theorem fdivL (h1 : 0 < b) (h2 : b.natAbs.log2 < 9000) (h : ∀ q : Int, Tw q (a.fdiv b) → b * q ≤ a → a < b * q + b → Q (.int q tk) ⟨hp, gn, dr, tk + 1, os⟩) :
    wpAny (model prog w) A (binaryOp .FloorDiv (.int a t) (.int b u)) Q E ⟨hp, gn, dr, tk, os⟩ := by
  refine floordiv_int (by omega) (h _ ⟨rfl⟩ ?_ ?_) (Or.inl (PyProof.noPylong_of_log2 h2))
  · have := Int.fmod_nonneg_of_pos a h1
    have e := Int.mul_fdiv_add_fmod a b
    omega
  · have := Int.fmod_lt_of_pos a h1
    have e := Int.mul_fdiv_add_fmod a b
    omega
theorem fmodL (h1 : 0 < b) (h : ∀ q : Int, Tw q (a.fmod b) → 0 ≤ q → q < b → Q (.int q tk) ⟨hp, gn, dr, tk + 1, os⟩) :
    wpAny (model prog w) A (binaryOp .Mod (.int a t) (.int b u)) Q E ⟨hp, gn, dr, tk, os⟩ :=
  mod_int' (by omega) (h _ ⟨rfl⟩ (Int.fmod_nonneg_of_pos a h1) (Int.fmod_lt_of_pos a h1))
end
theorem natNe {a b : Addr} (h : a ≠ b) : @Ne Nat a b := h
/-- a ledger in which one object is another -/
noncomputable def updA (p : Addr) (o : Obj) (news : Led) : Led := news.map fun q => if q.1 = p then (p, o) else q
theorem updA_nil {p : Addr} {o : Obj} : updA p o [] = [] := rfl
theorem updA_eq {p : Addr} {o x : Obj} {r : Led} : updA p o ((p, x) :: r) = (p, o) :: updA p o r := by
  unfold updA; rw [List.map_cons, if_pos rfl]
theorem updA_ne {p a : Addr} {o x : Obj} {r : Led} (h : @Ne Nat a p) : updA p o ((a, x) :: r) = (a, x) :: updA p o r := by
  unfold updA; rw [List.map_cons, if_neg h]
theorem updA_app {p : Addr} {o : Obj} {l r : Led} : updA p o (l ++ r) = updA p o l ++ updA p o r := List.map_append
theorem updA_id {p : Addr} {o : Obj} {l : Led} (h : ∀ q ∈ l, q.1 ≠ p) : updA p o l = l := by
  induction l with
  | nil => rfl
  | cons q r ih =>
    obtain ⟨a, x⟩ := q
    rw [updA_ne (h _ List.mem_cons_self), ih fun q hq => h q (List.mem_cons_of_mem _ hq)]
theorem news_updA {h₀ h h' : Heap} {L : Addr} {news : Led} {p : Addr} {o o' : Obj} (N : News h₀ L h news) (hm : (p, o) ∈ news) (hs : Heap.SameBut p h h') (hp : h'.get? p = some o') : News h₀ L h' (updA p o' news) := by
  intro q hq
  unfold updA at hq
  (have z1 := (List.mem_map.mp hq); refine Mine.e1_2 z1 ?_; intro r hr z1x2; (try clear z1); (rcases z1x2 with rfl))
  by_cases e : r.1 = p
  · rw [if_pos e]
    exact ⟨hp, (N _ hm).2⟩
  · rw [if_neg e]
    exact ⟨(hs.2 _ e).trans (N r hr).1, (N r hr).2⟩
theorem fr_upd {h₀ h h' : Heap} {L : Addr} {m : Nm} {news : Led} {p : Addr} {o : Obj} (F : Fr h₀ L h m) (N : News h₀ L h news) (hm : (p, o) ∈ news) (hs : Heap.SameBut p h h') : Fr h₀ L h' m :=
  ⟨F.ns.sameBut hs (Ne.symm (N _ hm).2.1), fun b ob e => (hs.2 b (fun q => by have := (N _ hm).2.2; rw [q] at e; rw [e] at this; cases this)).trans (F.keep b ob e), F.above⟩
section
variable {prog : Program} {w : World} {A : Around} {E : Value → Shared → Prop} {s : Shared} {h₀ : Heap} {L : Addr} {m : Nm} {news : Led} {p : Addr} {ys : Array Value} {n : Nat} {x : Value} {Q : Value → Shared → Prop}
theorem app_led (F : Fr h₀ L s.heap m) (N : News h₀ L s.heap news) (hm : (p, W.listOf ys n) ∈ news) (hsz : ys.size ≤ 1000000)
    (h : ∀ h', Fr h₀ L h' m → News h₀ L h' (updA p (W.listOf (ys.push x) (n + 1)) news) → Q .none { s with heap := h' }) :
    wpAny (model prog w) A (call (.builtin "list.append") [.ref p, x]) Q E s :=
  append_at (N _ hm).1 (fun h' hs hp => h h' (fr_upd F N hm hs) (news_updA N hm hs hp)) (hsz := by rw [sizeLine_eq]; omega)
end
section
variable {prog : Program} {w : World} {A : Around} {E : Value → Shared → Prop} {s : Shared} {h₀ : Heap} {L : Addr} {m : Nm} {news : Led} {a b : Addr} {vs ws : List Value} {Q : Value → Shared → Prop}
theorem add_led (F : Fr h₀ L s.heap m) (N : News h₀ L s.heap news) (ha : s.heap.IsList a vs.toArray) (hb : s.heap.IsList b ws.toArray) (hsz : vs.length + ws.length ≤ 1000000)
    (h : ∀ h' l, Fr h₀ L h' m → News h₀ L h' ((l, W.listOf (vs ++ ws).toArray 0) :: news) → (∀ p ∈ news, p.1 < l) → Q (.ref l) { s with heap := h' }) :
    wpAny (model prog w) A (binaryOp .Add (.ref a) (.ref b)) Q E s :=
  add_lists F N ha hb (fun h' F' N' => h h' _ F' N' fun p hp => Heap.lt_size (N p hp).1) (hsz := by rw [sizeLine_eq]; omega)
theorem item_ints {value slice : Expr} {l : Addr} {ws : List Value} {ns : List Int} {k : Int} {u : Tok} {v : Int} {Q : Value → Shared → Prop} (hl : s.heap.IsList l ws.toArray) (hi : IntsAre ws ns) (h0 : 0 ≤ k) (hhi : k < 2 ^ 63) (hv : ns[k.toNat]? = some v) (h : ∀ t, Q (.int v t) s)
    (hs : subscripted slice false (.ref l) (.int k u) = operate [.ref l, .int k u] (getItem (.ref l) (.int k u)) := by with_unfolding_all rfl) :
    wpAny (model prog w) A (subscriptTail value slice (.ref l) (.int k u)) Q E s := by
  obtain ⟨t, hx⟩ := hi.get k.toNat v hv
  exact tail_any hl.typeIs slot_list_getitem.lookup (wpAny_getItem_list hl h0 hhi (by simpa using hx) (h t)) hs
theorem len_led {l : Addr} {ws : List Value} {n : Nat} {Q : Value → Shared → Prop} (hl : s.heap.IsList l ws.toArray) (hn : ws.length = n) (hfit : n ≤ 1000000) (h : ∀ t k, Q (.int (n : Int) t) { s with toks := k }) :
    wpAny (model prog w) A (call (.builtin "len") [.ref l]) Q E s := by
  refine call_len_list hl (by rw [List.size_toArray, hn]; omega) ?_
  rw [List.size_toArray, hn]
  exact h _ _
theorem ints_app : ∀ {vs ws : List Value} {ns ms : List Int}, IntsAre vs ns → IntsAre ws ms → IntsAre (vs ++ ws) (ns ++ ms)
  | _, _, _, _, .nil, h => h
  | _, _, _, _, .cons z u r, h => .cons z u (ints_app r h)
theorem add_ledI {ns ms : List Int} (F : Fr h₀ L s.heap m) (N : News h₀ L s.heap news) (ha : s.heap.IsList a vs.toArray) (hb : s.heap.IsList b ws.toArray) (hi : IntsAre vs ns) (hj : IntsAre ws ms) (hsz : vs.length + ws.length ≤ 1000000)
    (h : ∀ h' l, Fr h₀ L h' m → News h₀ L h' ((l, W.listOf (vs ++ ws).toArray 0) :: news) → (∀ p ∈ news, p.1 < l) → IntsAre (vs ++ ws) (ns ++ ms) → Q (.ref l) { s with heap := h' }) :
    wpAny (model prog w) A (binaryOp .Add (.ref a) (.ref b)) Q E s :=
  add_led F N ha hb hsz fun h' l F' N' l1 => h h' l F' N' l1 (ints_app hi hj)
end
/-- a pure def's call, by its contract -/
theorem pcall {w : World} {f : Addr} {vs : List Value} {dep uni : Nat} {pre : Heap → Prop} {post : Value → Led → Prop} (C : PCon w f vs dep uni pre post)
    {mean : ExcName → Option Value} {mg mb : Nm} {dp un : Nat} {gd : Option (List Code)} {cn : Str} {cs : Scope} {a : Addr} {ccd : Value} {cl : List (Str × Addr)} {outer : List Env} {A₀ : Around} {base h₀ : Heap} {L : Addr} {m : Nm} {s : Shared} {news : Led} {Q E : Value → Shared → Prop}
    (B : Below A₀ base outer h₀) (F : Fr h₀ L s.heap m) (X : (hd.heap_1 w.params).In h₀) (N : News h₀ L s.heap news) (T : Top hd.view_1 Lo mean mg mb h₀) (hk : cs.kind = .function)
    (hd : dp + dep < recursionLimit) (hu : un + uni < cLine) (hp : pre s.heap)
    (h : ∀ v h' tk nw, Fr h₀ L h' m → News h₀ L h' (nw ++ news) → (∀ b o, s.heap.get? b = some o → h'.get? b = some o) → (∀ p ∈ nw, s.heap.get? p.1 = none) → post v nw → Q v { s with heap := h', toks := tk }) :
    wpAny (model Pg w) (ktrTop dp un gd cn cs L a ccd cl outer) (call (.ref f) vs) Q E s :=
  C mean mg mb dp un gd cn cs a ccd cl outer A₀ base h₀ L m s Q E B F X T hk hd hu hp fun v h' tk nw F' N' K fr po => h v h' tk nw F' (grows N K N') K fr po
section
variable {prog : Program} {w : World} {A : Around} {E : Value → Shared → Prop} {h₀ hp : Heap} {L l : Addr} {m : Nm} {news : Led} {vs : List Value} {ns : List Int} {vl vu : Value} {value slice : Expr} {Q : Value → Shared → Prop}
theorem slice_intsF {lo hi : Option Int} {ms : List Int} {c : Nat} {gn dr tk os} (F : Fr h₀ L hp m) (N : News h₀ L hp news) (hl : hp.IsList l vs.toArray) (pl : IsPart vl lo) (pu : IsPart vu hi) (hi' : IntsAre vs ns) (hm : IntsAre (slicePick vs.toArray lo hi none).toList ms) (hc : ms.length = c)
    (h : ∀ D ws h', Fr h₀ L h' m → News h₀ L h' ((D, W.listOf (List.toArray ws) 0) :: news) → (∀ p ∈ news, p.1 < D) → IntsAre ws ms → ms.length = c → ms.length ≤ ns.length → Q (.ref D) ⟨h', gn, dr, tk, os⟩)
    (hs : subscripted slice false (.ref l) (.ref hp.objs.size) = operate [.ref hp.objs.size, .ref l] (getItem (.ref l) (.ref hp.objs.size))) (ht : ∀ r, letTemporaryGo value (.ref l) r = pure ()) (hz : vs.toArray.size ≤ sizeLine) :
    wpAny (model prog w) A (subscriptTail value slice (.ref l) (.ref hp.objs.size)) Q E ⟨hp.push { cls := .type "slice", data := .fields #[vl, vu, .none] }, gn, dr, tk, os⟩ :=
  kmk_slice_ints (s := ⟨hp, gn, dr, tk, os⟩) F N hl pl pu hi' hm hc h hs ht hz
end
end Mine
namespace Mine
/-- how a turn of a loop ends: it leaves, or the next turn's word holds -/
noncomputable def TE (s : Shared) (Q : Flow → Shared → Prop) (Jn : Heap → Prop) (f : Flow) (s' : Shared) : Prop := match f with
  | .ret v => Q (.ret v) s'
  | .brk => Q .next s'
  | _ => ∃ h tk, s' = { s with heap := h, toks := tk } ∧ Jn h
section
variable {prog : Program} {w : World} {A : Around} {E : Value → Shared → Prop} {s : Shared} {env : Env} {target : Expr} {body orelse : List Stmt} {Q : Flow → Shared → Prop}
theorem loop_go {I : Addr} {fp wr : List Addr} {n : Nat} {P Md : Nat → Value → Heap → Prop} {St : Nat → Heap → Prop} {X : Value → Shared → Prop} (W : KTurns prog w A target I fp wr n P Md St) (J : Nat → Heap → Prop)
    (hJ : ∀ i h h', J i h → (∀ b o, b ∉ wr → h.get? b = some o → h'.get? b = some o) → J i h') (h0 : J 0 s.heap) (st0 : St 0 s.heap)
    (turn : ∀ i v h tk (E' : Value → Shared → Prop), i < n → P i v h → St (i + 1) h → J i h →
      wpAny (model prog w) A (assign target env v) (fun _ s₂ => wpAny (model prog w) A (execs body env) (TE s Q fun h' => St (i + 1) h' ∧ J (i + 1) h') E' s₂) E' { s with heap := h, toks := tk })
    (last : ∀ h tk (E' : Value → Shared → Prop), J n h → wpAny (model prog w) A (execs orelse env) Q E' { s with heap := h, toks := tk }) :
    codeAny (model prog w) A (.forLoop target (.ref I) body orelse env) (fun r s' => match r with | .ok f => Q f s' | .error e => X e s') s := by
  refine codeAny_forLoop_any (fun k s' => ∃ h tk i, s' = { s with heap := h, toks := tk } ∧ St i h ∧ J i h ∧ i ≤ n ∧ k = n - i) ?_ n ⟨s.heap, s.toks, 0, rfl, st0, h0, Nat.zero_le _, rfl⟩
  (intro k s' z1h; refine Mine.e3_5 z1h ?_; intro h tk i z1x3 st j hi z1x7; (try clear z1h); (rcases z1x3 with rfl); (rcases z1x7 with rfl))
  by_cases hlt : i < n
  · refine W.item i _ _ _ hlt st fun v h₁ tk₁ hm hk₁ => ?_
    refine W.go i v _ _ _ hm fun h₂ hP st₂ hk₂ => ?_
    refine wpAny_mono (turn i v h₂ tk₁ _ hlt hP st₂ (hJ i h h₂ j fun b o hb e => hk₂ b o hb (hk₁ b o hb e))) (fun _ s₂ hs => wpAny_mono hs (fun f s₃ te => ?_) fun _ _ e => e) fun _ _ e => e
    cases f with
    | ret v => exact te
    | brk => exact te
    | next => (refine Mine.e2_3 te ?_; intro h₃ tk₃ z2x2 st₃ j₃; (try clear te); (rcases z2x2 with rfl)); exact ⟨n - (i + 1), by omega, h₃, tk₃, i + 1, rfl, st₃, j₃, hlt, rfl⟩
    | cont => (refine Mine.e2_3 te ?_; intro h₃ tk₃ z3x2 st₃ j₃; (try clear te); (rcases z3x2 with rfl)); exact ⟨n - (i + 1), by omega, h₃, tk₃, i + 1, rfl, st₃, j₃, hlt, rfl⟩
  · have hin : i = n := by omega
    subst hin
    exact W.done _ _ _ st fun h₁ tk₁ hk₁ => last h₁ tk₁ _ (hJ i h h₁ j fun b o hb e => hk₁ b o hb e)
/-- a loop that stands before its iterator -/
noncomputable def LoopIn (prog : Program) (w : World) (A : Around) (env : Env) (target : Expr) (body orelse : List Stmt) (Q : Flow → Shared → Prop) (it : Value) (s : Shared) : Prop :=
  ∀ X : Value → Shared → Prop, ∃ I, it = .ref I ∧ codeAny (model prog w) A (.forLoop target (.ref I) body orelse env) (fun r s' => match r with | .ok f => Q f s' | .error e => X e s') s
theorem For_in {iter : Expr} {pos : Pos}
    (h : wpAny (model prog w) A (eval iter env) (fun xv s₁ => wpAny (model prog w) A (pyIter xv) (fun it s₂ => LoopIn prog w A env target body orelse Q it s₂) E s₁) E s)
    (hs : ∀ x, foldedSetIterable iter env x = pure x := by intro _; rfl) :
    wpAny (model prog w) A (exec (.For target iter body orelse pos) env) Q E s := by
  refine wpAny_For (wpAny_mono h (fun xv s₁ h₁ => wpAny_mono h₁ (fun it s₂ h₂ => ?_) fun _ _ e => e) fun _ _ e => e) hs
  (have z4 := (h₂ (cameBackBy (model prog w) A env E)); refine Mine.e1_2 z4 ?_; intro I z4x1 c; (try clear z4); (rcases z4x1 with rfl))
  exact c
/-- how a turn ends, by frame and ledger; the loop's own objects `its` stand ahead of the ledger, untouched -/
noncomputable def TL (h₀ : Heap) (L : Addr) (s : Shared) (Q : Flow → Shared → Prop) (its : Led) (J : Nm → Led → Prop) (f : Flow) (s' : Shared) : Prop := match f with
  | .ret v => Q (.ret v) s'
  | .brk => Q .next s'
  | _ => ∃ h tk m nw, s' = { s with heap := h, toks := tk } ∧ Fr h₀ L h m ∧ News h₀ L h (its ++ nw) ∧ (∀ p ∈ nw, p.1 ∉ its.map (·.1)) ∧ J m nw
theorem TL.next {h₀ : Heap} {L : Addr} {its : Led} {J : Nm → Led → Prop} {h : Heap} {tk : Nat} {m : Nm} {nw all : Led} (F : Fr h₀ L h m) (N : News h₀ L h all) (hs : ∀ p ∈ its ++ nw, p ∈ all) (ho : ∀ p ∈ nw, p.1 ∉ its.map (·.1)) (j : J m nw) :
    TL h₀ L s Q its J .next { s with heap := h, toks := tk } := ⟨h, tk, m, nw, rfl, F, fun p hp => N p (hs p hp), ho, j⟩
theorem TL.cont {h₀ : Heap} {L : Addr} {its : Led} {J : Nm → Led → Prop} {h : Heap} {tk : Nat} {m : Nm} {nw all : Led} (F : Fr h₀ L h m) (N : News h₀ L h all) (hs : ∀ p ∈ its ++ nw, p ∈ all) (ho : ∀ p ∈ nw, p.1 ∉ its.map (·.1)) (j : J m nw) :
    TL h₀ L s Q its J .cont { s with heap := h, toks := tk } := ⟨h, tk, m, nw, rfl, F, fun p hp => N p (hs p hp), ho, j⟩
/-- a list or a tuple that stands in the base or in the ledger -/
noncomputable def SeqAt (h₀ : Heap) (c : String) (l : Addr) (vs : Array Value) (news : Led) : Prop := ∃ o : Obj, (h₀.get? l = some o ∨ (l, o) ∈ news) ∧ o.cls = .type c ∧ ∃ n, o.data = .seq vs n
theorem SeqAt.get {h₀ h : Heap} {L : Addr} {m : Nm} {c : String} {l : Addr} {vs : Array Value} {news : Led} (S : SeqAt h₀ c l vs news) (F : Fr h₀ L h m) (N : News h₀ L h news) : ∃ o, h.get? l = some o ∧ o.cls = .type c ∧ ∃ n, o.data = .seq vs n := by
  (first | (refine Mine.hideP ?_; intro Gz kGz; rcases S with ⟨o, h1 | h1, r⟩; all_goals (refine kGz ?_; clear kGz Gz)) | rcases S with ⟨o, h1 | h1, r⟩)
  · exact ⟨o, F.keep _ _ h1, r⟩
  · exact ⟨o, (N _ h1).1, r⟩
theorem fr_wr {h₀ h h' : Heap} {L : Addr} {m : Nm} {wr : List Addr} (F : Fr h₀ L h m) (hL : L ∉ wr) (hw : ∀ b ∈ wr, h₀.get? b = none) (k : ∀ b o, b ∉ wr → h.get? b = some o → h'.get? b = some o) : Fr h₀ L h' m :=
  ⟨F.ns.at' fun o e => k _ o hL e, fun b o e => k b o (fun hb => by rw [hw b hb] at e; cases e) (F.keep b o e), F.above⟩
theorem news_wr {h₀ h h' : Heap} {L : Addr} {wr : List Addr} {nw : Led} (N : News h₀ L h nw) (ho : ∀ p ∈ nw, p.1 ∉ wr) (k : ∀ b o, b ∉ wr → h.get? b = some o → h'.get? b = some o) : News h₀ L h' nw :=
  fun p hp => ⟨k _ _ (ho p hp) (N p hp).1, (N p hp).2⟩
theorem its_of {h : Heap} : ∀ {wr : List Addr}, (∀ b ∈ wr, ∃ o, h.get? b = some o) → ∃ its : Led, its.map (·.1) = wr ∧ ∀ p ∈ its, h.get? p.1 = some p.2
  | [], _ => ⟨[], rfl, fun _ h => nomatch h⟩
  | b :: r, hl => by
    (have z6 := (its_of fun c hc => hl c (List.mem_cons_of_mem _ hc)); refine Mine.e1_2 z6 ?_; intro its e g; (try clear z6))
    obtain ⟨o, eo⟩ := hl b List.mem_cons_self
    exact ⟨(b, o) :: its, by rw [List.map_cons, e], fun p hp => by
      rcases List.mem_cons.mp hp with rfl | hp
      · exact eo
      · exact g p hp⟩
/-- the loop over an iterator whose own objects are all new (wr), and whose other footprint (fx) stands still in base or ledger -/
theorem loop_led {h₀ : Heap} {L : Addr} {m₀ : Nm} {news : Led} {I : Addr} {fp wr : List Addr} {n : Nat} {P Md : Nat → Value → Heap → Prop} {St : Nat → Heap → Prop} (W : KTurns prog w A target I fp wr n P Md St)
    (hw : ∀ b ∈ wr, h₀.get? b = none) (hL : L ∉ wr) (hlive : ∀ i h, St i h → ∀ b ∈ wr, ∃ o, h.get? b = some o)
    (F : Fr h₀ L s.heap m₀) (N : News h₀ L s.heap news) (ho : ∀ p ∈ news, p.1 ∉ wr) (st0 : St 0 s.heap) (J : Nat → Nm → Led → Prop) (j0 : J 0 m₀ news)
    (hfx : ∀ i m nw h, J i m nw → Fr h₀ L h m → News h₀ L h nw → ∀ b ∈ fp, b ∉ wr → ∀ h', (∀ c o, h₀.get? c = some o → h'.get? c = some o) → (∀ i' m' nw', J i' m' nw' → News h₀ L h' nw' → h'.get? b = h.get? b))
    (turn : ∀ i v m nw its h tk (E' : Value → Shared → Prop), i < n → P i v h → J i m nw → its.map (·.1) = wr → (∀ p ∈ nw, p.1 ∉ its.map (·.1)) → Fr h₀ L h m → News h₀ L h (its ++ nw) →
      wpAny (model prog w) A (assign target env v) (fun _ s₂ => wpAny (model prog w) A (execs body env) (TL h₀ L s Q its (J (i + 1))) E' s₂) E' { s with heap := h, toks := tk })
    (last : ∀ m nw h tk (E' : Value → Shared → Prop), J n m nw → Fr h₀ L h m → News h₀ L h nw → wpAny (model prog w) A (execs orelse env) Q E' { s with heap := h, toks := tk }) (X : Value → Shared → Prop) :
    codeAny (model prog w) A (.forLoop target (.ref I) body orelse env) (fun r s' => match r with | .ok f => Q f s' | .error e => X e s') s := by
  refine loop_go W (fun i h => ∃ m nw, Fr h₀ L h m ∧ News h₀ L h nw ∧ (∀ p ∈ nw, p.1 ∉ wr) ∧ J i m nw) ?_ ⟨m₀, news, F, N, ho, j0⟩ st0 ?_ ?_
  · (intro i h h' z7h; refine Mine.e2_4 z7h ?_; intro m nw F N ho j; (try clear z7h); intro k)
    exact ⟨m, nw, fr_wr F hL hw k, news_wr N ho k, ho, j⟩
  · (intro i v h tk E' hi hP st z8h; refine Mine.e2_4 z8h ?_; intro m nw F N ho j; (try clear z8h))
    have := its_of (hlive _ _ st)
    (refine Mine.e1_2 this ?_; intro its e g; (try clear this))
    have Nits : News h₀ L h its := fun p hp => ⟨g p hp, fun q => hL (e ▸ q ▸ List.mem_map_of_mem hp), hw _ (e ▸ List.mem_map_of_mem hp)⟩
    have Nall : News h₀ L h (its ++ nw) := fun p hp => (List.mem_append.mp hp).elim (Nits p) (N p)
    refine wpAny_mono (turn i v m nw its h tk E' hi hP j e (fun p hp => e ▸ ho p hp) F Nall) (fun _ s₂ h₂ => wpAny_mono h₂ (fun f s₃ te => ?_) fun _ _ x => x) fun _ _ x => x
    have fin : (∃ h' tk' m' nw', s₃ = { s with heap := h', toks := tk' } ∧ Fr h₀ L h' m' ∧ News h₀ L h' (its ++ nw') ∧ (∀ p ∈ nw', p.1 ∉ its.map (·.1)) ∧ J (i + 1) m' nw') → ∃ h' tk', s₃ = { s with heap := h', toks := tk' } ∧ St (i + 1) h' ∧ ∃ m nw, Fr h₀ L h' m ∧ News h₀ L h' nw ∧ (∀ p ∈ nw, p.1 ∉ wr) ∧ J (i + 1) m nw := by
      (intro z10h; refine Mine.e4_5 z10h ?_; intro h' tk' m' nw' z10x4 F' N' ho' j'; (try clear z10h); (rcases z10x4 with rfl))
      have N'' : News h₀ L h' nw' := fun p hp => N' p (List.mem_append_right _ hp)
      refine ⟨h', tk', rfl, W.frame _ h _ st (fun b hb o eo => ?_), m', nw', F', N'', fun p hp => e ▸ ho' p hp, j'⟩
      by_cases hbw : b ∈ wr
      · rw [← e] at hbw
        (have z11 := (List.mem_map.mp hbw); refine Mine.e1_2 z11 ?_; intro p hp z11x2; (try clear z11); (rcases z11x2 with rfl))
        rw [g p hp] at eo
        cases eo
        exact (N' p (List.mem_append_left _ hp)).1
      · rw [hfx i m nw h j F N b hb hbw h' F'.keep (i + 1) m' nw' j' N'']
        exact eo
    cases f with
    | ret v => exact te
    | brk => exact te
    | next => exact fin te
    | cont => exact fin te
  · (intro h tk E' z12h; refine Mine.e2_4 z12h ?_; intro m nw F N ho j; (try clear z12h))
    exact last m nw h tk E' j F N
end
end Mine
namespace Mine
open AutoSeq1 (wpAny_loadPart')
set_option maxHeartbeats 2000000 in
theorem enum_new (l : Addr) (items : Array Value) (n : Nat) (dct : Option Addr) (sl : Array (Option Value)) :
    Meets (Builtin.«enumerate.__new__» ⟨[.type "enumerate", .ref l], []⟩) (fun _ R s => s.heap.get? l = some { cls := .type "tuple", dict := dct, data := .seq items n, slots := sl } ∧
      R (.ok (.ret (.ref (s.heap.push { cls := .type "tuple_iterator", data := .fields #[.ref l, .int 0 0] }).objs.size)))
        { s with heap := (s.heap.push { cls := .type "tuple_iterator", data := .fields #[.ref l, .int 0 0] }).push { cls := .type "enumerate", data := .fields #[.none, .bool false, .ref s.heap.objs.size, rawInt 0, .none, .none] } }) :=
  .of_wp fun prog w A R s h => by
    (first | (refine Mine.hideP ?_; intro Gz kGz; rcases s with ⟨hp, g, d, tk, os⟩; all_goals (refine kGz ?_; clear kGz Gz)) | rcases s with ⟨hp, g, d, tk, os⟩); obtain ⟨hl, h⟩ := h
    have hsub := sub_enumerate
    have hL : Heap.IsTuple (Shared.heap ⟨hp, g, d, tk, os⟩) l items := ⟨_, hl, rfl, n, rfl⟩
    wp_walk using wpAny_loadPart' hl
    refine wpAny_stack_any fun st => wpAny_pure ?_
    split
    · rename_i c _ _ _ _ _
      cases (c == Value.type "enumerate")
      · wp_walk using wpAny_loadPart' hl, wpAny_pyIter_tuple hL
        exact ⟨_, rfl, h⟩
      · wp_walk using wpAny_loadPart' hl, wpAny_pyIter_tuple hL
        exact ⟨_, rfl, h⟩
    · wp_walk using wpAny_loadPart' hl, wpAny_pyIter_tuple hL
      exact ⟨_, rfl, h⟩
section
variable {prog : Program} {w : World} {A : Around} {E : Value → Shared → Prop} {s : Shared}
theorem call_enum_tup {l : Addr} {items : Array Value} {Q : Value → Shared → Prop} (hL : s.heap.IsTuple l items)
    (h : ∀ h', IsEnum h' (s.heap.objs.size + 1) s.heap.objs.size 0 .none → h'.IsTupleIter s.heap.objs.size l 0 → h'.objs.size = s.heap.objs.size + 2 →
      (∀ b o, s.heap.get? b = some o → h'.get? b = some o) → Q (.ref (s.heap.objs.size + 1)) { s with heap := h' }) :
    wpAny (model prog w) A (call (.type "enumerate") [.ref l]) Q E s := by
  (refine Mine.e1_3 hL ?_; intro z2x0 hl hc z2r; (try clear hL); (first | (refine Mine.hideP ?_; intro Gz kGz; rcases z2x0 with ⟨c, dct, dt, sl⟩; all_goals (refine kGz ?_; clear kGz Gz)) | rcases z2x0 with ⟨c, dct, dt, sl⟩); (rcases z2r with ⟨n, hd⟩))
  replace hc : c = .type "tuple" := hc
  replace hd : dt = .seq items n := hd
  subst hc hd
  refine callType_new F.called_enumerate (by decide) (F.typeCall_enumerate_1 _) (F.newCall_enumerate_1 _) (fun obj => F.args_object_init_2 obj _) F.entry_enumerate_new (enum_new l items n dct sl) ⟨hl, ?_⟩
  have hz : (s.heap.push { cls := .type "tuple_iterator", data := .fields #[.ref l, .int 0 0] }).objs.size = s.heap.objs.size + 1 := Heap.size_push ..
  show _ ∧ _
  rw [hz]
  have he : IsEnum ((s.heap.push { cls := .type "tuple_iterator", data := .fields #[.ref l, .int 0 0] }).push
      { cls := .type "enumerate", data := .fields #[.none, .bool false, .ref s.heap.objs.size, rawInt 0, .none, .none] }) (s.heap.objs.size + 1) s.heap.objs.size 0 .none := by
    have := Heap.get?_push_size (s.heap.push { cls := .type "tuple_iterator", data := .fields #[.ref l, .int 0 0] })
      (o := { cls := .type "enumerate", data := .fields #[.none, .bool false, .ref s.heap.objs.size, rawInt 0, .none, .none] }) rfl
    rw [hz] at this; exact this
  exact ⟨⟨_, he, rfl⟩, h _ he ⟨_, Heap.get?_push_of_some _ (Heap.get?_push_size _ rfl), rfl, rfl⟩ (by rw [Heap.size_push, hz]) fun b o x => Heap.get?_push_of_some _ (Heap.get?_push_of_some _ x)⟩
theorem nextOf_tup {it l : Addr} {i : Nat} {items : Array Value} {x : Value} {Q : Value → Shared → Prop} (hit : s.heap.IsTupleIter it l i) (hl : s.heap.IsTuple l items) (hx : items[i]? = some x)
    (hQ : ∀ h', h'.IsTupleIter it l (i + 1) → Heap.SameBut it s.heap h' → Q x { s with heap := h' }) : wpAny (model prog w) A (Builtin.SmallTypes.nextOf (.ref it)) Q E s := by
  (have z3 := (id hit); refine Mine.e1_3 z3 ?_; intro o ho hc hd; (try clear z3))
  (refine Mine.e1_3 hl ?_; intro ol hol _ z4r; (try clear hl); (rcases z4r with ⟨nl, hdl⟩))
  unfold Builtin.SmallTypes.nextOf
  refine wpAny_bind (wpAny_callSpecial?_slot (name := Str.ofString "__next__") hit.typeIs F.slot_tuple_iterator_next
    (wpAny_call_entry F.slot_tuple_iterator_next hit.typeIs F.entry_tuple_iterator_next ?_ (F.args_tuple_iterator_next_1 _)))
  show wpAny _ _ (field (.ref it) 0 >>= _) _ _ s
  refine wpAny_bind (wpAny_field ho hd (x := .ref l) rfl ?_)
  show wpAny _ _ (if (Value.ref l == Value.none) = true then _ else _) _ _ s
  rw [if_neg (show ¬ ((Value.ref l == Value.none) = true) from Bool.false_ne_true)]
  show wpAny _ _ (field (.ref it) 1 >>= _) _ _ s
  refine wpAny_bind (wpAny_field ho hd (x := .int i 0) rfl ?_)
  show wpAny _ _ (seqItems? (.ref l) >>= _) _ _ s
  refine wpAny_bind (wpAny_seqItems hol hdl ?_)
  simp only [Int.toNat_natCast, hx]
  refine wpAny_bind (wpAny_setField ho hd (by simp) (wpAny_pure ⟨x, rfl, wpAny_pure (hQ _ ?_ (Heap.SameBut.update ..))⟩))
  exact ⟨_, Heap.get?_update_self _ ho (Obj.isFreed_of_fields (Obj.data_mapFields hd _)), (Obj.cls_mapFields ..).trans hc, by
    rw [Obj.data_mapFields hd]; simp [rawInt]⟩
theorem nextOf_tup_end {it l : Addr} {i : Nat} {items : Array Value} {Q : Value → Shared → Prop} (hh : A.handled = none) (hit : s.heap.IsTupleIter it l i) (hl : s.heap.IsTuple l items) (hx : items[i]? = none)
    (hE : ∀ h' e, Heap.ExtBut it s.heap h' → (∃ o, h'.get? e = some o ∧ o.cls = .type "StopIteration") → E (.ref e) { s with heap := h' }) : wpAny (model prog w) A (Builtin.SmallTypes.nextOf (.ref it)) Q E s := by
  (have z5 := (id hit); refine Mine.e1_3 z5 ?_; intro o ho hc hd; (try clear z5))
  (refine Mine.e1_3 hl ?_; intro ol hol _ z6r; (try clear hl); (rcases z6r with ⟨nl, hdl⟩))
  unfold Builtin.SmallTypes.nextOf
  refine wpAny_bind (wpAny_callSpecial?_slot (name := Str.ofString "__next__") hit.typeIs F.slot_tuple_iterator_next
    (wpAny_call_entry F.slot_tuple_iterator_next hit.typeIs F.entry_tuple_iterator_next ?_ (F.args_tuple_iterator_next_1 _)))
  show wpAny _ _ (field (.ref it) 0 >>= _) _ _ s
  refine wpAny_bind (wpAny_field ho hd (x := .ref l) rfl ?_)
  show wpAny _ _ (if (Value.ref l == Value.none) = true then _ else _) _ _ s
  rw [if_neg (show ¬ ((Value.ref l == Value.none) = true) from Bool.false_ne_true)]
  show wpAny _ _ (field (.ref it) 1 >>= _) _ _ s
  refine wpAny_bind (wpAny_field ho hd (x := .int i 0) rfl ?_)
  show wpAny _ _ (seqItems? (.ref l) >>= _) _ _ s
  refine wpAny_bind (wpAny_seqItems hol hdl ?_)
  simp only [Int.toNat_natCast, hx]
  refine wpAny_bind (wpAny_rule (wpAny_bind (wpAny_setField ho hd (by simp) ?_)))
  show wpAny _ _ (newExc (.type "StopIteration") [] >>= _) _ _ _
  refine wpAny_bind ?_
  simp only [newExc, newTuple]
  refine wpAny_bind (wpAny_newObj_type ?_ (by size_fits))
  refine wpAny_bind (m := firstArgMember _ _) (wpAny_of_eq (a := Value.none) (by first | rfl | (simp only [firstArgMember]; rfl)) ?_)
  refine wpAny_newObj_type ?_ (by size_fits)
  simp only [raiseNew]
  refine wpAny_bind (wpAny_handled ?_)
  first | rw [show A.in1.handled = none from hh] | rw [hh]
  refine wpAny_bind (wpAny_pure (wpAny_throw ?_))
  exact hE _ _ (((Heap.SameBut.update ..).extBut.push _).push _) ⟨_, Heap.get?_push_size _ rfl, rfl⟩
theorem draws_tup (hh : A.handled = none) (it l : Addr) (hne : l ≠ it) (items : Array Value) :
    Draws prog w A it [it, l] items.size (fun i v => items[i]? = some v) (fun i h => h.IsTupleIter it l i ∧ h.IsTuple l items) where
  live := fun _ _ st => let ⟨o, ho, _⟩ := st.1; ⟨o, ho⟩
  frame := fun _ _ _ st hk => ⟨st.1.at fun o e => hk it (by simp) o e, st.2.at fun o e => hk l (by simp) o e⟩
  item := fun i s Q E hi st hQ => by
    refine nextOf_tup st.1 st.2 (x := items[i]) (by simp [hi]) fun h' hit' hs' => ?_
    exact hQ _ h' s.toks (by simp [hi]) ⟨hit', st.2.extBut hs'.extBut hne⟩ hs'
  done := fun s Q E st hE => nextOf_tup_end hh st.1 st.2 (by simp) hE
end
section
variable {prog : Program} {w : World} {A : Around} {E : Value → Shared → Prop} {s : Shared} {env : Env} {elts : List Expr} {kt : Nat} {tpos : Pos} {body orelse : List Stmt} {Q : Flow → Shared → Prop}
/-- for index, item in enumerate(a tuple of the base) -/
theorem loop_enum_tup {h₀ : Heap} {L : Addr} {m₀ : Nm} {news : Led} {l : Addr} {items : Array Value} (hh : A.handled = none) (F : Fr h₀ L s.heap m₀) (N : News h₀ L s.heap news) (hl : h₀.IsTuple l items)
    (J : Nat → Nm → Led → Prop) (j0 : J 0 m₀ news)
    (turn : ∀ i x t T m nw its h tk (E' : Value → Shared → Prop), items[i]? = some x → h.IsTuple T #[.int (i : Int) t, x] → J i m nw → its.map (·.1) = [s.heap.objs.size + 1, s.heap.objs.size] → (∀ p ∈ nw, p.1 ∉ its.map (·.1)) → Fr h₀ L h m → News h₀ L h (its ++ nw) →
      wpAny (model prog w) A (assign (.Tuple elts kt tpos) env (.ref T)) (fun _ s₂ => wpAny (model prog w) A (execs body env) (TL h₀ L s Q its (J (i + 1))) E' s₂) E' { s with heap := h, toks := tk })
    (last : ∀ m nw h tk (E' : Value → Shared → Prop), J items.size m nw → Fr h₀ L h m → News h₀ L h nw → wpAny (model prog w) A (execs orelse env) Q E' { s with heap := h, toks := tk }) :
    wpAny (model prog w) A (call (.type "enumerate") [.ref l]) (fun xv s₁ => wpAny (model prog w) A (pyIter xv) (fun it s₂ => LoopIn prog w A env (.Tuple elts kt tpos) body orelse Q it s₂) E s₁) E s := by
  have hlt : l < s.heap.objs.size := by (refine Mine.e1_2 hl ?_; intro o e _; (try clear hl)); exact Heap.lt_size (F.keep _ _ e)
  refine call_enum_tup (hl.at fun o e => F.keep l o e) fun h' he hit hsz hk => ?_
  refine wpAny_pyIter_enum he fun X => ⟨_, rfl, ?_⟩
  have none_of : ∀ a, s.heap.objs.size ≤ a → h₀.get? a = none := fun a ha => by
    cases e : h₀.get? a with
    | none => rfl
    | some o => exact absurd (Heap.lt_size (F.keep _ _ e)) (Nat.not_lt.mpr ha)
  have hLs := F.ns.lt
  have D := draws_tup (prog := prog) (w := w) (A := A.in1) hh s.heap.objs.size l (Nat.ne_of_lt hlt) items
  have W := WalksT.enumerateD D (s.heap.objs.size + 1) (Nat.succ_ne_self _) (by
    intro hm
    rcases List.mem_cons.mp hm with e | hm
    · exact absurd e (Nat.succ_ne_self _)
    · exact absurd (List.mem_singleton.mp hm) (Nat.ne_of_gt (Nat.lt_succ_of_lt hlt))) List.mem_cons_self
  have F' : Fr h₀ L h' m₀ := F.keeps hk
  have N' : News h₀ L h' news := N.grown hk
  refine loop_led (h₀ := h₀) (L := L) (m₀ := m₀) (news := news) (s := { s with heap := h' }) (KTurns.ofWalksU W.toU) ?_ ?_ ?_ F' N' ?_ ⟨⟨_, he⟩, hit, hl.at fun o e => hk _ _ (F.keep l o e)⟩ J j0 ?_ ?_ ?_ X
  · intro b hb
    rcases List.mem_cons.mp hb with rfl | hb
    · exact none_of _ (Nat.le_succ _)
    · rw [List.mem_singleton.mp hb]; exact none_of _ (Nat.le_refl _)
  · intro hb
    rcases List.mem_cons.mp hb with e | hb
    · exact absurd hLs (by rw [e]; exact Nat.not_lt.mpr (Nat.le_succ _))
    · exact absurd hLs (by rw [List.mem_singleton.mp hb]; exact Nat.lt_irrefl _)
  · (intro i h z8h; refine Mine.e0_3 z8h ?_; intro z8x0 z8x1 _; (try clear z8h); (rcases z8x0 with ⟨old, he⟩); (refine Mine.e1_2 z8x1 ?_; intro o ho _; (try clear z8x1)); intro b hb)
    rcases List.mem_cons.mp hb with rfl | hb
    · exact ⟨_, he⟩
    · rw [List.mem_singleton.mp hb]; exact ⟨o, ho⟩
  · intro p hp hb
    have := Heap.lt_size (N p hp).1
    rcases List.mem_cons.mp hb with e | hb
    · rw [e] at this; exact absurd this (Nat.not_lt.mpr (Nat.le_succ _))
    · rw [List.mem_singleton.mp hb] at this; exact Nat.lt_irrefl _ this
  · intro i m nw h _ F₁ _ b hb hbw h₁ k₁ _ _ _ _ _
    have hbl : b = l := by
      rcases List.mem_cons.mp hb with rfl | hb
      · exact absurd List.mem_cons_self hbw
      · rcases List.mem_cons.mp hb with rfl | hb
        · exact absurd (List.mem_cons_of_mem _ (List.mem_singleton.mpr rfl)) hbw
        · exact List.mem_singleton.mp hb
    (refine Mine.e1_2 hl ?_; intro o eo _; (try clear hl))
    rw [hbl, k₁ _ _ eo, F₁.keep _ _ eo]
  · (intro i v m nw its h tk E' hi z10h; refine Mine.e2_3 z10h ?_; intro T vals z10x2 z10x3 hT; (try clear z10h); (rcases z10x2 with rfl); (refine Mine.e2_2 z10x3 ?_; intro t x hx z10x3x3; (try clear z10x3); (rcases z10x3x3 with rfl)); intro j e o F₁ N₁)
    exact turn i x t T m nw its h tk E' hx hT j e o F₁ N₁
  · exact fun m nw h tk E' j F₁ N₁ => last m nw h tk E' j F₁ N₁
end
end Mine
namespace Mine
section
variable {prog : Program} {w : World} {A : Around} {E : Value → Shared → Prop} {s : Shared} {env : Env} {target : Expr} {body orelse : List Stmt} {Q : Flow → Shared → Prop}
theorem go_iter {ty : String} {I : Addr} {f : Array Value} (hty : (["enumerate", "zip", "dict_itemiterator", "dict_reverseitemiterator", "odict_iterator", "itertools.zip_longest", "itertools.pairwise"] : List String).contains ty = false) {v : Value} {Q : Unit → Shared → Prop}
    (hI : ∃ o, s.heap.get? I = some o ∧ o.cls = .type ty ∧ o.data = .fields f) (h : Q () s) : wpAny (model prog w) A (letOwnedTupleGo target (.ref I) v) Q E s := by
  (refine Mine.e1_3 hI ?_; intro o ho hc hd; (try clear hI))
  unfold letOwnedTupleGo
  split
  · split
    · rename_i r a e
      cases e
      refine wpAny_bind (wpAny_load ho ?_)
      rw [hc, hd]
      simp only [hty, Bool.false_and, Bool.false_eq_true, if_false]
      exact wpAny_pure h
    · exact wpAny_pure h
  · split
    · rename_i r a e
      cases e
      refine wpAny_bind (wpAny_load ho ?_)
      rw [hc, hd]
      simp only [hty, Bool.false_and, Bool.false_eq_true, if_false]
      exact wpAny_pure h
    · exact wpAny_pure h
  · exact wpAny_pure h
theorem one_of {a : Addr} {its : Led} (e : its.map (·.1) = [a]) : ∃ o, its = [(a, o)] := by
  cases its with
  | nil => simp at e
  | cons p r =>
    simp only [List.map_cons, List.cons.injEq, List.map_eq_nil_iff] at e
    obtain ⟨e1, e2⟩ := e
    subst e1 e2
    exact ⟨p.2, rfl⟩
theorem two_of {a b : Addr} {its : Led} (e : its.map (·.1) = [a, b]) : ∃ o p, its = [(a, o), (b, p)] := by
  cases its with
  | nil => simp at e
  | cons p r =>
    simp only [List.map_cons, List.cons.injEq] at e
    obtain ⟨e1, e2⟩ := e
    obtain ⟨o, rfl⟩ := one_of e2
    subst e1
    exact ⟨p.2, o, rfl⟩
theorem fr_pin {h₀ h : Heap} {L : Addr} {m : Nm} (x : Str) {v : Value} (F : Fr h₀ L h m) (e : m x = some v) : Fr h₀ L h (fun y => if y = x then some v else m y) := by
  have : (fun y => if y = x then some v else m y) = m := by
    funext y
    by_cases h : y = x
    · rw [if_pos h, h, e]
    · rw [if_neg h]
  rw [this]; exact F
/-- where a sequence's items lie while the loop runs: in the base, or in every ledger that the word admits -/
noncomputable def Stays (h₀ : Heap) (c : String) (l : Addr) (items : Array Value) (J : Nat → Nm → Led → Prop) : Prop :=
  ∃ o : Obj, o.cls = .type c ∧ (∃ n, o.data = .seq items n) ∧ (h₀.get? l = some o ∨ ∀ i m nw, J i m nw → (l, o) ∈ nw)
theorem Stays.at {h₀ h : Heap} {L : Addr} {m : Nm} {nw : Led} {c : String} {l : Addr} {items : Array Value} {J : Nat → Nm → Led → Prop} {i : Nat} {o : Obj} (S : h₀.get? l = some o ∨ ∀ i m nw, J i m nw → (l, o) ∈ nw)
    (F : Fr h₀ L h m) (N : News h₀ L h nw) (j : J i m nw) : h.get? l = some o := S.elim (fun e => F.keep _ _ e) fun k => (N _ (k _ _ _ j)).1
theorem none_above {h₀ h : Heap} {L : Addr} {m : Nm} (F : Fr h₀ L h m) {a : Addr} (ha : h.objs.size ≤ a) : h₀.get? a = none := by
  cases e : h₀.get? a with
  | none => rfl
  | some o => exact absurd (Heap.lt_size (F.keep _ _ e)) (Nat.not_lt.mpr ha)
/-- for item in a tuple -/
theorem loop_tup {h₀ : Heap} {L : Addr} {m₀ : Nm} {news : Led} {l : Addr} {items : Array Value} (J : Nat → Nm → Led → Prop) (hh : A.handled = none) (F : Fr h₀ L s.heap m₀) (N : News h₀ L s.heap news)
    (hl : Stays h₀ "tuple" l items J) (j0 : J 0 m₀ news)
    (turn : ∀ i x m nw oI h tk (E' : Value → Shared → Prop), items[i]? = some x → J i m nw → (∀ p ∈ nw, p.1 ≠ s.heap.objs.size) → Fr h₀ L h m → News h₀ L h ((s.heap.objs.size, oI) :: nw) →
      wpAny (model prog w) A (assign target env x) (fun _ s₂ => wpAny (model prog w) A (execs body env) (TL h₀ L s Q [(s.heap.objs.size, oI)] (J (i + 1))) E' s₂) E' { s with heap := h, toks := tk })
    (last : ∀ m nw h tk (E' : Value → Shared → Prop), J items.size m nw → Fr h₀ L h m → News h₀ L h nw → wpAny (model prog w) A (execs orelse env) Q E' { s with heap := h, toks := tk }) :
    wpAny (model prog w) A (pyIter (.ref l)) (fun it s₂ => LoopIn prog w A env target body orelse Q it s₂) E s := by
  (refine Mine.e1_3 hl ?_; intro ol hc z2x2 S; (try clear hl); (rcases z2x2 with ⟨nl, hd⟩))
  have hol := Stays.at (c := "tuple") (items := items) S F N j0
  have hlt : l < s.heap.objs.size := Heap.lt_size hol
  refine wpAny_pyIter_tuple ⟨ol, hol, hc, nl, hd⟩ fun X => ⟨_, rfl, ?_⟩
  have hk : ∀ b o, s.heap.get? b = some o → (s.heap.push { cls := .type "tuple_iterator", data := .fields #[.ref l, .int 0 0] }).get? b = some o := fun b o e => Heap.get?_push_of_some _ e
  have W := Walks.tuple (prog := prog) (w := w) hh s.heap.objs.size l (Nat.ne_of_lt hlt) items
  refine loop_led (h₀ := h₀) (L := L) (m₀ := m₀) (news := news) (s := { s with heap := _ }) (KTurns.ofWalks (target := target) W fun i v s Q E st hQ => ?_) ?_ ?_ ?_ (F.keeps hk) (N.grown hk) ?_ ⟨⟨_, Heap.get?_push_size _ rfl, rfl, rfl⟩, ⟨ol, hk _ _ hol, hc, nl, hd⟩⟩ J j0 ?_ ?_ ?_ X
  · (refine Mine.e1_3 st.1 ?_; intro o ho hc hd; (try clear st.1))
    exact go_iter (ty := "tuple_iterator") (by decide) ⟨o, ho, hc, hd⟩ hQ
  · intro b hb
    rw [List.mem_singleton.mp hb]; exact none_above F (Nat.le_refl _)
  · intro hb
    have := F.ns.lt
    rw [List.mem_singleton.mp hb] at this
    exact Nat.lt_irrefl _ this
  · (intro i h z4h; rcases z4h with ⟨⟨o, ho, _⟩, _⟩; intro b hb)
    rw [List.mem_singleton.mp hb]; exact ⟨o, ho⟩
  · intro p hp hb
    have := Heap.lt_size (N p hp).1
    rw [List.mem_singleton.mp hb] at this; exact Nat.lt_irrefl _ this
  · intro i m nw h j F₁ N₁ b hb hbw h₁ k₁ i' m' nw' j' N₁'
    have hbl : b = l := by
      rcases List.mem_cons.mp hb with rfl | hb
      · exact absurd List.mem_cons_self hbw
      · exact List.mem_singleton.mp hb
    rw [hbl, Stays.at (c := "tuple") (items := items) S F₁ N₁ j]
    exact S.elim (fun e => k₁ _ _ e) fun k => (N₁' _ (k _ _ _ j')).1
  · rintro i v m nw its h tk E' hi hx j e o F₁ N₁
    obtain ⟨oI, rfl⟩ := one_of e
    exact turn i v m nw oI h tk E' hx j (fun p hp q => o p hp (by simpa using q)) F₁ N₁
  · exact fun m nw h tk E' j F₁ N₁ => last m nw h tk E' j F₁ N₁
/-- for item in a list -/
theorem loop_list {h₀ : Heap} {L : Addr} {m₀ : Nm} {news : Led} {l : Addr} {items : Array Value} (J : Nat → Nm → Led → Prop) (hh : A.handled = none) (F : Fr h₀ L s.heap m₀) (N : News h₀ L s.heap news)
    (hl : Stays h₀ "list" l items J) (j0 : J 0 m₀ news)
    (turn : ∀ i x m nw oI h tk (E' : Value → Shared → Prop), items[i]? = some x → J i m nw → (∀ p ∈ nw, p.1 ≠ s.heap.objs.size) → Fr h₀ L h m → News h₀ L h ((s.heap.objs.size, oI) :: nw) →
      wpAny (model prog w) A (assign target env x) (fun _ s₂ => wpAny (model prog w) A (execs body env) (TL h₀ L s Q [(s.heap.objs.size, oI)] (J (i + 1))) E' s₂) E' { s with heap := h, toks := tk })
    (last : ∀ m nw h tk (E' : Value → Shared → Prop), J items.size m nw → Fr h₀ L h m → News h₀ L h nw → wpAny (model prog w) A (execs orelse env) Q E' { s with heap := h, toks := tk }) :
    wpAny (model prog w) A (pyIter (.ref l)) (fun it s₂ => LoopIn prog w A env target body orelse Q it s₂) E s := by
  (refine Mine.e1_3 hl ?_; intro ol hc z5x2 S; (try clear hl); (rcases z5x2 with ⟨nl, hd⟩))
  have hol := Stays.at (c := "list") (items := items) S F N j0
  have hlt : l < s.heap.objs.size := Heap.lt_size hol
  refine wpAny_pyIter_list ⟨ol, hol, hc, nl, hd⟩ fun X => ⟨_, rfl, ?_⟩
  have hk : ∀ b o, s.heap.get? b = some o → (s.heap.push { cls := .type "list_iterator", data := .fields #[.ref l, .int 0 0] }).get? b = some o := fun b o e => Heap.get?_push_of_some _ e
  have W := Walks.list (prog := prog) (w := w) hh s.heap.objs.size l (Nat.ne_of_lt hlt) items
  refine loop_led (h₀ := h₀) (L := L) (m₀ := m₀) (news := news) (s := { s with heap := _ }) (KTurns.ofWalks (target := target) W fun i v s Q E st hQ => ?_) ?_ ?_ ?_ (F.keeps hk) (N.grown hk) ?_ ⟨⟨_, Heap.get?_push_size _ rfl, rfl, rfl⟩, ⟨ol, hk _ _ hol, hc, nl, hd⟩⟩ J j0 ?_ ?_ ?_ X
  · (refine Mine.e1_3 st.1 ?_; intro o ho hc hd; (try clear st.1))
    exact go_iter (ty := "list_iterator") (by decide) ⟨o, ho, hc, hd⟩ hQ
  · intro b hb
    rw [List.mem_singleton.mp hb]; exact none_above F (Nat.le_refl _)
  · intro hb
    have := F.ns.lt
    rw [List.mem_singleton.mp hb] at this
    exact Nat.lt_irrefl _ this
  · (intro i h z7h; rcases z7h with ⟨⟨o, ho, _⟩, _⟩; intro b hb)
    rw [List.mem_singleton.mp hb]; exact ⟨o, ho⟩
  · intro p hp hb
    have := Heap.lt_size (N p hp).1
    rw [List.mem_singleton.mp hb] at this; exact Nat.lt_irrefl _ this
  · intro i m nw h j F₁ N₁ b hb hbw h₁ k₁ i' m' nw' j' N₁'
    have hbl : b = l := by
      rcases List.mem_cons.mp hb with rfl | hb
      · exact absurd List.mem_cons_self hbw
      · exact List.mem_singleton.mp hb
    rw [hbl, Stays.at (c := "list") (items := items) S F₁ N₁ j]
    exact S.elim (fun e => k₁ _ _ e) fun k => (N₁' _ (k _ _ _ j')).1
  · rintro i v m nw its h tk E' hi hx j e o F₁ N₁
    obtain ⟨oI, rfl⟩ := one_of e
    exact turn i v m nw oI h tk E' hx j (fun p hp q => o p hp (by simpa using q)) F₁ N₁
  · exact fun m nw h tk E' j F₁ N₁ => last m nw h tk E' j F₁ N₁
end
section
variable {prog : Program} {w : World} {A₀ A : Around} {s : Shared} {base h₀ : Heap} {outer : List Env} {L : Addr} {m : Nm} {env : Env}
/-- a def whose names lie in cells, called; what stands in the caller's heap stands in the call's ground -/
theorem code_defCG {K : Frag} {p : Program} {loose : List Str} {mean : ExcName → Option Value} {mg mb : Nm} {R : Result → Shared → Prop} {name qual : Str} {params : Arguments} {body : List Stmt} {scope : Scope} {dV kV doc pm cdv ct oc : Value} {an od : Option Addr} {osl : Array (Option Value)} {f : Addr} {args : Args} {binds : List (Str × Value)}
    (B : Below A₀ base outer h₀) (F : Fr h₀ L s.heap m) (X₀ : K.In h₀) (T : Top p loose mean mg mb h₀) (hA : A.frames = some (env :: outer)) (hf : env.frame = some L) (hke : env.scope.kind = .function)
    (ho : K.lookup f = some ⟨oc, od, .func (fnOf name qual params body scope dV kV doc pm an cdv ct), osl⟩) (hcd : codeIn K cdv qual = true) (hroom : A.depth < recursionLimit)
    (hbind : BindsTo s (fnOf name qual params body scope dV kV doc pm an cdv ct) args binds) (hkind : (binds.all fun y => scope.names.lookup y.1 == some .local || scope.names.lookup y.1 == some .cell) = true)
    (hnd : ((cellsFrom 0 scope.names []).map (·.1)).Nodup)
    (h : ∀ g L' h₁ tk cells, Fr h₀ L g m → Fr g L' h₁ (bindL (envOfC qual scope L' f cdv).kindOf binds fun _ => none) → News g L' h₁ cells →
      CellsAre (bindC (envOfC qual scope L' f cdv).kindOf binds fun _ => none) (cellsFrom (L' + 1) scope.names []) cells → Below A base (env :: outer) g → K.In g → Top p loose mean mg mb g → GSub s.heap g (([] : Led).map (·.1)) →
      wpAny (model prog w) (A.deeper (envOfC qual scope L' f cdv)) (execs body (envOfC qual scope L' f cdv))
        (fun fl s' => LeaveK h₀ L m g R (match fl with | .ret v => v | _ => .none) s')
        (fun e s' => wpAny (model prog w) (A.deeper (envOfC qual scope L' f cdv)) (leaving (envOfC qual scope L' f cdv) e) (fun _ s'' => R (.error e) s'') (fun e' s'' => R (.error e') s'') s')
        { s with heap := h₁, toks := tk })
    (hco : scope.isCoroutine = false) (hgen : scope.isGenerator = false) (hk : scope.kind = .function) : codeAny (model prog w) A (.call (.ref f) args) R s := by
  (have z8 := (groundX (R := R) B F (News.nil (h := s.heap)) hA hf hke); refine Mine.e0_4 z8 ?_; intro FG BG st lv; (try clear z8))
  refine codeAny_call_function (fd := fnX name qual params body scope [] dV kV doc pm an cdv ct) hroom ((X₀.keeps F.keep) _ _ ho) rfl hco hgen rfl (codeRec_of (X₀.keeps F.keep) hcd) (hbind _ _ _ _ ?_)
  refine wpAny_newFunctionEnv_cells hk (kindsX hkind _) fun env' he s' x => ?_
  subst he
  refine ⟨(T.nolimit.keeps F.keep).keeps x.toInCall.keep, codeAny_func ?_⟩
  (refine Mine.e2_2 x.done ?_; intro h₁ tk z9x2 _; (try clear x.done); (rcases z9x2 with rfl))
  have hk₁ := x.toInCall.keep
  (have z10 := (Cl.news (h₀ := s.heap) (Nat.le_refl _) fun n c hm => ⟨x.cell n c (lookup_of_mem_nodup (cellsFrom_names scope.names 0 (s.heap.objs.size + 1) [] [] rfl ▸ hnd) hm), x.above n c hm⟩); refine Mine.e1_2 z10 ?_; intro cells NC Y; (try clear z10))
  refine wpAny_mono (h _ s.heap.objs.size h₁ tk cells FG ⟨x.toInCall.ns, fun b o e => hk₁ b o (of_hideAll _ e), Nat.le_of_eq (hideAll_size _ _)⟩ (fun p hp => ?_) Y BG (X₀.keeps st) (T.keeps st) (fun b o e n => hideAll_get _ e n)) (fun fl s' hl => lv _ _ hl) fun _ _ y => y
  refine ⟨(NC p hp).1, (NC p hp).2.1, ?_⟩
  cases q : (hideAll s.heap (([] : Led).map (·.1))).get? p.1 with
  | none => rfl
  | some o => have := of_hideAll _ q; rw [(NC p hp).2.2] at this; cases this
end
end Mine
theorem Mine.kw1 : True := by
  (k_with "1:execs cons" => (((with_reducible refine execs_consG ?_); intro _ _ _)))
  (k_with "1:cell_enter" => ((refine' code_defG (N := News.nil) ?k1 ?k2 ?k3 ?k5 ?kA ?kF ?kK ?k6 ?k7 ?k8 ?k9 ?kB ?_ ?c2 ?c3 ?c4 ?c5; (case kA => exact rfl); (case kF => exact rfl); (case kK => assumption); (case k1 => k_asm); (case k2 => k_asm); (case k3 => k_asm); (case k5 => k_asm); (case k6 => k_is); (case k7 => k_is); (case k8 => ktr_room); (case k9 => exact BindsTo.of_eq rfl); (case c5 => decide); (case kB => exact locs rfl); (case c2 => exact rfl); (case c3 => exact rfl); (case c4 => exact rfl); k_whole; intro _ _ _ _ _ _ Bzq _ _ _; (try dsimp only); (try k_lift Bzq); (try k_fold))))
  (k_with "1:call builtin:dict.get" => ((k_here; (try dsimp only); (with_reducible show wpAny _ _ (call (Value.builtin "dict.get") [Value.ref _, Value.int _ _, Value.str _ _]) _ _ _); k_dflt (refine get2_strs (D' := kindD) (by k_tabat) (by with_unfolding_all rfl) (by with_unfolding_all rfl) ?_); intro _ yGq eGq; have lGq : Str.length yGq = 1 := (eGq.e ▸ pick_len (by with_unfolding_all rfl) (by with_unfolding_all rfl)))))
  (k_with "1:binaryOp Pow int int" => ((k_here; first
  | (with_reducible refine powL (c := 64) (by decide) (by decide) (by decide) (by decide) ?_)
  | (with_reducible refine powL (c := 8) (by decide) (by decide) (by decide) (by decide) ?_)
  | (with_reducible refine powL (c := 1) (by decide) (by decide) (by decide) (by decide) ?_)
  | (with_reducible refine powL (c := 4) (by decide) (by decide) (by decide) (by decide) ?_)
  | (with_reducible refine powL (c := 2) (by decide) (by decide) (by decide) (by decide) ?_))))
  (k_with "1:binaryOp Mult int int" => ((k_here; first
  | (with_reducible refine mulL (c := 2048) (by decide) (by decide) ?_)
  | (with_reducible refine mulL (c := 1024) (by decide) (by decide) ?_)
  | (with_reducible refine mulL (c := 512) (by decide) (by decide) ?_)
  | (with_reducible refine mul_int ?_ (IntMulOk.of_right (intBits_le_64 (by decide) (by decide)))))))
  (k_with "1:binaryOp FloorDiv int int" => ((k_here; (with_reducible refine fdivL ?kd1 ?kd2 ?_); (case kd1 => decide); (case kd2 => decide +kernel); intro _ _ _ _)))
  (k_with "1:binaryOp Mod int int" => ((k_here; (with_reducible refine fmodL ?kd1 ?_); (case kd1 => k_dflt (first | decide | omega | ((simp only [List.length_append, List.length_cons, List.length_nil] at *); omega))); intro _ _ _ _)))
  (k_with "1:ktr_rel" => ((repeat ((with_reducible rename Tw _ _ => eTq); (try rw [eTq.e]); clear eTq))))
  (k_with "1:call builtin:list.append cons nil" => ((k_here; (with_reducible show wpAny _ _ (call (Value.builtin _) [Value.ref _, _]) _ _ _); k_dflt (refine' app_led ?kF ?kN ?kM ?kZ ?_; (case kF => k_asm); (case kN => k_asm); (case kM => k_mem); (case kZ => tb_rel)); intro _ _ _; tb_start)))
  (k_with "1:tb_rel" => (first | assumption | omega | ((simp only [List.size_toArray, Array.size_push, List.length_append, List.length_cons, List.length_nil] at *); omega)))
  (k_with "1:tb_start" => (((rename News _ _ _ (updA _ _ _) => N9q); simp (disch := first | assumption | exact Ne.symm (by assumption) | omega) only [updA_nil, updA_eq, updA_ne, updA_app, updA_id, List.cons_append, List.nil_append] at N9q)))
  (k_with "1:cell_call" => ((refine' code_defCG ?k1 ?k2 ?k3 ?k5 ?kA ?kF ?kK ?k6 ?k7 ?k8 ?k9 ?kB ?kD ?_ ?c2 ?c3 ?c4; (case kA => exact rfl); (case kF => exact rfl); (case kK => assumption); (case k1 => k_asm); (case k2 => k_asm); (case k3 => k_asm); (case k5 => k_asm); (case k6 => k_is); (case k7 => k_is); (case k8 => ktr_room); (case k9 => exact BindsTo.of_eq rfl); (case kB => exact rfl); (case kD => decide +kernel); (case c2 => exact rfl); (case c3 => exact rfl); (case c4 => exact rfl); k_whole; intro _ _ _ _ _ _ _ Nzq Yzq Bzq _ _ _; k_cells Yzq; (try simp only [List.cons_append, List.nil_append] at Nzq); (try dsimp only); (try k_lift Bzq); (try k_fold))))
  (k_with "1:binaryOp Add ref ref" => ((k_here; (with_reducible show wpAny _ _ (binaryOp _ (Value.ref _) (Value.ref _)) _ _ _); (rename Fr _ _ _ _ => F9q); (rename News _ _ _ _ => N9q); first
  | (k_dflt (refine' add_ledI F9q N9q ?ka ?kb ?ki ?kj ?kz ?_; (case ka => got_up); (case kb => got_up); (case ki => l_ints); (case kj => l_ints); (case kz => tb_rel)); intro _ _ _ _ l1q _; (try k_lt l1q); (revert l1q; intro _))
  | (k_dflt (refine' add_led F9q N9q ?ka ?kb ?kz ?_; (case ka => got_up); (case kb => got_up); (case kz => tb_rel)); intro _ _ _ _ l1q; (try k_lt l1q); (revert l1q; intro _)))))
  (k_with "1:got_up" => (first | exact ⟨_, (News.get (by k_asm) (by k_mem)), rfl, _, rfl⟩ | is_list))
  (k_with "1:subscriptTail Name Slice ref ref" => ((k_here; (with_reducible show wpAny _ _ (subscriptTail _ (PySem.Expr.Slice _ _ none _) (Value.ref _) (Value.ref _)) _ _ _); k_dflt (refine' slice_intsF ?kF ?kN ?kl ?kp ?kq ?ki ?km rfl ?_ ?ks ?kt ?kz; (case kF => k_asm); (case kN => k_asm); (case kl => got_up); (case kp => kmk_part); (case kq => kmk_part); (case ki => l_ints); (case km => first | exact kmk_upto (by l_ints) (by omega) | exact kmk_run (by l_ints) (by omega) (by omega)); (case ks => with_unfolding_all rfl); (case kt => kmk_pure); (case kz => (rw [List.size_toArray, sizeLine_eq]; omega))); intro _ _ _ _ _ l1q hIq hCq hLq; (try simp only [Int.toNat_natCast] at hIq); clear hCq hLq; (try k_lt l1q); (revert l1q; intro _))))
  (k_with "1:compareOp Eq ref ref" => ((k_here; (with_reducible show wpAny _ _ (compareOp CmpOp.Eq (Value.ref _) (Value.ref _)) _ _ _); k_dflt (refine' eq_intsK ?k1 ?k2 ?k3 ?k4 ?k5 ?_; (case k1 => got_up); (case k2 => l_ints); (case k3 => got_up); (case k4 => l_ints); (case k5 => ktr_units)))))
  (k_with "1:compareOp NotEq ref ref" => ((k_here; (with_reducible show wpAny _ _ (compareOp CmpOp.NotEq (Value.ref _) (Value.ref _)) _ _ _); k_dflt (refine' ne_intsK ?k1 ?k2 ?k3 ?k4 ?k5 ?_; (case k1 => got_up); (case k2 => l_ints); (case k3 => got_up); (case k4 => l_ints); (case k5 => ktr_units)))))
  (k_with "1:isplit" => (repeat' ((fail_if_success (with_reducible show wpAny _ _ (pyIter _) (CompIn _ _ _ _ _ _ _ _ _ _ _ _) _ _)); (fail_if_success (with_reducible show wpAny _ _ (pyIter _) (CompInA _ _ _ _ _ _ _ _ _ _ _ _ _) _ _)); (fail_if_success (with_reducible show wpAny _ _ (pyIter _) (fun it s₂ => LoopIn _ _ _ _ _ _ _ _ it s₂) _ _)); (fail_if_success (with_reducible show CE _ _ _ _ _ _ _ _)); (fail_if_success (with_reducible show TL _ _ _ _ _ _ Flow.next _)); (fail_if_success (with_reducible show TL _ _ _ _ _ _ Flow.cont _)); (first | (with_reducible refine stepN (by assumption) ?_; (try dsimp only)) | (with_reducible refine stepRet (by assumption) ?_) | (with_reducible refine stepCont (by assumption) ?_) | (with_reducible refine stepBrk (by assumption) ?_) | (k_unfold; (try dsimp only)) | (k_end; wrow_close) | (walk1 <;> (try dsimp only)) | (dsimp only; walk1 <;> (try dsimp only)) | (leave1; try dsimp only) | fail "no step"))))
  (k_with "1:call builtin:len cons nil" => ((k_here; (with_reducible show wpAny _ _ (call (Value.builtin _) [Value.ref _]) _ _ _); k_dflt (refine' len_led ?kl ?kn ?kz ?_; (case kl => got_up); (case kn => first | exact IntsAre.length (by l_ints) | exact StrsAre.length (by assumption) | exact rfl); (case kz => first | omega | ((try simp only [List.length_take, List.length_drop, List.length_append, List.length_cons, List.length_nil, Array.length_toList]); omega))); intro _ _)))
  (k_with "1:one_sign" => ((((repeat (first | (with_reducible refine stepN (by assumption) ?_; (try dsimp only)) | (with_reducible refine stepRet (by assumption) ?_) | (with_reducible refine stepCont (by assumption) ?_) | (with_reducible refine stepBrk (by assumption) ?_))); (first | (k_unfold; (try dsimp only)) | (k_end; wrow_close) | (walk1 <;> (try dsimp only)) | (dsimp only; walk1 <;> (try dsimp only)) | (leave1; try dsimp only) | fail "no step")) <;> (repeat (first | (with_reducible refine stepN (by assumption) ?_; (try dsimp only)) | (with_reducible refine stepRet (by assumption) ?_) | (with_reducible refine stepCont (by assumption) ?_) | (with_reducible refine stepBrk (by assumption) ?_))))))
  (k_with "1:subscriptTail Name Slice str ref" => ((k_here; (rename Fr _ _ _ _ => F9q); (rename News _ _ _ _ => N9q); first
  | ((with_reducible show wpAny _ _ (subscriptTail _ (PySem.Expr.Slice none (some _) none _) _ _) _ _ _); k_dflt (refine slice_strN_ns (hsz := ?hsz) (s := ⟨_, _, _, _, _⟩) F9q N9q ?_); (case hsz => (rw [sizeLine_eq]; omega)); intro _ _ _ _ _)
  | ((with_reducible show wpAny _ _ (subscriptTail _ (PySem.Expr.Slice (some _) none none _) _ _) _ _ _); k_dflt (refine slice_strN_sn (hsz := ?hsz) (s := ⟨_, _, _, _, _⟩) F9q N9q ?_); (case hsz => (rw [sizeLine_eq]; omega)); intro _ _ _ _ _))))
  (k_with "1:k_steps" => (repeat' (first | (with_reducible refine stepN (by assumption) ?_; (try dsimp only)) | (with_reducible refine stepRet (by assumption) ?_) | (with_reducible refine stepCont (by assumption) ?_) | (with_reducible refine stepBrk (by assumption) ?_) | (k_unfold; (try dsimp only)) | (k_end; kc_close) | (walk1 <;> (try dsimp only)) | (dsimp only; walk1 <;> (try dsimp only)) | (leave1; walk_say "STEP leave1"; (try dsimp only)) | fail "no step")))
  (k_with "1:eval Constant int" => ((with_reducible refine const_intF ?_)))
  (k_with "1:eval Constant str" => ((with_reducible refine const_strF ?_)))
  trivial
section
local macro_rules | `(tactic| walk_at $s:str) => `(tactic| k_extra $(Lean.Syntax.mkStrLit ("1:" ++ s.getString)))
local macro_rules | `(tactic| cell_enter) => `(tactic| k_extra "1:cell_enter")
local macro_rules | `(tactic| ktr_rel) => `(tactic| k_extra "1:ktr_rel")
local macro_rules | `(tactic| tb_rel) => `(tactic| k_extra "1:tb_rel")
local macro_rules | `(tactic| tb_start) => `(tactic| k_extra "1:tb_start")
local macro_rules | `(tactic| cell_call) => `(tactic| k_extra "1:cell_call")
local macro_rules | `(tactic| got_up) => `(tactic| k_extra "1:got_up")
local macro_rules | `(tactic| isplit) => `(tactic| k_extra "1:isplit")
local macro_rules | `(tactic| one_sign) => `(tactic| k_extra "1:one_sign")
local macro_rules | `(tactic| k_steps) => `(tactic| k_extra "1:k_steps")
theorem Mine.off2 : True := by (w_top off); trivial
section
local macro_rules | `(tactic| walk_at $s:str) => `(tactic| k_extra $(Lean.Syntax.mkStrLit ("Signs:" ++ s.getString)))
namespace Mine
set_option maxHeartbeats 4000000
theorem fill0 : PySem.Challenge.rw_oy0323_01 = PySem.Challenge.rw_oy0323_01 ∧ hd.heap_1 = hd.heap_1 := by (k_fill; exact ⟨rfl, rfl⟩)
noncomputable def kindD : List (PyData × PyData) := [(.int 8, .str (Str.ofString "-")), (.int 6, .str (Str.ofString "b")), (.int 2, .str (Str.ofString "c")), (.int 4, .str (Str.ofString "d")), (.int 10, .str (Str.ofString "l")), (.int 1, .str (Str.ofString "p")), (.int 12, .str (Str.ofString "s"))]
noncomputable def pickS (k : Int) (D : List (PyData × PyData)) (x : Str) : Str := match PySem.Spec.lookup (.int k) D with
  | some (.str y) => y
  | _ => x
noncomputable def allStr (D : List (PyData × PyData)) : Bool := D.all fun p => match p.2 with | .str _ => true | _ => false
theorem lookup_allStr {k : PyData} : ∀ {D : List (PyData × PyData)} {dv : PyData}, allStr D = true → PySem.Spec.lookup k D = some dv → ∃ y, dv = .str y
  | [], _, _, h => by cases h
  | (a, b) :: r, d, hD, h => by
    simp only [allStr, List.all_cons, Bool.and_eq_true] at hD
    unfold PySem.Spec.lookup at h
    split at h
    · cases h; obtain ⟨h1, _⟩ := hD; cases b <;> first | exact ⟨_, rfl⟩ | cases h1
    · exact lookup_allStr hD.2 h
theorem pick_len {k : Int} {x : Str} {n : Nat} {D : List (PyData × PyData)} (hD : (D.all fun p => match p.2 with | .str y => y.length == n | _ => false) = true) (h : x.length = n) : (pickS k D x).length = n := by
  induction D with
  | nil => unfold pickS PySem.Spec.lookup; exact h
  | cons p r ih =>
    obtain ⟨a, b⟩ := p
    simp only [List.all_cons, Bool.and_eq_true] at hD
    have ih := ih hD.2
    unfold pickS at ih ⊢
    rw [show PySem.Spec.lookup (PyData.int k) ((a, b) :: r) = if PySem.Spec.same a (.int k) then some b else PySem.Spec.lookup (.int k) r from rfl]
    by_cases hs : PySem.Spec.same a (.int k) = true
    · rw [if_pos hs]
      cases b <;> first | exact beq_iff_eq.mp hD.1 | exact h
    · rw [if_neg hs]; exact ih
theorem get2_strs {prog : Program} {w : World} {A : Around} {E : Value → Shared → Prop} {s : Shared} {d : Addr} {D D' : List (PyData × PyData)} {k : Int} {t u : Tok} {x : Str} {Q : Value → Shared → Prop}
    (T : TabAt (PySem.intKind prog w) PyData.int s.heap d D) (hDD : D = D') (hD : allStr D = true) (h' : ∀ t' y, Tw y (pickS k D' x) → Q (.str y t') { s with toks := s.toks + 1 }) :
    wpAny (model prog w) A (call (.builtin "dict.get") [.ref d, .int k t, .str x u]) Q E s := by
  subst hDD
  have h : ∀ t', Q (.str (pickS k D x) t') { s with toks := s.toks + 1 } := fun t' => h' t' _ ⟨rfl⟩
  refine call_get2_tab (dd := .str x) PyProof.V.same_int (intKind_is _ _ _ _) T (Flat.str x u) fun v hv => ?_
  cases hl : PySem.Spec.lookup (PyData.int k) D with
  | some dv =>
    rw [hl] at hv
    obtain ⟨y, rfl⟩ := lookup_allStr hD hl
    obtain ⟨t', rfl⟩ := hv.str_inv
    have := h t'
    unfold pickS at this
    rw [hl] at this
    exact this
  | none =>
    rw [hl] at hv
    obtain ⟨t', rfl⟩ := hv.str_inv
    have := h t'
    unfold pickS at this
    rw [hl] at this
    exact this
theorem addS {prog : Program} {w : World} {A : Around} {E : Value → Shared → Prop} {hp : Heap} {gn : Array GenState} {dr} {tk : Nat} {os} {a b : Str} {t u : Tok} {la lb : Nat} {Q : Value → Shared → Prop} (ha : a.length = la) (hb : b.length = lb) (hz : la + lb ≤ 16777216)
    (h : ∀ y t' k, Tw y (a ++ b) → y.length = la + lb → Q (.str y t') ⟨hp, gn, dr, k, os⟩) : wpAny (model prog w) A (binaryOp .Add (.str a t) (.str b u)) Q E ⟨hp, gn, dr, tk, os⟩ :=
  KXadd.add (Nat.le_of_eq ha) (Nat.le_of_eq hb) hz fun t' k hl => h _ t' k ⟨rfl⟩ (by rw [PySem.Str.length_append, ha, hb])
theorem Mine.kw3 : True := by
  (k_with "Signs:binaryOp Add str str" => ((k_here; (with_reducible show wpAny _ _ (binaryOp Operator.Add (Value.str _ _) (Value.str _ _)) _ _ _); (refine' addS ?ka ?kb ?kz ?_; (case ka => assumption); (case kb => assumption); (case kz => exact Nat.le_of_ble_eq_true rfl)); intro _ _ _ _ _)))
  trivial
noncomputable def tripF (i a b : Int) (marks : Str) : Str → Str := fun y => y ++ Txt.item (Str.ofString "-r") (((i.fdiv a).fmod 8).fdiv 4) ++ Txt.item (Str.ofString "-w") ((((i.fdiv a).fmod 8).fdiv 2).fmod 2) ++ Txt.item marks (((i.fdiv b).fmod 2) * 2 + ((i.fdiv a).fmod 8).fmod 2)
noncomputable def signsF (i : Int) : Str := tripF i 1 512 (Str.ofString "-xTt") (tripF i 8 1024 (Str.ofString "-xSs") (tripF i 64 2048 (Str.ofString "-xSs") (pickS (i.fdiv 4096) kindD (Str.ofString "?"))))
theorem c_signs (w : World) (i : Int) (t : Tok) (h0 : 0 ≤ i) (h1 : i < 65536) : PCon w 209 [.int i t] 1 8 (fun _ => True) (fun v nw => ∃ t, v = .str (signsF i) t) := by
  intro mean mg mb dp un gd cn cs a ccd cl outer A₀ base h₀ L m s Q E B F X T hk hd' hu hpre ret
  refine wpAny_call ?_
  k_dflt cell_enter
  k_steps
  refine pret ret (by assumption) (by assumption) (by assumption) (by assumption) (by assumption) ?_
  refine ⟨_, congrArg (fun z => Value.str z _) ?_⟩
  ktr_rel
  unfold signsF tripF
  with_reducible rfl
theorem c_ifmt (w : World) (i : Int) (t : Tok) : PCon w 162 [.int i t] 1 8 (fun _ => True) (fun v nw => nw = [] ∧ ∃ t, v = .int (Builtin.bitAnd i 61440) t) := by
  intro mean mg mb dp un gd cn cs a ccd cl outer A₀ base h₀ L m s Q E B F X T hk hd' hu hpre ret
  refine wpAny_call ?_
  k_dflt cell_enter
  k_steps
  exact pret ret (by assumption) (by assumption) (by assumption) (by assumption) (by assumption) ⟨rfl, _, rfl⟩
end Mine
end
namespace Mine
set_option maxHeartbeats 4000000
/-- the table of filemode as it lies at the top -/
noncomputable def fmTab : List (Addr × List (Addr × Int × Str)) := [(170, [(163, 40960, Str.ofString "l"), (164, 49152, Str.ofString "s"), (165, 32768, Str.ofString "-"), (166, 24576, Str.ofString "b"), (167, 16384, Str.ofString "d"), (168, 8192, Str.ofString "c"), (169, 4096, Str.ofString "p")]), (172, [(171, 256, Str.ofString "r")]), (174, [(173, 128, Str.ofString "w")]), (178, [(175, 2112, Str.ofString "s"), (176, 2048, Str.ofString "S"), (177, 64, Str.ofString "x")]), (180, [(179, 32, Str.ofString "r")]), (182, [(181, 16, Str.ofString "w")]), (186, [(183, 1032, Str.ofString "s"), (184, 1024, Str.ofString "S"), (185, 8, Str.ofString "x")]), (188, [(187, 4, Str.ofString "r")]), (190, [(189, 2, Str.ofString "w")]), (194, [(191, 513, Str.ofString "t"), (192, 512, Str.ofString "T"), (193, 1, Str.ofString "x")])]
noncomputable def PairAt (h : Heap) (r : Addr × Int × Str) : Prop := ∃ t u, h.IsTuple r.1 #[.int r.2.1 t, .str r.2.2 u]
noncomputable def TabAt1 (h : Heap) (q : Addr × List (Addr × Int × Str)) : Prop := h.IsTuple q.1 (q.2.map fun r => Value.ref r.1).toArray ∧ ∀ r ∈ q.2, PairAt h r
theorem fm_top {w : World} {h : Heap} (X : (hd.heap_1 w.params).In h) : h.IsTuple 195 (fmTab.map fun q => Value.ref q.1).toArray := ⟨_, X 195 _ (by k_is), rfl, _, rfl⟩
theorem fm_tabs {w : World} {h : Heap} (X : (hd.heap_1 w.params).In h) : ∀ q ∈ fmTab, TabAt1 h q := by
  unfold fmTab
  simp only [List.forall_mem_cons, List.not_mem_nil, false_implies, implies_true, and_true, TabAt1, PairAt, List.map_cons, List.map_nil]
  refine ⟨⟨⟨_, X 170 _ (by k_is), rfl, _, rfl⟩, ⟨⟨_, _, _, X 163 _ (by k_is), rfl, _, rfl⟩, ⟨_, _, _, X 164 _ (by k_is), rfl, _, rfl⟩, ⟨_, _, _, X 165 _ (by k_is), rfl, _, rfl⟩, ⟨_, _, _, X 166 _ (by k_is), rfl, _, rfl⟩, ⟨_, _, _, X 167 _ (by k_is), rfl, _, rfl⟩, ⟨_, _, _, X 168 _ (by k_is), rfl, _, rfl⟩, ⟨_, _, _, X 169 _ (by k_is), rfl, _, rfl⟩⟩⟩, ⟨⟨_, X 172 _ (by k_is), rfl, _, rfl⟩, ⟨_, _, _, X 171 _ (by k_is), rfl, _, rfl⟩⟩, ⟨⟨_, X 174 _ (by k_is), rfl, _, rfl⟩, ⟨_, _, _, X 173 _ (by k_is), rfl, _, rfl⟩⟩, ⟨⟨_, X 178 _ (by k_is), rfl, _, rfl⟩, ⟨⟨_, _, _, X 175 _ (by k_is), rfl, _, rfl⟩, ⟨_, _, _, X 176 _ (by k_is), rfl, _, rfl⟩, ⟨_, _, _, X 177 _ (by k_is), rfl, _, rfl⟩⟩⟩, ⟨⟨_, X 180 _ (by k_is), rfl, _, rfl⟩, ⟨_, _, _, X 179 _ (by k_is), rfl, _, rfl⟩⟩, ⟨⟨_, X 182 _ (by k_is), rfl, _, rfl⟩, ⟨_, _, _, X 181 _ (by k_is), rfl, _, rfl⟩⟩, ⟨⟨_, X 186 _ (by k_is), rfl, _, rfl⟩, ⟨⟨_, _, _, X 183 _ (by k_is), rfl, _, rfl⟩, ⟨_, _, _, X 184 _ (by k_is), rfl, _, rfl⟩, ⟨_, _, _, X 185 _ (by k_is), rfl, _, rfl⟩⟩⟩, ⟨⟨_, X 188 _ (by k_is), rfl, _, rfl⟩, ⟨_, _, _, X 187 _ (by k_is), rfl, _, rfl⟩⟩, ⟨⟨_, X 190 _ (by k_is), rfl, _, rfl⟩, ⟨_, _, _, X 189 _ (by k_is), rfl, _, rfl⟩⟩, ⟨⟨_, X 194 _ (by k_is), rfl, _, rfl⟩, ⟨⟨_, _, _, X 191 _ (by k_is), rfl, _, rfl⟩, ⟨_, _, _, X 192 _ (by k_is), rfl, _, rfl⟩, ⟨_, _, _, X 193 _ (by k_is), rfl, _, rfl⟩⟩⟩⟩
end Mine
theorem Mine.off4 : True := by (w_top off); trivial
section
local macro_rules | `(tactic| walk_at $s:str) => `(tactic| k_extra $(Lean.Syntax.mkStrLit ("Filemode:" ++ s.getString)))
local macro_rules | `(tactic| walk_at "no such") => `(tactic| skip)
namespace Mine
set_option maxHeartbeats 4000000
theorem Mine.kw5 : True := by
  (k_with "Filemode:exec For Tuple Call cons nil" => ((k_here; k_dflt (refine For_in ?_))))
  trivial
theorem Mine.kw6 : True := by
  (k_with "Filemode:exec For Tuple Name cons cons" => ((k_here; k_dflt (refine For_in ?_))))
  trivial
theorem ref_item {α : Type} {f : α → Addr} {xs : List α} {k : Nat} {x : Value} (h : (xs.map fun q => Value.ref (f q)).toArray[k]? = some x) : ∃ q, xs[k]? = some q ∧ x = .ref (f q) := by
  simp only [List.getElem?_toArray, List.getElem?_map, Option.map_eq_some_iff] at h
  (refine Mine.e1_2 h ?_; intro q h1 h2; (try clear h))
  exact ⟨q, h1, h2.symm⟩
theorem Mine.kw7 : True := by
  (k_with "Filemode:TL cons brk" => ((dsimp only [TL])))
  trivial
theorem Mine.kw8 : True := by
  (k_with "Filemode:call ref cons nil" => ((k_here; (with_reducible show wpAny _ _ (call (Value.ref 162) _) _ _ _); k_dflt (refine' pcall (c_ifmt _ _ _) ?k1 ?k2 ?k3 ?k4 ?k5 ?k6 ?k7 ?k8 ?k9 ?_; (case k1 => k_asm); (case k2 => k_asm); (case k3 => k_asm); (case k4 => k_asm); (case k5 => k_asm); (case k6 => exact rfl); (case k7 => ktr_room); (case k8 => ktr_units); (case k9 => trivial)); intro _ _ _ _ _ Nvzq _ _ hpvzq; (obtain ⟨e1', tI, e2'⟩ := hpvzq); subst e1' e2'; (try dsimp only [List.nil_append] at Nvzq))))
  trivial
noncomputable def hits (md : Int) (i : Nat) (b : Int) : Bool := if i = 0 then Builtin.bitAnd md 61440 == b else Builtin.bitAnd md b == b
noncomputable def InJ (p e it : Addr) (oE oI : Obj) (md : Int) (t : Tok) (k : Nat) (tk0 : Tok) (ys : Array Value) (n : Nat) (ps : List (Addr × Int × Str)) (j : Nat) (m : Nm) (nw : Led) : Prop :=
  m (Str.ofString "perm") = some (.ref p) ∧ m (Str.ofString "mode") = some (.int md t) ∧ m (Str.ofString "index") = some (.int (k : Int) tk0) ∧ nw = [(e, oE), (it, oI), (p, W.listOf ys n)] ∧ ∀ r ∈ ps.take j, hits md k r.2.1 = false
noncomputable def pickC (md : Int) (i : Nat) (ps : List (Addr × Int × Str)) : Str := match ps.find? (fun r => hits md i r.2.1) with
  | some r => r.2.2
  | none => if i = 0 then Str.ofString "?" else Str.ofString "-"
noncomputable def fmChars (md : Int) : List Str := fmTab.zipIdx.map fun q => pickC md q.2 q.1.2
noncomputable def fmodeF (md : Int) : Str := Txt.join (Str.ofString "") (fmChars md)
noncomputable def FmJ (p : Addr) (md : Int) (t : Tok) (i : Nat) (m : Nm) (nw : Led) : Prop :=
  ∃ (ys : Array Value) (n : Nat), m (Str.ofString "perm") = some (.ref p) ∧ m (Str.ofString "mode") = some (.int md t) ∧ nw = [(p, W.listOf ys n)] ∧ StrsAre ys.toList ((fmChars md).take i)
theorem hits_no0 {i b : Int} {k : Nat} (h0 : (k : Int) = 0) (h : Builtin.bitAnd i 61440 ≠ b) : hits i k b = false := by
  unfold hits; rw [if_pos (by omega)]; simp [h]
theorem hits_no1 {i b : Int} {k : Nat} (h0 : (k : Int) ≠ 0) (h : Builtin.bitAnd i b ≠ b) : hits i k b = false := by
  unfold hits; rw [if_neg (by omega)]; simp [h]
theorem hits_yes0 {i b : Int} {k : Nat} (h0 : (k : Int) = 0) (h : Builtin.bitAnd i 61440 = b) : hits i k b = true := by
  unfold hits; rw [if_pos (by omega)]; simp [h]
theorem hits_yes1 {i b : Int} {k : Nat} (h0 : (k : Int) ≠ 0) (h : Builtin.bitAnd i b = b) : hits i k b = true := by
  unfold hits; rw [if_neg (by omega)]; simp [h]
theorem take_next {α : Type} {xs : List α} {j : Nat} {r : α} {H : α → Prop} (hr : xs[j]? = some r) (hno : ∀ r ∈ xs.take j, H r) (h : H r) : ∀ r ∈ xs.take (j + 1), H r := by
  intro x hx
  rw [List.take_add_one, hr] at hx
  rcases List.mem_append.mp hx with hx | hx
  · exact hno x hx
  · simp only [Option.toList_some, List.mem_singleton] at hx; subst hx; exact h
theorem find_first {α : Type} {p : α → Bool} {r : α} : ∀ {xs : List α} {j : Nat}, xs[j]? = some r → p r = true → (∀ x ∈ xs.take j, p x = false) → xs.find? p = some r
  | [], _, h, _, _ => by simp at h
  | x :: xs, 0, h, hp, _ => by
    simp only [List.getElem?_cons_zero, Option.some.injEq] at h
    subst h
    rw [List.find?_cons, hp]
  | x :: xs, j + 1, h, hp, hno => by
    rw [List.find?_cons, hno x (by simp)]
    exact find_first (by simpa using h) hp fun y hy => hno y (by rw [List.take_succ_cons]; exact List.mem_cons_of_mem _ hy)
theorem pick_hit {md : Int} {k j : Nat} {ps : List (Addr × Int × Str)} {r : Addr × Int × Str} (hr : ps[j]? = some r) (hno : ∀ r ∈ ps.take j, hits md k r.2.1 = false) (h : hits md k r.2.1 = true) : pickC md k ps = r.2.2 := by
  unfold pickC
  rw [find_first hr h hno]
theorem pick_none {md : Int} {k : Nat} {ps : List (Addr × Int × Str)} (hno : ∀ r ∈ ps.take ps.length, hits md k r.2.1 = false) : pickC md k ps = if k = 0 then Str.ofString "?" else Str.ofString "-" := by
  unfold pickC
  rw [List.take_length] at hno
  rw [List.find?_eq_none.mpr fun x hx => by simp [hno x hx]]
theorem fm_snoc {md : Int} {k : Nat} {q : Addr × List (Addr × Int × Str)} {ys : Array Value} {c : Str} {tc : Tok} (hq : fmTab[k]? = some q) (hys : StrsAre ys.toList ((fmChars md).take k)) (hc : pickC md k q.2 = c) : StrsAre (ys.push (.str c tc)).toList ((fmChars md).take (k + 1)) := by
  have e : (fmChars md)[k]? = some (pickC md k q.2) := by
    unfold fmChars
    rw [List.getElem?_map, List.getElem?_zipIdx, hq]
    simp
  rw [List.take_add_one, e, hc, Array.toList_push]
  exact kct_snoc hys
theorem pick_one {md : Int} {k : Nat} {q : Addr × List (Addr × Int × Str)} (hq : q ∈ fmTab) : (pickC md k q.2).length = 1 := by
  have hall : ∀ q ∈ fmTab, ∀ r ∈ q.2, r.2.2.length = 1 := by decide +kernel
  unfold pickC
  split
  · rename_i r hr
    exact hall q hq r (List.mem_of_find?_eq_some hr)
  · split <;> decide +kernel
theorem fm_one {md : Int} : ∀ c ∈ fmChars md, c.length = 1 := by
  intro c hc
  unfold fmChars at hc
  (have z2 := (List.mem_map.mp hc); refine Mine.e1_2 z2 ?_; intro q hq z2x2; (try clear z2); (rcases z2x2 with rfl))
  exact pick_one (List.fst_mem_of_mem_zipIdx hq)
theorem sum_ones : ∀ {ys : List Str}, (∀ c ∈ ys, c.length = 1) → (ys.map (·.length)).sum = ys.length
  | [], _ => rfl
  | c :: r, h => by
    rw [List.map_cons, List.sum_cons, h c List.mem_cons_self, sum_ones fun x hx => h x (List.mem_cons_of_mem _ hx), List.length_cons]; omega
theorem c_fm (w : World) (i : Int) (t : Tok) : PCon w 202 [.int i t] 2 16 (fun _ => True) (fun v nw => ∃ t, v = .str (fmodeF i) t) := by
  intro mean mg mb dp un gd cn cs a ccd cl outer A₀ base h₀ L m s Q E B F X T hk hd' hu hpre ret
  refine wpAny_call ?_
  k_dflt cell_enter
  k_steps
  rename (hd.heap_1 w.params).In _ => X1
  rename Fr _ _ _ _ => F1
  rename News _ _ _ _ => N1
  k_dflt (refine loop_enum_tup rfl F1 N1 (fm_top X1) (FmJ _ i t) ⟨_, _, rfl, rfl, rfl, ?z1⟩ ?turn ?last)
  case z1 => exact StrsAre.nil
  case turn =>
    (intro k x tk0 T m nw its h tk E' hx hT z3h; refine Mine.e2_4 z3h ?_; intro ys n e1 e2 z3x4 hys; (try clear z3h); (rcases z3x4 with rfl); intro hits ho F2 N2)
    clear F1 N1
    (have z4 := (two_of hits); refine Mine.e2_1 z4 ?_; intro oE oI z4x2; (try clear z4); (rcases z4x2 with rfl))
    clear hits
    have F3 := fr_pin (Str.ofString "perm") (fr_pin (Str.ofString "mode") F2 e2) e1
    clear F2
    have hT' : IsTup h T #[.int (k : Int) tk0, x] := hT
    clear hT
    (have z5 := (ref_item hx); refine Mine.e1_2 z5 ?_; intro q hq z5x2; (try clear z5); (rcases z5x2 with rfl))
    clear hx
    obtain ⟨ht, hps⟩ := fm_tabs X1 q (List.mem_of_getElem? hq)
    have hne1 := ho _ (List.mem_singleton.mpr rfl)
    simp only [List.map_cons, List.map_nil, List.mem_cons, List.not_mem_nil, or_false, not_or] at hne1
    have hneA := natNe hne1.1
    have hneB := natNe hne1.2
    clear hne1
    clear ho
    have hsz : ys.size ≤ 10 := by
      have := hys.length
      simp only [Array.length_toList, List.length_take] at this
      have h10 : (fmChars i).length = 10 := by unfold fmChars; rw [List.length_map, List.length_zipIdx]; rfl
      omega
    k_steps
    rename Fr _ _ _ _ => F1
    rename News _ _ _ _ => N1
    k_dflt (refine loop_tup (InJ _ _ _ oE oI i t k tk0 ys n q.2) rfl F1 N1 ⟨_, ht.choose_spec.2.1, ht.choose_spec.2.2, Or.inl ht.choose_spec.1⟩ ⟨rfl, rfl, rfl, rfl, by simp⟩ ?turn2 ?last2)
    case turn2 =>
      (intro j x m nw o3 h tk E' hx z6h; refine Mine.e0_5 z6h ?_; intro e1 e2 e3 z6x3 hno; (try clear z6h); (rcases z6x3 with rfl); intro ho F2 N2)
      clear F1 N1
      (have z7 := (ref_item hx); refine Mine.e1_2 z7 ?_; intro r hr z7x2; (try clear z7); (rcases z7x2 with rfl))
      (have z8 := (hps r (List.mem_of_getElem? hr)); refine Mine.e2_1 z8 ?_; intro tb tc hT; (try clear z8))
      have F3 := fr_pin (Str.ofString "perm") (fr_pin (Str.ofString "mode") (fr_pin (Str.ofString "index") F2 e3) e2) e1
      have hT' : IsTup h r.1 #[.int r.2.1 tb, .str r.2.2 tc] := hT.at fun o e => F2.keep _ _ e
      clear F2 hT
      have hne2 := ho _ (List.mem_cons_of_mem _ (List.mem_cons_of_mem _ (List.mem_singleton.mpr rfl)))
      replace hne2 := natNe hne2
      dsimp only at hne2
      k_steps
      · refine TL.next (nw := [(_, W.listOf _ _)]) (by k_asm) (by k_asm) (fun p hp => List.mem_cons_of_mem _ hp) (fun p hp => ?_) ⟨_, _, rfl, rfl, rfl, fm_snoc hq hys (pick_hit hr hno (hits_yes0 (by assumption) (by assumption)))⟩
        rw [List.mem_singleton.mp hp]
        simp only [List.map_cons, List.map_nil, List.mem_cons, List.not_mem_nil, or_false, not_or]
        exact ⟨hneA, hneB⟩
      · exact TL.next (nw := [(_, oE), (_, oI), (_, W.listOf ys n)]) (by k_asm) (by k_asm) (fun p hp => hp) (fun p hp => by simpa using ho p hp) ⟨rfl, rfl, rfl, rfl, take_next hr hno (hits_no0 (by assumption) (by assumption))⟩
      · refine TL.next (nw := [(_, W.listOf _ _)]) (by k_asm) (by k_asm) (fun p hp => List.mem_cons_of_mem _ hp) (fun p hp => ?_) ⟨_, _, rfl, rfl, rfl, fm_snoc hq hys (pick_hit hr hno (hits_yes1 (by assumption) (by assumption)))⟩
        rw [List.mem_singleton.mp hp]
        simp only [List.map_cons, List.map_nil, List.mem_cons, List.not_mem_nil, or_false, not_or]
        exact ⟨hneA, hneB⟩
      · exact TL.next (nw := [(_, oE), (_, oI), (_, W.listOf ys n)]) (by k_asm) (by k_asm) (fun p hp => hp) (fun p hp => by simpa using ho p hp) ⟨rfl, rfl, rfl, rfl, take_next hr hno (hits_no1 (by assumption) (by assumption))⟩
    case last2 =>
      (intro m nw h tk E' z9h; refine Mine.e0_5 z9h ?_; intro e1 e2 e3 z9x3 hno; (try clear z9h); (rcases z9x3 with rfl); intro F2 N2)
      clear F1 N1
      have F3 := fr_pin (Str.ofString "perm") (fr_pin (Str.ofString "mode") (fr_pin (Str.ofString "index") F2 e3) e2) e1
      clear F2
      simp only [List.size_toArray, List.length_map] at hno
      have hpk := pick_none hno
      k_steps
      · refine TL.next (nw := [(_, W.listOf _ _)]) (by k_asm) (by k_asm) (fun p hp => hp) (fun p hp => ?_) ⟨_, _, rfl, rfl, rfl, fm_snoc hq hys (by rw [hpk, if_pos (by omega)])⟩
        rw [List.mem_singleton.mp hp]
        simp only [List.map_cons, List.map_nil, List.mem_cons, List.not_mem_nil, or_false, not_or]
        exact ⟨hneA, hneB⟩
      · refine TL.next (nw := [(_, W.listOf _ _)]) (by k_asm) (by k_asm) (fun p hp => hp) (fun p hp => ?_) ⟨_, _, rfl, rfl, rfl, fm_snoc hq hys (by rw [hpk, if_neg (by omega)])⟩
        rw [List.mem_singleton.mp hp]
        simp only [List.map_cons, List.map_nil, List.mem_cons, List.not_mem_nil, or_false, not_or]
        exact ⟨hneA, hneB⟩
  case last =>
    (intro m nw h tk E' z10h; refine Mine.e2_4 z10h ?_; intro ys n e1 e2 z10x4 hys; (try clear z10h); (rcases z10x4 with rfl); intro F2 N2)
    clear F1 N1
    have F3 := fr_pin (Str.ofString "perm") (fr_pin (Str.ofString "mode") F2 e2) e1
    clear F2
    have h10 : (fmChars i).length = 10 := by unfold fmChars; rw [List.length_map, List.length_zipIdx]; rfl
    rw [show (List.map (fun (q : Addr × List (Addr × Int × Str)) => Value.ref q.1) fmTab).toArray.size = (fmChars i).length by rw [h10]; rfl, List.take_length] at hys
    k_steps
    rename News _ _ _ _ => N3
    refine join_listC ⟨_, (N3 _ (List.mem_singleton.mpr rfl)).1, rfl, _, rfl⟩ hys (by decide +kernel) (by rw [sum_ones fm_one]; omega) ?_
    intro t' k'
    k_steps
    exact pret ret (by assumption) (by assumption) (by assumption) (by assumption) (by assumption) ⟨_, rfl⟩
end Mine
end
theorem Mine.off9 : True := by (w_top off); trivial
namespace Mine
set_option maxHeartbeats 4000000
theorem c_build (w : World) (a : Addr) (x y : Str) (t u : Tok) (hx : x.length ≤ 1000) (hy : y.length ≤ 1000) : PCon w 35 [.ref a] 1 8 (fun h => h.IsTuple a #[.str x t, .str y u]) (fun v nw => nw = [] ∧ ∃ t, v = .str (x ++ Str.ofString "." ++ y) t) := by
  intro mean mg mb dp un gd cn cs a' ccd cl outer A₀ base h₀ L m s Q E B F X T hk hd' hu hpre ret
  refine wpAny_call ?_
  k_dflt cell_enter
  (rename GSub _ _ _ => GS)
  (rename Fr _ _ _ _ => F1)
  have hT : IsTup _ a #[.str x t, .str y u] := hpre.at fun o e => F1.keep _ _ (GS _ _ e (by simp))
  skip
  k_steps
  exact pret ret (by assumption) (by assumption) (by assumption) (by assumption) (by assumption) ⟨rfl, _, rfl⟩
theorem c_build1 (w : World) (a : Addr) (x : Str) (t : Tok) (hx : x.length ≤ 1000) : PCon w 35 [.ref a] 1 8 (fun h => h.IsTuple a #[.str x t, .none]) (fun v nw => nw = [] ∧ ∃ t, v = .str x t) := by
  intro mean mg mb dp un gd cn cs a' ccd cl outer A₀ base h₀ L m s Q E B F X T hk hd' hu hpre ret
  refine wpAny_call ?_
  k_dflt cell_enter
  (rename GSub _ _ _ => GS)
  (rename Fr _ _ _ _ => F1)
  have hT : IsTup _ a #[.str x t, .none] := hpre.at fun o e => F1.keep _ _ (GS _ _ e (by simp))
  skip
  k_steps
  exact pret ret (by assumption) (by assumption) (by assumption) (by assumption) (by assumption) ⟨rfl, _, rfl⟩
theorem c_build2 (w : World) (a : Addr) (y : Str) (u : Tok) (hy : y.length ≤ 1000) : PCon w 35 [.ref a] 1 8 (fun h => h.IsTuple a #[.none, .str y u]) (fun v nw => nw = [] ∧ ∃ t, v = .str (Str.ofString "C" ++ Str.ofString "." ++ y) t) := by
  intro mean mg mb dp un gd cn cs a' ccd cl outer A₀ base h₀ L m s Q E B F X T hk hd' hu hpre ret
  refine wpAny_call ?_
  k_dflt cell_enter
  (rename GSub _ _ _ => GS)
  (rename Fr _ _ _ _ => F1)
  have hT : IsTup _ a #[.none, .str y u] := hpre.at fun o e => F1.keep _ _ (GS _ _ e (by simp))
  skip
  k_steps
  exact pret ret (by assumption) (by assumption) (by assumption) (by assumption) (by assumption) ⟨rfl, _, rfl⟩
theorem c_build3 (w : World) (a : Addr) : PCon w 35 [.ref a] 1 8 (fun h => h.IsTuple a #[.none, .none]) (fun v nw => nw = [] ∧ ∃ t, v = .str (Str.ofString "C") t) := by
  intro mean mg mb dp un gd cn cs a' ccd cl outer A₀ base h₀ L m s Q E B F X T hk hd' hu hpre ret
  refine wpAny_call ?_
  k_dflt cell_enter
  (rename GSub _ _ _ => GS)
  (rename Fr _ _ _ _ => F1)
  have hT : IsTup _ a #[.none, .none] := hpre.at fun o e => F1.keep _ _ (GS _ _ e (by simp))
  skip
  k_steps
  exact pret ret (by assumption) (by assumption) (by assumption) (by assumption) (by assumption) ⟨rfl, _, rfl⟩
end Mine
namespace Mine
open LCg (NsObj lst lst_snoc ns_obj)
section
variable {prog : Program} {w : World} {A : Around} {E : Value → Shared → Prop} {s : Shared} {env : Env} {target elt iter : Expr} {ifs : List Expr} {scope : Scope} {pos : Pos}
/-- a comprehension's tests -/
noncomputable abbrev tests (ifs : List Expr) (cenv : Env) : Sem Bool := forIn ifs true fun c r => if r = true then do let ok ← isTrue c cenv (eval c cenv); pure (ForInStep.yield ok) else pure (ForInStep.yield r)
theorem n1 {b D C : Nat} (h : b < D) (e : C = D + 1) : b ≠ C := by omega
theorem n2 {D C : Nat} (e : C = D + 1) : D ≠ C := by omega
theorem n3 {D C : Nat} (e : C = D + 1) : D ≤ C := by omega
theorem n4 {L D : Nat} (h : L < D) : D ≠ L := by omega
theorem n5 {L D C : Nat} (h : L < D) (e : C = D + 1) : C ≠ L := by omega
theorem n6 {L D : Nat} (h : L < D) : L ≠ D := by omega
theorem comp_go {R : Result → Shared → Prop} {cenv : Env} {I D : Addr} {fp wr : List Addr} {n : Nat} {P Md : Nat → Value → Heap → Prop} {St : Nat → Heap → Prop} (W : KTurns prog w A target I fp wr n P Md St) (J : Nat → Heap → Prop)
    (hJ : ∀ i h h', J i h → (∀ b o, b ∉ wr → h.get? b = some o → h'.get? b = some o) → J i h') (h0 : J 0 s.heap) (st0 : St 0 s.heap)
    (turn : ∀ i v h tk (E' : Value → Shared → Prop), i < n → P i v h → St (i + 1) h → J i h →
      wpAny (model prog w) A (assign target cenv v) (fun _ s₂ => wpAny (model prog w) A (tests ifs cenv) (fun ok s₃ =>
        if ok = true then wpAny (model prog w) A (eval elt cenv) (fun x s₄ => wpAny (model prog w) A (call (.builtin "list.append") [.ref D, x]) (fun _ s₅ => ∃ h' tk', s₅ = { s with heap := h', toks := tk' } ∧ St (i + 1) h' ∧ J (i + 1) h') E' s₄) E' s₃
        else ∃ h' tk', s₃ = { s with heap := h', toks := tk' } ∧ St (i + 1) h' ∧ J (i + 1) h') E' s₂) E' { s with heap := h, toks := tk })
    (last : ∀ h tk, J n h → R (.ok .next) { s with heap := h, toks := tk }) :
    codeAny (model prog w) A (.compLoop (.ListComp elt [⟨target, iter, ifs, 0⟩] scope pos) 0 (.ref I) (.ref D) cenv) R s := by
  refine codeAny_loop rfl (fun k s' => ∃ h tk i, s' = { s with heap := h, toks := tk } ∧ St i h ∧ J i h ∧ i ≤ n ∧ k = n - i) ?_ n ⟨s.heap, s.toks, 0, rfl, st0, h0, Nat.zero_le _, rfl⟩
  (intro k s' z1h; refine Mine.e3_5 z1h ?_; intro h tk i z1x3 st j hi z1x7; (try clear z1h); (rcases z1x3 with rfl); (rcases z1x7 with rfl))
  show wpAny _ A ((compTurn (.ListComp elt [⟨target, iter, ifs, 0⟩] scope pos) 0 (.ref I) (.ref D) cenv).onRaise (fun x => do noteFrame x cenv; theTreesLotGoes x)) _ _ _
  refine wpAny_noted ?_
  rw [compTurn_list]
  refine wpAny_bind (wpAny_standAt (wpAny_bind ?_))
  by_cases hlt : i < n
  · refine W.item i _ _ _ hlt st fun v h₁ tk₁ hm hk₁ => ?_
    refine wpAny_bind (W.go i v _ _ _ hm fun h₂ hP st₂ hk₂ => ?_)
    have next : ∀ s₅ : Shared, (∃ h' tk', s₅ = { s with heap := h', toks := tk' } ∧ St (i + 1) h' ∧ J (i + 1) h') → ∃ m, m < n - i ∧ ∃ h tk i, s₅ = { s with heap := h, toks := tk } ∧ St i h ∧ J i h ∧ i ≤ n ∧ m = n - i := by
      (intro _ z2h; refine Mine.e2_3 z2h ?_; intro h₃ tk₃ z2x2 st₃ j₃; (try clear z2h); (rcases z2x2 with rfl))
      exact ⟨n - (i + 1), by omega, h₃, tk₃, i + 1, rfl, st₃, j₃, hlt, rfl⟩
    refine wpAny_bind (wpAny_mono (turn i v h₂ tk₁ _ hlt hP st₂ (hJ i h h₂ j fun b o hb e => hk₂ b o hb (hk₁ b o hb e))) (fun _ s₂ hs => wpAny_bind (wpAny_mono hs (fun ok s₃ h₃ => ?_) fun _ _ e => e)) fun _ _ e => e)
    cases ok with
    | false => exact wpAny_pure ⟨rfl, next _ h₃⟩
    | true => exact wpAny_bind (wpAny_bind (wpAny_mono h₃ (fun x s₄ h₄ => wpAny_bind (wpAny_mono h₄ (fun _ s₅ h₅ => wpAny_pure (wpAny_pure ⟨rfl, next _ h₅⟩)) fun _ _ h' => h')) fun _ _ h' => h'))
  · have hin : i = n := by omega
    subst hin
    exact W.done _ _ _ st fun h₁ tk₁ hk₁ => wpAny_pure (last h₁ tk₁ (hJ i h h₁ j fun b o hb e => hk₁ b o hb e))
/-- how an element ends: its value, what it made; the block's own objects untouched -/
noncomputable def CE (h₀ : Heap) (L : Addr) (m : Nm) (s : Shared) (its : Led) (J : Value → Led → Prop) (y : Value) (s' : Shared) : Prop :=
  ∃ h tk nw, s' = { s with heap := h, toks := tk } ∧ Fr h₀ L h m ∧ News h₀ L h (its ++ nw) ∧ (∀ p ∈ nw, p.1 ∉ its.map (·.1)) ∧ J y nw
theorem CE.mk {h₀ : Heap} {L : Addr} {m : Nm} {its : Led} {J : Value → Led → Prop} {y : Value} {h : Heap} {tk : Nat} {nw all : Led} (F : Fr h₀ L h m) (N : News h₀ L h all) (hs : ∀ p ∈ its ++ nw, p ∈ all) (ho : ∀ p ∈ nw, p.1 ∉ its.map (·.1)) (j : J y nw) :
    CE h₀ L m s its J y { s with heap := h, toks := tk } := ⟨h, tk, nw, rfl, F, fun p hp => N p (hs p hp), ho, j⟩
theorem comp_led {h₀ : Heap} {L : Addr} {m : Nm} {news : Led} {I : Addr} {fp wr : List Addr} {n : Nat} {P Md : Nat → Value → Heap → Prop} {St : Nat → Heap → Prop} {cl : List (Str × Addr)} {Bd : Nat → Nm → Prop} (W : KTurns prog w A target I fp wr n P Md St)
    (hself : ∀ i (s : Shared) (Q : Value → Shared → Prop) (E : Value → Shared → Prop), St i s.heap → Q (.ref I) s → wpAny (model prog w) A (pyIter (.ref I)) Q E s)
    (hcell : ∀ y ∈ scope.names, y.2 ≠ .cell) (hkind : scope.kind = .function) (hsz : n ≤ 1000000)
    (hw : ∀ b ∈ wr, h₀.get? b = none) (hL : L ∉ wr) (hlive : ∀ i h, St i h → ∀ b ∈ wr, ∃ o, h.get? b = some o) (hfp : ∀ b ∈ fp, b < s.heap.objs.size)
    (F : Fr h₀ L s.heap m) (N : News h₀ L s.heap news) (ho : ∀ p ∈ news, p.1 ∉ wr) (st0 : St 0 s.heap) (J : Nat → List Value → Led → Prop) (j0 : J 0 [] news)
    (hfx : ∀ i ys nw h, J i ys nw → Fr h₀ L h m → News h₀ L h nw → ∀ b ∈ fp, b ∉ wr → ∀ h', (∀ c o, h₀.get? c = some o → h'.get? c = some o) → (∀ i' ys' nw', J i' ys' nw' → News h₀ L h' nw' → h'.get? b = h.get? b))
    (hasg : ∀ C i v (s' : Shared) m' (Q : Unit → Shared → Prop) (E : Value → Shared → Prop), P i v s'.heap → s'.heap.Ns C m' → (∀ h' tk m₂, h'.Ns C m₂ → Heap.SameBut C s'.heap h' → Bd i m₂ → Q () { s' with heap := h', toks := tk }) → wpAny (model prog w) A (assign target (compEnvC scope cl C env) v) Q E s')
    (turn : ∀ i ys nw its oC m₂ C D h tk (E' : Value → Shared → Prop), i < n → Bd i m₂ → J i ys nw → its.map (·.1) = wr → (∀ p ∈ nw, p.1 ∉ (its ++ [(C, oC), (D, lst ys)]).map (·.1)) → NsObj oC m₂ → Fr h₀ L h m → News h₀ L h ((its ++ [(C, oC), (D, lst ys)]) ++ nw) →
      wpAny (model prog w) A (tests ifs (compEnvC scope cl C env)) (fun ok s₃ =>
        if ok = true then wpAny (model prog w) A (eval elt (compEnvC scope cl C env)) (CE h₀ L m s (its ++ [(C, oC), (D, lst ys)]) (fun y nw' => J (i + 1) (ys ++ [y]) nw')) E' s₃
        else CE h₀ L m s (its ++ [(C, oC), (D, lst ys)]) (fun _ nw' => J (i + 1) ys nw') Value.none s₃) E' { s with heap := h, toks := tk })
    (hys : ∀ i ys nw, J i ys nw → ys.length ≤ i)
    {RR : Value → Addr → Result → Shared → Prop}
    (hRR : ∀ D C h tk m' ys nw, Fr h₀ L h m → News h₀ L h ((D, lst ys) :: nw) → (∀ p ∈ nw, p.1 ≠ D) → h.Ns C m' → h₀.get? C = none → C ≠ L → D ≠ C → (∀ p ∈ nw, p.1 ≠ C) → J n ys nw → RR (.ref D) C (.ok .next) { s with heap := h, toks := tk }) :
    wpAny (model prog w) A (newList []) (fun acc s₃ => wpAny (model prog w) A (newFunctionEnv scope env.globals cl [] env.qual none .none (some env)) (fun cenv s₄ =>
      codeAny (model prog w) A (.compStart (.ListComp elt [⟨target, iter, ifs, 0⟩] scope pos) 0 (.ref I) acc { cenv with scope := relabel scope env }) (RR acc cenv.locals) s₄) E s₃) E s := by
  refine wpAny_newObj_type (wpAny_newFunctionEnv hcell (by intro y hy; simp at hy) (fun h₁ hns₁ hsb₁ => ?_) hkind)
  dsimp only at hns₁ hsb₁ ⊢
  generalize hH : s.heap.push { cls := .type "list", dict := none, data := .seq ([] : List Value).toArray } = H at hns₁ hsb₁ ⊢
  have hD : H.get? s.heap.objs.size = some (lst []) := by rw [← hH]; exact Heap.get?_push_size _ rfl
  have hHs : H.objs.size = s.heap.objs.size + 1 := by rw [← hH, Heap.size_push]
  generalize hDe : s.heap.objs.size = D at *
  generalize hCe : H.objs.size = C at *
  have hlt : ∀ b o, s.heap.get? b = some o → b < D := fun b o e => hDe ▸ Heap.lt_size e
  have up : ∀ b o, s.heap.get? b = some o → h₁.get? b = some o := fun b o e =>
    hsb₁.extBut b o (n1 (hlt b o e) hHs) (Heap.get?_push_of_some _ (hH ▸ Heap.get?_push_of_some _ e))
  have hDC : D ≠ C := n2 hHs
  have hD₁ : h₁.get? D = some (lst []) := hsb₁.extBut _ _ hDC (Heap.get?_push_of_some _ hD)
  have free : ∀ a : Addr, D ≤ a → h₀.get? a = none := fun a ha => none_above F (by rw [hDe]; exact ha)
  have hC₀ : h₀.get? C = none := free C (n3 hHs)
  have hD₀ : h₀.get? D = none := free D (Nat.le_refl _)
  have hLlt : L < D := by rw [← hDe]; exact F.ns.lt
  have hCL : C ≠ L := n5 hLlt hHs
  have hDL : D ≠ L := n4 hLlt
  have hCf : C ∉ fp := fun hb => n1 (hfp _ hb) hHs rfl
  have hDf : D ∉ fp := fun hb => Nat.lt_irrefl _ (hfp _ hb)
  have hnD : ∀ p ∈ news, p.1 ≠ D ∧ p.1 ≠ C := fun p hp => ⟨n6 (hlt _ _ (N p hp).1), n1 (hlt _ _ (N p hp).1) hHs⟩
  refine codeAny_compStart_list ?_ (hself 0 _ _ _ (W.frame _ _ _ st0 fun b hb o e => up b o e) ?_)
  all_goals
    refine comp_go (s := { s with heap := h₁, toks := s.toks + ([] : List (Str × Value)).length }) (cenv := compEnvC scope cl C env) W
      (fun i h => ∃ ys nw m', Fr h₀ L h m ∧ News h₀ L h ((D, lst ys) :: nw) ∧ (∀ p ∈ nw, p.1 ≠ D ∧ p.1 ≠ C ∧ p.1 ∉ wr) ∧ h.Ns C m' ∧ J i ys nw) ?_ ⟨[], news, _, F.keeps up, ?_, fun p hp => ⟨(hnD p hp).1, (hnD p hp).2, ho p hp⟩, hns₁, j0⟩ (W.frame _ _ _ st0 fun b hb o e => up b o e) ?_ ?_
    · (intro i h h' z3h; refine Mine.e3_5 z3h ?_; intro ys nw m' F N ho hn j; (try clear z3h); intro k)
      have hwr : ∀ b ∈ wr, b ∈ fp := W.sub
      exact ⟨ys, nw, m', fr_wr F hL hw k, news_wr N (fun p hp => by
        rcases List.mem_cons.mp hp with rfl | hp
        · exact fun q => hDf (hwr _ q)
        · exact (ho p hp).2.2) k, ho, hn.at' fun o e => k _ o (fun q => hCf (hwr _ q)) e, j⟩
    · intro p hp
      rcases List.mem_cons.mp hp with rfl | hp
      · exact ⟨hD₁, hDL, hD₀⟩
      · exact ⟨up _ _ (N p hp).1, (N p hp).2⟩
    · (intro i v h tk E' hi hP st z4h; refine Mine.e3_5 z4h ?_; intro ys nw m' F N ho hn j; (try clear z4h))
      have hwr : ∀ b ∈ wr, b ∈ fp := W.sub
      refine hasg C i v _ m' _ _ hP hn fun h₂ tk₂ m₂ hn₂ hs₂ hbd => ?_
      have st₂ : St (i + 1) h₂ := W.frame _ _ _ st fun b hb o e => hs₂.extBut b o (fun q => hCf (q ▸ hb)) e
      (have z5 := (its_of (hlive _ _ st₂)); refine Mine.e1_2 z5 ?_; intro its₀ e₀ g₀; (try clear z5))
      (have z6 := (ns_obj hn₂); refine Mine.e1_2 z6 ?_; intro oC hoC hnoC; (try clear z6))
      have F₂ : Fr h₀ L h₂ m := F.change hs₂ hCL hC₀
      have N₂ : News h₀ L h₂ ((D, lst ys) :: nw) := fun p hp => ⟨hs₂.extBut _ _ (by
        rcases List.mem_cons.mp hp with rfl | hp
        · exact hDC
        · exact (ho p hp).2.1) (N p hp).1, (N p hp).2⟩
      have hmap : (its₀ ++ [(C, oC), (D, lst ys)]).map (·.1) = wr ++ [C, D] := by rw [List.map_append, e₀]; rfl
      have Nall : News h₀ L h₂ ((its₀ ++ [(C, oC), (D, lst ys)]) ++ nw) := fun p hp => by
        rcases List.mem_append.mp hp with hp | hp
        · rcases List.mem_append.mp hp with hp | hp
          · have : p.1 ∈ wr := e₀ ▸ List.mem_map_of_mem hp
            exact ⟨g₀ p hp, fun q => hL (q ▸ this), hw _ this⟩
          · rcases List.mem_cons.mp hp with rfl | hp
            · exact ⟨hoC, hCL, hC₀⟩
            · rw [List.mem_singleton.mp hp]; exact N₂ _ List.mem_cons_self
        · exact N₂ p (List.mem_cons_of_mem _ hp)
      have hoff : ∀ p ∈ nw, p.1 ∉ (its₀ ++ [(C, oC), (D, lst ys)]).map (·.1) := fun p hp q => by
        rw [hmap] at q
        rcases List.mem_append.mp q with q | q
        · exact (ho p hp).2.2 q
        · rcases List.mem_cons.mp q with q | q
          · exact (ho p hp).2.1 q
          · exact (ho p hp).1 (List.mem_singleton.mp q)
      have back : ∀ (h₃ : Heap) (nw₃ : Led) (ys₃ : List Value), Fr h₀ L h₃ m → News h₀ L h₃ ((its₀ ++ [(C, oC), (D, lst ys)]) ++ nw₃) → (∀ p ∈ nw₃, p.1 ∉ (its₀ ++ [(C, oC), (D, lst ys)]).map (·.1)) → J (i + 1) ys₃ nw₃ → St (i + 1) h₃ ∧ h₃.Ns C m₂ ∧ h₃.get? D = some (lst ys) ∧ News h₀ L h₃ nw₃ ∧ ∀ p ∈ nw₃, p.1 ≠ D ∧ p.1 ≠ C ∧ p.1 ∉ wr := by
        intro h₃ nw₃ ys₃ F₃ N₃ ho₃ j₃
        have N₃' : News h₀ L h₃ nw₃ := fun p hp => N₃ p (List.mem_append_right _ hp)
        refine ⟨W.frame _ h₂ _ st₂ (fun b hb o eo => ?_), hnoC.ns (N₃ (C, oC) (List.mem_append_left _ (List.mem_append_right _ List.mem_cons_self))).1,
          (N₃ (D, lst ys) (List.mem_append_left _ (List.mem_append_right _ (List.mem_cons_of_mem _ (List.mem_singleton.mpr rfl))))).1, N₃', fun p hp => ?_⟩
        · by_cases hbw : b ∈ wr
          · rw [← e₀] at hbw
            (have z7 := (List.mem_map.mp hbw); refine Mine.e1_2 z7 ?_; intro p hp z7x2; (try clear z7); (rcases z7x2 with rfl))
            rw [g₀ p hp] at eo
            cases eo
            exact (N₃ p (List.mem_append_left _ (List.mem_append_left _ hp))).1
          · rw [hfx i ys nw h₂ j F₂ (fun p hp => N₂ p (List.mem_cons_of_mem _ hp)) b hb hbw h₃ F₃.keep (i + 1) ys₃ nw₃ j₃ N₃']
            exact eo
        · have q := ho₃ p hp
          rw [hmap] at q
          exact ⟨fun e => q (List.mem_append_right _ (by rw [e]; exact List.mem_cons_of_mem _ (List.mem_singleton.mpr rfl))), fun e => q (List.mem_append_right _ (by rw [e]; exact List.mem_cons_self)), fun e => q (List.mem_append_left _ e)⟩
      refine wpAny_mono (turn i ys nw its₀ oC m₂ C D h₂ tk₂ E' hi hbd j e₀ hoff hnoC F₂ Nall) (fun ok s₃ h₃ => ?_) fun _ _ e => e
      cases ok with
      | false =>
        (have z8 := h₃; clear h₃; refine Mine.e3_5 z8 ?_; intro h₃ tk₃ nw₃ z8x3 F₃ N₃ ho₃ j₃; (try clear z8); (rcases z8x3 with rfl))
        (have z9 := (back h₃ nw₃ ys F₃ N₃ ho₃ j₃); refine Mine.e0_5 z9 ?_; intro st₃ hn₃ hd₃ N₃' ho₃'; (try clear z9))
        refine ⟨h₃, tk₃, rfl, st₃, ys, nw₃, m₂, F₃, fun p hp => ?_, ho₃', hn₃, j₃⟩
        rcases List.mem_cons.mp hp with rfl | hp
        · exact ⟨hd₃, hDL, hD₀⟩
        · exact N₃' p hp
      | true =>
        refine wpAny_mono h₃ (fun y s₄ h₄ => ?_) fun _ _ e => e
        (have z10 := h₄; clear h₄; refine Mine.e3_5 z10 ?_; intro h₄ tk₄ nw₄ z10x3 F₄ N₄ ho₄ j₄; (try clear z10); (rcases z10x3 with rfl))
        (have z11 := (back h₄ nw₄ _ F₄ N₄ ho₄ j₄); refine Mine.e0_5 z11 ?_; intro st₄ hn₄ hd₄ N₄' ho₄'; (try clear z11))
        refine append_at (s := { s with heap := h₄, toks := tk₄ }) (D := D) hd₄ (fun h₅ hs₅ hD₅ => ?_) (hsz := by
          rw [sizeLine_eq, List.size_toArray]
          have := hys i ys nw j
          omega)
        refine ⟨h₅, tk₄, rfl, W.frame _ _ _ st₄ fun b hb o e => hs₅.extBut b o (fun q => hDf (q ▸ hb)) e, ys ++ [y], nw₄, m₂, F₄.change hs₅ hDL hD₀, fun p hp => ?_, ho₄', hn₄.sameBut hs₅ (Ne.symm hDC), j₄⟩
        rcases List.mem_cons.mp hp with rfl | hp
        · exact ⟨hD₅.trans (congrArg some (lst_snoc ys y)), hDL, hD₀⟩
        · exact ⟨hs₅.extBut _ _ (ho₄' p hp).1 (N₄' p hp).1, (N₄' p hp).2⟩
    · (intro h tk z12h; refine Mine.e3_5 z12h ?_; intro ys nw m' F N ho hn j; (try clear z12h))
      exact hRR D C h tk m' ys nw F N (fun p hp => (ho p hp).1) hn hC₀ hCL hDC (fun p hp => (ho p hp).2.1) j
/-- a comprehension's block behind its iterator, whatever is done with its list -/
noncomputable def Block (prog : Program) (w : World) (A : Around) (env : Env) (target elt iter : Expr) (ifs : List Expr) (scope : Scope) (pos : Pos) (cl : List (Str × Addr)) (h₀ : Heap) (L : Addr) (m : Nm) (K : List Value → Led → Prop) (it : Value) (s : Shared) : Prop :=
  ∀ (E : Value → Shared → Prop) (RR : Value → Addr → Result → Shared → Prop),
    (∀ D C h tk m' ys nw, Fr h₀ L h m → News h₀ L h ((D, lst ys) :: nw) → (∀ p ∈ nw, p.1 ≠ D) → h.Ns C m' → h₀.get? C = none → C ≠ L → D ≠ C → (∀ p ∈ nw, p.1 ≠ C) → K ys nw → RR (.ref D) C (.ok .next) { s with heap := h, toks := tk }) →
    ∃ I, it = .ref I ∧ wpAny (model prog w) A (newList []) (fun acc s₃ => wpAny (model prog w) A (newFunctionEnv scope env.globals cl [] env.qual none .none (some env)) (fun cenv s₄ =>
      codeAny (model prog w) A (.compStart (.ListComp elt [⟨target, iter, ifs, 0⟩] scope pos) 0 (.ref I) acc { cenv with scope := relabel scope env }) (RR acc cenv.locals) s₄) E s₃) E s
noncomputable def CompIn (prog : Program) (w : World) (A : Around) (env : Env) (target elt iter : Expr) (ifs : List Expr) (scope : Scope) (pos : Pos) (cl : List (Str × Addr)) (Q : Value → Shared → Prop) (it : Value) (s : Shared) : Prop :=
  ∃ (h₀ : Heap) (L : Addr) (m : Nm) (K : List Value → Led → Prop), Block prog w A env target elt iter ifs scope pos cl h₀ L m K it s ∧
    ∀ ys nw D h tk, K ys nw → Fr h₀ L h m → News h₀ L h ((D, lst ys) :: nw) → (∀ p ∈ nw, p.1 ≠ D) → Q (.ref D) { s with heap := h, toks := tk }
noncomputable def CompInA (prog : Program) (w : World) (A : Around) (env : Env) (target elt iter : Expr) (ifs : List Expr) (scope : Scope) (pos : Pos) (cl : List (Str × Addr)) (y : Str) (Q : Flow → Shared → Prop) (it : Value) (s : Shared) : Prop :=
  ∃ (h₀ : Heap) (m : Nm) (K : List Value → Led → Prop), Block prog w A env target elt iter ifs scope pos cl h₀ env.locals m K it s ∧
    ∀ ys nw D h tk, K ys nw → Fr h₀ env.locals h (fun z => if z = y then some (.ref D) else m z) → News h₀ env.locals h ((D, lst ys) :: nw) → (∀ p ∈ nw, p.1 ≠ D) → Q .next { s with heap := h, toks := tk }
theorem ListComp_b {cl : List (Str × Addr)} {Q : Value → Shared → Prop}
    (hclos : closureFor scope env = pure cl) (hkind : scope.kind = .function) (hnames : ∀ y ∈ scope.names, y.2 = .local → scope.names.lookup y.1 = some .local)
    (h : wpAny (model prog w) A (eval iter env) (fun xv s₁ => wpAny (model prog w) A (pyIter xv) (CompIn prog w A env target elt iter ifs scope pos cl Q) E s₁) E s)
    (hs : ∀ x, foldedSetIterable iter env x = pure x := by intro _; rfl) :
    wpAny (model prog w) A (eval (.ListComp elt [⟨target, iter, ifs, 0⟩] scope pos) env) Q E s := by
  rw [eval_ListComp]
  refine wpAny_comprehension_free (use := none) rfl hs hclos hkind hnames (wpAny_mono h (fun xv s₁ h₁ => wpAny_mono h₁ (fun it s₂ h₂ => ?_) fun _ _ e => e) fun _ _ e => e)
  (refine Mine.e4_2 h₂ ?_; intro h₀ L m K b fin; (try clear h₂))
  have b' := b E (compPost (model prog w) A E none Q) ?_
  · (refine Mine.e1_2 b' ?_; intro I z14x1 hb; (try clear b'); (rcases z14x1 with rfl))
    exact hb
  · intro D C h tk m' ys nw F N ho hn hC₀ hCL hDC hoC k
    refine ⟨m', hn, fun h'' hs'' => fin ys nw D h'' tk k (F.change hs'' hCL hC₀) (fun p hp => ?_) ho⟩
    refine ⟨hs''.extBut _ _ ?_ (N p hp).1, (N p hp).2⟩
    rcases List.mem_cons.mp hp with rfl | hp
    · exact hDC
    · exact hoC p hp
theorem Assign_ListComp_b {cl : List (Str × Addr)} {Q : Flow → Shared → Prop} {y : Str} {py spos : Pos}
    (hsw : swapsWith (.ListComp elt [⟨target, iter, ifs, 0⟩] scope pos) (some (.Name y py)) spos.line env = pure true)
    (hclos : closureFor scope env = pure cl) (hkind : scope.kind = .function) (hnames : ∀ y ∈ scope.names, y.2 = .local → scope.names.lookup y.1 = some .local)
    (hy : env.kindOf y = some .local) (hp : (env.scope.kind == .class || (env.scope.kind == .module && env.locals != env.globals)) = false)
    (h : wpAny (model prog w) A (eval iter env) (fun xv s₁ => wpAny (model prog w) A (pyIter xv) (CompInA prog w A env target elt iter ifs scope pos cl y Q) E s₁) E s)
    (hs : ∀ x, foldedSetIterable iter env x = pure x := by intro _; rfl) :
    wpAny (model prog w) A (exec (.Assign [.Name y py] (.ListComp elt [⟨target, iter, ifs, 0⟩] scope pos) spos) env) Q E s := by
  rw [exec_Assign_Name_used _ _ _ _ hsw]
  refine wpAny_bind (wpAny_standAt (wpAny_bind ?_))
  show wpAny _ A (do let _ ← comprehension (.ListComp elt [⟨target, iter, ifs, 0⟩] scope pos) scope env _ (newList []) false (eval iter env) (some (assign (.Name y py) env))) _ _ s
  refine wpAny_bind (wpAny_mono (wpAny_comprehension_free (use := some (assign (.Name y py) env)) (Q := fun _ s' => Q .next s') rfl hs hclos hkind hnames
    (wpAny_mono h (fun xv s₁ h₁ => wpAny_mono h₁ (fun it s₂ h₂ => ?_) fun _ _ e => e) fun _ _ e => e)) (fun _ s' hq => wpAny_pure (wpAny_pure hq)) fun _ _ e => e)
  (refine Mine.e3_2 h₂ ?_; intro h₀ m K b fin; (try clear h₂))
  have b' := b E (compPost (model prog w) A E (some (assign (.Name y py) env)) (fun _ s' => Q .next s')) ?_
  · (refine Mine.e1_2 b' ?_; intro I z16x1 hb; (try clear b'); (rcases z16x1 with rfl))
    exact hb
  · intro D C h tk m' ys nw F N ho hn hC₀ hCL hDC hoC k
    show wpAny _ A (assign (.Name y py) env (.ref D)) _ _ _
    refine wpAny_assign_Name (wpAny_storeName_local hy F.ns (fun h₂ hn₂ hs₂ => ?_) hp)
    have F₂ := F.set hn₂ hs₂
    have N₂ := N.set hs₂
    refine ⟨m', hn.sameBut hs₂ hCL, fun h'' hs'' => fin ys nw D h'' _ k (F₂.change hs'' hCL hC₀) (fun p hp => ?_) ho⟩
    refine ⟨hs''.extBut _ _ ?_ (N₂ p hp).1, (N₂ p hp).2⟩
    rcases List.mem_cons.mp hp with rfl | hp
    · exact hDC
    · exact hoC p hp
theorem asg_name {x : Str} {px : Pos} {C : Addr} {cl : List (Str × Addr)} {Pv : Value → Prop} {v : Value} {s' : Shared} {m' : Nm} {Q : Unit → Shared → Prop} {E : Value → Shared → Prop} (hkind : scope.kind = .function) (hx : scope.names.lookup x = some .local)
    (hP : Pv v) (hn : s'.heap.Ns C m') (h : ∀ h' tk m₂, h'.Ns C m₂ → Heap.SameBut C s'.heap h' → (∃ v, Pv v ∧ m₂ x = some v) → Q () { s' with heap := h', toks := tk }) :
    wpAny (model prog w) A (assign (.Name x px) (compEnvC scope cl C env) v) Q E s' :=
  wpAny_assign_Name (wpAny_storeName_local (lookup_relabel_local hx) hn (fun h' hn' hs' => h h' _ _ hn' hs' ⟨v, hP, by simp⟩) (by simp [compEnvC, relabel, hkind]))
/-- [.. for x in a list ..] -/
theorem blk_list {h₀ : Heap} {L : Addr} {m : Nm} {news : Led} {l : Addr} {items : Array Value} {x : Str} {px : Pos} {cl : List (Str × Addr)} {Qs : Shared → Prop} (J : Nat → List Value → Led → Prop) (hh : A.handled = none)
    (hcell : ∀ y ∈ scope.names, y.2 ≠ .cell) (hkind : scope.kind = .function) (hx : scope.names.lookup x = some .local) (hsz : items.size ≤ 1000000)
    (F : Fr h₀ L s.heap m) (N : News h₀ L s.heap news) (hl : Stays h₀ "list" l items (fun i _ nw => ∃ ys, J i ys nw)) (j0 : J 0 [] news) (hys : ∀ i ys nw, J i ys nw → ys.length ≤ i)
    (turn : ∀ i v ys nw I oI C oC D m₂ h tk (E' : Value → Shared → Prop), items[i]? = some v → m₂ x = some v → NsObj oC m₂ → J i ys nw → (∀ p ∈ nw, p.1 ≠ I ∧ p.1 ≠ C ∧ p.1 ≠ D) → Fr h₀ L h m → News h₀ L h ((I, oI) :: (C, oC) :: (D, lst ys) :: nw) →
      wpAny (model prog w) A (tests ifs (compEnvC scope cl C env)) (fun ok s₃ =>
        if ok = true then wpAny (model prog w) A (eval elt (compEnvC scope cl C env)) (CE h₀ L m s [(I, oI), (C, oC), (D, lst ys)] (fun y nw' => J (i + 1) (ys ++ [y]) nw')) E' s₃
        else CE h₀ L m s [(I, oI), (C, oC), (D, lst ys)] (fun _ nw' => J (i + 1) ys nw') Value.none s₃) E' { s with heap := h, toks := tk })
    (fin : ∀ h, Qs { s with heap := h }) :
    wpAny (model prog w) A (pyIter (.ref l)) (fun it s₂ => Block prog w A env (.Name x px) elt iter ifs scope pos cl h₀ L m (J items.size) it s₂ ∧ Qs s₂) E s := by
  (refine Mine.e1_3 hl ?_; intro ol hc z17x2 S; (try clear hl); (rcases z17x2 with ⟨nl, hd⟩))
  have hol := Stays.at (c := "list") (m := m) (items := items) S F N (i := 0) ⟨[], j0⟩
  have hlt : l < s.heap.objs.size := Heap.lt_size hol
  refine wpAny_pyIter_list ⟨ol, hol, hc, nl, hd⟩ ⟨fun E RR hRR => ⟨_, rfl, ?_⟩, fin _⟩
  have hk : ∀ b o, s.heap.get? b = some o → (s.heap.push { cls := .type "list_iterator", data := .fields #[.ref l, .int 0 0] }).get? b = some o := fun b o e => Heap.get?_push_of_some _ e
  have W := Walks.list (prog := prog) (w := w) hh s.heap.objs.size l (Nat.ne_of_lt hlt) items
  refine comp_led (h₀ := h₀) (L := L) (m := m) (news := news) (s := { s with heap := _ }) (Bd := fun i m₂ => ∃ v, items[i]? = some v ∧ m₂ x = some v)
    (KTurns.ofWalks (target := .Name x px) W fun i v s Q E st hQ => wpAny_pure hQ) W.self hcell hkind hsz ?_ ?_ ?_ ?_ (F.keeps hk) (N.grown hk) ?_ ⟨⟨_, Heap.get?_push_size _ rfl, rfl, rfl⟩, ⟨ol, hk _ _ hol, hc, nl, hd⟩⟩ J j0 ?_
    (fun C i v s' m' Q E hP hn h => asg_name (Pv := fun v => items[i]? = some v) hkind hx hP hn h) ?_ hys hRR
  · intro b hb
    rw [List.mem_singleton.mp hb]; exact none_above F (Nat.le_refl _)
  · intro hb
    have := F.ns.lt
    rw [List.mem_singleton.mp hb] at this
    exact Nat.lt_irrefl _ this
  · (intro i h z18h; rcases z18h with ⟨⟨o, ho, _⟩, _⟩; intro b hb)
    rw [List.mem_singleton.mp hb]; exact ⟨o, ho⟩
  · intro b hb
    show b < (Heap.push _ _).objs.size
    rw [Heap.size_push]
    rcases List.mem_cons.mp hb with rfl | hb
    · exact Nat.lt_succ_self _
    · rw [List.mem_singleton.mp hb]; exact Nat.lt_succ_of_lt hlt
  · intro p hp hb
    have := Heap.lt_size (N p hp).1
    rw [List.mem_singleton.mp hb] at this; exact Nat.lt_irrefl _ this
  · intro i ys nw h j F₁ N₁ b hb hbw h₁ k₁ i' ys' nw' j' N₁'
    have hbl : b = l := by
      rcases List.mem_cons.mp hb with rfl | hb
      · exact absurd List.mem_cons_self hbw
      · exact List.mem_singleton.mp hb
    rw [hbl, Stays.at (c := "list") (items := items) S F₁ N₁ ⟨ys, j⟩]
    exact S.elim (fun e => k₁ _ _ e) fun k => (N₁' _ (k i' m nw' ⟨ys', j'⟩)).1
  · (intro i ys nw its oC m₂ C D h tk E' hi z19h; refine Mine.e1_2 z19h ?_; intro v hv hm₂; (try clear z19h); intro j e o hC F₁ N₁)
    obtain ⟨oI, rfl⟩ := one_of e
    exact turn i v ys nw _ oI C oC D m₂ h tk E' hv hm₂ hC j (fun p hp => ⟨fun q => o p hp (by simp [q]), fun q => o p hp (by simp [q]), fun q => o p hp (by simp [q])⟩) F₁ N₁
theorem comp_of {h₀ : Heap} {L : Addr} {m : Nm} {cl : List (Str × Addr)} {K : List Value → Led → Prop} {v : Value} {Q : Value → Shared → Prop}
    (h : wpAny (model prog w) A (pyIter v) (fun it s₂ => Block prog w A env target elt iter ifs scope pos cl h₀ L m K it s₂ ∧ ∃ g, s₂ = { s with heap := g }) E s)
    (fin : ∀ ys nw D h tk, K ys nw → Fr h₀ L h m → News h₀ L h ((D, lst ys) :: nw) → (∀ p ∈ nw, p.1 ≠ D) → Q (.ref D) { s with heap := h, toks := tk }) :
    wpAny (model prog w) A (pyIter v) (CompIn prog w A env target elt iter ifs scope pos cl Q) E s :=
  wpAny_mono h (fun it s₂ ⟨b, g, e⟩ => ⟨h₀, L, m, K, b, fun ys nw D h tk k F N o => by subst e; exact fin ys nw D h tk k F N o⟩) fun _ _ e => e
theorem compA_of {h₀ : Heap} {m : Nm} {cl : List (Str × Addr)} {K : List Value → Led → Prop} {v : Value} {y : Str} {Q : Flow → Shared → Prop}
    (h : wpAny (model prog w) A (pyIter v) (fun it s₂ => Block prog w A env target elt iter ifs scope pos cl h₀ env.locals m K it s₂ ∧ ∃ g, s₂ = { s with heap := g }) E s)
    (fin : ∀ ys nw D h tk, K ys nw → Fr h₀ env.locals h (fun z => if z = y then some (.ref D) else m z) → News h₀ env.locals h ((D, lst ys) :: nw) → (∀ p ∈ nw, p.1 ≠ D) → Q .next { s with heap := h, toks := tk }) :
    wpAny (model prog w) A (pyIter v) (CompInA prog w A env target elt iter ifs scope pos cl y Q) E s :=
  wpAny_mono h (fun it s₂ ⟨b, g, e⟩ => ⟨h₀, m, K, b, fun ys nw D h tk k F N o => by subst e; exact fin ys nw D h tk k F N o⟩) fun _ _ e => e
end
end Mine
namespace Mine
open LCg (NsObj lst lst_snoc ns_obj)
section
variable {prog : Program} {w : World} {A : Around} {E : Value → Shared → Prop} {s : Shared} {env : Env} {target elt iter : Expr} {ifs : List Expr} {scope : Scope} {pos : Pos} {body orelse : List Stmt} {Q : Flow → Shared → Prop}
theorem range_ok {n : Nat} (h : n ≤ 1000000) : Builtin.Range.small 0 (n : Int) 1 = true ∧ Builtin.Range.rangeSize 0 (n : Int) 1 = (n : Int) := by
  refine ⟨small_one (by omega) (by omega) (by omega) (by omega), ?_⟩
  rw [rangeSize_nat]; omega
theorem range_at {n : Nat} (hn : Builtin.Range.rangeSize 0 (n : Int) 1 = (n : Int)) : IsRangeIter (s.heap.push { cls := .type "range_iterator", data := .fields #[rawInt 0, rawInt (Builtin.Range.rangeSize 0 (n : Int) 1), rawInt 1] }) s.heap.objs.size (0 + ((0 : Nat) : Int) * 1) ((n : Int) - ((0 : Nat) : Int)) 1 := by
  have h := Heap.get?_push_size s.heap (o := { cls := .type "range_iterator", data := .fields #[rawInt 0, rawInt (Builtin.Range.rangeSize 0 (n : Int) 1), rawInt 1] }) rfl
  have e1 : (0 + ((0 : Nat) : Int) * 1) = 0 := by omega
  have e2 : ((n : Int) - ((0 : Nat) : Int)) = n := by omega
  rw [e1, e2]
  show Heap.get? _ _ = _
  rw [h, hn]
/-- [.. for x in range(n) ..] -/
theorem blk_range {h₀ : Heap} {L : Addr} {m : Nm} {news : Led} {r : Addr} {n : Nat} {t u v : Tok} {x : Str} {px : Pos} {cl : List (Str × Addr)} {Qs : Shared → Prop} (J : Nat → List Value → Led → Prop) (hh : A.handled = none)
    (hcell : ∀ y ∈ scope.names, y.2 ≠ .cell) (hkind : scope.kind = .function) (hx : scope.names.lookup x = some .local) (hsz : n ≤ 1000000)
    (F : Fr h₀ L s.heap m) (N : News h₀ L s.heap news) (hr : IsRange s.heap r 0 (n : Int) 1 t u v) (j0 : J 0 [] news) (hys : ∀ i ys nw, J i ys nw → ys.length ≤ i)
    (turn : ∀ i tk0 ys nw I oI C oC D m₂ h tk (E' : Value → Shared → Prop), i < n → m₂ x = some (.int (i : Int) tk0) → NsObj oC m₂ → J i ys nw → (∀ p ∈ nw, p.1 ≠ I ∧ p.1 ≠ C ∧ p.1 ≠ D) → Fr h₀ L h m → News h₀ L h ((I, oI) :: (C, oC) :: (D, lst ys) :: nw) →
      wpAny (model prog w) A (tests ifs (compEnvC scope cl C env)) (fun ok s₃ =>
        if ok = true then wpAny (model prog w) A (eval elt (compEnvC scope cl C env)) (CE h₀ L m s [(I, oI), (C, oC), (D, lst ys)] (fun y nw' => J (i + 1) (ys ++ [y]) nw')) E' s₃
        else CE h₀ L m s [(I, oI), (C, oC), (D, lst ys)] (fun _ nw' => J (i + 1) ys nw') Value.none s₃) E' { s with heap := h, toks := tk })
    (fin : ∀ h, Qs { s with heap := h }) :
    wpAny (model prog w) A (pyIter (.ref r)) (fun it s₂ => Block prog w A env (.Name x px) elt iter ifs scope pos cl h₀ L m (J n) it s₂ ∧ Qs s₂) E s := by
  obtain ⟨hsm, hn⟩ := range_ok hsz
  refine wpAny_pyIter_range hr hsm ⟨fun E RR hRR => ⟨_, rfl, ?_⟩, fin _⟩
  have hk : ∀ b o, s.heap.get? b = some o → (s.heap.push { cls := .type "range_iterator", data := .fields #[rawInt 0, rawInt (Builtin.Range.rangeSize 0 (n : Int) 1), rawInt 1] }).get? b = some o := fun b o e => Heap.get?_push_of_some _ e
  have W := LCg.range_walks (prog := prog) (w := w) (I := s.heap.objs.size) hh 0 n
  refine comp_led (h₀ := h₀) (L := L) (m := m) (news := news) (s := { s with heap := _ }) (Bd := fun i m₂ => ∃ v, (∃ t, v = .int (0 + (i : Int)) t) ∧ m₂ x = some v)
    (KTurns.ofWalks (target := .Name x px) W fun i v s Q E st hQ => wpAny_pure hQ) W.self hcell hkind hsz ?_ ?_ ?_ ?_ (F.keeps hk) (N.grown hk) ?_ (range_at (s := s) hn) J j0 ?_
    (fun C i v s' m' Q E hP hn h => asg_name (Pv := fun v => ∃ t, v = .int (0 + (i : Int)) t) hkind hx hP hn h) ?_ hys hRR
  · intro b hb
    rw [List.mem_singleton.mp hb]; exact none_above F (Nat.le_refl _)
  · intro hb
    have := F.ns.lt
    rw [List.mem_singleton.mp hb] at this
    exact Nat.lt_irrefl _ this
  · intro i h st b hb
    rw [List.mem_singleton.mp hb]; exact ⟨_, st⟩
  · intro b hb
    show b < (Heap.push _ _).objs.size
    rw [Heap.size_push, List.mem_singleton.mp hb]
    exact Nat.lt_succ_self _
  · intro p hp hb
    have := Heap.lt_size (N p hp).1
    rw [List.mem_singleton.mp hb] at this; exact Nat.lt_irrefl _ this
  · intro i ys nw h j F₁ N₁ b hb hbw
    exact absurd hb hbw
  · (intro i ys nw its oC m₂ C D h tk E' hi z1h; refine Mine.e1_2 z1h ?_; intro v z1x1 hm₂; (try clear z1h); (rcases z1x1 with ⟨tk0, rfl⟩); intro j e o hC F₁ N₁)
    obtain ⟨oI, rfl⟩ := one_of e
    rw [Int.zero_add] at hm₂
    exact turn i tk0 ys nw _ oI C oC D m₂ h tk E' hi hm₂ hC j (fun p hp => ⟨fun q => o p hp (by simp [q]), fun q => o p hp (by simp [q]), fun q => o p hp (by simp [q])⟩) F₁ N₁
/-- for x in range(n) -/
theorem loop_range {h₀ : Heap} {L : Addr} {m₀ : Nm} {news : Led} {r : Addr} {n : Nat} {t u v : Tok} (J : Nat → Nm → Led → Prop) (hh : A.handled = none) (hsz : n ≤ 1000000) (F : Fr h₀ L s.heap m₀) (N : News h₀ L s.heap news)
    (hr : IsRange s.heap r 0 (n : Int) 1 t u v) (j0 : J 0 m₀ news)
    (turn : ∀ i tk0 m nw oI h tk (E' : Value → Shared → Prop), i < n → J i m nw → (∀ p ∈ nw, p.1 ≠ s.heap.objs.size) → Fr h₀ L h m → News h₀ L h ((s.heap.objs.size, oI) :: nw) →
      wpAny (model prog w) A (assign target env (.int (i : Int) tk0)) (fun _ s₂ => wpAny (model prog w) A (execs body env) (TL h₀ L s Q [(s.heap.objs.size, oI)] (J (i + 1))) E' s₂) E' { s with heap := h, toks := tk })
    (last : ∀ m nw h tk (E' : Value → Shared → Prop), J n m nw → Fr h₀ L h m → News h₀ L h nw → wpAny (model prog w) A (execs orelse env) Q E' { s with heap := h, toks := tk }) :
    wpAny (model prog w) A (pyIter (.ref r)) (fun it s₂ => LoopIn prog w A env target body orelse Q it s₂) E s := by
  obtain ⟨hsm, hn⟩ := range_ok hsz
  refine wpAny_pyIter_range hr hsm fun X => ⟨_, rfl, ?_⟩
  have hk : ∀ b o, s.heap.get? b = some o → (s.heap.push { cls := .type "range_iterator", data := .fields #[rawInt 0, rawInt (Builtin.Range.rangeSize 0 (n : Int) 1), rawInt 1] }).get? b = some o := fun b o e => Heap.get?_push_of_some _ e
  have W := LCg.range_walks (prog := prog) (w := w) (I := s.heap.objs.size) hh 0 n
  refine loop_led (h₀ := h₀) (L := L) (m₀ := m₀) (news := news) (s := { s with heap := _ }) (KTurns.ofWalks (target := target) W fun i v s Q E st hQ => ?_) ?_ ?_ ?_ (F.keeps hk) (N.grown hk) ?_ (range_at (s := s) hn) J j0 ?_ ?_ ?_ X
  · exact go_iter (ty := "range_iterator") (by decide) ⟨_, st, rfl, rfl⟩ hQ
  · intro b hb
    rw [List.mem_singleton.mp hb]; exact none_above F (Nat.le_refl _)
  · intro hb
    have := F.ns.lt
    rw [List.mem_singleton.mp hb] at this
    exact Nat.lt_irrefl _ this
  · intro i h st b hb
    rw [List.mem_singleton.mp hb]; exact ⟨_, st⟩
  · intro p hp hb
    have := Heap.lt_size (N p hp).1
    rw [List.mem_singleton.mp hb] at this; exact Nat.lt_irrefl _ this
  · intro i m nw h j F₁ N₁ b hb hbw
    exact absurd hb hbw
  · rintro i v m nw its h tk E' hi ⟨tk0, rfl⟩ j e o F₁ N₁
    obtain ⟨oI, rfl⟩ := one_of e
    rw [Int.zero_add]
    exact turn i tk0 m nw oI h tk E' hi j (fun p hp q => o p hp (by simpa using q)) F₁ N₁
  · exact fun m nw h tk E' j F₁ N₁ => last m nw h tk E' j F₁ N₁
end
end Mine
theorem Mine.off10 : True := by (w_top off); trivial
section
local macro_rules | `(tactic| walk_at $s:str) => `(tactic| k_extra $(Lean.Syntax.mkStrLit ("Sizes:" ++ s.getString)))
namespace Mine
open LCg (NsObj lst lst_snoc ns_obj)
set_option maxHeartbeats 4000000
theorem Mine.kw11 : True := by
  (k_with "Sizes:eval ListComp Name cons" => ((k_here; refine' ListComp_b (cl := _) ?kc ?kk ?kn ?_; (case kc => with_unfolding_all rfl); (case kk => with_unfolding_all rfl); (case kn => decide))))
  trivial
theorem Mine.kw12 : True := by
  (k_with "Sizes:eval ListComp Subscript cons" => ((k_here; refine' ListComp_b (cl := _) ?kc ?kk ?kn ?_; (case kc => with_unfolding_all rfl); (case kk => with_unfolding_all rfl); (case kn => decide))))
  trivial
theorem Mine.kw13 : True := by
  (k_with "Sizes:subscriptTail Name Constant ref int" => ((k_here; k_dflt (refine' item_ints ?kl ?ki ?k0 ?k1 ?kv ?_ ?ks; (case ks => with_unfolding_all rfl); (case kl => got_up); (case ki => l_ints); (case k0 => decide); (case k1 => decide); (case kv => exact rfl)); intro _)))
  trivial
noncomputable def isEnd (v : Int) : Bool := v == 0 || v == 127
noncomputable def endsF (g : List Int) (i : Nat) : List Int := ((List.range i).filter fun k => isEnd (g.getD k 1)).map Int.ofNat
noncomputable def firstEnd (g : List Int) : Nat := g.findIdx isEnd
theorem getD_lt {g : List Int} {i : Nat} {d : Int} (h : i < g.length) : g.getD i d = g[i] := by
  rw [List.getD_eq_getElem?_getD, List.getElem?_eq_getElem h]; rfl
theorem endsF_succ (g : List Int) (i : Nat) : endsF g (i + 1) = endsF g i ++ if isEnd (g.getD i 1) = true then [(i : Int)] else [] := by
  unfold endsF
  rw [List.range_succ, List.filter_append, List.map_append]
  congr 1
  by_cases h : isEnd (g.getD i 1) = true
  · rw [if_pos h]; simp only [List.filter_cons, h, if_true, List.filter_nil, List.map_cons, List.map_nil]; rfl
  · rw [if_neg h]; simp only [List.filter_cons, h, List.filter_nil]; rfl
theorem ends_low {g : List Int} : ∀ i, i ≤ firstEnd g → endsF g i = []
  | 0, _ => rfl
  | i + 1, h => by
    have hi : i < firstEnd g := h
    have hlt : i < g.length := Nat.lt_of_lt_of_le hi List.findIdx_le_length
    rw [endsF_succ, ends_low i (by omega), if_neg]
    · rfl
    · rw [getD_lt hlt]
      have := List.not_of_lt_findIdx (p := isEnd) hi
      simpa using this
theorem ends_high {g : List Int} : ∀ i, firstEnd g < i → i ≤ g.length → ∃ r, endsF g i = (firstEnd g : Int) :: r
  | 0, h, _ => absurd h (Nat.not_lt_zero _)
  | i + 1, h, hl => by
    by_cases hi : firstEnd g < i
    · obtain ⟨r, e⟩ := ends_high i hi (by omega)
      exact ⟨_, by rw [endsF_succ, e]; rfl⟩
    · have e : firstEnd g = i := by omega
      refine ⟨[], ?_⟩
      rw [endsF_succ, ends_low i (by omega), if_pos, e]
      · rfl
      · rw [getD_lt (by omega)]
        have := List.findIdx_getElem (p := isEnd) (xs := g) (w := by show firstEnd g < g.length; omega)
        simpa [firstEnd, ← e] using this
theorem ends_eq (g : List Int) : ∃ r, endsF g g.length ++ [(g.length : Int)] = (firstEnd g : Int) :: r := by
  have hle : firstEnd g ≤ g.length := List.findIdx_le_length
  by_cases h : firstEnd g < g.length
  · obtain ⟨r, e⟩ := ends_high g.length h (Nat.le_refl _)
    exact ⟨_, by rw [e]; rfl⟩
  · refine ⟨[], ?_⟩
    rw [ends_low _ (by omega)]
    show [(g.length : Int)] = _
    rw [show firstEnd g = g.length by omega]
theorem ints_snoc {y : Int} {t : Tok} {vs : List Value} {ys : List Int} (h : IntsAre vs ys) : IntsAre (vs ++ [.int y t]) (ys ++ [y]) := by
  induction h with
  | nil => exact .cons y t .nil
  | cons z u r ih => exact .cons z u ih
theorem end_any {g : List Int} {i : Nat} {b : Bool} (hi : i < g.length) (h : ([0, 127].any fun x => x == g.getD (i : Int).toNat 0) = b) : isEnd (g.getD i 1) = b := by
  subst h
  rw [Int.toNat_natCast, getD_lt hi, getD_lt hi]
  simp only [List.any_cons, List.any_nil, Bool.or_false, isEnd]
  rw [Bool.beq_comm (a := (0 : Int)), Bool.beq_comm (a := (127 : Int))]
theorem endsF_len (g : List Int) (i : Nat) : (endsF g i).length ≤ i := by
  unfold endsF
  rw [List.length_map]
  have := List.length_filter_le (fun k => isEnd (g.getD k 1)) (List.range i)
  rw [List.length_range] at this
  exact this
noncomputable def repF (sz : List Int) (i : Nat) : List Int := (List.range i).map fun k => sz.getD (min k (sz.length - 1)) 0
theorem repF_succ (sz : List Int) (i : Nat) : repF sz (i + 1) = repF sz i ++ [sz.getD (min i (sz.length - 1)) 0] := by
  unfold repF; rw [List.range_succ, List.map_append]; rfl
noncomputable def sizesF (g : List Int) : List Int := if (g.drop (firstEnd g)).take 1 = [0] then repF (g.take (firstEnd g)) 12 else g.take (firstEnd g)
theorem take_one {g : List Int} {e : Nat} : (g.drop e).take (min ((e : Int) + 1).toNat g.length - e) = (g.drop e).take 1 := by
  by_cases h : e < g.length
  · rw [show min ((e : Int) + 1).toNat g.length - e = 1 by omega]
  · rw [List.drop_eq_nil_of_le (by omega)]; simp
theorem c_sizes (w : World) (l : Addr) (vs : List Value) (g : List Int) (hi : IntsAre vs g) (hlen : g.length ≤ 10) (hfe : 1 ≤ firstEnd g) : PCon w 214 [.ref l] 1 200 (fun h => h.IsList l vs.toArray) (fun v nw => ∃ d ws n, v = .ref d ∧ (d, W.listOf ws.toArray n) ∈ nw ∧ IntsAre ws (sizesF g)) := by
  intro mean mg mb dp un gd cn cs a' ccd cl outer A₀ base h₀ L m s Q E B F X T hk hd' hu hpre ret
  refine wpAny_call ?_
  k_dflt cell_call
  (rename GSub _ _ _ => GS)
  (rename Fr _ _ _ _ => F1)
  have hL := hpre.at fun o e => GS _ _ e (by simp)
  isplit
  (rename IsRange _ _ _ _ _ _ _ _ => R1)
  (rename Fr _ _ _ _ => F2)
  (rename News _ _ _ _ => N2)
  k_dflt (refine comp_of (blk_range (news := _) (fun i ys nw => nw = _ ∧ IntsAre ys (endsF g i)) rfl (by decide) rfl rfl (by omega) F2 N2 R1 ⟨rfl, IntsAre.nil⟩ ?hys ?turn fun _ => ⟨_, rfl⟩) ?fin)
  case hys =>
    rintro i ys nw ⟨_, h⟩
    have := h.length
    have := endsF_len g i
    omega
  case turn =>
    rintro i tk0 ys nw I oI C oC D m₂ h tk E' hik hm₂ hC ⟨rfl, hys⟩ ho F3 N3
    refine wpAny_tests_one ?_
    isplit
    · (rename (List.any _ _ = _) => hA)
      refine CE.mk (by k_asm) (by k_asm) (fun p hp => List.mem_cons_of_mem _ hp) (fun p hp => by simpa [not_or] using ho p hp) ⟨rfl, ?_⟩
      rw [endsF_succ, if_pos (end_any hik hA)]
      exact ints_snoc hys
    · (rename (List.any _ _ = _) => hA)
      refine CE.mk (by k_asm) (by k_asm) (fun p hp => List.mem_cons_of_mem _ hp) (fun p hp => by simpa [not_or] using ho p hp) ⟨rfl, ?_⟩
      rw [endsF_succ, if_neg (by rw [end_any hik hA]; exact Bool.false_ne_true), List.append_nil]
      exact hys
  case fin =>
    rintro ys nw D h tk ⟨rfl, hys⟩ F3 N3 ho
    clear F2 N2
    have hlen2 := hys.length
    have hlen3 := endsF_len g g.length
    have hysz : ys.length ≤ 10 := by omega
    have hgl := hi.length
    obtain ⟨r, hr⟩ := ends_eq g
    have hoA := natNe (ho _ List.mem_cons_self)
    have hoB := natNe (ho _ (List.mem_cons_of_mem _ List.mem_cons_self))
    dsimp only at hoA hoB
    have hle : firstEnd g ≤ g.length := List.findIdx_le_length
    iterate 12 one_sign
    (rename IntsAre _ _ => hE)
    rw [hr] at hE
    obtain ⟨e, he⟩ : ∃ e, e = firstEnd g := ⟨_, rfl⟩
    rw [← he] at hE hle hfe
    clear hr hlen2 hlen3
    isplit
    · (rename IsRange _ _ _ _ _ _ _ _ => R2)
      (rename Fr _ _ _ _ => F4)
      (rename News _ _ _ _ => N4)
      k_dflt (refine comp_of (blk_range (n := 12) (news := _) (fun i ys nw => nw = _ ∧ IntsAre ys (repF (g.take e) i)) rfl (by decide) rfl rfl (by omega) F4 N4 R2 ⟨rfl, IntsAre.nil⟩ ?hys2 ?turn2 fun _ => ⟨_, rfl⟩) ?fin2)
      case hys2 =>
        rintro i ys nw ⟨_, h⟩
        have := h.length
        rw [this]; unfold repF; simp
      case turn2 =>
        rintro i tk0 ys nw I oI C oC D m₂ h tk E' hik hm₂ hC ⟨rfl, hys⟩ ho F3 N3
        refine wpAny_tests_nil ?_
        rw [if_pos rfl]
        isplit
        refine CE.mk (by k_asm) (by k_asm) (fun p hp => hp) (fun p hp => by simpa [not_or] using ho p hp) ⟨rfl, ?_⟩
        rw [repF_succ]
        have hll : (g.take e).length = e := by rw [List.length_take]; omega
        rw [hll] at *
        rw [show (if (e : Int) - 1 < (i : Int) then (e : Int) - 1 else (i : Int)).toNat = min i (e - 1) by split <;> omega]
        exact ints_snoc hys
      case fin2 =>
        rintro ys nw D h tk ⟨rfl, hys⟩ F3 N3 ho
        isplit
        (rename List.take _ _ = _ => h0)
        rw [take_one] at h0
        refine pret ret (by assumption) (by assumption) (by assumption) (by assumption) (by assumption) ⟨D, ys, ys.length, rfl, by k_mem, ?_⟩
        unfold sizesF
        rw [← he, if_pos h0]
        exact hys
    · (rename ¬ List.take _ _ = _ => h0)
      rw [take_one] at h0
      refine pret ret (by assumption) (by assumption) (by assumption) (by assumption) (by assumption) ⟨_, _, _, rfl, by k_mem, ?_⟩
      unfold sizesF
      rw [← he, if_neg h0]
      assumption
end Mine
end
theorem Mine.off14 : True := by (w_top off); trivial
section
local macro_rules | `(tactic| walk_at $s:str) => `(tactic| k_extra $(Lean.Syntax.mkStrLit ("Group:" ++ s.getString)))
local macro_rules | `(tactic| walk_at "no such") => `(tactic| skip)
namespace Mine
open LCg (NsObj lst lst_snoc ns_obj)
set_option maxHeartbeats 4000000
theorem Mine.kw15 : True := by
  (k_with "Group:exec For Name Name cons nil" => ((k_here; k_dflt (refine For_in ?_))))
  trivial
/-- one size cut off the end of the signs -/
noncomputable def cut1 (p : List Str × Str) (z : Int) : List Str × Str := if p.2.length = 0 then p else (p.1 ++ [Txt.slice p.2 (some (-z)) none], Txt.slice p.2 none (some (-z)))
noncomputable def cutF (x : Str) (sz : List Int) : List Str × Str := sz.foldl cut1 ([], x)
noncomputable def groupsF (x : Str) (sz : List Int) : List Str := if (cutF x sz).2.length = 0 then (cutF x sz).1 else (cutF x sz).1 ++ [(cutF x sz).2]
noncomputable def groupF (x : Str) (sz : List Int) (place : Int) : Str := (groupsF x sz).getD (place.fmod (groupsF x sz).length).toNat Str.empty
noncomputable def GrJ (x : Str) (sz : List Int) (place : Int) (tp : Tok) (p : Addr) (i : Nat) (m : Nm) (nw : Led) : Prop :=
  ∃ (ys : Array Value) (n : Nat) (t : Tok), m (Str.ofString "groups") = some (.ref p) ∧ m (Str.ofString "signs") = some (.str (cutF x (sz.take i)).2 t) ∧ m (Str.ofString "place") = some (.int place tp) ∧ nw = [(p, W.listOf ys n)] ∧ StrsAre ys.toList (cutF x (sz.take i)).1
theorem cut1_txt (p : List Str × Str) (z : Int) : (cut1 p z).2.length ≤ p.2.length := by
  unfold cut1; split
  · exact Nat.le_refl _
  · exact PyProof.Txt.length_slice_le _ _ _
theorem cut1_num (p : List Str × Str) (z : Int) : (cut1 p z).1.length ≤ p.1.length + 1 := by
  unfold cut1; split
  · exact Nat.le_succ _
  · rw [List.length_append]; exact Nat.le_refl _
theorem cuts_txt : ∀ (sz : List Int) (p : List Str × Str), (sz.foldl cut1 p).2.length ≤ p.2.length
  | [], p => Nat.le_refl _
  | z :: r, p => Nat.le_trans (cuts_txt r (cut1 p z)) (cut1_txt p z)
theorem cuts_num : ∀ (sz : List Int) (p : List Str × Str), (sz.foldl cut1 p).1.length ≤ p.1.length + sz.length
  | [], p => Nat.le_refl _
  | z :: r, p => by
    have h1 := cuts_num r (cut1 p z)
    have h2 := cut1_num p z
    rw [List.foldl_cons, List.length_cons]; omega
theorem cutF_succ {x : Str} {sz : List Int} {i : Nat} {z : Int} (h : sz[i]? = some z) : cutF x (sz.take (i + 1)) = cut1 (cutF x (sz.take i)) z := by
  unfold cutF
  rw [List.take_add_one, List.foldl_append, h]; rfl
theorem ne_nil {x : Str} (h : (x != Str.ofString "") = true) : x.length ≠ 0 := fun e => by
  have : x = Str.ofString "" := empty_of_len e
  rw [this] at h; exact absurd h (by decide)
theorem strs_snoc {y : Str} {t : Tok} {vs : List Value} {ys : List Str} (h : StrsAre vs ys) : StrsAre (vs ++ [.str y t]) (ys ++ [y]) := by
  induction h with
  | nil => exact .cons y t .nil
  | cons z u r ih => exact .cons z u ih
theorem nil_of {x : Str} (h : (x != Str.ofString "") = false) : x.length = 0 := by
  have : x = Str.ofString "" := by simpa using h
  rw [this]; rfl
theorem item_strs {prog : Program} {w : World} {A : Around} {E : Value → Shared → Prop} {s : Shared} {value slice : Expr} {l : Addr} {ws : List Value} {ns : List Str} {k : Int} {u : Tok} {Q : Value → Shared → Prop} (hl : s.heap.IsList l ws.toArray) (hi : StrsAre ws ns) (h0 : 0 ≤ k) (hhi : k < ns.length) (hn : ns.length ≤ 1000000) (h : ∀ t, Q (.str (ns.getD k.toNat Str.empty) t) s)
    (hs : subscripted slice false (.ref l) (.int k u) = operate [.ref l, .int k u] (getItem (.ref l) (.int k u)) := by with_unfolding_all rfl) :
    wpAny (model prog w) A (subscriptTail value slice (.ref l) (.int k u)) Q E s := by
  have hk : k.toNat < ns.length := by omega
  obtain ⟨t, hx⟩ := hi.get k.toNat ns[k.toNat] (List.getElem?_eq_getElem hk)
  refine tail_any hl.typeIs slot_list_getitem.lookup (wpAny_getItem_list hl h0 (by omega) (by simpa using hx) ?_) hs
  have e := h t
  rwa [List.getD_eq_getElem?_getD, List.getElem?_eq_getElem hk] at e
theorem Mine.kw16 : True := by
  (k_with "Group:subscriptTail Name BinOp ref int" => ((k_here; k_dflt (refine' item_strs ?kl ?ki ?k0 ?k1 ?k2 ?_ ?ks; (case ks => with_unfolding_all rfl); (case kl => got_up); (case ki => first | assumption | exact strs_snoc (by assumption)); (case k0 => omega); (case k1 => (simp only [List.length_append, List.length_cons, List.length_nil, Array.length_toList] at *; omega)); (case k2 => (simp only [List.length_append, List.length_cons, List.length_nil, Array.length_toList] at *; omega))); intro _)))
  trivial
theorem cuts_pos : ∀ (sz : List Int) (p : List Str × Str), 0 < p.1.length ∨ 0 < p.2.length → 0 < (sz.foldl cut1 p).1.length ∨ 0 < (sz.foldl cut1 p).2.length
  | [], _, h => h
  | z :: r, p, h => by
    refine cuts_pos r (cut1 p z) ?_
    unfold cut1
    split
    · exact h
    · exact Or.inl (by rw [List.length_append]; exact Nat.succ_pos _)
theorem cutF_pos {x : Str} {sz : List Int} (h : 1 ≤ x.length) (e : (cutF x sz).2.length = 0) : 0 < (cutF x sz).1.length := by
  have h' : 0 < (cutF x sz).1.length ∨ 0 < (cutF x sz).2.length := cuts_pos sz ([], x) (Or.inr h)
  omega
theorem c_group (w : World) (x : Str) (t : Tok) (l : Addr) (vs : List Value) (sz : List Int) (place : Int) (tp : Tok) (hi : IntsAre vs sz) (hlen : sz.length ≤ 12) (hpos : ∀ z ∈ sz, 1 ≤ z ∧ z ≤ 1000) (hx1 : 1 ≤ x.length) (hx2 : x.length ≤ 1000) :
    PCon w 221 [.str x t, .ref l, .int place tp] 1 200 (fun h => h.IsList l vs.toArray) (fun v nw => ∃ t, v = .str (groupF x sz place) t) := by
  intro mean mg mb dp un gd cn cs a' ccd cl outer A₀ base h₀ L m s Q E B F X T hk hd' hu hpre ret
  refine wpAny_call ?_
  k_dflt cell_enter
  (rename GSub _ _ _ => GS)
  (rename Fr _ _ _ _ => F1)
  have hL := hpre.at fun o e => GS _ _ e (by simp)
  isplit
  (rename Fr _ _ _ _ => F2)
  (rename News _ _ _ _ => N2)
  (refine Mine.e1_3 hL ?_; intro lo hlo1 hlo2 hlo3; (try clear hL))
  k_dflt (refine loop_list (GrJ x sz place tp _) rfl F2 N2 ⟨lo, hlo2, hlo3, Or.inl hlo1⟩ ⟨_, _, _, rfl, rfl, rfl, rfl, StrsAre.nil⟩ ?turn ?last)
  case turn =>
    (intro i v m nw oI h tk E' hv z2h; refine Mine.e3_5 z2h ?_; intro ys n t e1 e2 e3 z2x6 hys; (try clear z2h); (rcases z2x6 with rfl); intro ho F3 N3)
    (have z3 := (IntsAre.at hi i v (by simpa using hv)); refine Mine.e2_2 z3 ?_; intro z tz z3x2 hz; (try clear z3); (rcases z3x2 with rfl))
    have F4 := fr_pin (Str.ofString "groups") (fr_pin (Str.ofString "signs") (fr_pin (Str.ofString "place") F3 e3) e2) e1
    clear F2 N2 F3
    have hne := natNe (ho _ (List.mem_singleton.mpr rfl))
    dsimp only at hne
    have hx := Nat.le_trans (cuts_txt (sz.take i) ([], x)) hx2
    have hn := cuts_num (sz.take i) ([], x)
    rw [List.length_take] at hn
    have hn2 := hys.length
    rw [Array.length_toList] at hn2
    change (cutF x (sz.take i)).2.length ≤ 1000 at hx
    change (cutF x (sz.take i)).1.length ≤ 0 + min i sz.length at hn
    isplit
    · (rename (_ != _) = true => hq)
      have hq := ne_nil hq
      refine' TL.next (nw := [(_, W.listOf _ _)]) (by k_asm) (by k_asm) (fun p hp => hp) (fun p hp => ?_) ⟨_, _, _, rfl, ?_, rfl, rfl, ?_⟩
      · rw [List.mem_singleton.mp hp]
        simp only [List.map_cons, List.map_nil, List.mem_singleton]
        exact hne
      rotate_left
      · rw [cutF_succ hz, cut1, if_neg hq]
        exact rfl
      · rw [cutF_succ hz, cut1, if_neg hq, Array.toList_push]
        exact strs_snoc hys
    · (rename (_ != _) = false => hq)
      have hq := nil_of hq
      refine TL.next (nw := [(_, W.listOf ys n)]) (by k_asm) (by k_asm) (fun p hp => hp) (fun p hp => by simpa using ho p hp) ⟨_, _, t, rfl, ?_, rfl, rfl, ?_⟩
      · rw [cutF_succ hz, cut1, if_pos hq]
        exact rfl
      · rw [cutF_succ hz, cut1, if_pos hq]
        exact hys
  case last => 
    (intro m nw h tk E' z4h; refine Mine.e3_5 z4h ?_; intro ys n t e1 e2 e3 z4x6 hys; (try clear z4h); (rcases z4x6 with rfl); intro F3 N3)
    clear F2 N2
    have hvs := hi.length
    rw [List.size_toArray, hvs, List.take_length] at e2 hys
    have F4 := fr_pin (Str.ofString "groups") (fr_pin (Str.ofString "signs") (fr_pin (Str.ofString "place") F3 e3) e2) e1
    clear F3
    have hx := Nat.le_trans (cuts_txt sz ([], x)) hx2
    have hn := cuts_num sz ([], x)
    have hn2 := hys.length
    rw [Array.length_toList] at hn2
    change (cutF x sz).2.length ≤ 1000 at hx
    change (cutF x sz).1.length ≤ 0 + sz.length at hn
    iterate 10 one_sign
    · (rename (_ != _) = true => hq)
      have hq := ne_nil hq
      isplit
      refine' pret ret (by assumption) (by assumption) (by assumption) (by assumption) (by assumption) ⟨_, ?_⟩
      rotate_left
      (with_reducible rename Tw _ _ => eT)
      rw [groupF, groupsF, if_neg hq, eT.e, List.length_append, List.length_append, Array.length_toList, hn2]
      rfl
    · (rename (_ != _) = false => hq)
      have hq := nil_of hq
      have hpo := cutF_pos hx1 hq
      isplit
      refine' pret ret (by assumption) (by assumption) (by assumption) (by assumption) (by assumption) ⟨_, ?_⟩
      rotate_left
      (with_reducible rename Tw _ _ => eT)
      rw [groupF, groupsF, if_pos hq, eT.e]
end Mine
end
namespace Mine
open LCg (NsObj lst lst_snoc ns_obj)
noncomputable abbrev IsZipB (h : Heap) (z TI TO : Addr) (f0 f1 : Value) : Prop :=
  h.get? z = some { cls := .type "zip", dict := none, data := .fields #[f0, f1, .bool false, .ref TI, .ref TO], slots := #[] }
structure ZApart (z TI TO i1 i2 : Addr) (fp1 fp2 : List Addr) : Prop where
  TIz : TI ≠ z
  TOz : TO ≠ z
  i1z : i1 ≠ z
  i2z : i2 ≠ z
  TITO : TI ≠ TO
  TIi1 : TI ≠ i1
  TIi2 : TI ≠ i2
  TOi1 : TO ≠ i1
  TOi2 : TO ≠ i2
  i12 : i1 ≠ i2
  z1 : z ∉ fp1
  z2 : z ∉ fp2
  o1 : TO ∉ fp1
  o2 : TO ∉ fp2
  a1 : i2 ∉ fp1
  a2 : i1 ∉ fp2
/-- a zip of two sources that has drawn i pairs -/
noncomputable def ZSt (z TI TO i1 i2 : Addr) (S1 S2 : Nat → Heap → Prop) (i : Nat) (h : Heap) : Prop :=
  (∃ f0 f1, IsZipB h z TI TO f0 f1 ∧ (f0 = .none ∨ ∃ T : Nat, f0 = rawInt T)) ∧ IsPair h TI (.ref i1) (.ref i2) ∧ (∃ a b, IsPair h TO a b) ∧ S1 i h ∧ S2 i h
section
variable {prog : Program} {w : World} {A : Around} {E : Value → Shared → Prop} {s : Shared}
theorem free_any {z TI TO : Addr} {f0 f1 : Value} {Q : Bool → Shared → Prop} (hz : IsZipB s.heap z TI TO f0 f1) (hf : f0 = .none ∨ ∃ T : Nat, f0 = rawInt T) (hT : Q true s)
    (hF : ∀ h' f1', IsZipB h' z TI TO f0 f1' → Heap.SameBut z s.heap h' → Q false { s with heap := h' }) : wpAny (model prog w) A (Builtin.SmallTypes.ownedTupleIsFree (.ref z)) Q E s := by
  unfold Builtin.SmallTypes.ownedTupleIsFree
  rcases hf with rfl | ⟨T, rfl⟩
  · exact wpAny_bind (wpAny_field hz rfl (x := .none) rfl (wpAny_pure hT))
  · refine wpAny_bind (wpAny_field hz rfl (x := rawInt T) rfl ?_)
    show wpAny _ _ (loadIfAlive ((T : Int).toNat) >>= _) _ _ _
    rw [Int.toNat_natCast]
    have al : ∀ {Q : Option Obj → Shared → Prop}, Q (s.heap.get? T) s → wpAny (model prog w) A (loadIfAlive T) Q E s := fun h => fun _ _ _ => h
    refine wpAny_bind (al ?_)
    cases e : s.heap.get? T with
    | none =>
      simp only [Option.isNone_none, if_true]
      exact wpAny_pure hT
    | some o =>
      simp only [Option.isNone_some, Bool.false_eq_true, if_false]
      refine wpAny_bind (wpAny_field hz rfl (x := f1) rfl ?_)
      split
      · refine wpAny_bind (wpAny_setField_rec hz (by simp) fun h₃ hz₃ hs₃ => ?_)
        exact wpAny_pure (hF h₃ (.bool true) hz₃ hs₃)
      · exact wpAny_pure (hF s.heap f1 hz (Heap.SameBut.refl _ _))
theorem zipd_item {z TI TO i1 i2 : Addr} {fp1 fp2 : List Addr} {n1 n2 i : Nat} {P1 P2 : Nat → Value → Prop} {S1 S2 : Nat → Heap → Prop} {Q : Value → Shared → Prop} (D : ZApart z TI TO i1 i2 fp1 fp2)
    (D1 : Draws prog w A i1 fp1 n1 P1 S1) (D2 : Draws prog w A i2 fp2 n2 P2 S2) (hi1 : i < n1) (hi2 : i < n2) (hst : ZSt z TI TO i1 i2 S1 S2 i s.heap)
    (hQ : ∀ x y h' tk, P1 i x → P2 i y → ZSt z TI TO i1 i2 S1 S2 (i + 1) h' → IsPair h' s.heap.objs.size x y → h'.objs.size = s.heap.objs.size + 1 →
      (∀ c o, c ≠ z → c ≠ TO → c ≠ i1 → c ≠ i2 → s.heap.get? c = some o → h'.get? c = some o) → Q (.ref s.heap.objs.size) { s with heap := h', toks := tk }) :
    wpAny (model prog w) A (Builtin.«zip.__next__» ⟨[.ref z], []⟩) (fun fin s' => ∃ v, fin = .done (.ret v) ∧ Q v s') E s := by
  (refine Mine.e0_5 hst ?_; intro z1x0 hTI z1x2 h1 h2; (try clear hst); (refine Mine.e2_2 z1x0 ?_; intro f0 f1 hz hf; (try clear z1x0)); (refine Mine.e2_1 z1x2 ?_; intro a b hTO; (try clear z1x2)))
  show wpAny _ _ (field (.ref z) 2 >>= _) _ _ _
  refine wpAny_bind (wpAny_field hz rfl (x := .bool false) rfl ?_)
  show wpAny _ _ (field (.ref z) 3 >>= _) _ _ _
  refine wpAny_bind (wpAny_field hz rfl (x := .ref TI) rfl ?_)
  refine wpAny_bind (wpAny_seqItems hTI rfl ?_)
  show wpAny _ _ (Builtin.SmallTypes.ownedTupleIsFree (.ref z) >>= _) _ _ _
  refine wpAny_bind (free_any hz hf ?_ ?_)
  · simp only [if_true]
    refine wpAny_bind (wpAny_rule ?_)
    refine wpAny_bind (wpAny_field hz rfl (x := .ref TO) rfl ?_)
    refine wpAny_bind (wpAny_setField_rec hz (by simp) fun h₁ hz₁ hs₁ => ?_)
    replace hz₁ : IsZipB h₁ z TI TO .ellipsis f1 := hz₁
    refine wpAny_bind ?_
    simp only [List.zipIdx_cons, List.zipIdx_nil, List.forIn_cons, List.forIn_nil]
    refine wpAny_bind (wpAny_bind (wpAny_onRaise ?_))
    show wpAny _ _ (Builtin.SmallTypes.nextOf (.ref i1) >>= _) _ _ _
    refine wpAny_bind (D1.item i _ _ _ hi1 (D1.frame i _ h₁ h1 fun c hc o e => hs₁.extBut c o (fun q => D.z1 (q ▸ hc)) e) fun x h₂ tk₂ hx h1₂ hs₂ => wpAny_pure ?_)
    have hTO₂ : IsPair h₂ TO a b := hs₂.extBut _ _ D.TOi1 (hs₁.extBut _ _ D.TOz hTO)
    refine wpAny_bind (wpAny_seqItems hTO₂ rfl ?_)
    refine wpAny_bind (wpAny_updateSeq_pair hTO₂ fun h₃ hTO₃ hs₃ => ?_)
    replace hTO₃ : IsPair h₃ TO x b := hTO₃
    refine wpAny_bind (wpAny_letGo (wpAny_pure ?_))
    refine wpAny_bind (wpAny_bind (wpAny_onRaise ?_))
    show wpAny _ _ (Builtin.SmallTypes.nextOf (.ref i2) >>= _) _ _ _
    refine wpAny_bind (D2.item i _ _ _ hi2 (D2.frame i _ h₃ h2 fun c hc o e => hs₃.extBut c o (fun q => D.o2 (q ▸ hc)) (hs₂.extBut c o (fun q => D.a2 (q ▸ hc)) (hs₁.extBut c o (fun q => D.z2 (q ▸ hc)) e))) fun y h₄ tk₄ hy h2₄ hs₄ => wpAny_pure ?_)
    have hTO₄ : IsPair h₄ TO x b := hs₄.extBut _ _ D.TOi2 hTO₃
    refine wpAny_bind (wpAny_seqItems hTO₄ rfl ?_)
    refine wpAny_bind (wpAny_updateSeq_pair hTO₄ fun h₅ hTO₅ hs₅ => ?_)
    replace hTO₅ : IsPair h₅ TO x y := hTO₅
    refine wpAny_bind (wpAny_letGo (wpAny_pure (wpAny_pure ?_)))
    refine wpAny_bind (wpAny_seqItems hTO₅ rfl ?_)
    refine wpAny_bind (wpAny_newTuple ?_)
    have hsz : h₅.objs.size = s.heap.objs.size := by rw [hs₅.1, hs₄.1, hs₃.1, hs₂.1, hs₁.1]
    have hk₅ : ∀ c o, c ≠ z → c ≠ TO → c ≠ i1 → c ≠ i2 → s.heap.get? c = some o → h₅.get? c = some o := fun c o c1 c2 c3 c4 e =>
      hs₅.extBut _ _ c2 (hs₄.extBut _ _ c4 (hs₃.extBut _ _ c2 (hs₂.extBut _ _ c3 (hs₁.extBut _ _ c1 e))))
    have hz₅ : IsZipB h₅ z TI TO .ellipsis f1 := hs₅.extBut _ _ D.TOz.symm (hs₄.extBut _ _ D.i2z.symm (hs₃.extBut _ _ D.TOz.symm (hs₂.extBut _ _ D.i1z.symm hz₁)))
    have hzlt : z < h₅.objs.size := Heap.lt_size hz₅
    show wpAny _ _ (Builtin.SmallTypes.ownedTupleHandOut (.ref z) (.ref h₅.objs.size) >>= _) _ _ _
    refine wpAny_bind ?_
    unfold Builtin.SmallTypes.ownedTupleHandOut
    have hz₆ : IsZipB (h₅.push { cls := .type "tuple", data := .seq #[x, y] }) z TI TO .ellipsis f1 := Heap.get?_push_of_some _ hz₅
    refine wpAny_bind (wpAny_setField_rec hz₆ (by simp) fun h₇ hz₇ hs₇ => ?_)
    replace hz₇ : IsZipB h₇ z TI TO (rawInt h₅.objs.size) f1 := hz₇
    refine wpAny_setField_rec hz₇ (by simp) fun h₈ hz₈ hs₈ => ?_
    replace hz₈ : IsZipB h₈ z TI TO (rawInt h₅.objs.size) (.bool false) := hz₈
    have up : ∀ c o, c ≠ z → h₅.get? c = some o → h₈.get? c = some o := fun c o c1 e => hs₈.extBut _ _ c1 (hs₇.extBut _ _ c1 (Heap.get?_push_of_some _ e))
    have hT₈ : IsPair h₈ h₅.objs.size x y := hs₈.extBut _ _ (Nat.ne_of_gt hzlt) (hs₇.extBut _ _ (Nat.ne_of_gt hzlt) (Heap.get?_push_size _ rfl))
    have hz8 : h₈.objs.size = h₅.objs.size + 1 := by rw [hs₈.1, hs₇.1, Heap.size_push]
    rw [hsz] at hz₈ hT₈ hz8
    refine wpAny_pure ⟨_, rfl, ?_⟩
    show Q (.ref h₅.objs.size) _
    rw [hsz]
    refine hQ x y h₈ tk₄ hx hy ⟨⟨_, _, hz₈, Or.inr ⟨_, rfl⟩⟩, up _ _ D.TIz (hk₅ _ _ D.TIz D.TITO D.TIi1 D.TIi2 hTI), ⟨_, _, up _ _ D.TOz hTO₅⟩, ?_, ?_⟩ hT₈ hz8 fun c o c1 c2 c3 c4 e => up c o c1 (hk₅ c o c1 c2 c3 c4 e)
    · exact D1.frame _ _ _ h1₂ fun c hc o e => up c o (fun q => D.z1 (q ▸ hc)) (hs₅.extBut c o (fun q => D.o1 (q ▸ hc)) (hs₄.extBut c o (fun q => D.a1 (q ▸ hc)) (hs₃.extBut c o (fun q => D.o1 (q ▸ hc)) e)))
    · exact D2.frame _ _ _ h2₄ fun c hc o e => up c o (fun q => D.z2 (q ▸ hc)) (hs₅.extBut c o (fun q => D.o2 (q ▸ hc)) e)
  · intro h₁ f1' hz₁ hs₁
    simp only [Bool.false_eq_true, if_false]
    refine wpAny_bind ?_
    simp only [List.forIn_toArray, List.forIn_cons, List.forIn_nil]
    refine wpAny_bind (wpAny_bind (wpAny_holding ?_))
    show wpAny _ _ (Builtin.SmallTypes.nextOf (.ref i1) >>= _) _ _ _
    refine wpAny_bind (D1.item i _ _ _ hi1 (D1.frame i _ h₁ h1 fun c hc o e => hs₁.extBut c o (fun q => D.z1 (q ▸ hc)) e) fun x h₂ tk₂ hx h1₂ hs₂ => wpAny_pure ?_)
    refine wpAny_pure ?_
    refine wpAny_bind (wpAny_bind (wpAny_holding ?_))
    show wpAny _ _ (Builtin.SmallTypes.nextOf (.ref i2) >>= _) _ _ _
    refine wpAny_bind (D2.item i _ _ _ hi2 (D2.frame i _ h₂ h2 fun c hc o e => (hs₂.extBut c o (fun q => D.a2 (q ▸ hc)) (hs₁.extBut c o (fun q => D.z2 (q ▸ hc)) e))) fun y h₄ tk₄ hy h2₄ hs₄ => wpAny_pure ?_)
    refine wpAny_pure (wpAny_pure ?_)
    show wpAny _ _ (newTuple [x, y] >>= _) _ _ _
    refine wpAny_bind (wpAny_newTuple ?_)
    refine wpAny_pure ⟨_, rfl, ?_⟩
    have hsz : h₄.objs.size = s.heap.objs.size := by rw [hs₄.1, hs₂.1, hs₁.1]
    show Q (.ref h₄.objs.size) _
    have up : ∀ c o, h₄.get? c = some o → (h₄.push { cls := .type "tuple", data := .seq #[x, y] }).get? c = some o := fun c o e => Heap.get?_push_of_some _ e
    have hk : ∀ c o, c ≠ z → c ≠ TO → c ≠ i1 → c ≠ i2 → s.heap.get? c = some o → h₄.get? c = some o := fun c o c1 c2 c3 c4 e =>
      hs₄.extBut _ _ c4 (hs₂.extBut _ _ c3 (hs₁.extBut _ _ c1 e))
    have hp : IsPair (h₄.push { cls := .type "tuple", data := .seq #[x, y] }) h₄.objs.size x y := Heap.get?_push_size _ rfl
    rw [hsz] at hp ⊢
    refine hQ x y _ tk₄ hx hy ⟨⟨f0, f1', up _ _ (hs₄.extBut _ _ D.i2z.symm (hs₂.extBut _ _ D.i1z.symm hz₁)), hf⟩, up _ _ (hk _ _ D.TIz D.TITO D.TIi1 D.TIi2 hTI), ⟨a, b, up _ _ (hs₄.extBut _ _ D.TOi2 (hs₂.extBut _ _ D.TOi1 (hs₁.extBut _ _ D.TOz hTO)))⟩, ?_, ?_⟩ hp (by rw [Heap.size_push, hsz]) fun c o c1 c2 c3 c4 e => up c o (hk c o c1 c2 c3 c4 e)
    · exact D1.frame _ _ _ h1₂ fun c hc o e => up c o (hs₄.extBut c o (fun q => D.a1 (q ▸ hc)) e)
    · exact D2.frame _ _ _ h2₄ fun c hc o e => up c o e
theorem zipd_end {z TI TO i1 i2 : Addr} {fp1 fp2 : List Addr} {n1 n2 : Nat} {P1 P2 : Nat → Value → Prop} {S1 S2 : Nat → Heap → Prop} {Q : Fin → Shared → Prop} (D : ZApart z TI TO i1 i2 fp1 fp2)
    (D1 : Draws prog w A i1 fp1 n1 P1 S1) (D2 : Draws prog w A i2 fp2 n2 P2 S2) (hst : ZSt z TI TO i1 i2 S1 S2 (min n1 n2) s.heap)
    (hE : ∀ h' e tk, (∀ c o, c ≠ z → c ≠ TO → c ≠ i1 → c ≠ i2 → s.heap.get? c = some o → h'.get? c = some o) → (∃ o, h'.get? e = some o ∧ o.cls = .type "StopIteration") → E (.ref e) { s with heap := h', toks := tk }) :
    wpAny (model prog w) A (Builtin.«zip.__next__» ⟨[.ref z], []⟩) Q E s := by
  (refine Mine.e0_5 hst ?_; intro z2x0 hTI z2x2 h1 h2; (try clear hst); (refine Mine.e2_2 z2x0 ?_; intro f0 f1 hz hf; (try clear z2x0)); (refine Mine.e2_1 z2x2 ?_; intro a b hTO; (try clear z2x2)))
  show wpAny _ _ (field (.ref z) 2 >>= _) _ _ _
  refine wpAny_bind (wpAny_field hz rfl (x := .bool false) rfl ?_)
  show wpAny _ _ (field (.ref z) 3 >>= _) _ _ _
  refine wpAny_bind (wpAny_field hz rfl (x := .ref TI) rfl ?_)
  refine wpAny_bind (wpAny_seqItems hTI rfl ?_)
  show wpAny _ _ (Builtin.SmallTypes.ownedTupleIsFree (.ref z) >>= _) _ _ _
  refine wpAny_bind (free_any hz hf ?_ ?_)
  · simp only [if_true]
    refine wpAny_bind (wpAny_rule ?_)
    refine wpAny_bind (wpAny_field hz rfl (x := .ref TO) rfl ?_)
    refine wpAny_bind (wpAny_setField_rec hz (by simp) fun h₁ hz₁ hs₁ => ?_)
    replace hz₁ : IsZipB h₁ z TI TO .ellipsis f1 := hz₁
    refine wpAny_bind ?_
    simp only [List.zipIdx_cons, List.zipIdx_nil, List.forIn_cons, List.forIn_nil]
    refine wpAny_bind (wpAny_bind (wpAny_onRaise ?_))
    show wpAny _ _ (Builtin.SmallTypes.nextOf (.ref i1) >>= _) _ _ _
    have h1₁ := D1.frame _ _ h₁ h1 fun c hc o e => hs₁.extBut c o (fun q => D.z1 (q ▸ hc)) e
    rcases Nat.lt_or_ge n2 n1 with hn | hn
    · rw [Nat.min_eq_right (Nat.le_of_lt hn)] at *
      refine wpAny_bind (D1.item _ _ _ _ hn h1₁ fun x h₂ tk₂ hx h1₂ hs₂ => wpAny_pure ?_)
      have hTO₂ : IsPair h₂ TO a b := hs₂.extBut _ _ D.TOi1 (hs₁.extBut _ _ D.TOz hTO)
      refine wpAny_bind (wpAny_seqItems hTO₂ rfl ?_)
      refine wpAny_bind (wpAny_updateSeq_pair hTO₂ fun h₃ hTO₃ hs₃ => ?_)
      refine wpAny_bind (wpAny_letGo (wpAny_pure ?_))
      refine wpAny_bind (wpAny_bind (wpAny_onRaise ?_))
      show wpAny _ _ (Builtin.SmallTypes.nextOf (.ref i2) >>= _) _ _ _
      refine wpAny_bind (D2.done _ _ _ (D2.frame _ _ h₃ h2 fun c hc o e => hs₃.extBut c o (fun q => D.o2 (q ▸ hc)) (hs₂.extBut c o (fun q => D.a2 (q ▸ hc)) (hs₁.extBut c o (fun q => D.z2 (q ▸ hc)) e))) fun h₄ e hs₄ he => ?_)
      (refine Mine.e1_2 he ?_; intro oe hoe hce; (try clear he))
      have hz₄ : IsZipB h₄ z TI TO .ellipsis f1 := hs₄ _ _ D.i2z.symm (hs₃.extBut _ _ D.TOz.symm (hs₂.extBut _ _ D.i1z.symm hz₁))
      have hez : e ≠ z := fun x => by subst x; rw [hz₄] at hoe; cases hoe; simp at hce
      exact wpAny_setField_rec hz₄ (by simp) fun h₅ _ hs₅ => hE h₅ e _ (fun c o c1 c2 c3 c4 x => hs₅.extBut _ _ c1 (hs₄ _ _ c4 (hs₃.extBut _ _ c2 (hs₂.extBut _ _ c3 (hs₁.extBut _ _ c1 x))))) ⟨oe, hs₅.extBut _ _ hez hoe, hce⟩
    · rw [Nat.min_eq_left hn] at *
      refine wpAny_bind (D1.done _ _ _ h1₁ fun h₂ e hs₂ he => ?_)
      (refine Mine.e1_2 he ?_; intro oe hoe hce; (try clear he))
      have hz₂ : IsZipB h₂ z TI TO .ellipsis f1 := hs₂ _ _ D.i1z.symm hz₁
      have hez : e ≠ z := fun x => by subst x; rw [hz₂] at hoe; cases hoe; simp at hce
      exact wpAny_setField_rec hz₂ (by simp) fun h₃ _ hs₃ => hE h₃ e _ (fun c o c1 _ c3 _ x => hs₃.extBut _ _ c1 (hs₂ _ _ c3 (hs₁.extBut _ _ c1 x))) ⟨oe, hs₃.extBut _ _ hez hoe, hce⟩
  · intro h₁ f1' hz₁ hs₁
    simp only [Bool.false_eq_true, if_false]
    refine wpAny_bind ?_
    simp only [List.forIn_toArray, List.forIn_cons, List.forIn_nil]
    refine wpAny_bind (wpAny_bind (wpAny_holding ?_))
    show wpAny _ _ (Builtin.SmallTypes.nextOf (.ref i1) >>= _) _ _ _
    have h1₁ := D1.frame _ _ h₁ h1 fun c hc o e => hs₁.extBut c o (fun q => D.z1 (q ▸ hc)) e
    rcases Nat.lt_or_ge n2 n1 with hn | hn
    · rw [Nat.min_eq_right (Nat.le_of_lt hn)] at *
      refine wpAny_bind (D1.item _ _ _ _ hn h1₁ fun x h₂ tk₂ hx h1₂ hs₂ => wpAny_pure ?_)
      refine wpAny_pure ?_
      refine wpAny_bind (wpAny_bind (wpAny_holding ?_))
      show wpAny _ _ (Builtin.SmallTypes.nextOf (.ref i2) >>= _) _ _ _
      refine wpAny_bind (D2.done _ _ _ (D2.frame _ _ h₂ h2 fun c hc o e => (hs₂.extBut c o (fun q => D.a2 (q ▸ hc)) (hs₁.extBut c o (fun q => D.z2 (q ▸ hc)) e))) fun h₄ e hs₄ he => ?_)
      exact hE h₄ e _ (fun c o c1 c2 c3 c4 x => hs₄ _ _ c4 (hs₂.extBut _ _ c3 (hs₁.extBut _ _ c1 x))) he
    · rw [Nat.min_eq_left hn] at *
      refine wpAny_bind (D1.done _ _ _ h1₁ fun h₂ e hs₂ he => ?_)
      exact hE h₂ e _ (fun c o c1 _ c3 _ x => hs₂ _ _ c3 (hs₁.extBut _ _ c1 x)) he
theorem zst_type {z TI TO i1 i2 : Addr} {S1 S2 : Nat → Heap → Prop} {i : Nat} (hst : ZSt z TI TO i1 i2 S1 S2 i s.heap) : s.TypeIs (.ref z) "zip" := by
  (rcases hst with ⟨⟨f0, f1, hz, hf⟩, _⟩)
  exact ⟨_, hz, rfl⟩
theorem zipd_next {z TI TO i1 i2 : Addr} {fp1 fp2 : List Addr} {n1 n2 i : Nat} {P1 P2 : Nat → Value → Prop} {S1 S2 : Nat → Heap → Prop} {Q : Option Value → Shared → Prop} (D : ZApart z TI TO i1 i2 fp1 fp2)
    (D1 : Draws prog w A.in1 i1 fp1 n1 P1 S1) (D2 : Draws prog w A.in1 i2 fp2 n2 P2 S2) (hi1 : i < n1) (hi2 : i < n2) (hst : ZSt z TI TO i1 i2 S1 S2 i s.heap)
    (hQ : ∀ x y h' tk, P1 i x → P2 i y → ZSt z TI TO i1 i2 S1 S2 (i + 1) h' → IsPair h' s.heap.objs.size x y → h'.objs.size = s.heap.objs.size + 1 →
      (∀ c o, c ≠ z → c ≠ TO → c ≠ i1 → c ≠ i2 → s.heap.get? c = some o → h'.get? c = some o) → Q (some (.ref s.heap.objs.size)) { s with heap := h', toks := tk }) :
    wpAny (model prog w) A (pyNext (.ref z)) Q E s := by
  have hT := zst_type hst
  unfold pyNext
  exact wpAny_bind (wpAny_attempt (wpAny_callSpecial?_slot (name := Str.ofString "__next__") hT PySem.F.slot_zip_next
    (wpAny_call_entry PySem.F.slot_zip_next hT PySem.F.entry_zip_next
      (zipd_item D D1 D2 hi1 hi2 hst fun x y h' tk a1 a2 a3 a4 a5 a6 => wpAny_pure (hQ x y h' tk a1 a2 a3 a4 a5 a6)) (PySem.F.args_zip_next_1 _))))
theorem zipd_done {z TI TO i1 i2 : Addr} {fp1 fp2 : List Addr} {n1 n2 : Nat} {P1 P2 : Nat → Value → Prop} {S1 S2 : Nat → Heap → Prop} {Q : Option Value → Shared → Prop} (D : ZApart z TI TO i1 i2 fp1 fp2)
    (D1 : Draws prog w A.in1 i1 fp1 n1 P1 S1) (D2 : Draws prog w A.in1 i2 fp2 n2 P2 S2) (hst : ZSt z TI TO i1 i2 S1 S2 (min n1 n2) s.heap)
    (hQ : ∀ h' tk, (∀ c o, c ≠ z → c ≠ TO → c ≠ i1 → c ≠ i2 → s.heap.get? c = some o → h'.get? c = some o) → Q none { s with heap := h', toks := tk }) : wpAny (model prog w) A (pyNext (.ref z)) Q E s := by
  have hT := zst_type hst
  unfold pyNext
  refine wpAny_bind (wpAny_attempt (wpAny_callSpecial?_slot (name := Str.ofString "__next__") hT PySem.F.slot_zip_next
    (wpAny_call_entry PySem.F.slot_zip_next hT PySem.F.entry_zip_next (zipd_end D D1 D2 hst fun h' e tk hk he => ?_) (PySem.F.args_zip_next_1 _))))
  (refine Mine.e1_2 he ?_; intro o ho hc; (try clear he))
  refine wpAny_bind (wpAny_isInstance (T := "StopIteration") (b := true) ⟨o, ho, hc⟩ isSubtype_stop ?_)
  exact wpAny_pure (hQ _ _ hk)
theorem zipd_iter {z TI TO i1 i2 : Addr} {S1 S2 : Nat → Heap → Prop} {i : Nat} {Q : Value → Shared → Prop} (hst : ZSt z TI TO i1 i2 S1 S2 i s.heap) (h : Q (.ref z) s) : wpAny (model prog w) A (pyIter (.ref z)) Q E s := by
  have hT := zst_type hst
  refine wpAny_pyIter_slot hT PySem.F.slot_zip_iter (wpAny_call_entry PySem.F.slot_zip_iter hT PySem.F.entry_zip_iter ?_ (PySem.F.args_zip_iter_1 _))
  show wpAny _ _ (ret (.ref z)) _ _ s
  exact wpAny_pure ⟨_, rfl, "zip", _, hT, PySem.F.slot_zip_next.lookup, h⟩
theorem ZSt.keep {z TI TO i1 i2 : Addr} {fp1 fp2 : List Addr} {n1 n2 i : Nat} {P1 P2 : Nat → Value → Prop} {S1 S2 : Nat → Heap → Prop} {h h' : Heap} (D1 : Draws prog w A i1 fp1 n1 P1 S1) (D2 : Draws prog w A i2 fp2 n2 P2 S2)
    (st : ZSt z TI TO i1 i2 S1 S2 i h) (k : ∀ b ∈ z :: TI :: TO :: (fp1 ++ fp2), ∀ o, h.get? b = some o → h'.get? b = some o) : ZSt z TI TO i1 i2 S1 S2 i h' := by
  (refine Mine.e0_5 st ?_; intro z7x0 hTI z7x2 h1 h2; (try clear st); (refine Mine.e2_2 z7x0 ?_; intro f0 f1 hz hf; (try clear z7x0)); (refine Mine.e2_1 z7x2 ?_; intro a b hTO; (try clear z7x2)))
  exact ⟨⟨f0, f1, k _ (by simp) _ hz, hf⟩, k _ (by simp) _ hTI, ⟨a, b, k _ (by simp) _ hTO⟩, D1.frame _ _ _ h1 fun c hc => k c (by simp [hc]), D2.frame _ _ _ h2 fun c hc => k c (by simp [hc])⟩
end
theorem zip_no_len : typeLookup (.type "zip") "__len__" = pure none := by rw [typeLookup_type, builtinLookup_eq_fast]; kernel_rfl
theorem zip_no_hint : typeLookup (.type "zip") (Str.ofString "__length_hint__").toString = pure none := by rw [typeLookup_type, builtinLookup_eq_fast]; kernel_rfl
/-- the pairs that a zip has handed out -/
structure ZG (P1 P2 : Nat → Value → Prop) (lo : Addr) (h : Heap) (as : List Addr) : Prop where
  rise : as.Pairwise (· < ·)
  above : ∀ a ∈ as, lo < a
  pairs : ∀ (j : Nat) (a : Addr), as[j]? = some a → ∃ x y, P1 j x ∧ P2 j y ∧ h.get? a = some { cls := .type "tuple", data := .seq #[x, y] }
theorem ZG.there {P1 P2 : Nat → Value → Prop} {lo : Addr} {h : Heap} {as : List Addr} (g : ZG P1 P2 lo h as) {a : Addr} (ha : a ∈ as) : a < h.objs.size := by
  obtain ⟨j, hj⟩ := List.mem_iff_getElem?.mp ha
  (have z8 := (g.pairs j a hj); refine Mine.e2_3 z8 ?_; intro _ _ _ _ e; (try clear z8))
  exact Heap.lt_size e
theorem ZG.low {P1 P2 : Nat → Value → Prop} {lo lo' : Addr} {h : Heap} {as : List Addr} (g : ZG P1 P2 lo h as) (hl : lo' ≤ lo) : ZG P1 P2 lo' h as := ⟨g.rise, fun a ha => Nat.lt_of_le_of_lt hl (g.above a ha), g.pairs⟩
section
variable {prog : Program} {w : World} {A : Around} {s : Shared} {R : Result → Shared → Prop}
theorem zipd_loop {S z TI TO i1 i2 : Addr} {fp1 fp2 : List Addr} {n1 n2 : Nat} {P1 P2 : Nat → Value → Prop} {S1 S2 : Nat → Heap → Prop} (D : ZApart z TI TO i1 i2 fp1 fp2)
    (D1 : Draws prog w A.in1.in1 i1 fp1 n1 P1 S1) (D2 : Draws prog w A.in1.in1 i2 fp2 n2 P2 S2) (hS0 : S ∉ z :: TI :: TO :: (fp1 ++ fp2)) (hS1 : S ≠ i1) (hS2 : S ≠ i2) (lo : Addr) (hlo : z ≤ lo ∧ TO ≤ lo ∧ i1 ≤ lo ∧ i2 ≤ lo ∧ S ≤ lo) (hn : min n1 n2 ≤ sizeLine) (res : Value) {h₁ : Heap}
    (hR : ∀ h' tk acc c as, (∀ b o, b ≠ S → b ≠ z → b ≠ TO → b ≠ i1 → b ≠ i2 → h₁.get? b = some o → h'.get? b = some o) → h'.get? S = some { cls := .type "list", dict := none, data := .seq acc c, slots := #[] } → as.length = min n1 n2 → ZG P1 P2 lo h' as →
      acc.toList = as.map Value.ref → R (.ok (.ret res)) { s with heap := h', toks := tk }) :
    ∀ (k i : Nat) (h : Heap) (tk c : Nat) (acc : Array Value) (as : List Addr), min n1 n2 - i = k → i ≤ min n1 n2 → ZSt z TI TO i1 i2 S1 S2 i h → (∀ b o, b ≠ S → b ≠ z → b ≠ TO → b ≠ i1 → b ≠ i2 → h₁.get? b = some o → h.get? b = some o) →
      h.get? S = some { cls := .type "list", dict := none, data := .seq acc c, slots := #[] } → acc.toList = as.map Value.ref → as.length = i → ZG P1 P2 lo h as → lo < h.objs.size →
      codeAny (model prog w) A (.builtin "list.extend.loop" ⟨[.ref S, .ref z, res], []⟩) R { s with heap := h, toks := tk } := by
  have hSz : S ≠ z := fun e => hS0 (by simp [e])
  have hSO : S ≠ TO := fun e => hS0 (by simp [e])
  have off : ∀ a : Addr, lo < a → a ≠ z ∧ a ≠ TO ∧ a ≠ i1 ∧ a ≠ i2 ∧ a ≠ S := fun a ha => ⟨Nat.ne_of_gt (Nat.lt_of_le_of_lt hlo.1 ha), Nat.ne_of_gt (Nat.lt_of_le_of_lt hlo.2.1 ha), Nat.ne_of_gt (Nat.lt_of_le_of_lt hlo.2.2.1 ha), Nat.ne_of_gt (Nat.lt_of_le_of_lt hlo.2.2.2.1 ha), Nat.ne_of_gt (Nat.lt_of_le_of_lt hlo.2.2.2.2 ha)⟩
  intro k
  induction k with
  | zero =>
    intro i h tk c acc as hk hi hst hkeep hS hacc hal hG hIs
    have hin : i = min n1 n2 := by omega
    subst hin
    refine codeAny_builtin PySem.F.entry_extend_loop ?_
    rw [Around.under_plainId PySem.F.plain_extend_loop _]
    show wpAny _ A.in1 (pyNext (.ref z) >>= _) _ _ _
    refine wpAny_bind (zipd_done (s := { s with heap := h, toks := tk }) (A := A.in1) D D1 D2 hst fun h' tk' he => ?_)
    refine wpAny_pure (hR h' tk' acc c as (fun b o h1 h2 h3 h4 h5 e => he b o h2 h3 h4 h5 (hkeep b o h1 h2 h3 h4 h5 e)) (he S _ hSz hSO hS1 hS2 hS) hal ⟨hG.rise, hG.above, fun j a hj => ?_⟩ hacc)
    (have z9 := (hG.pairs j a hj); refine Mine.e2_3 z9 ?_; intro x y e1 e2 e3; (try clear z9))
    (have z10 := (off a (hG.above a (List.mem_of_getElem? hj))); refine Mine.e0_5 z10 ?_; intro o1 o2 o3 o4 o5; (try clear z10))
    exact ⟨x, y, e1, e2, he a _ o1 o2 o3 o4 e3⟩
  | succ k ih =>
    intro i h tk c acc as hk hi hst hkeep hS hacc hal hG hIs
    have hlt1 : i < n1 := by omega
    have hlt2 : i < n2 := by omega
    have hsz : acc.size = i := by rw [← Array.length_toList, hacc, List.length_map, hal]
    refine codeAny_builtin PySem.F.entry_extend_loop ?_
    rw [Around.under_plainId PySem.F.plain_extend_loop _]
    show wpAny _ A.in1 (pyNext (.ref z) >>= _) _ _ _
    refine wpAny_bind (zipd_next (s := { s with heap := h, toks := tk }) (A := A.in1) D D1 D2 hlt1 hlt2 hst fun x y h' tk' hx hy hst' ht hz hkp => ?_)
    dsimp only at ht hz hkp ⊢
    have hS' := hkp S _ hSz hSO hS1 hS2 hS
    have up : ∀ b o, b ≠ S → h'.get? b = some o → (h'.update S (Obj.mapSeq (·.push (Value.ref h.objs.size)))).get? b = some o := fun b o hb e => (Heap.get?_update_other _ _ (Ne.symm hb)).trans e
    have hSl : S < h.objs.size := Heap.lt_size hS
    show wpAny _ A.in1 (updateSeq S (·.push (Value.ref h.objs.size)) >>= _) _ _ _
    refine wpAny_bind ?_
    refine wpAny_updateSeq hS' rfl (wpAny_pure ⟨plainId_quiet PySem.F.plain_extend_loop _, ih (i + 1) _ tk' _ (acc.push (Value.ref h.objs.size)) (as ++ [h.objs.size]) (by omega) (by omega) (hst'.keep D1 D2 fun b hb o e => up b o (fun q => hS0 (q ▸ hb)) e)
      (fun b o h1 h2 h3 h4 h5 e => up b o h1 (hkp b o h2 h3 h4 h5 (hkeep b o h1 h2 h3 h4 h5 e))) (Heap.get?_update_self _ hS' rfl) (by rw [Array.toList_push, hacc, List.map_append]; rfl) (by rw [List.length_append, hal]; rfl) ⟨?_, ?_, ?_⟩ ?_⟩) (by rw [hsz]; omega) (by show (acc.push (Value.ref h.objs.size)).size ≤ sizeLine + 1; rw [Array.size_push, hsz]; omega)
    · refine List.pairwise_append.mpr ⟨hG.rise, List.pairwise_singleton _ _, fun a ha b hb => ?_⟩
      rw [List.mem_singleton.mp hb]
      exact hG.there ha
    · intro a ha
      rcases List.mem_append.mp ha with ha | ha
      · exact hG.above a ha
      · rw [List.mem_singleton.mp ha]; exact hIs
    · intro j b hj
      rcases Nat.lt_trichotomy j as.length with h1 | h1 | h1
      · rw [List.getElem?_append_left h1] at hj
        (have z11 := (hG.pairs j b hj); refine Mine.e2_3 z11 ?_; intro x' y' e1 e2 e3; (try clear z11))
        (have z12 := (off b (hG.above b (List.mem_of_getElem? hj))); refine Mine.e0_5 z12 ?_; intro o1 o2 o3 o4 o5; (try clear z12))
        exact ⟨x', y', e1, e2, up b _ o5 (hkp b _ o1 o2 o3 o4 e3)⟩
      · subst h1
        have hb : h.objs.size = b := by simpa using hj
        subst hb
        exact ⟨x, y, by rw [hal]; exact hx, by rw [hal]; exact hy, up _ _ (Nat.ne_of_gt hSl) ht⟩
      · have hnone : (as ++ [h.objs.size])[j]? = none := List.getElem?_eq_none (by rw [List.length_append, List.length_singleton]; omega)
        rw [hnone] at hj; cases hj
    · have e : (h'.update S (Obj.mapSeq (·.push (Value.ref h.objs.size)))).get? h.objs.size = _ := up _ _ (Nat.ne_of_gt hSl) ht
      exact Nat.lt_trans hIs (Heap.lt_size e)
theorem zipd_extend {z TI TO i1 i2 : Addr} {fp1 fp2 : List Addr} {n1 n2 : Nat} {P1 P2 : Nat → Value → Prop} {S1 S2 : Nat → Heap → Prop} (D : ZApart z TI TO i1 i2 fp1 fp2)
    (D1 : Draws prog w A.in1.in1 i1 fp1 n1 P1 S1) (D2 : Draws prog w A.in1.in1 i2 fp2 n2 P2 S2) (hst : ZSt z TI TO i1 i2 S1 S2 0 s.heap) (S : Addr) (hS0 : S ∉ z :: TI :: TO :: (fp1 ++ fp2)) (hS1 : S ≠ i1) (hS2 : S ≠ i2) (lo : Addr) (hlo : z ≤ lo ∧ TO ≤ lo ∧ i1 ≤ lo ∧ i2 ≤ lo ∧ S ≤ lo) (hls : lo < s.heap.objs.size) (hn : min n1 n2 ≤ sizeLine) (res : Value) (c₀ : Nat) (hS : s.heap.get? S = some { cls := .type "list", data := .seq #[] c₀ })
    (hR : ∀ h' tk acc c as, (∀ b o, b ≠ S → b ≠ z → b ≠ TO → b ≠ i1 → b ≠ i2 → s.heap.get? b = some o → h'.get? b = some o) → h'.get? S = some { cls := .type "list", dict := none, data := .seq acc c, slots := #[] } → as.length = min n1 n2 → ZG P1 P2 lo h' as →
      acc.toList = as.map Value.ref → R (.ok (.ret res)) { s with heap := h', toks := tk }) :
    wpAny (model prog w) A.in1 (Builtin.List.listExtendWith (.ref S) (.ref z) res)
      (fun fin s' => match fin with | .done f => R (.ok f) s' | .again c' => c'.quiet = true ∧ codeAny (model prog w) A c' R s') (fun e s' => R (.error e) s') s := by
  have hSz : S ≠ z := fun e => hS0 (by simp [e])
  have hT := zst_type hst
  unfold Builtin.List.listExtendWith
  refine wpAny_bind (wpAny_typeOf hT ?_)
  have h1 : Builtin.List.listSameRef (.ref S) (.ref z) = false := by simp [Builtin.List.listSameRef, hSz]
  have h2 : (Value.type "zip" == Value.type "list") = false := by decide
  have h3 : (Value.type "zip" == Value.type "tuple") = false := by decide
  simp only [h1, h2, h3, Bool.or_false, Bool.false_eq_true, if_false]
  refine wpAny_bind (zipd_iter hst ?_)
  refine wpAny_bind (wpAny_holding ?_)
  unfold Builtin.List.listLengthHint
  refine wpAny_bind (wpAny_specialOf hT zip_no_len ?_)
  show wpAny _ A.in1 (specialOf (Value.ref z) (Str.ofString "__length_hint__") >>= _) _ _ _
  refine wpAny_bind (wpAny_specialOf hT zip_no_hint ?_)
  refine wpAny_pure ?_
  show wpAny _ A.in1 (rule "list.extend.makes-room" >>= fun _ => Builtin.List.listTouch (.ref S) >>= fun _ =>
    again (.builtin "list.extend.loop" ⟨[.ref S, .ref z, res], []⟩)) _ _ _
  refine wpAny_bind (wpAny_rule ?_)
  refine wpAny_bind ?_
  show wpAny _ A.in1 (updateSeq S (·.push .none) >>= fun _ => updateSeq S (·.pop)) _ _ _
  refine wpAny_bind (wpAny_updateSeq hS rfl ?_)
  have hS₂ := Heap.get?_update_self (Obj.mapSeq (·.push Value.none)) hS rfl
  refine wpAny_updateSeq (hz := by seq_fits) hS₂ rfl ?_
  have hS₃ := Heap.get?_update_self (Obj.mapSeq (·.pop)) hS₂ rfl
  have oth : ∀ b o, b ≠ S → s.heap.get? b = some o → ((s.heap.update S (Obj.mapSeq (·.push .none))).update S (Obj.mapSeq (·.pop))).get? b = some o :=
    fun b o hb e => (Heap.get?_update_other _ _ (Ne.symm hb)).trans ((Heap.get?_update_other _ _ (Ne.symm hb)).trans e)
  refine wpAny_pure ⟨plainId_quiet PySem.F.plain_extend_loop _, zipd_loop (s := s) (h₁ := s.heap) D D1 D2 hS0 hS1 hS2 lo hlo hn res hR (min n1 n2) 0 _ s.toks _ #[] [] (Nat.sub_zero _) (Nat.zero_le _) (hst.keep D1 D2 fun b hb o e => oth b o (fun q => hS0 (q ▸ hb)) e) (fun b o hb _ _ _ _ e => oth b o hb e) hS₃ rfl rfl
    ⟨List.Pairwise.nil, (fun _ ha => nomatch ha), (fun j a hj => by simp at hj)⟩ ?_⟩
  rw [Heap.size_update, Heap.size_update]; exact hls
theorem zipd_init {z TI TO i1 i2 : Addr} {fp1 fp2 : List Addr} {n1 n2 : Nat} {P1 P2 : Nat → Value → Prop} {S1 S2 : Nat → Heap → Prop} (D : ZApart z TI TO i1 i2 fp1 fp2)
    (D1 : Draws prog w A.in1.in1 i1 fp1 n1 P1 S1) (D2 : Draws prog w A.in1.in1 i2 fp2 n2 P2 S2) (hst : ZSt z TI TO i1 i2 S1 S2 0 s.heap) (S : Addr) (hS0 : S ∉ z :: TI :: TO :: (fp1 ++ fp2)) (hS1 : S ≠ i1) (hS2 : S ≠ i2) (lo : Addr) (hlo : z ≤ lo ∧ TO ≤ lo ∧ i1 ≤ lo ∧ i2 ≤ lo ∧ S ≤ lo) (hls : lo < s.heap.objs.size) (hn : min n1 n2 ≤ sizeLine) (hS : s.heap.get? S = some { cls := .type "list", data := .seq #[] })
    (hR : ∀ h' tk acc c as, (∀ b o, b ≠ S → b ≠ z → b ≠ TO → b ≠ i1 → b ≠ i2 → s.heap.get? b = some o → h'.get? b = some o) → h'.get? S = some { cls := .type "list", dict := none, data := .seq acc c, slots := #[] } → as.length = min n1 n2 → ZG P1 P2 lo h' as →
      acc.toList = as.map Value.ref → R (.ok (.ret .none)) { s with heap := h', toks := tk }) :
    wpAny (model prog w) A.in1 (Builtin.«list.__init__» ⟨[.ref S, .ref z], []⟩)
      (fun fin s' => match fin with | .done f => R (.ok f) s' | .again c' => c'.quiet = true ∧ codeAny (model prog w) A c' R s') (fun e s' => R (.error e) s') s := by
  show wpAny _ _ (do let old ← Builtin.List.listItems (.ref S); Builtin.List.listUpdate (.ref S) (fun _ => #[]); letGo old.toList.reverse; Builtin.List.listExtendWith (.ref S) (.ref z) .none) _ _ s
  refine wpAny_bind ?_
  unfold Builtin.List.listItems
  refine wpAny_bind (wpAny_seqItems hS rfl (wpAny_pure ?_))
  show wpAny _ _ (updateSeq S (fun _ => #[]) >>= fun _ => letGo (#[] : Array Value).toList.reverse >>= fun _ => Builtin.List.listExtendWith (.ref S) (.ref z) .none) _ _ s
  refine wpAny_bind (wpAny_updateSeq hS rfl ?_)
  have hS₂ := Heap.get?_update_self (Obj.mapSeq (fun _ => (#[] : Array Value))) hS rfl
  have oth : ∀ b o, b ≠ S → s.heap.get? b = some o → (s.heap.update S (Obj.mapSeq (fun _ => (#[] : Array Value)))).get? b = some o :=
    fun b o hb e => (Heap.get?_update_other _ _ (Ne.symm hb)).trans e
  refine wpAny_bind (wpAny_letGo ?_)
  refine zipd_extend D D1 D2 (hst.keep D1 D2 fun b hb o e => oth b o (fun q => hS0 (q ▸ hb)) e) S hS0 hS1 hS2 lo hlo (by rw [Heap.size_update]; exact hls) hn .none _ hS₂ fun h' tk acc c as hk hS' hl hG hacc => ?_
  exact hR h' tk acc c as (fun b o h1 h2 h3 h4 h5 e => hk b o h1 h2 h3 h4 h5 (oth b o h1 e)) hS' hl hG hacc
end
section
variable {prog : Program} {w : World} {A : Around} {E : Value → Shared → Prop} {s : Shared}
/-- list(a zip) -/
theorem zipd_call {Q : Value → Shared → Prop} {z TI TO i1 i2 : Addr} {fp1 fp2 : List Addr} {n1 n2 : Nat} {P1 P2 : Nat → Value → Prop} {S1 S2 : Nat → Heap → Prop} (D : ZApart z TI TO i1 i2 fp1 fp2)
    (D1 : Draws prog w A.in1.in1.in1 i1 fp1 n1 P1 S1) (D2 : Draws prog w A.in1.in1.in1 i2 fp2 n2 P2 S2) (hst : ZSt z TI TO i1 i2 S1 S2 0 s.heap) (hfp : ∀ b ∈ z :: TI :: TO :: i1 :: i2 :: (fp1 ++ fp2), b < s.heap.objs.size) (hn : min n1 n2 ≤ sizeLine)
    (hQ : ∀ h' tk acc c as, (∀ b o, b ≠ z → b ≠ TO → b ≠ i1 → b ≠ i2 → s.heap.get? b = some o → h'.get? b = some o) → h'.get? s.heap.objs.size = some { cls := .type "list", dict := none, data := .seq acc c, slots := #[] } → as.length = min n1 n2 → ZG P1 P2 s.heap.objs.size h' as →
      acc.toList = as.map Value.ref → Q (.ref s.heap.objs.size) { s with heap := h', toks := tk }) :
    wpAny (model prog w) A (call (.type "list") [.ref z]) Q E s := by
  refine callType_codes (Q₁ := fun obj s₁ => obj = .ref s.heap.objs.size ∧ s₁ = { s with heap := s.heap.push { cls := .type "list", data := .seq #[] } }) PySem.F.called_list (PySem.F.typeCall_list_1 _) PySem.F.entry_list_init
    (code_list_new _ ⟨rfl, rfl⟩) fun obj s₁ h₁ => ?_
  obtain ⟨rfl, rfl⟩ := h₁
  have hS : (s.heap.push { cls := .type "list", data := .seq #[] }).get? s.heap.objs.size = some { cls := .type "list", data := .seq #[] } := Heap.get?_push_size _ rfl
  have lt : ∀ b ∈ z :: TI :: TO :: i1 :: i2 :: (fp1 ++ fp2), s.heap.objs.size ≠ b := fun b hb => Nat.ne_of_gt (hfp b hb)
  have le : ∀ b ∈ z :: TI :: TO :: i1 :: i2 :: (fp1 ++ fp2), b ≤ s.heap.objs.size := fun b hb => Nat.le_of_lt (hfp b hb)
  refine ⟨⟨_, hS, rfl⟩, PySem.F.args_list_init_2 _ _, zipd_init (A := A.in1) D D1 D2 (hst.keep D1 D2 fun b hb o e => Heap.get?_push_of_some _ e) _ ?off (lt _ (by simp)) (lt _ (by simp)) s.heap.objs.size ⟨le _ (by simp), le _ (by simp), le _ (by simp), le _ (by simp), Nat.le_refl _⟩ (by rw [Heap.size_push]; exact Nat.lt_succ_self _) hn hS fun h' tk acc c as hk hS' hl hG hacc => ?_⟩
  case off =>
    intro q
    refine lt _ ?_ rfl
    simp only [List.mem_cons] at q ⊢
    rcases q with q | q | q | q
    · exact Or.inl q
    · exact Or.inr (Or.inl q)
    · exact Or.inr (Or.inr (Or.inl q))
    · exact Or.inr (Or.inr (Or.inr (Or.inr (Or.inr q))))
  exact ⟨rfl, hQ h' tk acc c as (fun b o h2 h3 h4 h5 e => hk b o (Nat.ne_of_lt (Heap.lt_size e)) h2 h3 h4 h5 (Heap.get?_push_of_some _ e)) hS' hl hG hacc⟩
end
noncomputable abbrev szH1 (h : Heap) (x : Str) (t : Tok) : Heap := h.push { cls := .type (strIterType x), data := .fields #[.str x t, .int 0 0] }
noncomputable abbrev szH3 (h h2 : Heap) (a b : Addr) : Heap := h2.push { cls := .type "tuple", data := .seq #[.ref a, .ref b] }
noncomputable abbrev szH4 (h3 : Heap) : Heap := h3.push { cls := .type "tuple", data := .seq #[.none, .none] }
noncomputable abbrev szH5 (h4 : Heap) (a b : Addr) : Heap := h4.push { cls := .type "zip", data := .fields #[.none, .bool false, .bool false, .ref a, .ref b] }
noncomputable abbrev szAll (h : Heap) (x : Str) (t : Tok) (y : Str) (u : Tok) : Heap :=
  let h1 := szH1 h x t
  let h2 := szH1 h1 y u
  let h3 := szH3 h h2 h.objs.size h1.objs.size
  let h4 := szH4 h3
  szH5 h4 h2.objs.size h3.objs.size
set_option maxHeartbeats 2000000 in
theorem meets_zip_strs (x : Str) (t : Tok) (y : Str) (u : Tok) :
    Meets (Builtin.«zip.__new__» ⟨[.type "zip", .str x t, .str y u], []⟩) (fun _ R s =>
      R (.ok (.ret (.ref (szH4 (szH3 s.heap (szH1 (szH1 s.heap x t) y u) s.heap.objs.size (szH1 s.heap x t).objs.size)).objs.size))) { s with heap := szAll s.heap x t y u }) :=
  .of_wp fun prog w A R s h => by
    (first | (refine Mine.hideP ?_; intro Gz kGz; rcases s with ⟨hp, g, d, tk, os⟩; all_goals (refine kGz ?_; clear kGz Gz)) | rcases s with ⟨hp, g, d, tk, os⟩)
    have hsub := sub_zip
    wp_walk using wpAny_pyIter_strU
    exact ⟨_, rfl, h⟩
theorem draws_str {prog : Program} {w : World} (x : Str) (t : Tok) (it : Addr) : ∃ S : Nat → Heap → Prop, (∀ A : Around, A.handled = none → Draws prog w A it [it] x.cps.size (fun i v => ∃ c u, x.cps[i]? = some c ∧ v = .str ⟨#[c]⟩ u) S) ∧ ∀ h : Heap, h.get? it = some { cls := .type (strIterType x), data := .fields #[.str x t, .int 0 0] } → S 0 h := by
  cases ha : x.cps.all (· < 128)
  · refine ⟨_, fun A hh => Draws.strWide hh it x t, fun h e => ⟨_, e, ?_, rfl⟩⟩
    simp [strIterType, ha]
  · refine ⟨_, fun A hh => Draws.strAscii hh it x t, fun h e => ⟨_, e, ?_, rfl⟩⟩
    simp [strIterType, ha]
noncomputable abbrev SgAt (x : Str) (i : Nat) (v : Value) : Prop := ∃ c u, x.cps[i]? = some c ∧ v = .str ⟨#[c]⟩ u
/-- a zip of two texts that stands ready above lo -/
noncomputable def ZipStr (prog : Program) (w : World) (x y : Str) (lo : Nat) (z : Addr) (h : Heap) : Prop :=
  ∃ TI TO i1 i2 S1 S2, ZApart z TI TO i1 i2 [i1] [i2] ∧ (∀ A : Around, A.handled = none → Draws prog w A i1 [i1] x.cps.size (SgAt x) S1) ∧ (∀ A : Around, A.handled = none → Draws prog w A i2 [i2] y.cps.size (SgAt y) S2) ∧
    ZSt z TI TO i1 i2 S1 S2 0 h ∧ ∀ b ∈ [z, TI, TO, i1, i2], lo ≤ b ∧ b < h.objs.size
section
variable {prog : Program} {w : World} {A : Around} {E : Value → Shared → Prop} {s : Shared} {h₀ : Heap} {L : Addr} {m : Nm} {news : Led} {Q : Value → Shared → Prop} {x y : Str} {t u : Tok}
theorem zip_strs (F : Fr h₀ L s.heap m) (N : News h₀ L s.heap news)
    (h : ∀ h' z, Fr h₀ L h' m → News h₀ L h' news → ZipStr prog w x y s.heap.objs.size z h' → (∀ p ∈ news, p.1 < s.heap.objs.size) → (∀ a, s.heap.objs.size ≤ a → h₀.get? a = none ∧ a ≠ L) → Q (.ref z) { s with heap := h' }) :
    wpAny (model prog w) A (call (.type "zip") [.str x t, .str y u]) Q E s := by
  refine callType_new PySem.F.called_zip (by decide) (PySem.F.typeCall_zip_2 _ _) (PySem.F.newCall_zip_2 _ _) (fun obj => PySem.F.args_object_init_3 obj _ _) PySem.F.entry_zip_new
    (meets_zip_strs x t y u) ?_
  (have z14 := (draws_str (prog := prog) (w := w) x t s.heap.objs.size); refine Mine.e1_2 z14 ?_; intro S1 D1 b1; (try clear z14))
  have z1 : (szH1 s.heap x t).objs.size = s.heap.objs.size + 1 := Heap.size_push ..
  have z2 : (szH1 (szH1 s.heap x t) y u).objs.size = s.heap.objs.size + 2 := by rw [Heap.size_push, z1]
  (have z15 := (draws_str (prog := prog) (w := w) y u (s.heap.objs.size + 1)); refine Mine.e1_2 z15 ?_; intro S2 D2 b2; (try clear z15))
  generalize hh1 : szH1 s.heap x t = H1 at *
  generalize hh2 : szH1 H1 y u = H2 at *
  generalize hh3 : szH3 s.heap H2 s.heap.objs.size H1.objs.size = H3 at *
  have z3 : H3.objs.size = s.heap.objs.size + 3 := by rw [← hh3, Heap.size_push, z2]
  generalize hh4 : szH4 H3 = H4 at *
  have z4 : H4.objs.size = s.heap.objs.size + 4 := by rw [← hh4, Heap.size_push, z3]
  have e5 : szAll s.heap x t y u = szH5 H4 H2.objs.size H3.objs.size := by
    show szH5 _ _ _ = _
    rw [hh1, hh2, hh3, hh4]
  show _ ∧ _
  rw [e5]
  generalize hh5 : szH5 H4 H2.objs.size H3.objs.size = H5 at *
  have z5 : H5.objs.size = s.heap.objs.size + 5 := by rw [← hh5, Heap.size_push, z4]
  have k1 : ∀ c o, s.heap.get? c = some o → H1.get? c = some o := fun c o e => hh1 ▸ Heap.get?_push_of_some _ e
  have k2 : ∀ c o, H1.get? c = some o → H2.get? c = some o := fun c o e => hh2 ▸ Heap.get?_push_of_some _ e
  have k3 : ∀ c o, H2.get? c = some o → H3.get? c = some o := fun c o e => hh3 ▸ Heap.get?_push_of_some _ e
  have k4 : ∀ c o, H3.get? c = some o → H4.get? c = some o := fun c o e => hh4 ▸ Heap.get?_push_of_some _ e
  have k5 : ∀ c o, H4.get? c = some o → H5.get? c = some o := fun c o e => hh5 ▸ Heap.get?_push_of_some _ e
  have g1 : H1.get? s.heap.objs.size = some { cls := .type (strIterType x), data := .fields #[.str x t, .int 0 0] } := hh1 ▸ Heap.get?_push_size _ rfl
  have g2 : H2.get? (s.heap.objs.size + 1) = some { cls := .type (strIterType y), data := .fields #[.str y u, .int 0 0] } := by
    rw [← z1, ← hh2]; exact Heap.get?_push_size _ rfl
  have g3 : H3.get? (s.heap.objs.size + 2) = some { cls := .type "tuple", data := .seq #[.ref s.heap.objs.size, .ref (s.heap.objs.size + 1)] } := by
    rw [← z2, ← z1, ← hh3]; exact Heap.get?_push_size _ rfl
  have g4 : H4.get? (s.heap.objs.size + 3) = some { cls := .type "tuple", data := .seq #[.none, .none] } := by
    rw [← z3, ← hh4]; exact Heap.get?_push_size _ rfl
  have g5 : H5.get? (s.heap.objs.size + 4) = some { cls := .type "zip", data := .fields #[.none, .bool false, .bool false, .ref (s.heap.objs.size + 2), .ref (s.heap.objs.size + 3)] } := by
    rw [← z2, ← z3, ← z4, ← hh5]; exact Heap.get?_push_size _ rfl
  have kall : ∀ c o, s.heap.get? c = some o → H5.get? c = some o := fun c o e => k5 _ _ (k4 _ _ (k3 _ _ (k2 _ _ (k1 _ _ e))))
  rw [z4]
  have hLlt := F.ns.lt
  refine ⟨⟨_, g5, rfl⟩, h H5 _ (F.keeps kall) (N.grown kall) ⟨s.heap.objs.size + 2, s.heap.objs.size + 3, s.heap.objs.size, s.heap.objs.size + 1, S1, S2, ?_, D1, D2, ⟨⟨_, _, g5, Or.inl rfl⟩, k5 _ _ (k4 _ _ g3), ⟨_, _, k5 _ _ g4⟩, b1 _ (k5 _ _ (k4 _ _ (k3 _ _ (k2 _ _ g1)))), b2 _ (k5 _ _ (k4 _ _ (k3 _ _ g2)))⟩, ?_⟩ (fun p hp => Heap.lt_size (N p hp).1) fun a ha => ⟨none_above F ha, fun e => absurd hLlt (by rw [← e]; exact Nat.not_lt.mpr ha)⟩⟩
  · generalize s.heap.objs.size = k
    constructor <;> (try simp only [List.mem_singleton]) <;> exact fun (e : @Eq Nat _ _) => by omega
  · rw [z5]
    generalize s.heap.objs.size = k
    intro b hb
    simp only [List.mem_cons, List.not_mem_nil, or_false] at hb
    show @LE.le Nat _ _ _ ∧ @LT.lt Nat _ _ _
    rcases hb with rfl | rfl | rfl | rfl | rfl <;> constructor <;> omega
end
end Mine
namespace Mine
open LCg (NsObj lst lst_snoc ns_obj)
/-- a pair of two signs in the ledger -/
noncomputable def PrAt (x y : Str) (ps : Led) (j : Nat) (v : Value) : Prop := ∃ a c d tx ty, v = .ref a ∧ x.cps[j]? = some c ∧ y.cps[j]? = some d ∧ (a, ({ cls := .type "tuple", data := .seq #[.str ⟨#[c]⟩ tx, .str ⟨#[d]⟩ ty] } : Obj)) ∈ ps
section
variable {prog : Program} {w : World} {A : Around} {E : Value → Shared → Prop} {s : Shared} {h₀ : Heap} {L : Addr} {m : Nm} {news : Led} {Q : Value → Shared → Prop} {x y : Str} {lo : Nat} {z : Addr}
theorem list_zip (hA : A.handled = none) (F : Fr h₀ L s.heap m) (N : News h₀ L s.heap news) (Z : ZipStr prog w x y lo z s.heap) (hnews : ∀ p ∈ news, p.1 < lo) (hlo : ∀ a, lo ≤ a → h₀.get? a = none ∧ a ≠ L) (hn : x.cps.size ≤ 1000000)
    (h : ∀ h' tk S acc c ps, Fr h₀ L h' m → News h₀ L h' ((S, W.listOf acc c) :: (ps ++ news)) → acc.size = min x.cps.size y.cps.size → (∀ j, j < min x.cps.size y.cps.size → ∃ v, acc[j]? = some v ∧ PrAt x y ps j v) → (∀ p ∈ ps ++ news, p.1 ≠ S) → Q (.ref S) { s with heap := h', toks := tk }) :
    wpAny (model prog w) A (call (.type "list") [.ref z]) Q E s := by
  (refine Mine.e6_5 Z ?_; intro TI TO i1 i2 S1 S2 D D1 D2 st hb; (try clear Z))
  have hm : ∀ b ∈ z :: TI :: TO :: i1 :: i2 :: ([i1] ++ [i2]), lo ≤ b ∧ b < s.heap.objs.size := fun b hbm => hb b (by
    simp only [List.mem_cons, List.mem_append, List.not_mem_nil, or_false] at hbm ⊢
    rcases hbm with q | q | q | q | q | q | q <;> simp only [q, true_or, or_true])
  have hlow : lo ≤ s.heap.objs.size := Nat.le_trans (hm z (by simp)).1 (Nat.le_of_lt (hm z (by simp)).2)
  refine zipd_call D (D1 _ hA) (D2 _ hA) st (fun b hbm => (hm b hbm).2) (by rw [sizeLine_eq]; omega) fun h' tk acc c as hk hS hl hG hacc => ?_
  have ne : ∀ b, (b = z ∨ b = TO ∨ b = i1 ∨ b = i2) → lo ≤ b := by
    rintro b (rfl | rfl | rfl | rfl)
    · exact (hm b (by simp)).1
    · exact (hm b (by simp)).1
    · exact (hm b (by simp)).1
    · exact (hm b (by simp)).1
  have keep : ∀ b o, b < lo → s.heap.get? b = some o → h'.get? b = some o := fun b o hbl e =>
    hk b o (fun q => Nat.lt_irrefl _ (Nat.lt_of_lt_of_le hbl (ne b (Or.inl q)))) (fun q => Nat.lt_irrefl _ (Nat.lt_of_lt_of_le hbl (ne b (Or.inr (Or.inl q))))) (fun q => Nat.lt_irrefl _ (Nat.lt_of_lt_of_le hbl (ne b (Or.inr (Or.inr (Or.inl q)))))) (fun q => Nat.lt_irrefl _ (Nat.lt_of_lt_of_le hbl (ne b (Or.inr (Or.inr (Or.inr q)))))) e
  have hL : L < lo := Nat.lt_of_not_le fun q => (hlo L q).2 rfl
  have F' : Fr h₀ L h' m := fr_wr (wr := [z, TO, i1, i2]) F (fun q => by
      simp only [List.mem_cons, List.not_mem_nil, or_false] at q
      exact Nat.lt_irrefl _ (Nat.lt_of_lt_of_le hL (ne L q))) (fun b hbm => by
      simp only [List.mem_cons, List.not_mem_nil, or_false] at hbm
      exact (hlo b (ne b hbm)).1) (fun b o hbm e => by
      simp only [List.mem_cons, List.not_mem_nil, or_false, not_or] at hbm
      exact hk b o hbm.1 hbm.2.1 hbm.2.2.1 hbm.2.2.2 e)
  have hgt : ∀ a ∈ as, lo ≤ a ∧ a ≠ s.heap.objs.size := fun a ha => ⟨Nat.le_of_lt (Nat.lt_of_le_of_lt hlow (hG.above a ha)), Nat.ne_of_gt (hG.above a ha)⟩
  refine h h' tk s.heap.objs.size acc c (as.filterMap fun a => (h'.get? a).map (a, ·)) F' ?_ ?_ ?_ ?_
  · intro p hp
    rcases List.mem_cons.mp hp with rfl | hp
    · exact ⟨hS, fun e => (hlo _ hlow).2 e, (hlo _ hlow).1⟩
    · rcases List.mem_append.mp hp with hp | hp
      · (have z2 := (List.mem_filterMap.mp hp); refine Mine.e1_2 z2 ?_; intro a ha e; (try clear z2))
        (have z3 := (Option.map_eq_some_iff.mp e); refine Mine.e1_2 z3 ?_; intro o ho z3x2; (try clear z3); (rcases z3x2 with rfl))
        exact ⟨ho, (hlo a (hgt a ha).1).2, (hlo a (hgt a ha).1).1⟩
      · exact ⟨keep _ _ (hnews p hp) (N p hp).1, (N p hp).2⟩
  · rw [← hl, ← Array.length_toList, hacc, List.length_map]
  · intro j hj
    have hja : j < as.length := by rw [hl]; exact hj
    (have z4 := (hG.pairs j as[j] (List.getElem?_eq_getElem hja)); refine Mine.e2_3 z4 ?_; intro _ _ z4x2 z4x3 e3; (try clear z4); (refine Mine.e2_2 z4x2 ?_; intro c1 u1 e1 z4x2x3; (try clear z4x2); (rcases z4x2x3 with rfl)); (refine Mine.e2_2 z4x3 ?_; intro c2 u2 e2 z4x3x3; (try clear z4x3); (rcases z4x3x3 with rfl)))
    refine ⟨.ref as[j], ?_, as[j], c1, c2, u1, u2, rfl, e1, e2, List.mem_filterMap.mpr ⟨as[j], List.getElem_mem hja, ?_⟩⟩
    · rw [← Array.getElem?_toList, hacc, List.getElem?_map, List.getElem?_eq_getElem hja]; rfl
    · rw [e3]; rfl
  · intro p hp
    rcases List.mem_append.mp hp with hp | hp
    · (have z5 := (List.mem_filterMap.mp hp); refine Mine.e1_2 z5 ?_; intro a ha e; (try clear z5))
      (have z6 := (Option.map_eq_some_iff.mp e); refine Mine.e1_2 z6 ?_; intro o ho z6x2; (try clear z6); (rcases z6x2 with rfl))
      exact (hgt a ha).2
    · exact Nat.ne_of_lt (Nat.lt_of_lt_of_le (hnews p hp) hlow)
end
end Mine
theorem Mine.off17 : True := by (w_top off); trivial
section
local macro_rules | `(tactic| walk_at $s:str) => `(tactic| k_extra $(Lean.Syntax.mkStrLit ("Above:" ++ s.getString)))
namespace Mine
open LCg (NsObj lst lst_snoc ns_obj)
set_option maxHeartbeats 4000000
theorem Mine.kw18 : True := by
  (k_with "Above:exec For Name Call cons nil" => ((k_here; k_dflt (refine For_in ?_))))
  trivial
theorem item_strsN {prog : Program} {w : World} {A : Around} {E : Value → Shared → Prop} {s : Shared} {value slice : Expr} {l : Addr} {ws : List Value} {ns : List Str} {k : Nat} {u : Tok} {Q : Value → Shared → Prop} (hl : s.heap.IsList l ws.toArray) (hi : StrsAre ws ns) (hhi : k < ns.length) (hn : ns.length ≤ 1000000) (h : ∀ t, Q (.str (ns.getD k Str.empty) t) s)
    (hs : subscripted slice false (.ref l) (.int (k : Int) u) = operate [.ref l, .int (k : Int) u] (getItem (.ref l) (.int (k : Int) u)) := by with_unfolding_all rfl) :
    wpAny (model prog w) A (subscriptTail value slice (.ref l) (.int (k : Int) u)) Q E s :=
  item_strs hl hi (by omega) (by omega) hn (by rw [Int.toNat_natCast]; exact h) hs
theorem Mine.kw19 : True := by
  (k_with "Above:subscriptTail Name Name ref int" => ((k_here; k_dflt (refine' item_strsN ?kl ?ki ?k1 ?k2 ?_ ?ks; (case ks => with_unfolding_all rfl); (case kl => got_up); (case ki => assumption); (case k1 => omega); (case k2 => omega)); intro _)))
  trivial
theorem Mine.kw20 : True := by
  (k_with "Above:call type:zip cons nil" => ((k_here; (with_reducible show wpAny _ _ (call (Value.type _) [Value.str _ _, Value.str _ _]) _ _ _); (rename Fr _ _ _ _ => F9zq); (rename News _ _ _ _ => N9zq); k_dflt (refine zip_strs F9zq N9zq ?_); intro _ _ _ _ _ _ _)))
  trivial
theorem Mine.kw21 : True := by
  (k_with "Above:call type:list cons nil" => ((k_here; (with_reducible show wpAny _ _ (call (Value.type _) [Value.ref _]) _ _ _); (rename ZipStr _ _ _ _ _ _ _ => Z9zq); (rename Fr _ _ _ _ => F9zq); (rename News _ _ _ _ => N9zq); k_dflt (refine list_zip rfl F9zq N9zq Z9zq (by assumption) (by assumption) (by omega) ?_); clear Z9zq; intro _ _ _ _ _ _ _ _ _ _ _)))
  trivial
theorem Mine.kw22 : True := by
  (k_with "Above:eval ListComp Name cons" => ((k_here; refine' ListComp_b (cl := _) ?kc ?kk ?kn ?_; (case kc => with_unfolding_all rfl); (case kk => with_unfolding_all rfl); (case kn => decide))))
  trivial
noncomputable def okAt (x y : Str) (j : Nat) : Bool := x.cps.getD j 0 == 45 || x.cps.getD j 0 == y.cps.getD j 0
/-- each sign of x is a hyphen or the sign of y at its place -/
noncomputable def geF (x y : Str) : Bool := (List.range (min x.cps.size y.cps.size)).all (okAt x y)
noncomputable def gAt (gs : List Str) (i : Nat) : Str := gs.getD i Str.empty
noncomputable def relF (gs : List Str) (one o : Nat) : Bool := gAt gs one != gAt gs o && geF (gAt gs one) (gAt gs o)
noncomputable def aboveF (gs : List Str) (one i : Nat) : List Int := ((List.range i).filter (relF gs one)).map Int.ofNat
noncomputable def AbJ (l p : Addr) (one : Nat) (t1 : Tok) (gs : List Str) (i : Nat) (m : Nm) (nw : Led) : Prop :=
  ∃ (ys : Array Value) (n : Nat), m (Str.ofString "groups") = some (.ref l) ∧ m (Str.ofString "one") = some (.int one t1) ∧ m (Str.ofString "above") = some (.ref p) ∧ nw = [(p, W.listOf ys n)] ∧ IntsAre ys.toList (aboveF gs one i)
theorem eq_nil {prog : Program} {w : World} {A : Around} {E : Value → Shared → Prop} {s : Shared} {a b : Addr} {zs : List Value} {Q : Value → Shared → Prop} (hl : s.heap.IsList a zs.toArray) (hb : s.heap.IsList b #[]) (hu : A.units < cLine)
    (h : Q (.bool (decide (zs = []))) s) : wpAny (model prog w) A (compareOp .Eq (.ref a) (.ref b)) Q E s := by
  cases zs with
  | nil => exact PySem.SeqAt.eq_listAt (e := fun _ => true) hl hb rfl hu (fun j h1 _ => absurd h1 (Nat.not_lt_zero _)) h
  | cons z r => exact PySem.SeqAt.eq_list_lengthsAt hl hb (by simp) hu h
theorem Mine.kw23 : True := by
  (k_with "Above:compareOp Eq ref ref" => ((k_here; (with_reducible show wpAny _ _ (compareOp CmpOp.Eq (Value.ref _) (Value.ref _)) _ _ _); k_dflt (refine' eq_nil (zs := _) ?k1 ?k3 ?k5 ?_; (case k1 => got_up); (case k3 => got_up); (case k5 => ktr_units)))))
  trivial
theorem news_sub {h₀ h : Heap} {L : Addr} {nw nw' : Led} (N : News h₀ L h nw) (k : ∀ q ∈ nw', q ∈ nw) : News h₀ L h nw' := fun q hq => N q (k q hq)
theorem gAt_le {gs : List Str} (hgs : ∀ g ∈ gs, g.length ≤ 10) (i : Nat) : (gs.getD i Str.empty).cps.size ≤ 10 := by
  rw [List.getD_eq_getElem?_getD]
  cases e : gs[i]? with
  | none => exact Nat.zero_le _
  | some g => exact hgs g (List.mem_of_getElem? e)
theorem ok_of {x y : Str} {j c d : Nat} {b : Bool} (ec : x.cps[j]? = some c) (ed : y.cps[j]? = some d) (h : ([Str.ofString "-", (⟨#[d]⟩ : Str)].any fun z => z == (⟨#[c]⟩ : Str)) = b) : okAt x y j = b := by
  subst h
  unfold okAt
  rw [Array.getD_eq_getD_getElem?, ec, Array.getD_eq_getD_getElem?, ed]
  simp only [Option.getD_some, List.any_cons, List.any_nil, Bool.or_false]
  rw [show Str.ofString "-" = (⟨#[45]⟩ : Str) from by decide]
  have e : ∀ a b : Nat, ((⟨#[a]⟩ : Str) == (⟨#[b]⟩ : Str)) = (b == a) := by
    intro a b
    by_cases h : a = b
    · subst h; simp
    · have h1 : ((⟨#[a]⟩ : Str) == (⟨#[b]⟩ : Str)) = false := by
        simp only [beq_eq_false_iff_ne, ne_eq]
        intro q; exact h (by injection q with q; simpa using q)
      rw [h1, eq_comm, beq_eq_false_iff_ne]; exact Ne.symm h
  rw [e, e]
theorem forall_lt_succ {P : Nat → Bool} {j : Nat} (h : P j = true) : (∀ k, k < j + 1 → P k = true) ↔ ∀ k, k < j → P k = true :=
  ⟨fun a k hk => a k (Nat.lt_succ_of_lt hk), fun a k hk => by
    rcases Nat.lt_succ_iff_lt_or_eq.mp hk with h' | rfl
    · exact a k h'
    · exact h⟩
theorem aboveF_len (gs : List Str) (one i : Nat) : (aboveF gs one i).length ≤ i := by
  unfold aboveF
  rw [List.length_map]
  have := List.length_filter_le (relF gs one) (List.range i)
  rwa [List.length_range] at this
theorem aboveF_succ (gs : List Str) (one i : Nat) : aboveF gs one (i + 1) = aboveF gs one i ++ if relF gs one i = true then [(i : Int)] else [] := by
  unfold aboveF
  rw [List.range_succ, List.filter_append, List.map_append]
  congr 1
  by_cases h : relF gs one i = true
  · rw [if_pos h]; simp only [List.filter_cons, h, if_true, List.filter_nil, List.map_cons, List.map_nil]; rfl
  · rw [if_neg h]; simp only [List.filter_cons, h, List.filter_nil]; rfl
theorem rel_iff {gs : List Str} {one i k : Nat} {zs : List Value} (hq : (gs.getD one Str.empty != gs.getD i Str.empty) = true) (hk : k = min (gs.getD one Str.empty).cps.size (gs.getD i Str.empty).cps.size)
    (hz : zs = [] ↔ ∀ j, j < k → okAt (gs.getD one Str.empty) (gs.getD i Str.empty) j = true) : relF gs one i = true ↔ zs = [] := by
  rw [hz, hk]
  unfold relF gAt geF
  rw [hq, Bool.true_and, List.all_eq_true]
  simp only [List.mem_range]
theorem c_above (w : World) (l : Addr) (vs : List Value) (gs : List Str) (one : Nat) (t1 : Tok) (hi : StrsAre vs gs) (hlen : gs.length ≤ 10) (hone : one < gs.length) (hgs : ∀ g ∈ gs, g.length ≤ 10) :
    PCon w 226 [.ref l, .int one t1] 1 200 (fun h => h.IsList l vs.toArray) (fun v nw => ∃ d ys n, v = .ref d ∧ (d, W.listOf ys n) ∈ nw ∧ IntsAre ys.toList (aboveF gs one gs.length)) := by
  intro mean mg mb dp un gd cn cs a' ccd cl outer A₀ base h₀ L m s Q E B F X T hk hd' hu hpre ret
  refine wpAny_call ?_
  k_dflt cell_enter
  (rename GSub _ _ _ => GS)
  (rename Fr _ _ _ _ => F1)
  have hL := hpre.at fun o e => GS _ _ e (by simp)
  isplit
  (rename IsRange _ _ _ _ _ _ _ _ => R1)
  (rename Fr _ _ _ _ => F2)
  (rename News _ _ _ _ => N2)
  k_dflt (refine loop_range (AbJ l _ one t1 gs) rfl (by omega) F2 N2 R1 ⟨_, _, rfl, rfl, rfl, rfl, IntsAre.nil⟩ ?turn ?last)
  case turn =>
    (intro i tk0 m nw oI h tk E' hik z1h; refine Mine.e2_5 z1h ?_; intro ys n e1 e2 e3 z1x5 hys; (try clear z1h); (rcases z1x5 with rfl); intro ho F3 N3)
    have F4 := fr_pin (Str.ofString "groups") (fr_pin (Str.ofString "one") (fr_pin (Str.ofString "above") F3 e3) e2) e1
    clear F2 N2 F3
    have hL := hL.at fun o e => F4.keep _ _ e
    have hne := natNe (ho _ (List.mem_singleton.mpr rfl))
    dsimp only at hne
    have hb1 : (gs.getD one Str.empty).cps.size ≤ 10 := gAt_le hgs one
    have hb2 : (gs.getD i Str.empty).cps.size ≤ 10 := gAt_le hgs i
    isplit
    · (rename Fr _ _ _ _ => F5)
      (rename News _ _ _ _ => N5)
      (rename (_ != _) = true => hq)
      (rename (Array.size _ = min _ _) => hZ1)
      (rename (∀ j, j < min _ _ → _) => hZ2)
      (rename (∀ p ∈ _ ++ _, _) => hZ3)
      k_dflt (refine comp_of (blk_list (fun k ys nw => nw = _ ∧ ys.length ≤ k ∧ (ys = [] ↔ ∀ j, j < k → okAt (gs.getD one Str.empty) (gs.getD i Str.empty) j = true)) rfl (by decide) rfl rfl (by omega) F5 N5 ⟨_, rfl, ⟨_, rfl⟩, Or.inr fun i _ nw ⟨ys, h⟩ => h.1 ▸ List.mem_cons_self⟩ ⟨rfl, Nat.le_refl _, by simp⟩ (fun i ys nw h => h.2.1) ?cturn fun _ => ⟨_, rfl⟩) ?fin)
      case cturn =>
        (intro j v zs nw I oI C oC D m₂ h tk E' hv hm₂ hC z2h; refine Mine.e0_3 z2h ?_; intro z2x0 hzl hzs; (try clear z2h); (rcases z2x0 with rfl); intro ho F6 N6)
        have hj : j < min (gs.getD one Str.empty).cps.size (gs.getD i Str.empty).cps.size := by
          rw [← hZ1]; exact (Array.getElem?_eq_some_iff.mp hv).1
        (have z3 := (hZ2 j hj); refine Mine.e1_2 z3 ?_; intro v' hv' z3r; (try clear z3); (refine Mine.e5_4 z3r ?_; intro a c d tx ty z3rx5 ec ed hps; (try clear z3r); (rcases z3rx5 with rfl)))
        rw [hv] at hv'
        obtain rfl := Option.some.inj hv'
        have hT : IsTup h a #[.str ⟨#[c]⟩ tx, .str ⟨#[d]⟩ ty] := ⟨_, (N6 _ (List.mem_cons_of_mem _ (List.mem_cons_of_mem _ (List.mem_cons_of_mem _ (List.mem_cons_of_mem _ (List.mem_append_left _ hps)))))).1, rfl, _, rfl⟩
        refine wpAny_tests_one ?_
        isplit
        · (rename (List.any _ _ = true) => hA)
          refine CE.mk (by k_asm) (by k_asm) (fun p hp => List.mem_cons_of_mem _ hp) (fun p hp => by simpa [not_or] using ho p hp) ⟨rfl, by omega, ?_⟩
          rw [hzs]
          exact (forall_lt_succ (ok_of ec ed hA)).symm
        · (rename (List.any _ _ = false) => hA)
          refine CE.mk (by k_asm) (by k_asm) (fun p hp => List.mem_cons_of_mem _ hp) (fun p hp => by simpa [not_or] using ho p hp) ⟨rfl, by (rw [List.length_append]; exact Nat.succ_le_succ hzl), ?_⟩
          exact ⟨fun e => by simp at e, fun e => absurd ((ok_of ec ed hA).symm.trans (e j (Nat.lt_succ_self j))) Bool.false_ne_true⟩
      case fin =>
        (intro zs nw D h tk z4h; refine Mine.e0_3 z4h ?_; intro z4x0 hzl hzs; (try clear z4h); (rcases z4x0 with rfl); intro F6 N6 ho)
        have N7 := news_sub (nw' := [(D, lst zs), _, _]) N6 (fun q hq => by
          rcases List.mem_cons.mp hq with e | hq
          · exact e ▸ List.mem_cons_self
          · exact List.mem_cons_of_mem _ (List.mem_cons_of_mem _ (List.mem_append_right _ hq)))
        have hD := natNe (ho _ (List.mem_cons_of_mem _ (List.mem_append_right _ (List.mem_cons_of_mem _ (List.mem_singleton.mpr rfl)))))
        dsimp only at hD
        clear F5 N5 N6 hZ2 hZ3 ho
        iterate 3 one_sign
        refine' eq_nil (zs := zs) ?k1 ?k3 ?k5 ?_
        case k1 => got_up
        case k3 => got_up
        case k5 => ktr_units
        have hysz := hys.length
        rw [Array.length_toList] at hysz
        have hal := aboveF_len gs one i
        have hsz : ys.size ≤ 10 := by omega
        have hrel := rel_iff (i := i) (gs := gs) (one := one) hq hZ1 hzs
        iterate 2 one_sign
        · (rename (_ = []) => hz0)
          (rename (_ ∧ _ ∧ @LT.lt Addr _ _ _) => hlt)
          have hne3 := natNe (Nat.ne_of_gt hlt.2.2)
          isplit
          refine TL.next (nw := [(_, W.listOf (ys.push (.int (i : Int) tk0)) (n + 1))]) (by k_asm) (by k_asm) ?_ (fun p hp => ?_) ⟨_, _, rfl, rfl, rfl, rfl, ?_⟩
          · intro p hp
            simp only [List.mem_cons, List.mem_append, List.not_mem_nil, or_false] at hp ⊢
            rcases hp with rfl | rfl <;> simp only [true_or, or_true]
          · rw [List.mem_singleton.mp hp]
            simp only [List.map_cons, List.map_nil, List.mem_singleton]
            exact hne
          · rw [aboveF_succ, if_pos (hrel.mpr hz0), Array.toList_push]
            exact ints_snoc hys
        · (rename (¬ _ = []) => hz0)
          isplit
          refine TL.next (nw := [(_, W.listOf ys n)]) (by k_asm) (by k_asm) ?_ (fun p hp => by simpa using ho p hp) ⟨_, _, rfl, rfl, rfl, rfl, ?_⟩
          · intro p hp
            simp only [List.mem_cons, List.mem_append, List.not_mem_nil, or_false] at hp ⊢
            rcases hp with rfl | rfl <;> simp only [true_or, or_true]
          · rw [aboveF_succ, if_neg (by rw [hrel]; exact hz0), List.append_nil]; exact hys
    · (rename (_ != _) = false => hq)
      refine TL.next (nw := [(_, W.listOf ys n)]) (by k_asm) (by k_asm) ?_ (fun p hp => by simpa using ho p hp) ⟨_, _, rfl, rfl, rfl, rfl, ?_⟩
      · intro p hp
        simp only [List.mem_cons, List.mem_append, List.not_mem_nil, or_false] at hp ⊢
        rcases hp with rfl | rfl <;> simp only [true_or, or_true]
      · rw [aboveF_succ, if_neg, List.append_nil]
        · exact hys
        · unfold relF gAt; rw [hq, Bool.false_and]; exact Bool.false_ne_true
  case last =>
    (intro m nw h tk E' z5h; refine Mine.e2_5 z5h ?_; intro ys n e1 e2 e3 z5x5 hys; (try clear z5h); (rcases z5x5 with rfl); intro F3 N3)
    have F4 := fr_pin (Str.ofString "above") F3 e3
    clear F2 N2 F3
    isplit
    exact pret ret (by assumption) (by assumption) (by assumption) (by assumption) (by assumption) ⟨_, ys, n, rfl, by k_mem, hys⟩
end Mine
end
namespace Mine
open LCg (NsObj lst lst_snoc ns_obj)
section
variable {prog : Program} {w : World} {A : Around} {E : Value → Shared → Prop} {s : Shared} {env : Env} {elts : List Expr} {kt : Nat} {tpos : Pos} {body orelse : List Stmt} {Q : Flow → Shared → Prop}
theorem wider {I : Addr} {fp wr wr' : List Addr} {n : Nat} {P Md : Nat → Value → Heap → Prop} {St : Nat → Heap → Prop} (W : KTurns prog w A target I fp wr n P Md St) (h1 : ∀ b ∈ wr, b ∈ wr') (h2 : ∀ b ∈ wr', b ∈ fp) : KTurns prog w A target I fp wr' n P Md St where
  sub := h2
  frame := W.frame
  item := fun i s Q E hi st hQ => W.item i s Q E hi st fun v h' tk hm hk => hQ v h' tk hm fun b o hb e => hk b o (fun q => hb (h1 b q)) e
  go := fun i v s Q E hm hQ => W.go i v s Q E hm fun h' hP st hk => hQ h' hP st fun b o hb e => hk b o (fun q => hb (h1 b q)) e
  done := fun s Q E st hQ => W.done s Q E st fun h' tk hk => hQ h' tk fun b o hb e => hk b o (fun q => hb (h1 b q)) e
theorem five_of {a b c d f : Addr} {its : Led} (e : its.map (·.1) = [a, b, c, d, f]) : ∃ o p q r t, its = [(a, o), (b, p), (c, q), (d, r), (f, t)] := by
  cases its with
  | nil => simp at e
  | cons p r =>
    simp only [List.map_cons, List.cons.injEq] at e
    obtain ⟨e1, e2⟩ := e
    cases r with
    | nil => simp at e2
    | cons p2 r2 =>
      simp only [List.map_cons, List.cons.injEq] at e2
      obtain ⟨e3, e4⟩ := e2
      cases r2 with
      | nil => simp at e4
      | cons p3 r3 =>
        simp only [List.map_cons, List.cons.injEq] at e4
        obtain ⟨e5, e6⟩ := e4
        (have z1 := (two_of e6); refine Mine.e2_1 z1 ?_; intro o q z1x2; (try clear z1); (rcases z1x2 with rfl))
        subst e1 e3 e5
        exact ⟨p.2, p2.2, p3.2, o, q, rfl⟩
end
end Mine
namespace Mine
/-- a ledger whose addresses all differ -/
noncomputable def Nd (nw : Led) : Prop := ((nw.map (·.1)) : List Nat).Nodup
theorem updA_map {p : Addr} {o : Obj} {nw : Led} : (updA p o nw).map (·.1) = nw.map (·.1) := by
  unfold updA
  rw [List.map_map]
  refine List.map_congr_left fun q _ => ?_
  show (if q.1 = p then (p, o) else q).1 = q.1
  split
  · rename_i h; exact h.symm
  · rfl
theorem Nd.upd {p : Addr} {o : Obj} {nw : Led} (h : Nd nw) : Nd (updA p o nw) := by unfold Nd; rw [updA_map]; exact h
theorem Nd.cons {p : Addr} {o : Obj} {nw : Led} (h : Nd nw) (hn : ∀ q ∈ nw, q.1 ≠ p) : Nd ((p, o) :: nw) := by
  unfold Nd
  rw [List.map_cons, List.nodup_cons]
  refine ⟨fun q => ?_, h⟩
  (have z1 := (List.mem_map.mp q); refine Mine.e1_2 z1 ?_; intro r hr e; (try clear z1))
  exact hn r hr e
theorem Nd.tail {p : Addr × Obj} {nw : Led} (h : Nd (p :: nw)) : Nd nw := (List.nodup_cons.mp h).2
theorem Nd.head {p : Addr × Obj} {nw : Led} (h : Nd (p :: nw)) : ∀ q ∈ nw, q.1 ≠ p.1 := fun q hq e => (List.nodup_cons.mp h).1 (List.mem_map.mpr ⟨q, hq, e⟩)
theorem mem_self {p : Addr} {o o' : Obj} {nw : Led} (h : (p, o) ∈ nw) : (p, o') ∈ updA p o' nw := by
  unfold updA
  exact List.mem_map.mpr ⟨_, h, if_pos rfl⟩
theorem mem_ne {p q : Addr} {o o' : Obj} {nw : Led} (h : (q, o) ∈ nw) (hn : q ≠ p) : (q, o) ∈ updA p o' nw := by
  unfold updA
  exact List.mem_map.mpr ⟨_, h, if_neg hn⟩
theorem Nd.one {p : Addr} {o o' : Obj} : ∀ {nw : Led}, Nd nw → (p, o) ∈ nw → (p, o') ∈ nw → o = o'
  | q :: r, h, h1, h2 => by
    rcases List.mem_cons.mp h1 with e1 | h1
    · rcases List.mem_cons.mp h2 with e2 | h2
      · rw [← e1] at e2; cases e2; rfl
      · exact absurd (e1 ▸ rfl) (h.head _ h2)
    · rcases List.mem_cons.mp h2 with e2 | h2
      · exact absurd (e2 ▸ rfl) (h.head _ h1)
      · exact Nd.one h.tail h1 h2
theorem Nd.ne {p q : Addr} {o o' : Obj} {nw : Led} (h : Nd nw) (h1 : (p, o) ∈ nw) (h2 : (q, o') ∈ nw) (hc : o ≠ o') : p ≠ q := fun e => hc (by subst e; exact h.one h1 h2)
theorem upd_of {p : Addr} {o o' : Obj} : ∀ {nw : Led}, Nd nw → (p, o) ∈ nw → Upd p o o' nw (updA p o' nw)
  | (a, x) :: r, h, hm => by
    rcases List.mem_cons.mp hm with e | hm
    · cases e
      rw [updA_eq, updA_id h.head]
      exact .head h.head
    · have hq : p ≠ a := h.head _ hm
      rw [updA_ne (Ne.symm hq)]
      exact .tail (Ne.symm hq) (upd_of h.tail hm)
theorem updF_of {p : Addr} {o : Obj} : ∀ {nw : Led}, Nd nw → (p, o) ∈ nw → UpdF p o nw (fun o' => updA p o' nw)
  | (a, x) :: r, h, hm => by
    rcases List.mem_cons.mp hm with e | hm
    · cases e
      have : (fun o' => updA p o' ((p, o) :: r)) = fun o' => (p, o') :: r := by
        funext o'; rw [updA_eq, updA_id h.head]
      rw [this]
      exact .head h.head
    · have hq : p ≠ a := h.head _ hm
      have : (fun o' => updA p o' ((a, x) :: r)) = fun o' => (a, x) :: updA p o' r := by
        funext o'; rw [updA_ne (Ne.symm hq)]
      rw [this]
      exact .tail (Ne.symm hq) (updF_of h.tail hm)
theorem Nd.app : ∀ {nw I : Led}, Nd nw → Nd I → (∀ p ∈ nw, ∀ q ∈ I, p.1 ≠ q.1) → Nd (nw ++ I)
  | [], _, _, h, _ => h
  | p :: r, I, h1, h2, hn => by
    refine Nd.cons (p := p.1) (o := p.2) (Nd.app h1.tail h2 fun q hq => hn q (List.mem_cons_of_mem _ hq)) fun q hq => ?_
    rcases List.mem_append.mp hq with hq | hq
    · exact h1.head q hq
    · exact fun e => hn p List.mem_cons_self q hq e.symm
theorem fresh_ne {h₀ h : Heap} {L : Addr} {nw I : Led} (N : News h₀ L h I) (fr : ∀ p ∈ nw, h.get? p.1 = none) : ∀ p ∈ nw, ∀ q ∈ I, p.1 ≠ q.1 := fun p hp q hq e => by
  have := fr p hp; rw [e, (N q hq).1] at this; cases this
theorem Nd.two {a b : Addr} {o o' : Obj} (h : b < a) : Nd [(a, o), (b, o')] := by
  refine Nd.cons (Nd.cons List.nodup_nil (fun _ h => nomatch h)) fun q hq => ?_
  rw [List.mem_singleton.mp hq]; exact Nat.ne_of_lt h
theorem Nd.three {a b c : Addr} {o o' o'' : Obj} (h : b < a) (h' : c < b) : Nd [(a, o), (b, o'), (c, o'')] := by
  refine Nd.cons (Nd.two h') fun q hq => ?_
  rcases List.mem_cons.mp hq with rfl | hq
  · exact Nat.ne_of_lt h
  · rw [List.mem_singleton.mp hq]; exact Nat.ne_of_lt (Nat.lt_trans h' h)
theorem Nd.sing {p : Addr × Obj} : Nd [p] := Nd.cons (p := p.1) (o := p.2) List.nodup_nil fun _ h => nomatch h
theorem name_head {h₀ h : Heap} {L : Addr} {p : Addr × Obj} {r : Led} (N : News h₀ L h (p :: r)) : ∃ D, D = p.1 := ⟨_, rfl⟩
theorem mem_of_mem_updA {p : Addr} {o' : Obj} {nw : Led} {q : Addr × Obj} (h : q ∈ updA p o' nw) : q = (p, o') ∨ (q ∈ nw ∧ q.1 ≠ p) := by
  unfold updA at h
  (have z2 := (List.mem_map.mp h); refine Mine.e1_2 z2 ?_; intro r hr z2x2; (try clear z2); (rcases z2x2 with rfl))
  by_cases e : r.1 = p
  · rw [if_pos e]; exact .inl rfl
  · rw [if_neg e]; exact .inr ⟨hr, e⟩
/-- what a def's call gives back that may store into the objects of the ledger nw alone -/
noncomputable abbrev MRet (h₀ : Heap) (L : Addr) (m : Nm) (s : Shared) (nw : Led) (Q : Value → Shared → Prop) (post : Value → Led → Prop) : Prop :=
  ∀ v h' tk nw', Fr h₀ L h' m → News h₀ L h' nw' → (∀ b o, s.heap.get? b = some o → b ∉ nw.map (·.1) → h'.get? b = some o) → (∀ p ∈ nw', p.1 ∈ nw.map (·.1) ∨ s.heap.get? p.1 = none) → post v nw' → Q v { s with heap := h', toks := tk }
noncomputable abbrev MCon (w : World) (f : Addr) (vs : List Value) (dep uni : Nat) (nw : Led) (pre : Heap → Prop) (post : Value → Led → Prop) : Prop :=
  ∀ (mean : ExcName → Option Value) (mg mb : Nm) (dp un : Nat) (gd : Option (List Code)) (cn : Str) (cs : Scope) (a : Addr) (ccd : Value) (cl : List (Str × Addr)) (outer : List Env) (A₀ : Around) (base h₀ : Heap) (L : Addr) (m : Nm) (s : Shared) (Q E : Value → Shared → Prop),
    Below A₀ base outer h₀ → Fr h₀ L s.heap m → (hd.heap_1 w.params).In h₀ → News h₀ L s.heap nw → Top hd.view_1 Lo mean mg mb h₀ → cs.kind = .function →
    dp + dep < recursionLimit → un + uni < cLine → pre s.heap → MRet h₀ L m s nw Q post →
    codeAny (model Pg w) (ktrTop dp un gd cn cs L a ccd cl outer) (.call (.ref f) ⟨vs, []⟩) (fun r s' => match r with | .ok (.ret v) => Q v s' | .ok _ => False | .error e => E e s') s
theorem mret {h₀ g : Heap} {L L' : Addr} {m m' : Nm} {s : Shared} {nw : Led} {Q : Value → Shared → Prop} {post : Value → Led → Prop} {v : Value} {h' : Heap} {tk : Nat} {nw' nw'' : Led}
    (ret : MRet h₀ L m s nw Q post) (GS : GSub s.heap g (nw.map (·.1))) (F' : Fr g L' h' m') (N' : News g L' h' nw'') (kF : Fr h₀ L h' m) (kN : News h₀ L h' nw'') (hsub : ∀ q ∈ nw', q ∈ nw'') (hp : post v nw') : Q v { s with heap := h', toks := tk } :=
  ret v h' tk nw' kF (fun p hp => kN p (hsub p hp)) (fun b o e hb => F'.keep b o (GS b o e hb)) (fun p hp => by
    by_cases hm : p.1 ∈ nw.map (·.1)
    · exact .inl hm
    · refine .inr ?_
      cases e : s.heap.get? p.1 with
      | none => rfl
      | some o => have := GS _ _ e hm; rw [(N' p (hsub p hp)).2.2] at this; cases this) hp
/-- such a def's call, by its contract -/
theorem mcall {w : World} {f : Addr} {vs : List Value} {dep uni : Nat} {nw : Led} {pre : Heap → Prop} {post : Value → Led → Prop} (C : MCon w f vs dep uni nw pre post)
    {mean : ExcName → Option Value} {mg mb : Nm} {dp un : Nat} {gd : Option (List Code)} {cn : Str} {cs : Scope} {a : Addr} {ccd : Value} {cl : List (Str × Addr)} {outer : List Env} {A₀ : Around} {base h₀ : Heap} {L : Addr} {m : Nm} {s : Shared} {news rest : Led} {Q E : Value → Shared → Prop}
    (B : Below A₀ base outer h₀) (F : Fr h₀ L s.heap m) (X : (hd.heap_1 w.params).In h₀) (N : News h₀ L s.heap news) (T : Top hd.view_1 Lo mean mg mb h₀) (hk : cs.kind = .function)
    (hd : dp + dep < recursionLimit) (hu : un + uni < cLine) (hp : pre s.heap) (hn : ∀ q ∈ nw, q ∈ news) (hr : ∀ q ∈ rest, q ∈ news ∧ ∀ p ∈ nw, p.1 ≠ q.1)
    (h : ∀ v h' tk nw', Fr h₀ L h' m → News h₀ L h' (rest ++ nw') → (∀ b o, s.heap.get? b = some o → b ∉ nw.map (·.1) → h'.get? b = some o) → (∀ p ∈ nw', p.1 ∈ nw.map (·.1) ∨ s.heap.get? p.1 = none) → (∀ p ∈ nw', ∀ q ∈ rest, p.1 ≠ q.1) → post v nw' → Q v { s with heap := h', toks := tk }) :
    wpAny (model Pg w) (ktrTop dp un gd cn cs L a ccd cl outer) (call (.ref f) vs) Q E s := by
  have off : ∀ q ∈ rest, q.1 ∉ nw.map (·.1) := fun q hq e => by
    (have z3 := (List.mem_map.mp e); refine Mine.e1_2 z3 ?_; intro p hp e; (try clear z3))
    exact (hr q hq).2 p hp e
  refine wpAny_call (C mean mg mb dp un gd cn cs a ccd cl outer A₀ base h₀ L m s Q E B F X (fun q hq => N q (hn q hq)) T hk hd hu hp fun v h' tk nw' F' N' K fr po => h v h' tk nw' F' (fun q hq => ?_) K fr (fun p hp q hq e => ?_) po)
  · rcases List.mem_append.mp hq with hq | hq
    · exact ⟨K _ _ (N q (hr q hq).1).1 (off q hq), (N q (hr q hq).1).2⟩
    · exact N' q hq
  · rcases fr p hp with h1 | h1
    · exact off q hq (e ▸ h1)
    · rw [e, (N q (hr q hq).1).1] at h1; cases h1
end Mine
namespace Mine
theorem meets_bool_new_list (l : Addr) (items : Array Value) : Meets (Builtin.«bool.__new__» ⟨[.type "bool", .ref l], []⟩) (fun _ R s => s.heap.IsList l items ∧ (items.size : Int) < 2 ^ 63 ∧ R (.ok (.ret (.bool (!items.isEmpty)))) { s with toks := s.toks + 1 + 1 }) :=
  Meets.of_wp fun prog w A R s hs => by
    (first | (refine Mine.hideP ?_; intro Gz kGz; rcases s with ⟨hp, g, d, tk, os⟩; all_goals (refine kGz ?_; clear kGz Gz)) | rcases s with ⟨hp, g, d, tk, os⟩)
    (have z2 := hs; clear hs; refine Mine.e0_3 z2 ?_; intro h1 h2 hs; (try clear z2))
    have f1 := F.conv_sub_bool
    repeat (any_goals (first | assumption | (with_reducible refine wpAny_truthy_list h1 h2 ?_) | wp_step))
    all_goals first | exact ⟨_, rfl, hs⟩ | exact hs | skip
theorem call_bool_list {prog : Program} {w : World} {A : Around} {E : Value → Shared → Prop} {s : Shared} {l : Addr} {items : Array Value} {Q : Value → Shared → Prop} (hl : s.heap.IsList l items) (hfit : (items.size : Int) < 2 ^ 63) (h : Q (.bool (!items.isEmpty)) { s with toks := s.toks + 1 + 1 }) :
    wpAny (model prog w) A (call (.type "bool") [.ref l]) Q E s :=
  call_bool_1 (meets_bool_new_list l items) (show _ ∧ _ ∧ wants (fun obj s₁ => s₁.TypeIs obj "bool" ∧ Q obj s₁) E _ _ from ⟨hl, hfit, rfl, h⟩)
section
variable {prog : Program} {w : World} {A : Around} {E : Value → Shared → Prop} {K : Frag} {C : Addr} {s : Shared} {h₀ : Heap} {L : Addr} {m : Nm}
/-- an object of a class made, in a heap of which nothing is said -/
theorem call_clsN {Q : Value → Shared → Prop} {pos : List Value} {kw : List (Str × Value)} {fI : Addr} (F : Fr h₀ L s.heap m) (X₀ : K.In h₀) (hm : makesIn K C = true) (hi : findIn K (.ref C) "__init__" = some (some (.ref fI))) (hf : isFn K (.ref fI) = true)
    (h : ∀ x dx h', Fr h₀ L h' m → News h₀ L h' [(x, instObj C dx), (dx, dictOf [] 0)] → dx < x → (∀ b o, s.heap.get? b = some o → h'.get? b = some o ∧ b ∉ ([(x, instObj C dx), (dx, dictOf [] 0)] : Led).map (·.1)) →
      codeAny (model prog w) (A.under (.builtin "type.__call__" ⟨.ref C :: pos, kw⟩)) (.call (.ref fI) ⟨.ref x :: pos, kw⟩) (InitBack x fun r s' => match r with | .ok (.ret v) => Q v s' | .ok _ => False | .error e => E e s') { s with heap := h' }) :
    wpAny (model prog w) A (call (.ref C) pos kw) Q E s := by
  refine wpAny_call ?_
  have X := X₀.keeps F.keep
  (first | (refine Mine.hideP ?_; intro Gz kGz; rcases s with ⟨hh, g, d, t, os⟩; all_goals (refine kGz ?_; clear kGz Gz)) | rcases s with ⟨hh, g, d, t, os⟩)
  refine make_core (makes_of X hm) (looks_findIn X hi) (fun self => bind_fn X self (beq_iff_eq.mp hf)) (.inl rfl) (h _ hh.objs.size _ ((F.push _).push _) ?_ (Nat.lt_succ_self _) fun b o e => ⟨Heap.get?_push_of_some _ (Heap.get?_push_of_some _ e), fun hb => ?_⟩)
  · have := ((News.nil (h₀ := h₀) (L := L) (h := hh)).push F emptyDict).push (F.push _) (instObj C hh.objs.size)
    rwa [Heap.size_push] at this
  · have hlt := Heap.lt_size e
    simp only [List.map_cons, List.map_nil, List.mem_cons, List.not_mem_nil, or_false] at hb
    dsimp only at hlt
    rcases hb with rfl | rfl
    · exact Nat.lt_irrefl _ (Nat.lt_of_lt_of_le hlt (Nat.le_succ _))
    · exact Nat.lt_irrefl _ hlt
end
theorem pretN {h₀ g : Heap} {L L' : Addr} {m m' : Nm} {s : Shared} {h₁ : Heap} {made : Led} {Q : Value → Shared → Prop} {post : Value → Led → Prop} {v : Value} {h' : Heap} {tk : Nat} {nw : Led}
    (ret : PRet h₀ L m s Q post) (up : ∀ b o, s.heap.get? b = some o → h₁.get? b = some o ∧ b ∉ made.map (·.1)) (GS : GSub h₁ g (made.map (·.1))) (F' : Fr g L' h' m') (N' : News g L' h' nw) (kF : Fr h₀ L h' m) (kN : News h₀ L h' nw) (hp : post v nw) : Q v { s with heap := h', toks := tk } :=
  ret v h' tk nw kF kN (fun b o e => F'.keep b o (GS b o (up b o e).1 (up b o e).2)) (fun p hp => by
    cases e : s.heap.get? p.1 with
    | none => rfl
    | some o => have := GS _ _ (up _ _ e).1 (up _ _ e).2; rw [(N' p hp).2.2] at this; cases this) hp
/-- a node of the sorter: its name, the number of its predecessors, its successors -/
structure NE where
  key : Str
  np : Int
  su : List Str
/-- where it lies -/
structure AE where
  x : Addr
  d : Addr
  l : Addr
noncomputable def NeAt (e : NE) (a : AE) (I : Led) : Prop := ∃ t u vs c, (a.x, (⟨.ref 54, some a.d, .plain, #[some (.str e.key t), some (.int e.np u), some (.ref a.l)]⟩ : Obj)) ∈ I ∧ (a.d, dictOf [] 0) ∈ I ∧ (a.l, W.listOf vs c) ∈ I ∧ StrsAre vs.toList e.su
noncomputable def refsOf (es : List NE) (as : List AE) : List (Str × Value) := (es.zip as).map fun p => (p.1.key, .ref p.2.x)
noncomputable abbrev fldsOf (k1 k2 k3 k4 : Int) (t1 t2 t3 t4 u v : Tok) (D : Addr) (rv : Value) (po fi : Int) : Obj :=
  dictOf [⟨k1, .str (Str.ofString "_node2info") t1, .ref D⟩, ⟨k2, .str (Str.ofString "_ready_nodes") t2, rv⟩, ⟨k3, .str (Str.ofString "_npassedout") t3, .int po u⟩, ⟨k4, .str (Str.ofString "_nfinished") t4, .int fi v⟩] 4
/-- the sorter's objects in a ledger -/
structure TsAt (w : World) (X DX D : Addr) (rv : Value) (po fi : Int) (es : List NE) (as : List AE) (I : Led) : Prop where
  nd : Nd I
  hX : (X, instObj 151 DX) ∈ I
  hF : ∃ k1 k2 k3 k4 t1 t2 t3 t4 u v, (DX, fldsOf k1 k2 k3 k4 t1 t2 t3 t4 u v D rv po fi) ∈ I
  hD : ∃ o, (D, o) ∈ I ∧ o.IsDictOf (PySem.strKind Pg w) (refsOf es as)
  lo : (D == sysModules) = false
  hl : as.length = es.length
  hN : ∀ (i : Nat) (e : NE) (a : AE), es[i]? = some e → as[i]? = some a → NeAt e a I
  dd : DX ≠ D
  ad : ∀ a ∈ as, a.d ≠ D ∧ a.d ≠ DX
  jx : ∀ (i j : Nat) (a b : AE), as[i]? = some a → as[j]? = some b → i ≠ j → a.x ≠ b.x
  jl : ∀ (i j : Nat) (a b : AE), as[i]? = some a → as[j]? = some b → i ≠ j → a.l ≠ b.l
theorem refs_cons {e : NE} {a : AE} {es : List NE} {as : List AE} : refsOf (e :: es) (a :: as) = (e.key, .ref a.x) :: refsOf es as := rfl
theorem refs_len {es : List NE} {as : List AE} (h : as.length = es.length) : (refsOf es as).length = es.length := by
  unfold refsOf; rw [List.length_map, List.length_zip, h, Nat.min_self]
theorem refs_snoc {e : NE} {a : AE} : ∀ {es : List NE} {as : List AE}, as.length = es.length → refsOf (es ++ [e]) (as ++ [a]) = refsOf es as ++ [(e.key, .ref a.x)]
  | [], [], _ => rfl
  | b :: r, c :: q, h => by
    rw [List.cons_append, List.cons_append, refs_cons, refs_cons, refs_snoc (by simpa using h)]; rfl
/-- the place of a name -/
noncomputable def idxF (es : List NE) (k : Str) : Nat := es.findIdx fun e => decide (e.key = k)
noncomputable def getF (es : List NE) (k : Str) : List NE := if es.any (fun e => decide (e.key = k)) then es else es ++ [⟨k, 0, []⟩]
theorem valueAt_refs {k : Str} : ∀ {es : List NE} {as : List AE}, as.length = es.length → valueAt (refsOf es as) k = (as[idxF es k]?).map fun a => .ref a.x
  | [], [], _ => rfl
  | e :: es, a :: as, h => by
    rw [refs_cons]
    unfold valueAt idxF
    rw [List.find?_cons, List.findIdx_cons]
    by_cases hk : e.key = k
    · simp only [hk, decide_true, cond_true, List.getElem?_cons_zero, Option.map_some]
    · have := valueAt_refs (k := k) (es := es) (as := as) (by simpa using h)
      unfold valueAt idxF at this
      simp only [hk, decide_false, cond_false, List.getElem?_cons_succ]
      exact this
theorem idxF_lt {es : List NE} {k : Str} (h : es.any (fun e => decide (e.key = k)) = true) : idxF es k < es.length := by
  unfold idxF
  rw [List.findIdx_lt_length]
  (have z4 := (List.any_eq_true.mp h); refine Mine.e1_2 z4 ?_; intro e he hk; (try clear z4))
  exact ⟨e, he, hk⟩
theorem idxF_ge {es : List NE} {k : Str} (h : ¬ es.any (fun e => decide (e.key = k)) = true) : idxF es k = es.length := by
  unfold idxF
  rw [List.findIdx_eq_length]
  intro e he
  cases hd : decide (e.key = k) with
  | false => rfl
  | true => exact absurd (List.any_eq_true.mpr ⟨e, he, hd⟩) h
theorem idxF_snoc {es : List NE} {k : Str} (h : ¬ es.any (fun e => decide (e.key = k)) = true) : idxF (es ++ [⟨k, 0, []⟩]) k = es.length := by
  have := idxF_ge h
  unfold idxF at this ⊢
  rw [List.findIdx_append, this]
  simp
theorem idxF_get {es : List NE} {k : Str} : idxF (getF es k) k < (getF es k).length ∧ ∀ e, (getF es k)[idxF (getF es k) k]? = some e → e.key = k := by
  have hany : (getF es k).any (fun e => decide (e.key = k)) = true := by
    unfold getF; split
    · assumption
    · rw [List.any_append]; simp
  refine ⟨idxF_lt hany, fun e he => ?_⟩
  have hlt := idxF_lt hany
  unfold idxF at he hlt
  rw [List.getElem?_eq_getElem hlt] at he
  have := List.findIdx_getElem (w := hlt)
  rw [Option.some.inj he] at this
  simpa using this
theorem NeAt.keep {e : NE} {a : AE} {I I' : Led} (h : NeAt e a I) (k : ∀ p ∈ I, p.1 = a.x ∨ p.1 = a.d ∨ p.1 = a.l → p ∈ I') : NeAt e a I' := by
  (refine Mine.e4_4 h ?_; intro t u vs c h1 h2 h3 h4; (try clear h))
  exact ⟨t, u, vs, c, k _ h1 (.inl rfl), k _ h2 (.inr (.inl rfl)), k _ h3 (.inr (.inr rfl)), h4⟩
theorem dict_cls {w : World} {o : Obj} {kvs : List (Str × Value)} (h : o.IsDictOf (PySem.strKind Pg w) kvs) : o.cls = .type "dict" := by
  (refine Mine.e2_2 h ?_; intro es ep h1 _; (try clear h))
  exact h1.1
section
variable {w : World} {X DX D : Addr} {rv : Value} {po fi : Int} {es : List NE} {as : List AE} {I : Led}
theorem TsAt.node (T : TsAt w X DX D rv po fi es as I) {i : Nat} {a : AE} (ha : as[i]? = some a) : ∃ e, es[i]? = some e ∧ NeAt e a I := by
  have hlt : i < es.length := by rw [← T.hl]; exact (List.getElem?_eq_some_iff.mp ha).1
  exact ⟨es[i], List.getElem?_eq_getElem hlt, T.hN i _ a (List.getElem?_eq_getElem hlt) ha⟩
theorem TsAt.sub (T : TsAt w X DX D rv po fi es as I) {I' : Led} (nd : Nd I') (h : ∀ p ∈ I, p ∈ I') : TsAt w X DX D rv po fi es as I' := by
  (first | (refine Mine.hideP ?_; intro Gz kGz; rcases T with ⟨_, hX, ⟨k1, k2, k3, k4, t1, t2, t3, t4, u, v, hF⟩, ⟨o, hDm, hD⟩, lo, hl, hN, dd, ad, jx, jl⟩; all_goals (refine kGz ?_; clear kGz Gz)) | rcases T with ⟨_, hX, ⟨k1, k2, k3, k4, t1, t2, t3, t4, u, v, hF⟩, ⟨o, hDm, hD⟩, lo, hl, hN, dd, ad, jx, jl⟩)
  exact ⟨nd, h _ hX, ⟨k1, k2, k3, k4, t1, t2, t3, t4, u, v, h _ hF⟩, ⟨o, h _ hDm, hD⟩, lo, hl, fun i e a he ha => (hN i e a he ha).keep fun p hp _ => h p hp, dd, ad, jx, jl⟩
/-- an object is changed that is none of the sorter's -/
theorem TsAt.other (T : TsAt w X DX D rv po fi es as I) {p : Addr} {o' : Obj} (h1 : p ≠ X) (h2 : p ≠ DX) (h3 : p ≠ D) (h4 : ∀ a ∈ as, p ≠ a.x ∧ p ≠ a.d ∧ p ≠ a.l) : TsAt w X DX D rv po fi es as (updA p o' I) := by
  (first | (refine Mine.hideP ?_; intro Gz kGz; rcases T with ⟨nd, hX, ⟨k1, k2, k3, k4, t1, t2, t3, t4, u, v, hF⟩, ⟨o, hDm, hD⟩, lo, hl, hN, dd, ad, jx, jl⟩; all_goals (refine kGz ?_; clear kGz Gz)) | rcases T with ⟨nd, hX, ⟨k1, k2, k3, k4, t1, t2, t3, t4, u, v, hF⟩, ⟨o, hDm, hD⟩, lo, hl, hN, dd, ad, jx, jl⟩)
  refine ⟨nd.upd, mem_ne hX (Ne.symm h1), ⟨k1, k2, k3, k4, t1, t2, t3, t4, u, v, mem_ne hF (Ne.symm h2)⟩, ⟨o, mem_ne hDm (Ne.symm h3), hD⟩, lo, hl, fun i e a he ha => (hN i e a he ha).keep fun q hq hc => ?_, dd, ad, jx, jl⟩
  (have z9 := (h4 a (List.mem_of_getElem? ha)); refine Mine.e0_3 z9 ?_; intro n1 n2 n3; (try clear z9))
  exact mem_ne hq (by rcases hc with e | e | e <;> rw [e] <;> first | exact Ne.symm n1 | exact Ne.symm n2 | exact Ne.symm n3)
/-- a new node -/
theorem TsAt.new (T : TsAt w X DX D rv po fi es as I) {k : Str} {x d l : Addr} {t u : Tok} {c : Nat} {o' : Obj} (nd : Nd ([(l, W.listOf #[] c), (x, (⟨.ref 54, some d, .plain, #[some (.str k t), some (.int 0 u), some (.ref l)]⟩ : Obj)), (d, dictOf [] 0)] ++ I))
    (hany : ¬ es.any (fun e => decide (e.key = k)) = true) (hv : valueAt (refsOf es as) k = none) (hd : o'.IsDictOf (PySem.strKind Pg w) (stored (refsOf es as) k (.ref x))) :
    TsAt w X DX D rv po fi (getF es k) (as ++ [⟨x, d, l⟩]) (updA D o' ([(l, W.listOf #[] c), (x, (⟨.ref 54, some d, .plain, #[some (.str k t), some (.int 0 u), some (.ref l)]⟩ : Obj)), (d, dictOf [] 0)] ++ I)) := by
  have hg : getF es k = es ++ [⟨k, 0, []⟩] := by unfold getF; rw [if_neg hany]
  rw [hg]
  (first | (refine Mine.hideP ?_; intro Gz kGz; rcases T with ⟨ndI, hX, ⟨k1, k2, k3, k4, t1, t2, t3, t4, u', v, hF⟩, ⟨o, hDm, hD⟩, lo, hl, hN, dd, ad, jx, jl⟩; all_goals (refine kGz ?_; clear kGz Gz)) | rcases T with ⟨ndI, hX, ⟨k1, k2, k3, k4, t1, t2, t3, t4, u', v, hF⟩, ⟨o, hDm, hD⟩, lo, hl, hN, dd, ad, jx, jl⟩)
  generalize hJ : ([(l, W.listOf #[] c), (x, (⟨.ref 54, some d, .plain, #[some (.str k t), some (.int 0 u), some (.ref l)]⟩ : Obj)), (d, dictOf [] 0)] ++ I : Led) = J at nd ⊢
  have up : ∀ p ∈ I, p ∈ J := fun p hp => hJ ▸ List.mem_append_right _ hp
  have m1 : (l, W.listOf #[] c) ∈ J := hJ ▸ List.mem_cons_self
  have m2 : (x, (⟨.ref 54, some d, .plain, #[some (.str k t), some (.int 0 u), some (.ref l)]⟩ : Obj)) ∈ J := hJ ▸ List.mem_cons_of_mem _ List.mem_cons_self
  have m3 : (d, dictOf [] 0) ∈ J := hJ ▸ List.mem_cons_of_mem _ (List.mem_cons_of_mem _ List.mem_cons_self)
  have fresh : ∀ q ∈ I, l ≠ q.1 ∧ x ≠ q.1 ∧ d ≠ q.1 := fun q hq => by
    subst hJ
    exact ⟨fun e => nd.head q (List.mem_cons_of_mem _ (List.mem_cons_of_mem _ hq)) e.symm, fun e => nd.tail.head q (List.mem_cons_of_mem _ hq) e.symm, fun e => nd.tail.tail.head q hq e.symm⟩
  have oc := dict_cls hD
  have nX : X ≠ D := nd.ne (up _ hX) (up _ hDm) (fun e => by rw [← e] at oc; cases oc)
  have hnode : ∀ (i : Nat) (a : AE), as[i]? = some a → ∃ e, NeAt e a I := fun i a ha => by
    have hlt : i < es.length := by rw [← hl]; exact (List.getElem?_eq_some_iff.mp ha).1
    exact ⟨es[i], hN i _ a (List.getElem?_eq_getElem hlt) ha⟩
  have split : ∀ (i : Nat) (a : AE), (as ++ [⟨x, d, l⟩])[i]? = some a → (i < as.length ∧ as[i]? = some a) ∨ (i = as.length ∧ a = ⟨x, d, l⟩) := fun i a ha => by
    by_cases hi : i < as.length
    · rw [List.getElem?_append_left hi] at ha; exact .inl ⟨hi, ha⟩
    · rw [List.getElem?_append_right (Nat.le_of_not_lt hi)] at ha
      have hz : i - as.length = 0 := by
        cases hm : i - as.length with
        | zero => rfl
        | succ n => rw [hm] at ha; simp at ha
      rw [hz] at ha
      simp only [List.getElem?_cons_zero, Option.some.injEq] at ha
      exact .inr ⟨by omega, ha.symm⟩
  refine ⟨nd.upd, mem_ne (up _ hX) nX, ⟨k1, k2, k3, k4, t1, t2, t3, t4, u', v, mem_ne (up _ hF) dd⟩, ⟨o', mem_self (up _ hDm), ?_⟩, lo, by simp [hl], ?_, dd, ?_, ?_, ?_⟩
  · rw [refs_snoc hl]
    have := stored_absent hv (.ref x)
    rw [this] at hd
    exact hd
  · intro i e a he ha
    rcases split i a ha with ⟨hi, ha⟩ | ⟨hi, rfl⟩
    · rw [List.getElem?_append_left (hl ▸ hi)] at he
      refine (hN i e a he ha).keep fun p hp hc => mem_ne (up p hp) ?_
      (have z11 := (hN i e a he ha); refine Mine.e4_4 z11 ?_; intro t u vs c h1 h2 h3 h4; (try clear z11))
      rcases hc with hc | hc | hc <;> rw [hc]
      · exact ndI.ne h1 hDm fun e => by rw [← e] at oc; cases oc
      · exact (ad a (List.mem_of_getElem? ha)).1
      · exact ndI.ne h3 hDm fun e => by rw [← e] at oc; exact absurd (Value.type.inj oc) (by decide)
    · rw [hi, hl, List.getElem?_append_right (Nat.le_refl _), Nat.sub_self] at he
      simp only [List.getElem?_cons_zero, Option.some.injEq] at he
      subst he
      exact ⟨t, u, #[], c, mem_ne m2 (fresh _ hDm).2.1, mem_ne m3 (fresh _ hDm).2.2, mem_ne m1 (fresh _ hDm).1, .nil⟩
  · intro a ha
    rcases List.mem_append.mp ha with ha | ha
    · exact ad a ha
    · rw [List.mem_singleton.mp ha]
      exact ⟨(fresh _ hDm).2.2, (fresh _ hF).2.2⟩
  · intro i j a b ha hb hij
    rcases split i a ha with ⟨hi, ha⟩ | ⟨hi, rfl⟩ <;> rcases split j b hb with ⟨hj, hb⟩ | ⟨hj, rfl⟩
    · exact jx i j a b ha hb hij
    · (have z12 := (hnode i a ha); refine Mine.e5_4 z12 ?_; intro e t u vs c h1 h2 h3 h4; (try clear z12))
      exact Ne.symm (fresh _ h1).2.1
    · (have z13 := (hnode j b hb); refine Mine.e5_4 z13 ?_; intro e t u vs c h1 h2 h3 h4; (try clear z13))
      exact (fresh _ h1).2.1
    · omega
  · intro i j a b ha hb hij
    rcases split i a ha with ⟨hi, ha⟩ | ⟨hi, rfl⟩ <;> rcases split j b hb with ⟨hj, hb⟩ | ⟨hj, rfl⟩
    · exact jl i j a b ha hb hij
    · (have z14 := (hnode i a ha); refine Mine.e5_4 z14 ?_; intro e t u vs c h1 h2 h3 h4; (try clear z14))
      exact Ne.symm (fresh _ h3).1
    · (have z15 := (hnode j b hb); refine Mine.e5_4 z15 ?_; intro e t u vs c h1 h2 h3 h4; (try clear z15))
      exact (fresh _ h3).1
    · omega
/-- a node changed by its name -/
noncomputable def setE (k : Str) (f : NE → NE) (es : List NE) : List NE := es.map fun e => if e.key = k then f e else e
theorem setE_get {k : Str} {f : NE → NE} {es : List NE} {i : Nat} : (setE k f es)[i]? = (es[i]?).map fun e => if e.key = k then f e else e := by unfold setE; rw [List.getElem?_map]
theorem setE_len {k : Str} {f : NE → NE} {es : List NE} : (setE k f es).length = es.length := by unfold setE; rw [List.length_map]
theorem refs_keys : ∀ {es : List NE} {as : List AE}, as.length = es.length → (refsOf es as).map (·.1) = es.map (·.key)
  | [], [], _ => rfl
  | e :: r, a :: q, h => by rw [refs_cons, List.map_cons, List.map_cons, refs_keys (by simpa using h)]
theorem TsAt.keys (T : TsAt w X DX D rv po fi es as I) : (es.map (·.key)).Nodup := by
  (refine Mine.e1_2 T.hD ?_; intro o _ z16r; (try clear T.hD); (refine Mine.e2_5 z16r ?_; intro es' ep _ _ _ _ h; (try clear z16r)))
  rwa [refs_keys T.hl] at h
theorem keys_one : ∀ {es : List NE}, (es.map (·.key)).Nodup → ∀ {i j : Nat} {e e' : NE}, es[i]? = some e → es[j]? = some e' → e.key = e'.key → i = j
  | [], _, i, _, _, _, h, _, _ => by simp at h
  | b :: r, hn, i, j, e, e', h1, h2, hk => by
    have hb := List.nodup_cons.mp (by simpa using hn : (b.key :: r.map (·.key)).Nodup)
    cases i with
    | zero => cases j with
      | zero => rfl
      | succ j =>
        refine absurd ?_ hb.1
        simp only [List.getElem?_cons_zero, Option.some.injEq] at h1
        rw [List.getElem?_cons_succ] at h2
        rw [h1, hk]; exact List.mem_map_of_mem (List.mem_of_getElem? h2)
    | succ i => cases j with
      | zero =>
        refine absurd ?_ hb.1
        simp only [List.getElem?_cons_zero, Option.some.injEq] at h2
        rw [List.getElem?_cons_succ] at h1
        rw [h2, ← hk]; exact List.mem_map_of_mem (List.mem_of_getElem? h1)
      | succ j =>
        rw [List.getElem?_cons_succ] at h1 h2
        rw [keys_one hb.2 h1 h2 hk]
theorem setE_refs {k : Str} {f : NE → NE} (hf : ∀ e, (f e).key = e.key) : ∀ {es : List NE} {as : List AE}, refsOf (setE k f es) as = refsOf es as
  | [], as => rfl
  | e :: es, [] => by unfold refsOf; rw [List.zip_nil_right, List.zip_nil_right]
  | e :: es, a :: as => by
    have := setE_refs (k := k) hf (es := es) (as := as)
    show refsOf ((if e.key = k then f e else e) :: setE k f es) (a :: as) = _
    rw [refs_cons, refs_cons, this]
    congr 2
    split
    · exact hf e
    · rfl
/-- the number of a node's predecessors is set -/
theorem TsAt.setx (T : TsAt w X DX D rv po fi es as I) {i : Nat} {e : NE} {a : AE} (he : es[i]? = some e) (ha : as[i]? = some a) {t u u' : Tok} (hm : (a.x, (⟨.ref 54, some a.d, .plain, #[some (.str e.key t), some (.int e.np u), some (.ref a.l)]⟩ : Obj)) ∈ I) (f : NE → NE) (hf : ∀ e, (f e).key = e.key ∧ (f e).su = e.su) :
    TsAt w X DX D rv po fi (setE e.key f es) as (updA a.x (⟨.ref 54, some a.d, .plain, #[some (.str e.key t), some (.int (f e).np u'), some (.ref a.l)]⟩ : Obj) I) := by
  have ks := T.keys
  have TN := fun i a ha => T.node (i := i) (a := a) ha
  (first | (refine Mine.hideP ?_; intro Gz kGz; rcases T with ⟨nd, hX, ⟨k1, k2, k3, k4, t1, t2, t3, t4, u1, v, hF⟩, ⟨o, hDm, hD⟩, lo, hl, hN, dd, ad, jx, jl⟩; all_goals (refine kGz ?_; clear kGz Gz)) | rcases T with ⟨nd, hX, ⟨k1, k2, k3, k4, t1, t2, t3, t4, u1, v, hF⟩, ⟨o, hDm, hD⟩, lo, hl, hN, dd, ad, jx, jl⟩)
  have oc := dict_cls hD
  refine ⟨nd.upd, mem_ne hX (nd.ne hX hm fun q => by cases q), ⟨k1, k2, k3, k4, t1, t2, t3, t4, u1, v, mem_ne hF (nd.ne hF hm fun q => by cases q)⟩, ⟨o, mem_ne hDm (nd.ne hDm hm fun q => by rw [q] at oc; cases oc), by rw [setE_refs (fun e => (hf e).1)]; exact hD⟩, lo, by rw [setE_len]; exact hl, ?_, dd, ad, jx, jl⟩
  intro j e' b he' hb
  rw [setE_get] at he'
  (have z18 := (Option.map_eq_some_iff.mp he'); refine Mine.e1_2 z18 ?_; intro e₀ he₀ z18x2; (try clear z18); (rcases z18x2 with rfl))
  (have z19 := (hN j e₀ b he₀ hb); refine Mine.e4_4 z19 ?_; intro t₀ u₀ vs c h1 h2 h3 h4; (try clear z19))
  by_cases hij : i = j
  · subst hij
    rw [he] at he₀
    obtain rfl := Option.some.inj he₀
    rw [ha] at hb
    obtain rfl := Option.some.inj hb
    rw [if_pos rfl]
    exact ⟨t, u', vs, c, by rw [(hf e).1]; exact mem_self hm, mem_ne h2 (nd.ne h2 hm fun q => by cases q), mem_ne h3 (nd.ne h3 hm fun q => by cases q), by rw [(hf e).2]; exact h4⟩
  · have hk : e₀.key ≠ e.key := fun q => hij (keys_one ks he he₀ q.symm)
    rw [if_neg hk]
    exact ⟨t₀, u₀, vs, c, mem_ne h1 (jx j i b a hb ha (Ne.symm hij)), mem_ne h2 (nd.ne h2 hm fun q => by cases q), mem_ne h3 (nd.ne h3 hm fun q => by cases q), h4⟩
/-- a node's successors grow by one -/
theorem TsAt.setl (T : TsAt w X DX D rv po fi es as I) {i : Nat} {e : NE} {a : AE} (he : es[i]? = some e) (ha : as[i]? = some a) {vs vs' : Array Value} {c c' : Nat} (hm : (a.l, W.listOf vs c) ∈ I) (f : NE → NE) (hf : ∀ e, (f e).key = e.key ∧ (f e).np = e.np) (hs : StrsAre vs'.toList (f e).su) :
    TsAt w X DX D rv po fi (setE e.key f es) as (updA a.l (W.listOf vs' c') I) := by
  have ks := T.keys
  (first | (refine Mine.hideP ?_; intro Gz kGz; rcases T with ⟨nd, hX, ⟨k1, k2, k3, k4, t1, t2, t3, t4, u1, v, hF⟩, ⟨o, hDm, hD⟩, lo, hl, hN, dd, ad, jx, jl⟩; all_goals (refine kGz ?_; clear kGz Gz)) | rcases T with ⟨nd, hX, ⟨k1, k2, k3, k4, t1, t2, t3, t4, u1, v, hF⟩, ⟨o, hDm, hD⟩, lo, hl, hN, dd, ad, jx, jl⟩)
  have oc := dict_cls hD
  have nl : ∀ {b : Addr} {ob : Obj}, (b, ob) ∈ I → ob.cls ≠ .type "list" → b ≠ a.l := fun h hc => nd.ne h hm fun q => hc (by rw [q])
  refine ⟨nd.upd, mem_ne hX (nl hX (by simp)), ⟨k1, k2, k3, k4, t1, t2, t3, t4, u1, v, mem_ne hF (nl hF (by simp))⟩, ⟨o, mem_ne hDm (nl hDm (by rw [oc]; simp)), by rw [setE_refs (fun e => (hf e).1)]; exact hD⟩, lo, by rw [setE_len]; exact hl, ?_, dd, ad, jx, jl⟩
  intro j e' b he' hb
  rw [setE_get] at he'
  (have z21 := (Option.map_eq_some_iff.mp he'); refine Mine.e1_2 z21 ?_; intro e₀ he₀ z21x2; (try clear z21); (rcases z21x2 with rfl))
  (have z22 := (hN j e₀ b he₀ hb); refine Mine.e4_4 z22 ?_; intro t₀ u₀ vs c h1 h2 h3 h4; (try clear z22))
  by_cases hij : i = j
  · subst hij
    rw [he] at he₀
    obtain rfl := Option.some.inj he₀
    rw [ha] at hb
    obtain rfl := Option.some.inj hb
    rw [if_pos rfl]
    exact ⟨t₀, u₀, vs', c', by rw [(hf e).1, (hf e).2]; exact mem_ne h1 (nl h1 (by simp)), mem_ne h2 (nl h2 (by simp)), mem_self h3, hs⟩
  · have hk : e₀.key ≠ e.key := fun q => hij (keys_one ks he he₀ q.symm)
    rw [if_neg hk]
    exact ⟨t₀, u₀, vs, c, mem_ne h1 (nl h1 (by simp)), mem_ne h2 (nl h2 (by simp)), mem_ne h3 (jl j i b a hb ha (Ne.symm hij)), h4⟩
/-- the sorter's own fields are set -/
theorem TsAt.setf (T : TsAt w X DX D rv po fi es as I) {k1 k2 k3 k4 : Int} {t1 t2 t3 t4 u v : Tok} (hm : (DX, fldsOf k1 k2 k3 k4 t1 t2 t3 t4 u v D rv po fi) ∈ I) {k1' k2' k3' k4' : Int} {t1' t2' t3' t4' u' v' : Tok} (rv' : Value) (po' fi' : Int) :
    TsAt w X DX D rv' po' fi' es as (updA DX (fldsOf k1' k2' k3' k4' t1' t2' t3' t4' u' v' D rv' po' fi') I) := by
  (first | (refine Mine.hideP ?_; intro Gz kGz; rcases T with ⟨nd, hX, _, ⟨o, hDm, hD⟩, lo, hl, hN, dd, ad, jx, jl⟩; all_goals (refine kGz ?_; clear kGz Gz)) | rcases T with ⟨nd, hX, _, ⟨o, hDm, hD⟩, lo, hl, hN, dd, ad, jx, jl⟩)
  refine ⟨nd.upd, mem_ne hX (nd.ne hX hm fun q => by cases q), ⟨k1', k2', k3', k4', t1', t2', t3', t4', u', v', mem_self hm⟩, ⟨o, mem_ne hDm (Ne.symm dd), hD⟩, lo, hl, fun i e a he ha => ?_, dd, ad, jx, jl⟩
  (have z24 := (hN i e a he ha); refine Mine.e4_4 z24 ?_; intro t₀ u₀ vs c h1 h2 h3 h4; (try clear z24))
  exact ⟨t₀, u₀, vs, c, mem_ne h1 (nd.ne h1 hm fun q => by cases q), mem_ne h2 (ad a (List.mem_of_getElem? ha)).2, mem_ne h3 (nd.ne h3 hm fun q => absurd (congrArg Obj.cls q) (by simp)), h4⟩
theorem setE_key {k : Str} {f : NE → NE} (hf : ∀ e, (f e).key = e.key) {es : List NE} : (setE k f es).map (·.key) = es.map (·.key) := by
  unfold setE
  rw [List.map_map]
  refine List.map_congr_left fun e _ => ?_
  show (if e.key = k then f e else e).key = e.key
  split
  · exact hf e
  · rfl
theorem getF_len {es : List NE} {k : Str} : (getF es k).length ≤ es.length + 1 := by
  unfold getF; split
  · omega
  · rw [List.length_append]; exact Nat.le_refl _
/-- no node has more than b successors -/
noncomputable def SuB (es : List NE) (b : Nat) : Prop := ∀ e ∈ es, e.su.length ≤ b
theorem SuB.get {b : Nat} (h : SuB es b) (k : Str) : SuB (getF es k) b := by
  unfold getF; split
  · exact h
  · intro e he
    rcases List.mem_append.mp he with he | he
    · exact h e he
    · rw [List.mem_singleton.mp he]; exact Nat.zero_le _
theorem SuB.set {b c : Nat} {k : Str} {f : NE → NE} (h : SuB es b) (hb : b ≤ c) (hf : ∀ e ∈ es, (f e).su.length ≤ c) : SuB (setE k f es) c := by
  intro e he
  (have z25 := (List.mem_map.mp he); refine Mine.e1_2 z25 ?_; intro e₀ he₀ z25x2; (try clear z25); (rcases z25x2 with rfl))
  split
  · exact hf e₀ he₀
  · exact Nat.le_trans (h e₀ he₀) hb
theorem any_key {k : Str} : es.any (fun e => decide (e.key = k)) = true ↔ k ∈ es.map (·.key) := by
  rw [List.any_eq_true, List.mem_map]
  simp only [decide_eq_true_eq]
/-- a name of the sorter's looked up -/
theorem TsAt.look (T : TsAt w X DX D rv po fi es as I) {k : Str} (hk : k ∈ es.map (·.key)) :
    ∃ (i : Nat) (e : NE) (x d l : Addr) (t u : Tok) (vs : Array Value) (c : Nat), es[i]? = some e ∧ as[i]? = some ⟨x, d, l⟩ ∧ e.key = k ∧ valueAt (refsOf es as) k = some (.ref x) ∧
      (x, (⟨.ref 54, some d, .plain, #[some (.str e.key t), some (.int e.np u), some (.ref l)]⟩ : Obj)) ∈ I ∧ (d, dictOf [] 0) ∈ I ∧ (l, W.listOf vs c) ∈ I ∧ StrsAre vs.toList e.su := by
  have hany := any_key.mpr hk
  have hlt : idxF es k < as.length := T.hl ▸ idxF_lt hany
  have hv : valueAt (refsOf es as) k = some (.ref as[idxF es k].x) := by rw [valueAt_refs T.hl, List.getElem?_eq_getElem hlt]; rfl
  have ha := List.getElem?_eq_getElem hlt
  generalize as[idxF es k] = a at hv ha
  (first | (refine Mine.hideP ?_; intro Gz kGz; rcases a with ⟨x, d, l⟩; all_goals (refine kGz ?_; clear kGz Gz)) | rcases a with ⟨x, d, l⟩)
  (have z27 := (T.node ha); refine Mine.e1_2 z27 ?_; intro e he z27r; (try clear z27); (refine Mine.e4_4 z27r ?_; intro t u vs c h1 h2 h3 h4; (try clear z27r)))
  have hkey : e.key = k := by
    have h1 := (idxF_get (es := es) (k := k)).2
    have hg : getF es k = es := by unfold getF; rw [if_pos hany]
    rw [hg] at h1
    exact h1 e he
  exact ⟨_, e, x, d, l, t, u, vs, c, he, ha, hkey, hv, h1, h2, h3, h4⟩
end
end Mine
namespace Mine
theorem list_cases {P : List Value → Prop} (h0 : P []) (h1 : ∀ a, P [a]) (h2 : ∀ a b, P [a, b]) (h3 : ∀ a b c, P [a, b, c]) (h4 : ∀ a b c d, P [a, b, c, d]) (h5 : ∀ a b c d e, P [a, b, c, d, e]) (h6 : ∀ a b c d e f, P [a, b, c, d, e, f]) (h7 : ∀ a b c d e f g, P [a, b, c, d, e, f, g]) (h8 : ∀ a b c d e f g h, P [a, b, c, d, e, f, g, h]) : ∀ zs : List Value, zs.length ≤ 8 → P zs
  | [], _ => h0 
  | [a], _ => h1 a
  | [a, b], _ => h2 a b
  | [a, b, c], _ => h3 a b c
  | [a, b, c, d], _ => h4 a b c d
  | [a, b, c, d, e], _ => h5 a b c d e
  | [a, b, c, d, e, f], _ => h6 a b c d e f
  | [a, b, c, d, e, f, g], _ => h7 a b c d e f g
  | [a, b, c, d, e, f, g, h], _ => h8 a b c d e f g h
  | a :: b :: c :: d :: e :: f :: g :: h :: i :: r, hl => by simp only [List.length_cons] at hl; omega
theorem peek1_go {α : Type} {K : Frag} {M : Model} {A : Around} {E : Value → Shared → Prop} {Q : α → Shared → Prop} {s : Shared} {o : Obj} {r : Addr → α}
    (X : K.In s.heap) (q : Q (r s.heap.objs.size) { s with heap := s.heap.push o }) :
    ∀ (t : Sem α) (g : Addr → Option α), peek1 K ⟨M.prog, M.w.params⟩ t = some (o, g) → (∀ D, g D = some (r D)) → wpAny M A t Q E s := by
  intro t
  induction t with
  | rule _ k ih => intro g e hg Γ p hΓ; exact ih () g e hg Γ p hΓ
  | point _ k ih => intro g e hg Γ p hΓ; exact ih () g e hg Γ p hΓ
  | ask k ih => intro g e hg Γ p hΓ; exact ih _ g e hg Γ p hΓ
  | load a _ k ih =>
    intro g e hg Γ p hΓ
    simp only [peek1] at e
    split at e
    · rename_i ob ho; exact ⟨ob, X _ _ ho, ih ob g e hg Γ p hΓ⟩
    · cases e
  | alloc ob k _ =>
    intro g e hg
    have e : some (ob, fun D => peek K ⟨M.prog, M.w.params⟩ (k D)) = some (o, g) := e
    obtain ⟨e1, e2⟩ := Prod.mk.inj (Option.some.inj e)
    subst e1
    subst e2
    have X' : K.In (s.heap.push ob) := X.keeps fun b x hb => Heap.get?_push_of_some _ hb
    show wpAny M A (alloc ob >>= k) Q E s
    refine wpAny_bind (wpAny_alloc ?_)
    exact (Looks.of_peek (M := M) (h := s.heap.push ob) X' (hg s.heap.objs.size)).here (s := { s with heap := s.heap.push ob }) q
  | _ => intro g e; cases e
section
variable {prog : Program} {w : World} {A₀ A : Around} {s : Shared} {base h₀ : Heap} {outer : List Env} {L : Addr} {m : Nm} {env : Env} {news : Led}
/-- a def with a star parameter, called; what stands in the caller's heap, the ledger apart, stands in the call's ground -/
theorem code_restG {K : Frag} {p : Program} {loose : List Str} {mean : ExcName → Option Value} {mg mb : Nm} {R : Result → Shared → Prop} {name qual : Str} {params : Arguments} {body : List Stmt} {scope : Scope} {dV kV doc pm cdv ct oc : Value} {an od : Option Addr} {osl : Array (Option Value)} {f : Addr} {args : Args} {vs : List Value} {g₁ : Addr → Option (List (Str × Value))} {binds : Addr → List (Str × Value)}
    (B : Below A₀ base outer h₀) (F : Fr h₀ L s.heap m) (X₀ : K.In h₀) (N : News h₀ L s.heap news) (T : Top p loose mean mg mb h₀) (hA : A.frames = some (env :: outer)) (hf : env.frame = some L) (hke : env.scope.kind = .function)
    (ho : K.lookup f = some ⟨oc, od, .func (fnOf name qual params body scope dV kV doc pm an cdv ct), osl⟩) (hcd : codeIn K cdv qual = true) (hroom : A.depth < recursionLimit)
    (hp : peek1 K ⟨prog, w.params⟩ (bindArgs (fnOf name qual params body scope dV kV doc pm an cdv ct) args) = some (({ cls := .type "tuple", data := .seq vs.toArray } : Obj), g₁))
    (hg : ∀ D, g₁ D = some (binds D)) (hloc : ∀ D, ∀ y ∈ binds D, scope.names.lookup y.1 = some .local)
    (h : ∀ D g L' h₁, (∀ p ∈ news, p.1 < D) → Fr h₀ L g m → Fr g L' h₁ (fun y => (binds D).reverse.lookup y) → News g L' h₁ ((D, ({ cls := .type "tuple", data := .seq vs.toArray } : Obj)) :: news) → Below A base (env :: outer) g → K.In g → Top p loose mean mg mb g → GSub s.heap g (news.map (·.1)) →
      wpAny (model prog w) (A.deeper (envOf qual scope L' f cdv)) (execs body (envOf qual scope L' f cdv))
        (fun fl s' => LeaveK h₀ L m g R (match fl with | .ret v => v | _ => .none) s')
        (fun e s' => wpAny (model prog w) (A.deeper (envOf qual scope L' f cdv)) (leaving (envOf qual scope L' f cdv) e) (fun _ s'' => R (.error e) s'') (fun e' s'' => R (.error e') s'') s')
        { s with heap := h₁, toks := s.toks + (binds D).length })
    (hco : scope.isCoroutine = false) (hgen : scope.isGenerator = false) (hk : scope.kind = .function)
    (hcell : ∀ x ∈ scope.names, x.2 ≠ .cell) : codeAny (model prog w) A (.call (.ref f) args) R s := by
  refine codeAny_call_function (fd := fnX name qual params body scope [] dV kV doc pm an cdv ct) (body := body) hroom ((X₀.keeps F.keep) _ _ ho) rfl hco hgen rfl (codeRec_of (X₀.keeps F.keep) hcd) ?_
  refine peek1_go (o := ({ cls := .type "tuple", data := .seq vs.toArray } : Obj)) (X₀.keeps F.keep) (r := binds) ?_ _ g₁ hp hg
  generalize hD : s.heap.objs.size = D
  have l : ∀ p ∈ news, p.1 < D := fun p hp => hD ▸ Heap.lt_size (N p hp).1
  have N' := News.push F N ({ cls := .type "tuple", data := .seq vs.toArray } : Obj) rfl
  rw [hD] at N'
  have F' := F.push ({ cls := .type "tuple", data := .seq vs.toArray } : Obj)
  (have z1 := (groundX (s := { s with heap := s.heap.push ({ cls := .type "tuple", data := .seq vs.toArray } : Obj) }) (R := R) B F' N' hA hf hke); refine Mine.e0_4 z1 ?_; intro FG BG st lv; (try clear z1))
  refine wpAny_newFunctionEnv hcell (hloc D) (fun h₁ hns hsb => ⟨(T.nolimit.keeps F'.keep).fresh _ hsb, codeAny_func ?_⟩) hk
  have hk₁ : ∀ b o, (s.heap.push ({ cls := .type "tuple", data := .seq vs.toArray } : Obj)).get? b = some o → h₁.get? b = some o := fun b o e => hsb.extBut b o (Nat.ne_of_lt (Heap.lt_size e)) (Heap.get?_push_of_some _ e)
  refine wpAny_mono (h D _ (s.heap.push _).objs.size h₁ l FG ⟨hns, fun b o e => hk₁ b o (of_hideAll _ e), Nat.le_of_eq (hideAll_size _ _)⟩
    (fun p hp => ⟨hk₁ _ _ (N' p hp).1, Nat.ne_of_lt (Heap.lt_size (N' p hp).1), hideAll_none _ (List.mem_map_of_mem hp)⟩) BG (X₀.keeps st) (T.keeps st) (fun b o e n => hideAll_get _ (Heap.get?_push_of_some _ e) fun hb => ?_)) (fun fl s' hl => lv _ _ hl) fun _ _ y => y
  rcases List.mem_cons.mp hb with q | q
  · have := Heap.lt_size e
    rw [hD] at this
    have q : b = D := q
    exact Nat.lt_irrefl _ (q ▸ this)
  · exact n q
end
end Mine
theorem Mine.kw24 : True := by
  (k_with "2:k_mem" => (first | assumption | (refine' List.mem_append_right _ ?_; assumption) | (refine' List.Mem.tail _ ?_; k_mem)))
  (k_with "2:k_upd" => (exact upd_of (by assumption) (by k_mem)))
  (k_with "2:k_updF" => (exact updF_of (by assumption) (by k_mem)))
  (k_with "2:call builtin:dict.get" => ((k_here; (with_reducible show wpAny _ _ (call (Value.builtin "dict.get") [Value.ref _, Value.str _ _]) _ _ _); k_dflt (refine' kdg_get1 (knd := PySem.strKind _ _) ?kN ?kM ?kD ?kL (strKind_is _ _ _ _) _ ?kV ?_; (case kN => k_asm); (case kM => k_mem); (case kD => assumption); (case kL => assumption); (case kV => assumption)); (try dsimp only [Option.getD]))))
  (k_with "2:getMethod ref" => ((k_here; k_dflt ((with_reducible show wpAny _ _ (getMethod (Value.ref _) (Str.ofString "get") _) _ _ _); (refine' kdg_method (knd := PySem.strKind _ _) ?kN ?kM ?kD ?_; (case kN => k_asm); (case kM => k_mem); (case kD => assumption))))))
  (k_with "2:setItem ref str" => ((k_here; (with_reducible show wpAny _ _ (setItem (Value.ref _) (Value.str _ _) _) _ _ _); k_dflt (refine' kda_set (knd := PySem.strKind _ _) ?F ?N ?U ?d (strKind_is _ _ _ _) ?z ?_; (case F => k_asm); (case N => k_asm); (case U => k_updF); (case d => assumption); (case z => (rw [sizeLine_eq]; omega))); intro _ _ _ _ _)))
  (k_with "2:call builtin:len cons nil" => ((k_here; (with_reducible show wpAny _ _ (call (Value.builtin _) [Value.ref _]) _ _ _); k_dflt (refine' len_tuple ?kt ?kz ?_; (case kt => exact News.isTup (by k_asm) (by k_mem)); (case kz => (rw [List.size_toArray]; omega))))))
  (k_with "2:call type:tuple cons nil" => ((k_here; (with_reducible show wpAny _ _ (call (Value.type _) [Value.ref _]) _ _ _); k_dflt (refine' kde_tupleOf ?k1 ?k2 ?k3 ?k4 rfl ?_; (case k1 => k_asm); (case k2 => k_asm); (case k3 => exact News.isList (by k_asm) (by k_mem)); (case k4 => omega)); intro _ _ _ _ _)))
  (k_with "2:call type:bool cons nil" => ((k_here; (with_reducible show wpAny _ _ (call (Value.type _) [Value.ref _]) _ _ _); k_dflt (refine' call_bool_list ?k3 ?k4 ?_; (case k3 => exact News.isList (by k_asm) (by k_mem)); (case k4 => omega)))))
  (k_with "2:subscriptTail Name Name ref str" => ((k_here; k_dflt (refine' kda_item (knd := PySem.strKind _ _) ?kN ?kM ?kD (strKind_is _ _ _ _) ?kV ?_ ?ks ?kg; (case ks => with_unfolding_all rfl); (case kg => (intro _; with_unfolding_all rfl)); (case kN => k_asm); (case kM => k_mem); (case kD => assumption); (case kV => assumption)))))
  (k_with "2:call builtin:list.clear cons nil" => ((k_here; k_dflt (refine' kl_clear ?k1 ?k2 ?kU ?kn ?kz ?_; (case k1 => k_asm); (case k2 => k_asm); (case kU => k_upd); (case kn => (rw [Array.length_toList]; omega)); (case kz => (rw [Array.length_toList, sizeLine_eq]; omega))); intro _ _ _)))
  trivial
section
local macro_rules | `(tactic| walk_at $s:str) => `(tactic| k_extra $(Lean.Syntax.mkStrLit ("2:" ++ s.getString)))
local macro_rules | `(tactic| k_mem) => `(tactic| k_extra "2:k_mem")
local macro_rules | `(tactic| k_upd) => `(tactic| k_extra "2:k_upd")
local macro_rules | `(tactic| k_updF) => `(tactic| k_extra "2:k_updF")
theorem Mine.off25 : True := by (w_top off); trivial
section
local macro_rules | `(tactic| walk_at "no such") => `(tactic| skip)
namespace Mine
open LCg (NsObj lst lst_snoc ns_obj)
set_option maxHeartbeats 4000000
theorem Mine.kw26 : True := by
  (k_with "Node:cell_enter" => ((refine' code_defG ?k1 ?k2 ?k3 ?kN ?k5 ?kA ?kF ?kK ?k6 ?k7 ?k8 ?k9 ?kB ?_ ?c2 ?c3 ?c4 ?c5; (case kA => exact rfl); (case kF => exact rfl); (case kK => assumption); (case k1 => k_asm); (case k2 => k_asm); (case k3 => k_asm); (case kN => k_asm); (case k5 => k_asm); (case k6 => k_is); (case k7 => k_is); (case k8 => ktr_room); (case k9 => exact BindsTo.of_eq rfl); (case c5 => decide); (case kB => exact locs rfl); (case c2 => exact rfl); (case c3 => exact rfl); (case c4 => exact rfl); k_whole; intro _ _ _ _ _ _ Bvzq _ _ _; (try dsimp only); (try k_lift Bvzq); (try k_fold))))
  trivial
local macro_rules | `(tactic| cell_enter) => `(tactic| k_extra "Node:cell_enter")
theorem Mine.kw27 : True := by
  (k_with "Node:got_up" => ((refine' call_clsN ?k1 ?k2 ?k4 ?k5 ?k6 ?_; (case k1 => k_asm); (case k2 => k_asm); (case k4 => k_is); (case k5 => k_is); (case k6 => k_is); k_whole; intro _ _ _ _ _ l2zq _; (try k_lt2 l2zq); (refine' code_defG ?k1 ?k2 ?k3 ?kN ?k5 ?kA ?kF ?kK ?k6 ?k7 ?k8 ?k9 ?kB ?_ ?c2 ?c3 ?c4 ?c5; (case kA => exact rfl); (case kF => exact rfl); (case kK => assumption); (case k1 => k_asm); (case k2 => k_asm); (case k3 => k_asm); (case kN => k_asm); (case k5 => k_asm); (case k6 => k_is); (case k7 => k_is); (case k8 => ktr_room); (case k9 => exact BindsTo.of_eq rfl); (case c5 => decide); (case kB => exact locs rfl); (case c2 => exact rfl); (case c3 => exact rfl); (case c4 => exact rfl); k_whole; intro _ _ _ _ _ _ Bvzq _ _ _; (try dsimp only); (try k_lift Bvzq); (try k_fold)))))
  trivial
local macro_rules | `(tactic| got_up) => `(tactic| k_extra "Node:got_up")
theorem c_node (w : World) (k : Str) (t : Tok) : PCon w 54 [.str k t] 3 20 (fun _ => True) (fun v nw => ∃ x d l t u c, v = .ref x ∧ nw = [(l, W.listOf #[] c), (x, (⟨.ref 54, some d, .plain, #[some (.str k t), some (.int 0 u), some (.ref l)]⟩ : Obj)), (d, dictOf [] 0)] ∧ d < x ∧ x < l) := by
  intro mean mg mb dp un gd cn cs a ccd cl outer A₀ base h₀ L m s Q E B F X T hk hd' hu hpre ret
  k_dflt got_up
  k_steps
  (rename GSub _ _ _ => GS)
  (rename (∀ b o, _ → _ ∧ _) => up)
  (rename (_ ∧ _) => hlt)
  exact pretN ret up GS (by assumption) (by assumption) (by assumption) (by assumption) ⟨_, _, _, _, _, _, rfl, rfl, by assumption, hlt.1⟩
theorem c_info (w : World) (X DX D : Addr) (rv : Value) (po fi : Int) (es : List NE) (as : List AE) (I : Led) (k : Str) (t : Tok) (TS : TsAt w X DX D rv po fi es as I) (hsz : es.length ≤ 1000) :
    MCon w 94 [.ref X, .str k t] 5 200 I (fun _ => True) (fun v I' => ∃ as' a, TsAt w X DX D rv po fi (getF es k) as' I' ∧ as'[idxF (getF es k) k]? = some a ∧ v = .ref a.x) := by
  intro mean mg mb dp un gd cn cs a ccd cl outer A₀ base h₀ L m s Q E B F X N T hk hd' hu hpre ret
  (have z1 := (id TS); first | (refine Mine.hideP ?_; intro Gz kGz; rcases z1 with ⟨nd, hX, ⟨k1, k2, k3, k4, t1, t2, t3, t4, u, v, hF⟩, ⟨o, hDm, hD⟩, lo, hl, hN, dd, ad, jx, jl⟩; all_goals (refine kGz ?_; clear kGz Gz)) | rcases z1 with ⟨nd, hX, ⟨k1, k2, k3, k4, t1, t2, t3, t4, u, v, hF⟩, ⟨o, hDm, hD⟩, lo, hl, hN, dd, ad, jx, jl⟩)
  k_dflt cell_enter
  (rename GSub _ _ _ => GS)
  (rename Fr _ _ _ _ => F1)
  (rename News _ _ _ _ => N1)
  have hrl := refs_len hl
  by_cases hany : es.any (fun e => decide (e.key = k)) = true
  · have hlt : idxF es k < as.length := hl ▸ idxF_lt hany
    have hv : valueAt (refsOf es as) k = some (.ref as[idxF es k].x) := by rw [valueAt_refs hl, List.getElem?_eq_getElem hlt]; rfl
    k_steps
    have hg : getF es k = es := by unfold getF; rw [if_pos hany]
    exact mret ret GS (by assumption) (by assumption) (by assumption) (by assumption) (fun q hq => hq) ⟨as, as[idxF es k], by rw [hg]; exact ⟨nd, hX, ⟨_, _, _, _, _, _, _, _, _, _, hF⟩, ⟨o, hDm, hD⟩, lo, hl, hN, dd, ad, jx, jl⟩, by rw [hg]; exact List.getElem?_eq_getElem hlt, rfl⟩
  · have hv : valueAt (refsOf es as) k = none := by rw [valueAt_refs hl, idxF_ge hany, ← hl]; simp
    iterate 29 one_sign
    refine' pcall (c_node w k t) ?k1 ?k2 ?k3 ?k4 ?k5 ?k6 ?k7 ?k8 ?k9 ?_
    case k1 => k_asm
    case k2 => k_asm
    case k3 => k_asm
    case k4 => k_asm
    case k5 => k_asm
    case k6 => exact rfl
    case k7 => ktr_room
    case k8 => ktr_units
    case k9 => exact trivial
    (intro v' h2 tk2 nw2 F2 N2 K2 fr2 z2h; refine Mine.e6_4 z2h ?_; intro x2 d2 l2 t2' u2 c2 z2x6 z2x7 hdx hxl; (try clear z2h); (rcases z2x6 with rfl); (rcases z2x7 with rfl))
    (rename News _ _ _ I => N')
    have nd2 := Nd.app (Nd.three (o := W.listOf #[] c2) (o' := (⟨.ref 54, some d2, .plain, #[some (.str k t2'), some (.int 0 u2), some (.ref l2)]⟩ : Obj)) (o'' := dictOf [] 0) hxl hdx) nd (fresh_ne N' fr2)
    clear N'
    k_steps
    refine mret ret GS (by assumption) (by assumption) (by assumption) (by assumption) (fun q hq => hq) ⟨_, ⟨x2, d2, l2⟩, TS.new nd2 hany hv (by assumption), ?_, rfl⟩
    have hg : getF es k = es ++ [⟨k, 0, []⟩] := by unfold getF; rw [if_neg hany]
    rw [hg, idxF_snoc hany, ← hl, List.getElem?_append_right (Nat.le_refl _), Nat.sub_self]
    rfl
end Mine
end
theorem Mine.off28 : True := by (w_top off); trivial
section
local macro_rules | `(tactic| walk_at $s:str) => `(tactic| k_extra $(Lean.Syntax.mkStrLit ("Add:" ++ s.getString)))
local macro_rules | `(tactic| walk_at "no such") => `(tactic| skip)
namespace Mine
open LCg (NsObj lst lst_snoc ns_obj)
set_option maxHeartbeats 4000000
theorem Mine.kw29 : True := by
  (k_with "Add:cell_enter" => ((refine' code_restG ?k1 ?k2 ?k3 ?kN ?k5 ?kA ?kF ?kK ?k6 ?k7 ?k8 ?kP ?kG ?kB ?_ ?c2 ?c3 ?c4 ?c5; (case kA => exact rfl); (case kF => exact rfl); (case kK => assumption); (case k1 => k_asm); (case k2 => k_asm); (case k3 => k_asm); (case kN => k_asm); (case k5 => k_asm); (case k6 => k_is); (case k7 => k_is); (case k8 => ktr_room); (case kP => exact list_cases (P := fun zs => peek1 _ _ (bindArgs _ ⟨_ :: _ :: zs, []⟩) = some (({ cls := .type "tuple", data := .seq zs.toArray } : Obj), fun D => some [(Str.ofString "self", _), (Str.ofString "node", _), (Str.ofString "predecessors", .ref D)])) rfl (fun _ => rfl) (fun _ _ => rfl) (fun _ _ _ => rfl) (fun _ _ _ _ => rfl) (fun _ _ _ _ _ => rfl) (fun _ _ _ _ _ _ => rfl) (fun _ _ _ _ _ _ _ => rfl) (fun _ _ _ _ _ _ _ _ => rfl) _ (by assumption)); (case kG => exact fun _ => rfl); (case kB => exact fun _ => locs rfl); (case c5 => decide); (case c2 => exact rfl); (case c3 => exact rfl); (case c4 => exact rfl); k_whole; intro _ _ _ _ _ _ _ _ Bvzq _ _ _; (try dsimp only); (try k_lift Bvzq); (try k_fold))))
  trivial
local macro_rules | `(tactic| cell_enter) => `(tactic| k_extra "Add:cell_enter")
noncomputable def addP (node : Str) (es : List NE) (p : Str) : List NE := setE p (fun e => { e with su := e.su ++ [node] }) (getF es p)
noncomputable def addF (es : List NE) (node : Str) (ps : List Str) : List NE := ps.foldl (addP node) (setE node (fun e => { e with np := e.np + ps.length }) (getF es node))
theorem Mine.kw30 : True := by
  (k_with "Add:exec For Name Name cons nil" => ((k_here; k_dflt (refine For_in ?_))))
  trivial
noncomputable abbrev tupOf (zs : List Value) : Obj := { cls := .type "tuple", data := .seq zs.toArray }
noncomputable def AddJ (w : World) (X DX D : Addr) (po fi : Int) (k : Str) (t : Tok) (T : Addr) (zs : List Value) (fs : Nat → List NE) (i : Nat) (m : Nm) (nw : Led) : Prop :=
  m (Str.ofString "self") = some (.ref X) ∧ m (Str.ofString "node") = some (.str k t) ∧ ∃ as I, nw = (T, tupOf zs) :: I ∧ TsAt w X DX D .none po fi (fs i) as I ∧ ∀ p ∈ I, p.1 ≠ T
noncomputable def addN (es : List NE) (k : Str) (ps : List Str) (i : Nat) : List NE := (ps.take i).foldl (addP k) (setE k (fun e => { e with np := e.np + ps.length }) (getF es k))
theorem addP_len {k : Str} {es : List NE} {p : Str} : (addP k es p).length ≤ es.length + 1 := by unfold addP; rw [setE_len]; exact getF_len
theorem addN_len {es : List NE} {k : Str} {ps : List Str} (i : Nat) : (addN es k ps i).length ≤ es.length + 1 + i := by
  have gen : ∀ (l : List Str) (b : List NE), (l.foldl (addP k) b).length ≤ b.length + l.length := by
    intro l
    induction l with
    | nil => exact fun b => Nat.le_refl _
    | cons p r ih =>
      intro b
      have := ih (addP k b p)
      have := addP_len (k := k) (es := b) (p := p)
      rw [List.foldl_cons, List.length_cons]; omega
  have h1 := gen (ps.take i) (setE k (fun e => { e with np := e.np + ps.length }) (getF es k))
  rw [setE_len, List.length_take] at h1
  have := getF_len (es := es) (k := k)
  unfold addN
  omega
theorem addN_succ {es : List NE} {k p : Str} {ps : List Str} {i : Nat} (h : ps[i]? = some p) : addN es k ps (i + 1) = addP k (addN es k ps i) p := by
  unfold addN
  rw [List.take_add_one, List.foldl_append, h]; rfl
theorem addP_su {k p : Str} {es : List NE} {b : Nat} (h : SuB es b) : SuB (addP k es p) (b + 1) := by
  unfold addP
  exact (h.get p).set (Nat.le_succ _) fun e he => by
    show (e.su ++ [k]).length ≤ b + 1
    rw [List.length_append]; exact Nat.succ_le_succ (h.get p e he)
theorem addN_su {es : List NE} {k : Str} {ps : List Str} {b : Nat} (h : SuB es b) (i : Nat) : SuB (addN es k ps i) (b + i) := by
  have gen : ∀ (l : List Str) (es : List NE) (b : Nat), SuB es b → SuB (l.foldl (addP k) es) (b + l.length) := by
    intro l
    induction l with
    | nil => exact fun es b h => h
    | cons p r ih =>
      intro es b h
      rw [List.foldl_cons, List.length_cons]
      have := ih _ _ (addP_su (k := k) (p := p) h)
      rwa [Nat.add_right_comm, Nat.add_assoc] at this
  have h1 := gen (ps.take i) (setE k (fun e => { e with np := e.np + ps.length }) (getF es k)) b ((h.get k).set (Nat.le_refl _) fun e he => h.get k e he)
  rw [List.length_take] at h1
  exact fun e he => Nat.le_trans (h1 e he) (Nat.add_le_add_left (Nat.min_le_left _ _) b)
theorem addN_all {es : List NE} {k : Str} {ps : List Str} : addN es k ps ps.length = addF es k ps := by unfold addN addF; rw [List.take_length]
theorem strs_at {zs : List Value} {ps : List Str} (h : StrsAre zs ps) {i : Nat} {v : Value} (hv : zs[i]? = some v) : ∃ p t, v = .str p t ∧ ps[i]? = some p := by
  have hlt := (List.getElem?_eq_some_iff.mp hv).1
  rw [h.length] at hlt
  obtain ⟨t, ht⟩ := h.get i ps[i] (List.getElem?_eq_getElem hlt)
  rw [ht] at hv
  exact ⟨ps[i], t, (Option.some.inj hv).symm, List.getElem?_eq_getElem hlt⟩
theorem c_add (w : World) (X DX D : Addr) (po fi : Int) (es : List NE) (as : List AE) (I : Led) (k : Str) (t : Tok) (zs : List Value) (ps : List Str) (hz : StrsAre zs ps) (TS : TsAt w X DX D .none po fi es as I) (hsz : es.length ≤ 900) (hps : ps.length ≤ 8) {b : Nat} (hb : b ≤ 900) (hsu : SuB es b) :
    MCon w 101 (.ref X :: .str k t :: zs) 7 300 I (fun _ => True) (fun v I' => ∃ as', TsAt w X DX D .none po fi (addF es k ps) as' I') := by
  intro mean mg mb dp un gd cn cs a ccd cl outer A₀ base h₀ L m s Q E B F X N T hk hd' hu hpre ret
  (have z1 := (id TS); first | (refine Mine.hideP ?_; intro Gz kGz; rcases z1 with ⟨nd, hX, ⟨k1, k2, k3, k4, t1, t2, t3, t4, u, v, hF⟩, ⟨o, hDm, hD⟩, lo, hl, hN, dd, ad, jx, jl⟩; all_goals (refine kGz ?_; clear kGz Gz)) | rcases z1 with ⟨nd, hX, ⟨k1, k2, k3, k4, t1, t2, t3, t4, u, v, hF⟩, ⟨o, hDm, hD⟩, lo, hl, hN, dd, ad, jx, jl⟩)
  have hz8 : zs.length ≤ 8 := by rw [hz.length]; exact hps
  k_dflt cell_enter
  (rename GSub _ _ _ => GS)
  (rename Fr _ _ _ _ => F1)
  (rename News _ _ _ _ => N1)
  iterate 22 one_sign
  (rename News _ _ _ _ => N2)
  (rename (∀ p ∈ I, @LT.lt Addr _ _ _) => l1)
  obtain ⟨D9, eD9⟩ := name_head N2
  dsimp only at eD9
  subst eD9
  refine' mcall (c_info w _ DX D .none po fi es as I k t TS (by omega)) (rest := [(D9, ({ cls := .type "tuple", data := .seq zs.toArray } : Obj))]) ?k1 ?k2 ?k3 ?k4 ?k5 ?k6 ?k7 ?k8 ?k9 ?kn ?kr ?_
  case k1 => k_asm
  case k2 => k_asm
  case k3 => k_asm
  case k4 => exact N2
  case k5 => k_asm
  case k6 => exact rfl
  case k7 => ktr_room
  case k8 => ktr_units
  case k9 => exact trivial
  case kn => exact fun q hq => List.mem_cons_of_mem _ hq
  case kr => exact fun q hq => by rw [List.mem_singleton.mp hq]; exact ⟨List.mem_cons_self, fun p hp => Nat.ne_of_lt (l1 p hp)⟩
  (intro v' h2 tk2 I2 F2 N2 K2 fr2 off2 z2h; refine Mine.e2_3 z2h ?_; intro as2 z2x1 TS2 ha2 z2x4; (try clear z2h); (first | (refine Mine.hideP ?_; intro Gz kGz; rcases z2x1 with ⟨x2, d2, ll2⟩; all_goals (refine kGz ?_; clear kGz Gz)) | rcases z2x1 with ⟨x2, d2, ll2⟩); (rcases z2x4 with rfl))
  obtain ⟨hlt2, hk2⟩ := idxF_get (es := es) (k := k)
  (have z3 := (TS2.node ha2); refine Mine.e1_2 z3 ?_; intro e2 he2 z3r; (try clear z3); (refine Mine.e4_4 z3r ?_; intro t2' u2 vs2 c2 h21 h22 h23 h24; (try clear z3r)))
  have nd3 := Nd.app (Nd.sing (p := (D9, tupOf zs))) TS2.nd fun p hp q hq e => by
    rw [List.mem_singleton.mp hp] at e; exact off2 q hq _ (List.mem_singleton.mpr rfl) e.symm
  iterate 15 one_sign
  have hkey := hk2 e2 he2
  (rename News _ _ _ (updA _ _ _) => N4)
  have hz' : (zs.toArray.size : Int) = ps.length := by rw [List.size_toArray, hz.length]
  have hx9 : @Ne Nat D9 x2 := fun e => off2 _ h21 _ (List.mem_singleton.mpr rfl) e.symm
  simp only [hz', List.singleton_append, updA_ne hx9] at N4
  isplit
  (rename Fr _ _ _ _ => F5)
  (rename News _ _ _ _ => N5)
  k_dflt (refine loop_tup (AddJ w _ DX D po fi k t D9 zs (addN es k ps)) rfl F5 N5 ⟨tupOf zs, rfl, ⟨_, rfl⟩, Or.inr ?st⟩ ⟨rfl, rfl, as2, _, rfl, ?t0, ?o0⟩ ?turn ?last)
  case st =>
    (intro i m nw z4h; refine Mine.e0_3 z4h ?_; intro _ _ z4r; (try clear z4h); (refine Mine.e2_3 z4r ?_; intro as' I' z4rx2 _ _; (try clear z4r); (rcases z4rx2 with rfl)))
    exact List.mem_cons_self
  case t0 =>
    subst hkey
    exact TS2.setx he2 ha2 h21 (f := fun e => { e with np := e.np + ps.length }) (fun e => ⟨rfl, rfl⟩)
  case o0 =>
    intro p hp
    rcases mem_of_mem_updA hp with rfl | ⟨hp, _⟩
    · exact Ne.symm hx9
    · exact off2 _ hp _ (List.mem_singleton.mpr rfl)
  case turn =>
    (intro i x m nw oI h tk E' hx z5h; refine Mine.e0_3 z5h ?_; intro e1 e2' z5r; (try clear z5h); (refine Mine.e2_3 z5r ?_; intro as3 I3 z5rx2 TS3 off3; (try clear z5r); (rcases z5rx2 with rfl)); intro ho F6 N6)
    have F7 := fr_pin (Str.ofString "self") (fr_pin (Str.ofString "node") F6 e2') e1
    clear F5 N5 F6
    obtain ⟨It, eIt⟩ := name_head N6
    dsimp only at eIt N6 ho
    rw [← eIt] at N6 ho
    (have z6 := (strs_at hz (by simpa using hx)); refine Mine.e2_2 z6 ?_; intro p tp z6x2 hp; (try clear z6); (rcases z6x2 with rfl))
    have hlen := addN_len (es := es) (k := k) (ps := ps) i
    have hi : i < zs.toArray.size := (Array.getElem?_eq_some_iff.mp hx).1
    rw [List.size_toArray] at hi
    (have z7 := (id TS3); first | (refine Mine.hideP ?_; intro Gz kGz; rcases z7 with ⟨nd', hX', ⟨k1', k2', k3', k4', t1', t2'', t3', t4', u', v', hF'⟩, _⟩; all_goals (refine kGz ?_; clear kGz Gz)) | rcases z7 with ⟨nd', hX', ⟨k1', k2', k3', k4', t1', t2'', t3', t4', u', v', hF'⟩, _⟩)
    iterate 12 one_sign
    (rename News _ _ _ _ => N8)
    have hIT : D9 ≠ It := ho _ List.mem_cons_self
    refine' mcall (c_info w _ DX D .none po fi _ as3 I3 p tp TS3 (by omega)) (rest := [(It, oI), (D9, tupOf zs)]) ?k1 ?k2 ?k3 ?k4 ?k5 ?k6 ?k7 ?k8 ?k9 ?kn ?kr ?_
    case k1 => k_asm
    case k2 => k_asm
    case k3 => k_asm
    case k4 => exact N8
    case k5 => k_asm
    case k6 => exact rfl
    case k7 => ktr_room
    case k8 => ktr_units
    case k9 => exact trivial
    case kn => exact fun q hq => List.mem_cons_of_mem _ (List.mem_cons_of_mem _ hq)
    case kr =>
      intro q hq
      rcases List.mem_cons.mp hq with rfl | hq
      · exact ⟨List.mem_cons_self, fun p hp => ho p (List.mem_cons_of_mem _ hp)⟩
      · rw [List.mem_singleton.mp hq]; exact ⟨List.mem_cons_of_mem _ List.mem_cons_self, off3⟩
    (intro v' h4 tk4 I4 F4 N4 K4 fr4 off4 z8h; refine Mine.e2_3 z8h ?_; intro as4 z8x1 TS4 ha4 z8x4; (try clear z8h); (first | (refine Mine.hideP ?_; intro Gz kGz; rcases z8x1 with ⟨x4, d4, ll4⟩; all_goals (refine kGz ?_; clear kGz Gz)) | rcases z8x1 with ⟨x4, d4, ll4⟩); (rcases z8x4 with rfl))
    clear N8
    obtain ⟨hlt4, hk4⟩ := idxF_get (es := addN es k ps i) (k := p)
    (have z9 := (TS4.node ha4); refine Mine.e1_2 z9 ?_; intro e4 he4 z9r; (try clear z9); (refine Mine.e4_4 z9r ?_; intro t4' u4 vs4 c4 h41 h42 h43 h44; (try clear z9r)))
    have nd5 := Nd.app (Nd.cons (p := It) (o := oI) (Nd.sing (p := (D9, tupOf zs))) fun q hq => by rw [List.mem_singleton.mp hq]; exact hIT) TS4.nd fun p hp q hq e => off4 q hq p hp e.symm
    have hsu4 := ((addN_su (k := k) (ps := ps) hsu i).get p) e4 (List.mem_of_getElem? he4)
    have hvs4 := h44.length
    rw [Array.length_toList] at hvs4
    isplit
    (rename News _ _ _ (updA _ _ _) => N9)
    have hl1 : @Ne Nat It ll4 := fun e => off4 _ h43 _ List.mem_cons_self e.symm
    have hl2 : @Ne Nat D9 ll4 := fun e => off4 _ h43 _ (List.mem_cons_of_mem _ (List.mem_singleton.mpr rfl)) e.symm
    simp only [List.cons_append, List.nil_append, updA_ne hl1, updA_ne hl2] at N9
    have hkey4 := hk4 e4 he4
    have TS5 := TS4.setl he4 ha4 h43 (vs' := vs4.push (.str k t)) (c' := c4 + 1) (f := fun e => { e with su := e.su ++ [k] }) (fun e => ⟨rfl, rfl⟩) (by rw [Array.toList_push]; exact strs_snoc h44)
    rw [hkey4] at TS5
    have off5 : ∀ q ∈ updA ll4 (W.listOf (vs4.push (.str k t)) (c4 + 1)) I4, q.1 ≠ It ∧ q.1 ≠ D9 := fun q hq => by
      rcases mem_of_mem_updA hq with rfl | ⟨hq, _⟩
      · exact ⟨Ne.symm hl1, Ne.symm hl2⟩
      · exact ⟨off4 _ hq _ List.mem_cons_self, off4 _ hq _ (List.mem_cons_of_mem _ (List.mem_singleton.mpr rfl))⟩
    subst eIt
    refine TL.next (nw := (D9, tupOf zs) :: updA ll4 (W.listOf (vs4.push (.str k t)) (c4 + 1)) I4) (by k_asm) N9 (fun p hp => hp) (fun q hq => ?_) ⟨rfl, rfl, as4, _, rfl, ?_, fun q hq => (off5 q hq).2⟩
    · simp only [List.map_cons, List.map_nil, List.mem_singleton]
      rcases List.mem_cons.mp hq with rfl | hq
      · exact hIT
      · exact (off5 q hq).1
    · rw [addN_succ hp]
      exact TS5
  case last =>
    (intro m nw h tk E' z10h; refine Mine.e0_3 z10h ?_; intro e1 e2' z10r; (try clear z10h); (refine Mine.e2_3 z10r ?_; intro as3 I3 z10rx2 TS3 off3; (try clear z10r); (rcases z10rx2 with rfl)); intro F6 N6)
    have F7 := fr_pin (Str.ofString "self") (fr_pin (Str.ofString "node") F6 e2') e1
    clear F5 N5 F6
    isplit
    rw [List.size_toArray, hz.length, addN_all] at TS3
    exact mret ret GS (by assumption) (by assumption) (by assumption) (by assumption) (fun q hq => List.mem_cons_of_mem _ hq) ⟨as3, TS3⟩
end Mine
end
theorem Mine.off31 : True := by (w_top off); trivial
section
local macro_rules | `(tactic| walk_at $s:str) => `(tactic| k_extra $(Lean.Syntax.mkStrLit ("Active:" ++ s.getString)))
namespace Mine
open LCg (NsObj lst lst_snoc ns_obj)
set_option maxHeartbeats 4000000
theorem Mine.kw32 : True := by
  (k_with "Active:cell_enter" => ((refine' code_defG ?k1 ?k2 ?k3 ?kN ?k5 ?kA ?kF ?kK ?k6 ?k7 ?k8 ?k9 ?kB ?_ ?c2 ?c3 ?c4 ?c5; (case kA => exact rfl); (case kF => exact rfl); (case kK => assumption); (case k1 => k_asm); (case k2 => k_asm); (case k3 => k_asm); (case kN => k_asm); (case k5 => k_asm); (case k6 => k_is); (case k7 => k_is); (case k8 => ktr_room); (case k9 => exact BindsTo.of_eq rfl); (case c5 => decide); (case kB => exact locs rfl); (case c2 => exact rfl); (case c3 => exact rfl); (case c4 => exact rfl); k_whole; intro _ _ _ _ _ _ Bvzq _ _ _; (try dsimp only); (try k_lift Bvzq); (try k_fold))))
  trivial
local macro_rules | `(tactic| cell_enter) => `(tactic| k_extra "Active:cell_enter")
/-- the sorter once prepared: the list of what is ready besides -/
structure TrAt (w : World) (X DX D R : Addr) (rd : List Str) (po fi : Int) (es : List NE) (as : List AE) (I : Led) : Prop where
  ts : TsAt w X DX D (.ref R) po fi es as I
  hR : ∃ vs c, (R, W.listOf vs c) ∈ I ∧ StrsAre vs.toList rd
  rl : ∀ a ∈ as, R ≠ a.l
theorem c_active (w : World) (X DX D R : Addr) (rd : List Str) (po fi : Int) (es : List NE) (as : List AE) (I : Led) (TR : TrAt w X DX D R rd po fi es as I) (hrd : rd.length ≤ 1000) :
    MCon w 120 [.ref X] 1 200 I (fun _ => True) (fun v I' => v = .bool (decide (fi < po) || !rd.isEmpty) ∧ TrAt w X DX D R rd po fi es as I') := by
  intro mean mg mb dp un gd cn cs a ccd cl outer A₀ base h₀ L m s Q E B F X N T hk hd' hu hpre ret
  (have z1 := (id TR); first | (refine Mine.hideP ?_; intro Gz kGz; rcases z1 with ⟨⟨nd, hX, ⟨k1, k2, k3, k4, t1, t2, t3, t4, u, v, hF⟩, ⟨o, hDm, hD⟩, lo, hl, hN, dd, ad, jx, jl⟩, ⟨vs, c, hR, hrs⟩, rl⟩; all_goals (refine kGz ?_; clear kGz Gz)) | rcases z1 with ⟨⟨nd, hX, ⟨k1, k2, k3, k4, t1, t2, t3, t4, u, v, hF⟩, ⟨o, hDm, hD⟩, lo, hl, hN, dd, ad, jx, jl⟩, ⟨vs, c, hR, hrs⟩, rl⟩)
  have hvz := hrs.length
  rw [Array.length_toList] at hvz
  k_dflt cell_enter
  (rename GSub _ _ _ => GS)
  (rename Fr _ _ _ _ => F1)
  (rename News _ _ _ _ => N1)
  iterate 26 one_sign
  · isplit
    refine mret ret GS (by assumption) (by assumption) (by assumption) (by assumption) (fun q hq => hq) ⟨?_, TR⟩
    by_cases h : fi < po <;> simp_all
  · isplit
    refine mret ret GS (by assumption) (by assumption) (by assumption) (by assumption) (fun q hq => hq) ⟨?_, TR⟩
    have he : vs.isEmpty = rd.isEmpty := by
      rw [Bool.eq_iff_iff, Array.isEmpty_iff_size_eq_zero, List.isEmpty_iff_length_eq_zero, hvz]
    rw [he]
    by_cases h : fi < po
    · simp_all
    · simp_all
      try (intro hh; omega)
theorem Mine.kw33 : True := by
  (k_with "Active:exec For Name Name cons nil" => ((k_here; k_dflt (refine For_in ?_))))
  trivial
noncomputable def outE (es : List NE) (ps : List Str) : List NE := ps.foldl (fun es k => setE k (fun e => { e with np := -1 }) es) es
noncomputable def OutJ (w : World) (X DX D R T : Addr) (rd : List Str) (po fi : Int) (es : List NE) (zs : List Value) (i : Nat) (m : Nm) (nw : Led) : Prop :=
  m (Str.ofString "self") = some (.ref X) ∧ m (Str.ofString "n2i") = some (.ref D) ∧ m (Str.ofString "result") = some (.ref T) ∧ ∃ as I, nw = (T, tupOf zs) :: I ∧ TrAt w X DX D R rd po fi (outE es (rd.take i)) as I ∧ ∀ p ∈ I, p.1 ≠ T
theorem outE_succ {es : List NE} {ps : List Str} {i : Nat} {k : Str} (h : ps[i]? = some k) : outE es (ps.take (i + 1)) = setE k (fun e => { e with np := -1 }) (outE es (ps.take i)) := by
  unfold outE
  rw [List.take_add_one, List.foldl_append, h]; rfl
theorem outE_keys {es : List NE} : ∀ {ps : List Str}, (outE es ps).map (·.key) = es.map (·.key) := by
  intro ps
  unfold outE
  induction ps generalizing es with
  | nil => rfl
  | cons k r ih => rw [List.foldl_cons, ih, setE_key (f := fun e => { e with np := -1 }) fun _ => rfl]
theorem TrAt.setx {w : World} {X DX D R : Addr} {rd : List Str} {po fi : Int} {es : List NE} {as : List AE} {I : Led} (T : TrAt w X DX D R rd po fi es as I) {i : Nat} {e : NE} {a : AE} (he : es[i]? = some e) (ha : as[i]? = some a) {t u u' : Tok} (hm : (a.x, (⟨.ref 54, some a.d, .plain, #[some (.str e.key t), some (.int e.np u), some (.ref a.l)]⟩ : Obj)) ∈ I) (f : NE → NE) (hf : ∀ e, (f e).key = e.key ∧ (f e).su = e.su) :
    TrAt w X DX D R rd po fi (setE e.key f es) as (updA a.x (⟨.ref 54, some a.d, .plain, #[some (.str e.key t), some (.int (f e).np u'), some (.ref a.l)]⟩ : Obj) I) := by
  (first | (refine Mine.hideP ?_; intro Gz kGz; rcases T with ⟨ts, ⟨vs, c, hR, hs⟩, rl⟩; all_goals (refine kGz ?_; clear kGz Gz)) | rcases T with ⟨ts, ⟨vs, c, hR, hs⟩, rl⟩)
  exact ⟨ts.setx he ha hm f hf, ⟨vs, c, mem_ne hR (ts.nd.ne hR hm fun q => by cases q), hs⟩, rl⟩
theorem TrAt.sub {w : World} {X DX D R : Addr} {rd : List Str} {po fi : Int} {es : List NE} {as : List AE} {I : Led} (T : TrAt w X DX D R rd po fi es as I) {I' : Led} (nd : Nd I') (h : ∀ p ∈ I, p ∈ I') : TrAt w X DX D R rd po fi es as I' := by
  (first | (refine Mine.hideP ?_; intro Gz kGz; rcases T with ⟨ts, ⟨vs, c, hR, hs⟩, rl⟩; all_goals (refine kGz ?_; clear kGz Gz)) | rcases T with ⟨ts, ⟨vs, c, hR, hs⟩, rl⟩)
  exact ⟨ts.sub nd h, ⟨vs, c, h _ hR, hs⟩, rl⟩
theorem TrAt.setr {w : World} {X DX D R : Addr} {rd : List Str} {po fi : Int} {es : List NE} {as : List AE} {I : Led} (T : TrAt w X DX D R rd po fi es as I) {vs vs' : Array Value} {c c' : Nat} (hm : (R, W.listOf vs c) ∈ I) {rd' : List Str} (hs : StrsAre vs'.toList rd') :
    TrAt w X DX D R rd' po fi es as (updA R (W.listOf vs' c') I) := by
  (first | (refine Mine.hideP ?_; intro Gz kGz; rcases T with ⟨ts, _, rl⟩; all_goals (refine kGz ?_; clear kGz Gz)) | rcases T with ⟨ts, _, rl⟩)
  have oc : ∀ {b : Addr} {ob : Obj}, (b, ob) ∈ I → ob.cls ≠ .type "list" → R ≠ b := fun h hc => ts.nd.ne hm h fun q => hc (by rw [← q])
  (refine Mine.e1_2 ts.hD ?_; intro o hDm hD; (try clear ts.hD))
  (refine Mine.e10_1 ts.hF ?_; intro k1 k2 k3 k4 t1 t2 t3 t4 u v hF; (try clear ts.hF))
  refine ⟨ts.other (oc ts.hX (by simp)) (oc hF (by simp)) (oc hDm (by rw [dict_cls hD]; simp)) fun a ha => ?_, ⟨vs', c', mem_self hm, hs⟩, rl⟩
  obtain ⟨i, hi⟩ := List.getElem?_of_mem ha
  (have z7 := (ts.node hi); refine Mine.e1_2 z7 ?_; intro e _ z7r; (try clear z7); (refine Mine.e4_4 z7r ?_; intro t u ws d h1 h2 h3 h4; (try clear z7r)))
  exact ⟨oc h1 (by simp), oc h2 (by simp), rl a ha⟩
theorem TrAt.setf {w : World} {X DX D R : Addr} {rd : List Str} {po fi : Int} {es : List NE} {as : List AE} {I : Led} (T : TrAt w X DX D R rd po fi es as I) {k1 k2 k3 k4 : Int} {t1 t2 t3 t4 u v : Tok} (hm : (DX, fldsOf k1 k2 k3 k4 t1 t2 t3 t4 u v D (.ref R) po fi) ∈ I) {k1' k2' k3' k4' : Int} {t1' t2' t3' t4' u' v' : Tok} (po' fi' : Int) :
    TrAt w X DX D R rd po' fi' es as (updA DX (fldsOf k1' k2' k3' k4' t1' t2' t3' t4' u' v' D (.ref R) po' fi') I) := by
  (first | (refine Mine.hideP ?_; intro Gz kGz; rcases T with ⟨ts, ⟨vs, c, hR, hs⟩, rl⟩; all_goals (refine kGz ?_; clear kGz Gz)) | rcases T with ⟨ts, ⟨vs, c, hR, hs⟩, rl⟩)
  exact ⟨ts.setf hm _ _ _, ⟨vs, c, mem_ne hR (ts.nd.ne hR hm fun q => absurd (congrArg Obj.cls q) (by simp)), hs⟩, rl⟩
theorem c_ready (w : World) (X DX D R : Addr) (rd : List Str) (po fi : Int) (es : List NE) (as : List AE) (I : Led) (TR : TrAt w X DX D R rd po fi es as I) (hrd : rd.length ≤ 1000) (hne : 0 < rd.length) (hin : ∀ k ∈ rd, k ∈ es.map (·.key)) :
    MCon w 113 [.ref X] 1 200 I (fun _ => True) (fun v I' => ∃ T zs J as', v = .ref T ∧ I' = (T, tupOf zs) :: J ∧ StrsAre zs rd ∧ (∀ p ∈ J, p.1 ≠ T) ∧ TrAt w X DX D R [] (po + rd.length) fi (outE es rd) as' J) := by
  intro mean mg mb dp un gd cn cs a ccd cl outer A₀ base h₀ L m s Q E B F X N T hk hd' hu hpre ret
  (have z9 := (id TR); first | (refine Mine.hideP ?_; intro Gz kGz; rcases z9 with ⟨⟨nd, hX, ⟨k1, k2, k3, k4, t1, t2, t3, t4, u, v, hF⟩, ⟨o, hDm, hD⟩, lo, hl, hN, dd, ad, jx, jl⟩, ⟨vs, c, hR, hrs⟩, rl⟩; all_goals (refine kGz ?_; clear kGz Gz)) | rcases z9 with ⟨⟨nd, hX, ⟨k1, k2, k3, k4, t1, t2, t3, t4, u, v, hF⟩, ⟨o, hDm, hD⟩, lo, hl, hN, dd, ad, jx, jl⟩, ⟨vs, c, hR, hrs⟩, rl⟩)
  have hvz := hrs.length
  rw [Array.length_toList] at hvz
  k_dflt cell_enter
  (rename GSub _ _ _ => GS)
  (rename Fr _ _ _ _ => F1)
  (rename News _ _ _ _ => N1)
  isplit
  (rename Fr _ _ _ _ => F2)
  (rename News _ _ _ _ => N2)
  (rename (∀ p ∈ I, @LT.lt Addr _ _ _) => l1)
  obtain ⟨T9, eT9⟩ := name_head N2
  dsimp only at eT9
  subst eT9
  k_dflt (refine loop_tup (OutJ w _ DX D R T9 rd po fi es vs.toList) rfl F2 N2 ⟨tupOf vs.toList, rfl, ⟨_, rfl⟩, Or.inr ?st⟩ ⟨rfl, rfl, rfl, as, I, rfl, ?t0, fun p hp => Nat.ne_of_lt (l1 p hp)⟩ ?turn ?last)
  case st =>
    (intro i m nw z10h; refine Mine.e0_4 z10h ?_; intro _ _ _ z10r; (try clear z10h); (refine Mine.e2_3 z10r ?_; intro as' I' z10rx2 _ _; (try clear z10r); (rcases z10rx2 with rfl)))
    exact List.mem_cons_self
  case t0 => exact TR
  case turn =>
    (intro i x m nw oI h tk E' hx z11h; refine Mine.e0_4 z11h ?_; intro e1 e2' e3 z11r; (try clear z11h); (refine Mine.e2_3 z11r ?_; intro as3 I3 z11rx2 TR3 off3; (try clear z11r); (rcases z11rx2 with rfl)); intro ho F6 N6)
    have F7 := fr_pin (Str.ofString "self") (fr_pin (Str.ofString "n2i") (fr_pin (Str.ofString "result") F6 e3) e2') e1
    clear F2 N2 F6
    obtain ⟨It, eIt⟩ := name_head N6
    dsimp only at eIt N6 ho
    rw [← eIt] at N6 ho
    (have z12 := (strs_at hrs (by simpa using hx)); refine Mine.e2_2 z12 ?_; intro p tp z12x2 hp; (try clear z12); (rcases z12x2 with rfl))
    have hIT : T9 ≠ It := ho _ List.mem_cons_self
    have hmem : p ∈ (outE es (rd.take i)).map (·.key) := by rw [outE_keys]; exact hin p (List.mem_of_getElem? hp)
    (rcases (id TR3) with ⟨⟨nd', hX', ⟨k1', k2', k3', k4', t1', t2'', t3', t4', u', v', hF'⟩, ⟨o', hDm', hD'⟩, lo', hl', hN', _⟩, _⟩)
    (have z14 := (TR3.ts.look hmem); refine Mine.e9_8 z14 ?_; intro j4 e4 x4 d4 l4 t4' u4 vs4 c4 he4 ha4 hkey4 hv h41 h42 h43 h44; (try clear z14))
    have nd5 := Nd.app (Nd.cons (p := It) (o := oI) (Nd.sing (p := (T9, tupOf vs.toList))) fun q hq => by rw [List.mem_singleton.mp hq]; exact hIT) TR3.ts.nd fun p hp q hq e => by
      rcases List.mem_cons.mp hp with rfl | hp
      · exact ho q (List.mem_cons_of_mem _ hq) e.symm
      · rw [List.mem_singleton.mp hp] at e; exact off3 q hq e.symm
    isplit
    (rename News _ _ _ (updA _ _ _) => N9)
    have hl1 : @Ne Nat It x4 := fun e => ho _ (List.mem_cons_of_mem _ h41) e.symm
    have hl2 : @Ne Nat T9 x4 := fun e => off3 _ h41 e.symm
    simp only [List.cons_append, List.nil_append, updA_ne hl1, updA_ne hl2] at N9
    have TR5 := TR3.setx he4 ha4 h41 (f := fun e => { e with np := -1 }) (fun e => ⟨rfl, rfl⟩) (u' := 219)
    rw [hkey4] at TR5 N9
    have off5 : ∀ q ∈ updA x4 (⟨.ref 54, some d4, .plain, #[some (.str p t4'), some (.int (-1) 219), some (.ref l4)]⟩ : Obj) I3, q.1 ≠ It ∧ q.1 ≠ T9 := fun q hq => by
      rcases mem_of_mem_updA hq with rfl | ⟨hq, _⟩
      · exact ⟨Ne.symm hl1, Ne.symm hl2⟩
      · exact ⟨ho _ (List.mem_cons_of_mem _ hq), off3 _ hq⟩
    subst eIt
    refine TL.next (nw := (T9, tupOf vs.toList) :: updA x4 (⟨.ref 54, some d4, .plain, #[some (.str p t4'), some (.int (-1) 219), some (.ref l4)]⟩ : Obj) I3) (by k_asm) N9 (fun p hp => hp) (fun q hq => ?_) ⟨rfl, rfl, rfl, as3, _, rfl, ?_, fun q hq => (off5 q hq).2⟩
    · simp only [List.map_cons, List.map_nil, List.mem_singleton]
      rcases List.mem_cons.mp hq with rfl | hq
      · exact hIT
      · exact (off5 q hq).1
    · rw [outE_succ hp]
      exact TR5
  case last =>
    (intro m nw h tk E' z15h; refine Mine.e0_4 z15h ?_; intro e1 e2' e3 z15r; (try clear z15h); (refine Mine.e2_3 z15r ?_; intro as3 I3 z15rx2 TR3 off3; (try clear z15r); (rcases z15rx2 with rfl)); intro F6 N6)
    have F7 := fr_pin (Str.ofString "self") (fr_pin (Str.ofString "n2i") (fr_pin (Str.ofString "result") F6 e3) e2') e1
    clear F2 N2 F6
    rw [List.size_toArray, hrs.length, List.take_length] at TR3
    have nd5 := Nd.app (Nd.sing (p := (T9, tupOf vs.toList))) TR3.ts.nd fun p hp q hq e => by
      rw [List.mem_singleton.mp hp] at e; exact off3 q hq e.symm
    (have z16 := (id TR3); first | (refine Mine.hideP ?_; intro Gz kGz; rcases z16 with ⟨⟨nd', hX', ⟨k1', k2', k3', k4', t1', t2'', t3', t4', u', v', hF'⟩, ⟨o', hDm', hD'⟩, lo', hl', hN', _⟩, ⟨vs', c', hR', hrs'⟩, _⟩; all_goals (refine kGz ?_; clear kGz Gz)) | rcases z16 with ⟨⟨nd', hX', ⟨k1', k2', k3', k4', t1', t2'', t3', t4', u', v', hF'⟩, ⟨o', hDm', hD'⟩, lo', hl', hN', _⟩, ⟨vs', c', hR', hrs'⟩, _⟩)
    have hvz' := hrs'.length
    rw [Array.length_toList] at hvz'
    iterate 10 one_sign
    (rename News _ _ _ (updA _ _ _) => N9)
    have hl2 : @Ne Nat T9 R := fun e => off3 _ hR' e.symm
    simp only [List.cons_append, List.nil_append, updA_ne hl2] at N9
    have TR6 := TR3.setr hR' (vs' := #[]) (c' := c' + 1) (rd' := []) .nil
    have off6 : ∀ q ∈ updA R (W.listOf #[] (c' + 1)) I3, q.1 ≠ T9 := fun q hq => by
      rcases mem_of_mem_updA hq with rfl | ⟨hq, _⟩
      · exact Ne.symm hl2
      · exact off3 _ hq
    clear nd5 nd' hX' hF' hDm' hl' hN' hR' hrs' hvz' lo' N6
    generalize updA R (W.listOf #[] (c' + 1)) I3 = I6 at N9 TR6 off6
    have nd5 := Nd.app (Nd.sing (p := (T9, tupOf vs.toList))) TR6.ts.nd fun p hp q hq e => by
      rw [List.mem_singleton.mp hp] at e; exact off6 q hq e.symm
    (have z17 := (id TR6); first | (refine Mine.hideP ?_; intro Gz kGz; rcases z17 with ⟨⟨nd', hX', ⟨k1', k2', k3', k4', t1', t2'', t3', t4', u', v', hF'⟩, ⟨o', hDm', hD'⟩, lo', hl', hN', _⟩, ⟨vs', c', hR', hrs'⟩, _⟩; all_goals (refine kGz ?_; clear kGz Gz)) | rcases z17 with ⟨⟨nd', hX', ⟨k1', k2', k3', k4', t1', t2'', t3', t4', u', v', hF'⟩, ⟨o', hDm', hD'⟩, lo', hl', hN', _⟩, ⟨vs', c', hR', hrs'⟩, _⟩)
    have hvl := hrs.length
    iterate 11 one_sign
    have hz' : (vs.toList.toArray.size : Int) = rd.length := by rw [List.size_toArray, hvl]
    simp only [hz']
    isplit
    have hl3 : @Ne Nat T9 DX := fun e => off6 _ hF' e.symm
    refine mret ret GS (by assumption) (by assumption) (by assumption) (by assumption) (nw' := (T9, tupOf vs.toList) :: updA DX _ I6) (fun q hq => by rw [updA_ne hl3]; exact hq) ⟨T9, vs.toList, _, as3, rfl, rfl, hrs, fun q hq => ?_, TR6.setf hF' _ _⟩
    rcases mem_of_mem_updA hq with rfl | ⟨hq, _⟩
    · exact Ne.symm hl3
    · exact off6 _ hq
end Mine
end
theorem Mine.off34 : True := by (w_top off); trivial
section
local macro_rules | `(tactic| walk_at $s:str) => `(tactic| k_extra $(Lean.Syntax.mkStrLit ("Done:" ++ s.getString)))
local macro_rules | `(tactic| walk_at "no such") => `(tactic| skip)
namespace Mine
open LCg (NsObj lst lst_snoc ns_obj)
set_option maxHeartbeats 4000000
theorem Mine.kw35 : True := by
  (k_with "Done:cell_enter" => ((refine' code_restG ?k1 ?k2 ?k3 ?kN ?k5 ?kA ?kF ?kK ?k6 ?k7 ?k8 ?kP ?kG ?kB ?_ ?c2 ?c3 ?c4 ?c5; (case kA => exact rfl); (case kF => exact rfl); (case kK => assumption); (case k1 => k_asm); (case k2 => k_asm); (case k3 => k_asm); (case kN => k_asm); (case k5 => k_asm); (case k6 => k_is); (case k7 => k_is); (case k8 => ktr_room); (case kP => exact list_cases (P := fun zs => peek1 _ _ (bindArgs _ ⟨_ :: zs, []⟩) = some (({ cls := .type "tuple", data := .seq zs.toArray } : Obj), fun D => some [(Str.ofString "self", _), (Str.ofString "nodes", .ref D)])) rfl (fun _ => rfl) (fun _ _ => rfl) (fun _ _ _ => rfl) (fun _ _ _ _ => rfl) (fun _ _ _ _ _ => rfl) (fun _ _ _ _ _ _ => rfl) (fun _ _ _ _ _ _ _ => rfl) (fun _ _ _ _ _ _ _ _ => rfl) _ (by assumption)); (case kG => exact fun _ => rfl); (case kB => exact fun _ => locs rfl); (case c5 => decide); (case c2 => exact rfl); (case c3 => exact rfl); (case c4 => exact rfl); k_whole; intro _ _ _ _ _ _ _ _ Bvzq _ _ _; (try dsimp only); (try k_lift Bvzq); (try k_fold))))
  trivial
local macro_rules | `(tactic| cell_enter) => `(tactic| k_extra "Done:cell_enter")
theorem Mine.kw36 : True := by
  (k_with "Done:exec For Name Name cons nil" => ((k_here; k_dflt (refine For_in ?_))))
  trivial
theorem Mine.kw37 : True := by
  (k_with "Done:exec For Name Attribute cons nil" => ((k_here; k_dflt (refine For_in ?_))))
  trivial
/-- a node by its name -/
noncomputable def nodeOf (es : List NE) (k : Str) : NE := (es.find? fun e => decide (e.key = k)).getD ⟨k, 0, []⟩
noncomputable def dec1 (st : List NE × List Str) (s : Str) : List NE × List Str :=
  (setE s (fun e => { e with np := e.np - 1 }) st.1, if (nodeOf st.1 s).np - 1 = 0 then st.2 ++ [s] else st.2)
noncomputable def done0 (st : List NE × List Str) (p : Str) : List NE × List Str := (setE p (fun e => { e with np := -2 }) st.1, st.2)
noncomputable def done1 (st : List NE × List Str) (p : Str) : List NE × List Str := (nodeOf st.1 p).su.foldl dec1 (done0 st p)
noncomputable def doneF (st : List NE × List Str) (ps : List Str) : List NE × List Str := ps.foldl done1 st
theorem nodeOf_get {es : List NE} (hn : (es.map (·.key)).Nodup) {i : Nat} {e : NE} (he : es[i]? = some e) : nodeOf es e.key = e := by
  unfold nodeOf
  cases hf : es.find? (fun b => decide (b.key = e.key)) with
  | none =>
    have := List.find?_eq_none.mp hf e (List.mem_of_getElem? he)
    simp at this
  | some b =>
    obtain ⟨j, hj⟩ := List.getElem?_of_mem (List.mem_of_find?_eq_some hf)
    have hk := List.find?_some hf
    have hk : b.key = e.key := by simpa using hk
    have := keys_one hn hj he hk
    subst this
    rw [he] at hj
    exact (Option.some.inj hj).symm
theorem dec1_keys {st : List NE × List Str} {s : Str} : (dec1 st s).1.map (·.key) = st.1.map (·.key) := setE_key (f := fun e => { e with np := e.np - 1 }) fun _ => rfl
theorem decs_keys {ss : List Str} : ∀ {st : List NE × List Str}, (ss.foldl dec1 st).1.map (·.key) = st.1.map (·.key) := by
  induction ss with
  | nil => exact rfl
  | cons s r ih => intro st; rw [List.foldl_cons, ih, dec1_keys]
theorem done1_keys {st : List NE × List Str} {p : Str} : (done1 st p).1.map (·.key) = st.1.map (·.key) := by
  unfold done1
  rw [decs_keys]
  exact setE_key (f := fun e => { e with np := -2 }) fun _ => rfl
theorem doneF_keys {ps : List Str} : ∀ {st : List NE × List Str}, (doneF st ps).1.map (·.key) = st.1.map (·.key) := by
  unfold doneF
  induction ps with
  | nil => exact rfl
  | cons s r ih => intro st; rw [List.foldl_cons, ih, done1_keys]
theorem doneF_succ {st : List NE × List Str} {ps : List Str} {i : Nat} {p : Str} (h : ps[i]? = some p) : doneF st (ps.take (i + 1)) = done1 (doneF st (ps.take i)) p := by
  unfold doneF
  rw [List.take_add_one, List.foldl_append, h]; rfl
theorem decs_succ {st : List NE × List Str} {ps : List Str} {i : Nat} {p : Str} (h : ps[i]? = some p) : (ps.take (i + 1)).foldl dec1 st = dec1 ((ps.take i).foldl dec1 st) p := by
  rw [List.take_add_one, List.foldl_append, h]; rfl
/-- each node's successors are some former node's -/
noncomputable def SameSu (es es' : List NE) : Prop := ∀ b ∈ es', ∃ c ∈ es, c.su = b.su
theorem SameSu.refl {es : List NE} : SameSu es es := fun b hb => ⟨b, hb, rfl⟩
theorem SameSu.set {es es' : List NE} (h : SameSu es es') {k : Str} {f : NE → NE} (hf : ∀ e, (f e).su = e.su) : SameSu es (setE k f es') := by
  intro b hb
  (have z1 := (List.mem_map.mp hb); refine Mine.e1_2 z1 ?_; intro c hc z1x2; (try clear z1); (rcases z1x2 with rfl))
  (have z2 := (h c hc); refine Mine.e1_2 z2 ?_; intro d hd e; (try clear z2))
  refine ⟨d, hd, ?_⟩
  split
  · rw [hf]; exact e
  · exact e
theorem SameSu.decs {es : List NE} {ss : List Str} : ∀ {st : List NE × List Str}, SameSu es st.1 → SameSu es (ss.foldl dec1 st).1 := by
  induction ss with
  | nil => exact fun h => h
  | cons s r ih => intro st h; exact ih (st := dec1 st s) (h.set (f := fun e => { e with np := e.np - 1 }) fun _ => rfl)
theorem SameSu.dones {es : List NE} {ps : List Str} : ∀ {st : List NE × List Str}, SameSu es st.1 → SameSu es (doneF st ps).1 := by
  unfold doneF
  induction ps with
  | nil => exact fun h => h
  | cons s r ih => intro st h; exact ih (st := done1 st s) (SameSu.decs (st := done0 st s) (h.set (f := fun e => { e with np := -2 }) fun _ => rfl))
theorem decs_rd {ss : List Str} : ∀ {st : List NE × List Str}, (ss.foldl dec1 st).2.length ≤ st.2.length + ss.length := by
  induction ss with
  | nil => exact fun {st} => Nat.le_refl _
  | cons s r ih =>
    intro st
    have := ih (st := dec1 st s)
    have h2 : (dec1 st s).2.length ≤ st.2.length + 1 := by
      unfold dec1
      dsimp only
      split
      · rw [List.length_append]; exact Nat.le_refl _
      · exact Nat.le_succ _
    rw [List.foldl_cons, List.length_cons]; omega
theorem nodeOf_su {es : List NE} {b : Nat} (h : SuB es b) (k : Str) : (nodeOf es k).su.length ≤ b := by
  unfold nodeOf
  cases hf : es.find? (fun e => decide (e.key = k)) with
  | none => exact Nat.zero_le _
  | some e => exact h e (List.mem_of_find?_eq_some hf)
theorem SameSu.sub {es es' : List NE} {b : Nat} (h : SameSu es es') (hb : SuB es b) : SuB es' b := fun e he => by
  (have z3 := (h e he); refine Mine.e1_2 z3 ?_; intro c hc e'; (try clear z3))
  rw [← e']; exact hb c hc
theorem dones_rd {ps : List Str} {b : Nat} : ∀ {st : List NE × List Str}, SuB st.1 b → (doneF st ps).2.length ≤ st.2.length + b * ps.length := by
  unfold doneF
  induction ps with
  | nil => exact fun _ => Nat.le_refl _
  | cons s r ih =>
    intro st h
    have h0 : SameSu st.1 (done1 st s).1 := SameSu.decs (st := done0 st s) (SameSu.refl.set (f := fun e => { e with np := -2 }) fun _ => rfl)
    have h1 := ih (st := done1 st s) (h0.sub h)
    have h2 : (done1 st s).2.length ≤ st.2.length + (nodeOf st.1 s).su.length := decs_rd
    have h3 := nodeOf_su h s
    rw [List.foldl_cons, List.length_cons, Nat.mul_succ]; omega
noncomputable def DoJ (w : World) (X DX D R T : Addr) (po fi : Int) (st : List NE × List Str) (ps : List Str) (zs : List Value) (i : Nat) (m : Nm) (nw : Led) : Prop :=
  m (Str.ofString "self") = some (.ref X) ∧ m (Str.ofString "n2i") = some (.ref D) ∧ ∃ as I, nw = (T, tupOf zs) :: I ∧ TrAt w X DX D R (doneF st (ps.take i)).2 po (fi + i) (doneF st (ps.take i)).1 as I ∧ ∀ p ∈ I, p.1 ≠ T
noncomputable def DeJ (w : World) (X DX D R : Addr) (po fi : Int) (st : List NE × List Str) (ss : List Str) (its : Led) (l : Addr) (ol : Obj) (i : Nat) (m : Nm) (nw : Led) : Prop :=
  m (Str.ofString "self") = some (.ref X) ∧ m (Str.ofString "n2i") = some (.ref D) ∧ ∃ as I, nw = its ++ I ∧ TrAt w X DX D R ((ss.take i).foldl dec1 st).2 po fi ((ss.take i).foldl dec1 st).1 as I ∧ (∀ p ∈ I, p.1 ∉ its.map (·.1)) ∧ (l, ol) ∈ I ∧ ∃ a ∈ as, a.l = l
theorem c_done (w : World) (X DX D R : Addr) (rd : List Str) (po fi : Int) (es : List NE) (as : List AE) (I : Led) (zs : List Value) (ps : List Str) (hz : StrsAre zs ps) (TR : TrAt w X DX D R rd po fi es as I) (hrd : rd.length ≤ 100) (hps : ps.length ≤ 8)
    (hsu : SuB es 100) (hin : ∀ p ∈ ps, p ∈ es.map (·.key)) (hss : ∀ e ∈ es, ∀ s ∈ e.su, s ∈ es.map (·.key)) (hok : ∀ i p, ps[i]? = some p → (nodeOf (doneF (es, rd) (ps.take i)).1 p).np = -1) :
    MCon w 134 (.ref X :: zs) 1 300 I (fun _ => True) (fun v I' => ∃ as', TrAt w X DX D R (doneF (es, rd) ps).2 po (fi + ps.length) (doneF (es, rd) ps).1 as' I') := by
  intro mean mg mb dp un gd cn cs a ccd cl outer A₀ base h₀ L m s Q E B F X N T hk hd' hu hpre ret
  have hz8 : zs.length ≤ 8 := by rw [hz.length]; exact hps
  (have z4 := (id TR); first | (refine Mine.hideP ?_; intro Gz kGz; rcases z4 with ⟨⟨nd, hX, ⟨k1, k2, k3, k4, t1, t2, t3, t4, u, v, hF⟩, ⟨o, hDm, hD⟩, lo, hl, hN, dd, ad, jx, jl⟩, ⟨vs, c, hR, hrs⟩, rl⟩; all_goals (refine kGz ?_; clear kGz Gz)) | rcases z4 with ⟨⟨nd, hX, ⟨k1, k2, k3, k4, t1, t2, t3, t4, u, v, hF⟩, ⟨o, hDm, hD⟩, lo, hl, hN, dd, ad, jx, jl⟩, ⟨vs, c, hR, hrs⟩, rl⟩)
  k_dflt cell_enter
  (rename GSub _ _ _ => GS)
  (rename Fr _ _ _ _ => F1)
  (rename News _ _ _ _ => N1)
  isplit
  (rename Fr _ _ _ _ => F2)
  (rename News _ _ _ _ => N2)
  (rename (∀ p ∈ I, @LT.lt Addr _ _ _) => l1)
  obtain ⟨T9, eT9⟩ := name_head N2
  dsimp only at eT9
  subst eT9
  clear hX hF hDm nd lo hl hN hR hrs rl dd ad jx jl hD
  k_dflt (refine loop_tup (DoJ w _ DX D R T9 po fi (es, rd) ps zs) rfl F2 N2 ⟨tupOf zs, rfl, ⟨_, rfl⟩, Or.inr ?st⟩ ⟨rfl, rfl, as, I, rfl, ?t0, fun p hp => Nat.ne_of_lt (l1 p hp)⟩ ?turn ?last)
  case st =>
    (intro i m nw z5h; refine Mine.e0_3 z5h ?_; intro _ _ z5r; (try clear z5h); (refine Mine.e2_3 z5r ?_; intro as' I' z5rx2 _ _; (try clear z5r); (rcases z5rx2 with rfl)))
    exact List.mem_cons_self
  case t0 =>
    show TrAt w _ DX D R rd po (fi + (0 : Nat)) es as I
    rw [Int.natCast_zero, Int.add_zero]; exact TR
  case turn =>
    (intro i x m nw oI h tk E' hx z6h; refine Mine.e0_3 z6h ?_; intro e1 e2' z6r; (try clear z6h); (refine Mine.e2_3 z6r ?_; intro as3 I3 z6rx2 TR3 off3; (try clear z6r); (rcases z6rx2 with rfl)); intro ho F6 N6)
    have F7 := fr_pin (Str.ofString "self") (fr_pin (Str.ofString "n2i") F6 e2') e1
    clear F2 N2 F6
    obtain ⟨It, eIt⟩ := name_head N6
    dsimp only at eIt N6 ho
    rw [← eIt] at N6 ho
    (have z7 := (strs_at hz (by simpa using hx)); refine Mine.e2_2 z7 ?_; intro p tp z7x2 hp; (try clear z7); (rcases z7x2 with rfl))
    have hIT : T9 ≠ It := ho _ List.mem_cons_self
    generalize hst : doneF (es, rd) (ps.take i) = st at TR3
    have hmem : p ∈ st.1.map (·.key) := by rw [← hst, doneF_keys]; exact hin p (List.mem_of_getElem? hp)
    (rcases (id TR3) with ⟨⟨nd', hX', ⟨k1', k2', k3', k4', t1', t2'', t3', t4', u', v', hF'⟩, ⟨o', hDm', hD'⟩, lo', hl', hN', _⟩, _⟩)
    (have z9 := (TR3.ts.look hmem); refine Mine.e9_8 z9 ?_; intro j4 e4 x4 d4 l4 t4' u4 vs4 c4 he4 ha4 hkey4 hv h41 h42 h43 h44; (try clear z9))
    have nd5 := Nd.app (Nd.cons (p := It) (o := oI) (Nd.sing (p := (T9, tupOf zs))) fun q hq => by rw [List.mem_singleton.mp hq]; exact hIT) TR3.ts.nd fun p hp q hq e => by
      rcases List.mem_cons.mp hp with rfl | hp
      · exact ho q (List.mem_cons_of_mem _ hq) e.symm
      · rw [List.mem_singleton.mp hp] at e; exact off3 q hq e.symm
    have hnp : e4.np = -1 := by
      have h1 := hok i p hp
      rw [hst, ← hkey4, nodeOf_get TR3.ts.keys he4] at h1
      exact h1
    rw [hnp] at h41
    iterate 46 one_sign
    (rename News _ _ _ (updA _ _ _) => N9)
    have hl1 : @Ne Nat It x4 := fun e => ho _ (List.mem_cons_of_mem _ h41) e.symm
    have hl2 : @Ne Nat T9 x4 := fun e => off3 _ h41 e.symm
    simp only [List.cons_append, List.nil_append, updA_ne hl1, updA_ne hl2] at N9
    rw [← hnp] at h41
    have TR5 := TR3.setx he4 ha4 h41 (f := fun e => { e with np := -2 }) (fun e => ⟨rfl, rfl⟩) (u' := 222)
    rw [hkey4] at TR5 N9
    have off5 : ∀ q ∈ updA x4 (⟨.ref 54, some d4, .plain, #[some (.str p t4'), some (.int (-2) 222), some (.ref l4)]⟩ : Obj) I3, q.1 ≠ It ∧ q.1 ≠ T9 := fun q hq => by
      rcases mem_of_mem_updA hq with rfl | ⟨hq, _⟩
      · exact ⟨Ne.symm hl1, Ne.symm hl2⟩
      · exact ⟨ho _ (List.mem_cons_of_mem _ hq), off3 _ hq⟩
    have h51 := mem_self h41 (o' := (⟨.ref 54, some d4, .plain, #[some (.str p t4'), some (.int (-2) 222), some (.ref l4)]⟩ : Obj))
    have hlx : l4 ≠ x4 := TR3.ts.nd.ne h43 h41 fun q => absurd (congrArg Obj.cls q) (by simp)
    have h53 := mem_ne h43 hlx (o' := (⟨.ref 54, some d4, .plain, #[some (.str p t4'), some (.int (-2) 222), some (.ref l4)]⟩ : Obj))
    have hdx : d4 ≠ x4 := TR3.ts.nd.ne h42 h41 fun q => absurd (congrArg Obj.cls q) (by simp)
    have h52 := mem_ne h42 hdx (o' := (⟨.ref 54, some d4, .plain, #[some (.str p t4'), some (.int (-2) 222), some (.ref l4)]⟩ : Obj))
    clear nd5 nd' hX' hF' hDm' hl' hN' lo' h41 h42 h43 hv
    generalize updA x4 (⟨.ref 54, some d4, .plain, #[some (.str p t4'), some (.int (-2) 222), some (.ref l4)]⟩ : Obj) I3 = I6 at N9 TR5 off5 h51 h52 h53
    clear ho
    isplit
    (rename Fr _ _ _ _ => F8)
    have hds : done0 st p = (setE p (fun e => { e with np := -2 }) st.1, st.2) := rfl
    have hsame : SameSu es st.1 := hst ▸ SameSu.dones (st := (es, rd)) SameSu.refl
    have hkst : st.1.map (·.key) = es.map (·.key) := by rw [← hst, doneF_keys]
    have hrst : st.2.length ≤ 900 := by
      rw [← hst]
      have := dones_rd (ps := ps.take i) (st := (es, rd)) hsu
      rw [List.length_take] at this
      dsimp only at this
      omega
    have he4s : e4.su.length ≤ 100 := hsame.sub hsu e4 (List.mem_of_getElem? he4)
    have he4k : ∀ s ∈ e4.su, s ∈ es.map (·.key) := by
      (have z10 := (hsame e4 (List.mem_of_getElem? he4)); refine Mine.e1_2 z10 ?_; intro b hb eb; (try clear z10))
      rw [← eb]; exact hss b hb
    k_dflt (refine loop_list (DeJ w _ DX D R po (fi + i) (done0 st p) e4.su [(It, oI), (T9, tupOf zs)] l4 (W.listOf vs4 c4)) rfl F8 N9 ⟨W.listOf vs4 c4, rfl, ⟨_, rfl⟩, Or.inr ?st2⟩ ⟨rfl, rfl, as3, I6, rfl, TR5, ?off2, h53, _, List.mem_of_getElem? ha4, rfl⟩ ?turn2 ?last2)
    case st2 =>
      (intro j m nw z11h; refine Mine.e0_3 z11h ?_; intro _ _ z11r; (try clear z11h); (refine Mine.e2_5 z11r ?_; intro as' I' z11rx2 _ _ hl _; (try clear z11r); (rcases z11rx2 with rfl)))
      exact List.mem_append_right _ hl
    case off2 =>
      intro q hq
      simp only [List.map_cons, List.map_nil, List.mem_cons, List.not_mem_nil, or_false, not_or]
      exact off5 q hq
    case turn2 =>
      (intro j x m nw oI2 h tk E'' hx2 z12h; refine Mine.e0_3 z12h ?_; intro e1 e2' z12r; (try clear z12h); (refine Mine.e2_5 z12r ?_; intro as7 I7 z12rx2 TR7 off7 hl7 z12rx6; (try clear z12r); (rcases z12rx2 with rfl); (refine Mine.e1_2 z12rx6 ?_; intro a7 ha7 hal; (try clear z12rx6))); intro ho2 F10 N10)
      have F11 := fr_pin (Str.ofString "self") (fr_pin (Str.ofString "n2i") F10 e2') e1
      clear F8 N9 F10
      obtain ⟨It2, eIt2⟩ := name_head N10
      dsimp only at eIt2 N10 ho2
      rw [← eIt2] at N10 ho2
      (have z13 := (strs_at h44 (by simpa using hx2)); refine Mine.e2_2 z13 ?_; intro q tq z13x2 hq; (try clear z13); (rcases z13x2 with rfl))
      generalize hsu7 : (e4.su.take j).foldl dec1 (done0 st p) = st7 at TR7
      have hmem7 : q ∈ st7.1.map (·.key) := by
        rw [← hsu7, decs_keys]
        show q ∈ (setE p (fun e => { e with np := -2 }) st.1).map (·.key)
        rw [setE_key (f := fun e => { e with np := -2 }) fun _ => rfl, hkst]; exact he4k q (List.mem_of_getElem? hq)
      have hrd7 : st7.2.length ≤ 1000 := by
        rw [← hsu7]
        have h1 := decs_rd (ss := e4.su.take j) (st := done0 st p)
        have h2 : (done0 st p).2 = st.2 := rfl
        rw [List.length_take, h2] at h1
        omega
      (have z14 := (id TR7); first | (refine Mine.hideP ?_; intro Gz kGz; rcases z14 with ⟨⟨nd', hX', ⟨k1', k2', k3', k4', t1', t2'', t3', t4'', u', v', hF'⟩, ⟨o', hDm', hD'⟩, lo', hl', hN', _⟩, ⟨vs', c', hR', hrs'⟩, rl'⟩; all_goals (refine kGz ?_; clear kGz Gz)) | rcases z14 with ⟨⟨nd', hX', ⟨k1', k2', k3', k4', t1', t2'', t3', t4'', u', v', hF'⟩, ⟨o', hDm', hD'⟩, lo', hl', hN', _⟩, ⟨vs', c', hR', hrs'⟩, rl'⟩)
      (have z15 := (TR7.ts.look hmem7); refine Mine.e9_8 z15 ?_; intro j8 e8 x8 d8 l8 t8 u8 vs8 c8 he8 ha8 hkey8 hv8 h81 h82 h83 h84; (try clear z15))
      have o1 : ∀ {b : Addr} {ob : Obj}, (b, ob) ∈ I7 → b ≠ It2 ∧ b ≠ It ∧ b ≠ T9 := fun hb => by
        refine ⟨ho2 _ (List.mem_cons_of_mem _ (List.mem_cons_of_mem _ hb)), ?_⟩
        have := off7 _ hb
        simp only [List.map_cons, List.map_nil, List.mem_cons, List.not_mem_nil, or_false, not_or] at this
        exact this
      have i1 : It ≠ It2 := ho2 _ List.mem_cons_self
      have i2 : T9 ≠ It2 := ho2 _ (List.mem_cons_of_mem _ List.mem_cons_self)
      have nd9 : Nd ((It2, oI2) :: (It, oI) :: (T9, tupOf zs) :: I7) := by
        refine Nd.cons (Nd.cons (Nd.cons nd' fun b hb => (o1 hb).2.2) fun b hb => ?_) fun b hb => ?_
        · rcases List.mem_cons.mp hb with rfl | hb
          · exact hIT
          · exact (o1 hb).2.1
        · rcases List.mem_cons.mp hb with rfl | hb
          · exact i1
          · rcases List.mem_cons.mp hb with rfl | hb
            · exact i2
            · exact (o1 hb).1
      iterate 21 one_sign
      (rename News _ _ _ (updA _ _ _) => N12)
      have p1 : @Ne Nat It2 x8 := Ne.symm (o1 h81).1
      have p2 : @Ne Nat It x8 := Ne.symm (o1 h81).2.1
      have p3 : @Ne Nat T9 x8 := Ne.symm (o1 h81).2.2
      simp only [List.cons_append, List.nil_append, updA_ne p1, updA_ne p2, updA_ne p3] at N12
      have N13 := (⟨_, N12⟩ : ∃ tk8 : Tok, News _ _ _ ((It2, oI2) :: (It, oI) :: (T9, tupOf zs) :: updA x8 (⟨.ref 54, some d8, .plain, #[some (.str e8.key t8), some (.int (e8.np - 1) tk8), some (.ref l8)]⟩ : Obj) I7))
      clear N12
      obtain ⟨tk8, N13⟩ := N13
      have TR8 := TR7.setx he8 ha8 h81 (f := fun e => { e with np := e.np - 1 }) (fun e => ⟨rfl, rfl⟩) (u' := tk8)
      rw [hkey8] at TR8
      dsimp only at TR8
      have q81 := mem_self h81 (o' := (⟨.ref 54, some d8, .plain, #[some (.str e8.key t8), some (.int (e8.np - 1) tk8), some (.ref l8)]⟩ : Obj))
      have q82 := mem_ne h82 (TR7.ts.nd.ne h82 h81 fun q => absurd (congrArg Obj.cls q) (by simp)) (o' := (⟨.ref 54, some d8, .plain, #[some (.str e8.key t8), some (.int (e8.np - 1) tk8), some (.ref l8)]⟩ : Obj))
      have q84 := mem_ne hl7 (TR7.ts.nd.ne hl7 h81 fun q => absurd (congrArg Obj.cls q) (by simp)) (o' := (⟨.ref 54, some d8, .plain, #[some (.str e8.key t8), some (.int (e8.np - 1) tk8), some (.ref l8)]⟩ : Obj))
      have o2 : ∀ b ∈ updA x8 (⟨.ref 54, some d8, .plain, #[some (.str e8.key t8), some (.int (e8.np - 1) tk8), some (.ref l8)]⟩ : Obj) I7, b.1 ≠ It2 ∧ b.1 ≠ It ∧ b.1 ≠ T9 := fun b hb => by
        rcases mem_of_mem_updA hb with rfl | ⟨hb, _⟩
        · exact ⟨Ne.symm p1, Ne.symm p2, Ne.symm p3⟩
        · exact o1 hb
      rw [hkey8] at N13 q81 q82 q84 o2
      clear nd9 nd' hX' hF' hDm' hl' hN' lo' h81 h82 h83 hv8 hR' hrs' o1 hl7
      generalize updA x8 (⟨.ref 54, some d8, .plain, #[some (.str q t8), some (.int (e8.np - 1) tk8), some (.ref l8)]⟩ : Obj) I7 = I8 at N13 TR8 q81 q82 q84 o2
      have nd9 : Nd ((It2, oI2) :: (It, oI) :: (T9, tupOf zs) :: I8) := by
        refine Nd.cons (Nd.cons (Nd.cons TR8.ts.nd fun b hb => (o2 b hb).2.2) fun b hb => ?_) fun b hb => ?_
        · rcases List.mem_cons.mp hb with rfl | hb
          · exact hIT
          · exact (o2 b hb).2.1
        · rcases List.mem_cons.mp hb with rfl | hb
          · exact i1
          · rcases List.mem_cons.mp hb with rfl | hb
            · exact i2
            · exact (o2 b hb).1
      have hnode8 : nodeOf st7.1 q = e8 := by rw [← hkey8]; exact nodeOf_get TR7.ts.keys he8
      (have z16 := (id TR8); first | (refine Mine.hideP ?_; intro Gz kGz; rcases z16 with ⟨⟨nd', hX', ⟨k1', k2', k3', k4', t1', t2'', t3', t4'', u', v', hF'⟩, ⟨o', hDm', hD'⟩, lo', hl', hN', _⟩, ⟨vs', c', hR', hrs'⟩, rl'⟩; all_goals (refine kGz ?_; clear kGz Gz)) | rcases z16 with ⟨⟨nd', hX', ⟨k1', k2', k3', k4', t1', t2'', t3', t4'', u', v', hF'⟩, ⟨o', hDm', hD'⟩, lo', hl', hN', _⟩, ⟨vs', c', hR', hrs'⟩, rl'⟩)
      have hvz' := hrs'.length
      rw [Array.length_toList] at hvz'
      have l8c : ∀ {b : Addr} {ob : Obj}, (b, ob) ∈ I8 → ob.cls ≠ .type "list" → b ≠ R := fun hb hc => TR8.ts.nd.ne hb hR' fun e => hc (by rw [e])
      have r1 : @Ne Nat It2 R := Ne.symm (o2 _ hR').1
      have r2 : @Ne Nat It R := Ne.symm (o2 _ hR').2.1
      have r3 : @Ne Nat T9 R := Ne.symm (o2 _ hR').2.2
      have hst9 : (e4.su.take (j + 1)).foldl dec1 (done0 st p) = (setE q (fun e => { e with np := e.np - 1 }) st7.1, if e8.np - 1 = 0 then st7.2 ++ [q] else st7.2) := by
        rw [decs_succ hq, hsu7]
        unfold dec1
        rw [hnode8]
      isplit
      · have hz0 : e8.np - 1 = 0 := by assumption
        have TR9 := TR8.setr hR' (vs' := vs'.push (.str q tq)) (c' := c' + 1) (rd' := st7.2 ++ [q]) (by rw [Array.toList_push]; exact strs_snoc hrs')
        have q94 := mem_ne q84 (o' := W.listOf (vs'.push (.str q tq)) (c' + 1)) (p := R) (by rw [← hal]; exact Ne.symm (rl' a7 ha7))
        have o3 : ∀ b ∈ updA R (W.listOf (vs'.push (.str q tq)) (c' + 1)) I8, b.1 ≠ It2 ∧ b.1 ≠ It ∧ b.1 ≠ T9 := fun b hb => by
          rcases mem_of_mem_updA hb with rfl | ⟨hb, _⟩
          · exact ⟨Ne.symm r1, Ne.symm r2, Ne.symm r3⟩
          · exact o2 b hb
        subst eIt2
        refine TL.next (nw := [(It, oI), (T9, tupOf zs)] ++ updA R (W.listOf (vs'.push (.str q tq)) (c' + 1)) I8) (by k_asm) (by k_asm) (fun b hb => hb) (fun b hb => ?_) ⟨rfl, rfl, as7, _, rfl, ?_, fun b hb => ?_, q94, a7, ha7, hal⟩
        · simp only [List.map_cons, List.map_nil, List.mem_singleton]
          rcases List.mem_cons.mp hb with rfl | hb
          · exact i1
          · rcases List.mem_cons.mp hb with rfl | hb
            · exact i2
            · exact (o3 b hb).1
        · rw [hst9, if_pos hz0]
          exact TR9
        · simp only [List.map_cons, List.map_nil, List.mem_cons, List.not_mem_nil, or_false, not_or]
          exact (o3 b hb).2
      · have hz0 : ¬ (e8.np - 1 = 0) := by assumption
        subst eIt2
        refine TL.next (nw := [(It, oI), (T9, tupOf zs)] ++ I8) (by k_asm) (by k_asm) (fun b hb => hb) (fun b hb => ?_) ⟨rfl, rfl, as7, _, rfl, ?_, fun b hb => ?_, q84, a7, ha7, hal⟩
        · simp only [List.map_cons, List.map_nil, List.mem_singleton]
          rcases List.mem_cons.mp hb with rfl | hb
          · exact i1
          · rcases List.mem_cons.mp hb with rfl | hb
            · exact i2
            · exact (o2 b hb).1
        · rw [hst9, if_neg hz0]
          exact TR8
        · simp only [List.map_cons, List.map_nil, List.mem_cons, List.not_mem_nil, or_false, not_or]
          exact (o2 b hb).2
    case last2 =>
      (intro m nw h tk E'' z17h; refine Mine.e0_3 z17h ?_; intro e1 e2' z17r; (try clear z17h); (refine Mine.e2_5 z17r ?_; intro as7 I7 z17rx2 TR7 off7 hl7 z17rx6; (try clear z17r); (rcases z17rx2 with rfl); (refine Mine.e1_2 z17rx6 ?_; intro a7 ha7 hal; (try clear z17rx6))); intro F10 N10)
      have F11 := fr_pin (Str.ofString "self") (fr_pin (Str.ofString "n2i") F10 e2') e1
      clear F8 N9 F10
      have hv4 := h44.length
      rw [List.size_toArray, hv4, List.take_length] at TR7
      (have z18 := (id TR7); first | (refine Mine.hideP ?_; intro Gz kGz; rcases z18 with ⟨⟨nd', hX', ⟨k1', k2', k3', k4', t1', t2'', t3', t4'', u', v', hF'⟩, ⟨o', hDm', hD'⟩, lo', hl', hN', _⟩, ⟨vs', c', hR', hrs'⟩, rl'⟩; all_goals (refine kGz ?_; clear kGz Gz)) | rcases z18 with ⟨⟨nd', hX', ⟨k1', k2', k3', k4', t1', t2'', t3', t4'', u', v', hF'⟩, ⟨o', hDm', hD'⟩, lo', hl', hN', _⟩, ⟨vs', c', hR', hrs'⟩, rl'⟩)
      have o1 : ∀ {b : Addr} {ob : Obj}, (b, ob) ∈ I7 → b ≠ It ∧ b ≠ T9 := fun hb => by
        have := off7 _ hb
        simp only [List.map_cons, List.map_nil, List.mem_cons, List.not_mem_nil, or_false, not_or] at this
        exact this
      have nd9 : Nd ((It, oI) :: (T9, tupOf zs) :: I7) := by
        refine Nd.cons (Nd.cons nd' fun b hb => (o1 hb).2) fun b hb => ?_
        rcases List.mem_cons.mp hb with rfl | hb
        · exact hIT
        · exact (o1 hb).1
      have r1 : @Ne Nat It DX := Ne.symm (o1 hF').1
      have r2 : @Ne Nat T9 DX := Ne.symm (o1 hF').2
      have hnode : nodeOf st.1 p = e4 := by rw [← hkey4]; exact nodeOf_get TR3.ts.keys he4
      isplit
      (rename News _ _ _ (updA _ _ _) => N12)
      simp only [List.cons_append, List.nil_append, updA_ne r1, updA_ne r2] at N12
      have o3 : ∀ {ob : Obj}, ∀ b ∈ updA DX ob I7, b.1 ≠ It ∧ b.1 ≠ T9 := fun b hb => by
        rcases mem_of_mem_updA hb with rfl | ⟨hb, _⟩
        · exact ⟨Ne.symm r1, Ne.symm r2⟩
        · exact o1 hb
      subst eIt
      refine TL.next (nw := (T9, tupOf zs) :: updA DX _ I7) (by k_asm) N12 (fun b hb => hb) (fun b hb => ?_) ⟨rfl, rfl, as7, _, rfl, ?_, fun b hb => (o3 b hb).2⟩
      · simp only [List.map_cons, List.map_nil, List.mem_singleton]
        rcases List.mem_cons.mp hb with rfl | hb
        · exact hIT
        · exact (o3 b hb).1
      · rw [doneF_succ hp, hst]
        unfold done1
        rw [hnode, Int.natCast_add, Int.natCast_one, ← Int.add_assoc]
        exact TR7.setf hF' _ _
  case last =>
    (intro m nw h tk E' z19h; refine Mine.e0_3 z19h ?_; intro e1 e2' z19r; (try clear z19h); (refine Mine.e2_3 z19r ?_; intro as3 I3 z19rx2 TR3 off3; (try clear z19r); (rcases z19rx2 with rfl)); intro F6 N6)
    have F7 := fr_pin (Str.ofString "self") (fr_pin (Str.ofString "n2i") F6 e2') e1
    clear F2 N2 F6
    rw [List.size_toArray, hz.length, List.take_length] at TR3
    isplit
    exact mret ret GS (by assumption) (by assumption) (by assumption) (by assumption) (fun q hq => List.mem_cons_of_mem _ hq) ⟨as3, TR3⟩
end Mine
end
namespace Mine
open LCg (NsObj lst lst_snoc ns_obj)
section
variable {prog : Program} {w : World} {A : Around} {E : Value → Shared → Prop} {s : Shared} {env : Env} {target : Expr} {body orelse : List Stmt} {Q : Flow → Shared → Prop} {K : Type} [DecidableEq K] {knd : KeyKind prog w K}
/-- for key in a dict of the ledger -/
theorem loop_keys {h₀ : Heap} {L : Addr} {m₀ : Nm} {news : Led} {d : Addr} {od : Obj} {kvs : List (K × Value)} (J : Nat → Nm → Led → Prop) (hh : A.handled = none) (F : Fr h₀ L s.heap m₀) (N : News h₀ L s.heap news)
    (hd : od.IsDictOf knd kvs) (lo : (d == sysModules) = false) (hst : ∀ i m nw, J i m nw → (d, od) ∈ nw) (j0 : J 0 m₀ news)
    (turn : ∀ i k y x m nw oI h tk (E' : Value → Shared → Prop), kvs[i]? = some (k, y) → knd.is k x = true → J i m nw → (∀ p ∈ nw, p.1 ≠ s.heap.objs.size) → Fr h₀ L h m → News h₀ L h ((s.heap.objs.size, oI) :: nw) →
      wpAny (model prog w) A (assign target env x) (fun _ s₂ => wpAny (model prog w) A (execs body env) (TL h₀ L s Q [(s.heap.objs.size, oI)] (J (i + 1))) E' s₂) E' { s with heap := h, toks := tk })
    (last : ∀ m nw h tk (E' : Value → Shared → Prop), J kvs.length m nw → Fr h₀ L h m → News h₀ L h nw → wpAny (model prog w) A (execs orelse env) Q E' { s with heap := h, toks := tk }) :
    wpAny (model prog w) A (pyIter (.ref d)) (fun it s₂ => LoopIn prog w A env target body orelse Q it s₂) E s := by
  have hax := N _ (hst _ _ _ j0)
  obtain ⟨ep, hat⟩ := Heap.DictOf.dictAt (Heap.dictOf_iff.mpr ⟨od, hax.1, hd⟩)
  have hlt : d < s.heap.objs.size := Heap.lt_size hax.1
  have hne : d ≠ s.heap.objs.size := Nat.ne_of_lt hlt
  refine wpAny_pyIter_dict lo hat fun X => ⟨_, rfl, ?_⟩
  have hk : ∀ b o, s.heap.get? b = some o → (s.heap.push { cls := .type "dict_keyiterator", data := .fields #[.ref d, .int 0 0, .int kvs.length 0, .int ep 0] }).get? b = some o := fun b o e => Heap.get?_push_of_some _ e
  have W := Walks.dictKeys (prog := prog) (w := w) (knd := knd) hh s.heap.objs.size d hne kvs ep
  refine loop_led (h₀ := h₀) (L := L) (m₀ := m₀) (news := news) (s := { s with heap := _ }) (KTurns.ofWalks (target := target) W fun i v s Q E st hQ => letGo_keyiter st.1 hQ) ?_ ?_ ?_ (F.keeps hk) (N.grown hk) ?_ ⟨⟨_, Heap.get?_push_size _ rfl, rfl, rfl⟩, hat.push _⟩ J j0 ?_ ?_ ?_ X
  · intro b hb
    rw [List.mem_singleton.mp hb]; exact none_above F (Nat.le_refl _)
  · intro hb
    have := F.ns.lt
    rw [List.mem_singleton.mp hb] at this
    exact Nat.lt_irrefl _ this
  · (intro i h z1h; rcases z1h with ⟨⟨o, ho, _⟩, _⟩; intro b hb)
    rw [List.mem_singleton.mp hb]; exact ⟨o, ho⟩
  · intro p hp hb
    have := Heap.lt_size (N p hp).1
    rw [List.mem_singleton.mp hb] at this; exact Nat.lt_irrefl _ this
  · intro i m nw h j F₁ N₁ b hb hbw h₁ k₁ i' m' nw' j' N₁'
    have hbl : b = d := by
      rcases List.mem_cons.mp hb with rfl | hb
      · exact absurd List.mem_cons_self hbw
      · exact List.mem_singleton.mp hb
    rw [hbl, (N₁ _ (hst _ _ _ j)).1]
    exact (N₁' _ (hst _ _ _ j')).1
  · (intro i v m nw its h tk E' hi z2h; refine Mine.e2_2 z2h ?_; intro k y hx hkv; (try clear z2h); intro j e o F₁ N₁)
    obtain ⟨oI, rfl⟩ := one_of e
    exact turn i k y v m nw oI h tk E' hx hkv j (fun p hp q => o p hp (by simpa using q)) F₁ N₁
  · exact fun m nw h tk E' j F₁ N₁ => last m nw h tk E' j F₁ N₁
end
section
variable {prog : Program} {w : World} {A : Around} {E : Value → Shared → Prop} {s : Shared} {env : Env} {target elt iter : Expr} {ifs : List Expr} {scope : Scope} {pos : Pos} {K : Type} [DecidableEq K] {knd : KeyKind prog w K}
/-- [.. for x in d.values() ..] -/
theorem blk_vals {h₀ : Heap} {L : Addr} {m : Nm} {news : Led} {vw d : Addr} {od : Obj} {kvs : List (K × Value)} {x : Str} {px : Pos} {cl : List (Str × Addr)} {Qs : Shared → Prop} (J : Nat → List Value → Led → Prop) (hh : A.handled = none)
    (hcell : ∀ y ∈ scope.names, y.2 ≠ .cell) (hkind : scope.kind = .function) (hx : scope.names.lookup x = some .local) (hsz : kvs.length ≤ 1000000)
    (F : Fr h₀ L s.heap m) (N : News h₀ L s.heap news) (hv : s.heap.IsValuesView vw d) (hd : od.IsDictOf knd kvs) (hst : ∀ i ys nw, J i ys nw → (d, od) ∈ nw) (j0 : J 0 [] news) (hys : ∀ i ys nw, J i ys nw → ys.length ≤ i)
    (turn : ∀ i k v ys nw I oI C oC D m₂ h tk (E' : Value → Shared → Prop), kvs[i]? = some (k, v) → m₂ x = some v → NsObj oC m₂ → J i ys nw → (∀ p ∈ nw, p.1 ≠ I ∧ p.1 ≠ C ∧ p.1 ≠ D) → Fr h₀ L h m → News h₀ L h ((I, oI) :: (C, oC) :: (D, lst ys) :: nw) →
      wpAny (model prog w) A (tests ifs (compEnvC scope cl C env)) (fun ok s₃ =>
        if ok = true then wpAny (model prog w) A (eval elt (compEnvC scope cl C env)) (CE h₀ L m s [(I, oI), (C, oC), (D, lst ys)] (fun y nw' => J (i + 1) (ys ++ [y]) nw')) E' s₃
        else CE h₀ L m s [(I, oI), (C, oC), (D, lst ys)] (fun _ nw' => J (i + 1) ys nw') Value.none s₃) E' { s with heap := h, toks := tk })
    (fin : ∀ h, Qs { s with heap := h }) :
    wpAny (model prog w) A (pyIter (.ref vw)) (fun it s₂ => Block prog w A env (.Name x px) elt iter ifs scope pos cl h₀ L m (J kvs.length) it s₂ ∧ Qs s₂) E s := by
  have hax := N _ (hst _ _ _ j0)
  obtain ⟨ep, hat⟩ := Heap.DictOf.dictAt (Heap.dictOf_iff.mpr ⟨od, hax.1, hd⟩)
  have hlt : d < s.heap.objs.size := Heap.lt_size hax.1
  have hne : d ≠ s.heap.objs.size := Nat.ne_of_lt hlt
  refine wpAny_pyIter_values hv hat ⟨fun E RR hRR => ⟨_, rfl, ?_⟩, fin _⟩
  have hk : ∀ b o, s.heap.get? b = some o → (s.heap.push { cls := .type "dict_valueiterator", data := .fields #[.ref d, .int 0 0, .int kvs.length 0, .int ep 0] }).get? b = some o := fun b o e => Heap.get?_push_of_some _ e
  have W := Walks.dictValues (prog := prog) (w := w) (knd := knd) hh s.heap.objs.size d hne kvs ep
  refine comp_led (h₀ := h₀) (L := L) (m := m) (news := news) (s := { s with heap := _ }) (Bd := fun i m₂ => ∃ v, (∃ k, kvs[i]? = some (k, v)) ∧ m₂ x = some v)
    (KTurns.ofWalks (target := .Name x px) W fun i v s Q E st hQ => wpAny_pure hQ) W.self hcell hkind hsz ?_ ?_ ?_ ?_ (F.keeps hk) (N.grown hk) ?_ ⟨⟨_, Heap.get?_push_size _ rfl, rfl, rfl⟩, hat.push _⟩ J j0 ?_
    (fun C i v s' m' Q E hP hn h => asg_name (Pv := fun v => ∃ k, kvs[i]? = some (k, v)) hkind hx hP hn h) ?_ hys hRR
  · intro b hb
    rw [List.mem_singleton.mp hb]; exact none_above F (Nat.le_refl _)
  · intro hb
    have := F.ns.lt
    rw [List.mem_singleton.mp hb] at this
    exact Nat.lt_irrefl _ this
  · (intro i h z3h; rcases z3h with ⟨⟨o, ho, _⟩, _⟩; intro b hb)
    rw [List.mem_singleton.mp hb]; exact ⟨o, ho⟩
  · intro b hb
    show b < (Heap.push _ _).objs.size
    rw [Heap.size_push]
    rcases List.mem_cons.mp hb with rfl | hb
    · exact Nat.lt_succ_self _
    · rw [List.mem_singleton.mp hb]; exact Nat.lt_succ_of_lt hlt
  · intro p hp hb
    have := Heap.lt_size (N p hp).1
    rw [List.mem_singleton.mp hb] at this; exact Nat.lt_irrefl _ this
  · intro i ys nw h j F₁ N₁ b hb hbw h₁ k₁ i' ys' nw' j' N₁'
    have hbl : b = d := by
      rcases List.mem_cons.mp hb with rfl | hb
      · exact absurd List.mem_cons_self hbw
      · exact List.mem_singleton.mp hb
    rw [hbl, (N₁ _ (hst _ _ _ j)).1]
    exact (N₁' _ (hst _ _ _ j')).1
  · (intro i ys nw its oC m₂ C D h tk E' hi z4h; refine Mine.e1_2 z4h ?_; intro v z4x1 hm₂; (try clear z4h); (rcases z4x1 with ⟨k, hv⟩); intro j e o hC F₁ N₁)
    obtain ⟨oI, rfl⟩ := one_of e
    exact turn i k v ys nw _ oI C oC D m₂ h tk E' hv hm₂ hC j (fun p hp => ⟨fun q => o p hp (by simp [q]), fun q => o p hp (by simp [q]), fun q => o p hp (by simp [q])⟩) F₁ N₁
end
end Mine
namespace Mine
open PyProof.Rows.TI (Frs SameUp)
/-- a heap's first part -/
noncomputable def firstPart (h : Heap) (n : Nat) : Heap := { h with objs := h.objs.extract 0 n }
theorem firstPart_size {h : Heap} {n : Nat} : (firstPart h n).objs.size ≤ n := by
  unfold firstPart
  rw [Array.size_extract, Nat.sub_zero]
  exact Nat.min_le_left _ _
theorem firstPart_get {h : Heap} {n : Nat} {b : Addr} {o : Obj} : (firstPart h n).get? b = some o ↔ b < n ∧ h.get? b = some o := by
  rw [Heap.get?_some_iff, Heap.get?_some_iff]
  unfold firstPart
  dsimp only
  rw [Array.getElem?_extract]
  by_cases hb : b < n
  · by_cases hs : b < h.objs.size
    · have : b < min n h.objs.size - 0 := by rw [Nat.sub_zero]; exact Nat.lt_min.mpr ⟨hb, hs⟩
      rw [if_pos this, Nat.zero_add]
      exact ⟨fun x => ⟨hb, x⟩, fun x => x.2⟩
    · have : ¬ b < min n h.objs.size - 0 := by rw [Nat.sub_zero]; exact fun q => hs (Nat.lt_min.mp q).2
      rw [if_neg this, Array.getElem?_eq_none (Nat.le_of_not_lt hs)]
      exact ⟨fun x => by simp at x, fun x => by simp at x⟩
  · have : ¬ b < min n h.objs.size - 0 := by rw [Nat.sub_zero]; exact fun q => hb (Nat.lt_min.mp q).1
    rw [if_neg this]
    exact ⟨fun x => by simp at x, fun x => absurd x.1 hb⟩
/-- how such a def gives back: frames above may have been noted -/
noncomputable abbrev FRet (h₀ : Heap) (L : Addr) (m : Nm) (s : Shared) (rest frs : Led) (Q : Value → Shared → Prop) (post : Value → Led → Prop) : Prop :=
  ∀ v h' tk nw' frs', Fr h₀ L h' m → News h₀ L h' (nw' ++ (rest ++ frs')) → Nd (nw' ++ (rest ++ frs')) → SameUp frs frs' → post v nw' → Q v { s with heap := h', toks := tk }
/-- a contract in which the frames above lie in the ledger: for a def that catches -/
noncomputable abbrev FCon (w : World) (f : Addr) (vs : List Value) (dep uni : Nat) (nw : Led) (pre : Heap → Prop) (post : Value → Led → Prop) : Prop :=
  ∀ (mean : ExcName → Option Value) (mg mb : Nm) (dp un : Nat) (gd : Option (List Code)) (cn : Str) (cs : Scope) (a : Addr) (ccd : Value) (cl : List (Str × Addr)) (outer : List Env) (h₀ : Heap) (L : Addr) (m : Nm) (s : Shared) (Q E : Value → Shared → Prop) (rest frs : Led),
    Frs outer frs → (∀ p ∈ frs, @LT.lt Nat _ p.1 L) → Fr h₀ L s.heap m → (hd.heap_1 w.params).In h₀ → News h₀ L s.heap (nw ++ (rest ++ frs)) → Nd (nw ++ (rest ++ frs)) → Top hd.view_1 Lo mean mg mb h₀ → cs.kind = .function →
    dp + dep < recursionLimit → un + uni < cLine → pre s.heap → FRet h₀ L m s rest frs Q post →
    wpAny (model Pg w) (ktrTop dp un gd cn cs L a ccd cl outer) (call (.ref f) vs) Q E s
theorem ground_of {h₀ h : Heap} {L : Addr} {m : Nm} {nw news frs : Led} {outer : List Env} (Fs : Frs outer frs) (hlt : ∀ p ∈ frs, @LT.lt Nat _ p.1 L) (F : Fr h₀ L h m) (N : News h₀ L h news) (hn : ∀ q ∈ nw, q ∈ news) (hf : ∀ q ∈ frs, q ∈ news) (hfn : ∀ q ∈ frs, ∀ p ∈ nw, p.1 ≠ q.1) :
    ∃ g : Heap, (∀ b o, h₀.get? b = some o → g.get? b = some o) ∧ Fr g L h m ∧ News g L h nw ∧ g.FunFrames h₀ outer := by
  have off : ∀ {b : Addr} {o : Obj}, h₀.get? b = some o → b ∉ nw.map (·.1) := fun {b o} e hb => by
    (have z1 := (List.mem_map.mp hb); refine Mine.e1_2 z1 ?_; intro p hp z1x2; (try clear z1); (rcases z1x2 with rfl))
    have := (N p (hn p hp)).2.2
    rw [e] at this; cases this
  have up : ∀ b o, h₀.get? b = some o → (firstPart (hideAll h (nw.map (·.1))) L).get? b = some o := fun b o e =>
    firstPart_get.mpr ⟨Nat.lt_of_lt_of_le (Heap.lt_size e) F.above, hideAll_get _ (F.keep _ _ e) (off e)⟩
  refine ⟨firstPart (hideAll h (nw.map (·.1))) L, up, ⟨F.ns, fun b o e => of_hideAll _ (firstPart_get.mp e).2, firstPart_size⟩, fun p hp => ⟨(N p (hn p hp)).1, (N p (hn p hp)).2.1, ?_⟩, Fs.fun fun p hp => ⟨firstPart_get.mpr ⟨hlt p hp, hideAll_get _ (N p (hf p hp)).1 fun hb => ?_⟩, (N p (hf p hp)).2.2⟩⟩
  · cases e : (firstPart (hideAll h (nw.map (·.1))) L).get? p.1 with
    | none => rfl
    | some o =>
      have := (firstPart_get.mp e).2
      rw [hideAll_none _ (List.mem_map_of_mem hp)] at this; cases this
  · (have z2 := (List.mem_map.mp hb); refine Mine.e1_2 z2 ?_; intro q hq e; (try clear z2))
    exact hfn p hp q hq e
section
variable {w : World} {f : Addr} {vs : List Value} {dep uni : Nat} {nw : Led} {pre : Heap → Prop} {post : Value → Led → Prop} {mean : ExcName → Option Value} {mg mb : Nm} {dp un : Nat} {gd : Option (List Code)} {cn : Str} {cs : Scope} {a : Addr} {ccd : Value} {cl : List (Str × Addr)} {outer : List Env} {h₀ : Heap} {L : Addr} {m : Nm} {s : Shared} {news rest frs : Led} {Q E : Value → Shared → Prop}
/-- a storing def's call, where the frames above lie in the ledger -/
theorem mcallC (C : MCon w f vs dep uni nw pre post) (Fs : Frs outer frs) (hlt : ∀ p ∈ frs, @LT.lt Nat _ p.1 L) (F : Fr h₀ L s.heap m) (X : (hd.heap_1 w.params).In h₀) (N : News h₀ L s.heap news) (T : Top hd.view_1 Lo mean mg mb h₀) (hk : cs.kind = .function)
    (hd : dp + dep < recursionLimit) (hu : un + uni < cLine) (hp : pre s.heap) (hn : ∀ q ∈ nw, q ∈ news) (hf : ∀ q ∈ frs, q ∈ rest) (hr : ∀ q ∈ rest, q ∈ news ∧ ∀ p ∈ nw, p.1 ≠ q.1)
    (h : ∀ v h' tk nw', Fr h₀ L h' m → News h₀ L h' (nw' ++ rest) → (∀ p ∈ nw', ∀ q ∈ rest, p.1 ≠ q.1) → post v nw' → Q v { s with heap := h', toks := tk }) :
    codeAny (model Pg w) (ktrTop dp un gd cn cs L a ccd cl outer) (.call (.ref f) ⟨vs, []⟩) (fun r s' => match r with | .ok (.ret v) => Q v s' | .ok _ => False | .error e => E e s') s := by
  have off : ∀ q ∈ rest, q.1 ∉ nw.map (·.1) := fun q hq e => by
    (have z3 := (List.mem_map.mp e); refine Mine.e1_2 z3 ?_; intro p hp e; (try clear z3))
    exact (hr q hq).2 p hp e
  (have z4 := (ground_of Fs hlt F N hn (fun q hq => (hr q (hf q hq)).1) (fun q hq p hp => (hr q (hf q hq)).2 p hp)); refine Mine.e1_4 z4 ?_; intro g up Fg Ng ff; (try clear z4))
  have B : Below { ktrTop dp un gd cn cs L a ccd cl outer with frames := some outer } h₀ outer g := ⟨rfl, up, ff⟩
  refine C mean mg mb dp un gd cn cs a ccd cl outer _ _ g L m s Q E B Fg (X.keeps up) Ng (T.keeps up) hk hd hu hp fun v h' tk nw' F' N' K fr po => h v h' tk nw' ⟨F'.ns, fun b o e => F'.keep b o (up b o e), F.above⟩ (fun q hq => ?_) (fun p hp q hq e => ?_) po
  · rcases List.mem_append.mp hq with hq | hq
    · refine ⟨(N' q hq).1, (N' q hq).2.1, ?_⟩
      cases e : h₀.get? q.1 with
      | none => rfl
      | some o => have := (N' q hq).2.2; rw [up _ _ e] at this; cases this
    · exact ⟨K _ _ (N q (hr q hq).1).1 (off q hq), (N q (hr q hq).1).2⟩
  · rcases fr p hp with h1 | h1
    · exact off q hq (e ▸ h1)
    · rw [e, (N q (hr q hq).1).1] at h1; cases h1
/-- the call itself -/
theorem mcallF (C : MCon w f vs dep uni nw pre post) (Fs : Frs outer frs) (hlt : ∀ p ∈ frs, @LT.lt Nat _ p.1 L) (F : Fr h₀ L s.heap m) (X : (hd.heap_1 w.params).In h₀) (N : News h₀ L s.heap news) (T : Top hd.view_1 Lo mean mg mb h₀) (hk : cs.kind = .function)
    (hd : dp + dep < recursionLimit) (hu : un + uni < cLine) (hp : pre s.heap) (hn : ∀ q ∈ nw, q ∈ news) (hf : ∀ q ∈ frs, q ∈ rest) (hr : ∀ q ∈ rest, q ∈ news ∧ ∀ p ∈ nw, p.1 ≠ q.1)
    (h : ∀ v h' tk nw', Fr h₀ L h' m → News h₀ L h' (nw' ++ rest) → (∀ p ∈ nw', ∀ q ∈ rest, p.1 ≠ q.1) → post v nw' → Q v { s with heap := h', toks := tk }) :
    wpAny (model Pg w) (ktrTop dp un gd cn cs L a ccd cl outer) (call (.ref f) vs) Q E s :=
  wpAny_call (mcallC C Fs hlt F X N T hk hd hu hp hn hf hr h)
/-- by a bound method -/
theorem mcallB {q : Addr} {self : Value} {args : List Value} (C : MCon w f (self :: args) dep uni nw pre post) (hb : s.heap.get? q = some (methodObj (.ref f) self)) (Fs : Frs outer frs) (hlt : ∀ p ∈ frs, @LT.lt Nat _ p.1 L) (F : Fr h₀ L s.heap m) (X : (hd.heap_1 w.params).In h₀) (N : News h₀ L s.heap news) (T : Top hd.view_1 Lo mean mg mb h₀) (hk : cs.kind = .function)
    (hd : dp + dep < recursionLimit) (hu : un + uni < cLine) (hp : pre s.heap) (hn : ∀ q ∈ nw, q ∈ news) (hf : ∀ q ∈ frs, q ∈ rest) (hr : ∀ q ∈ rest, q ∈ news ∧ ∀ p ∈ nw, p.1 ≠ q.1)
    (h : ∀ v h' tk nw', Fr h₀ L h' m → News h₀ L h' (nw' ++ rest) → (∀ p ∈ nw', ∀ q ∈ rest, p.1 ≠ q.1) → post v nw' → Q v { s with heap := h', toks := tk }) :
    wpAny (model Pg w) (ktrTop dp un gd cn cs L a ccd cl outer) (call (.ref q) args) Q E s :=
  wpAny_call (method_call hb (mcallC C Fs hlt F X N T hk hd hu hp hn hf hr h))
/-- a pure def's call, where the frames above lie in the ledger -/
theorem pcallF (C : PCon w f vs dep uni pre post) (Fs : Frs outer frs) (hlt : ∀ p ∈ frs, @LT.lt Nat _ p.1 L) (F : Fr h₀ L s.heap m) (X : (_root_.hd.heap_1 w.params).In h₀) (N : News h₀ L s.heap news) (T : Top _root_.hd.view_1 Lo mean mg mb h₀) (hk : cs.kind = .function)
    (hd : dp + dep < recursionLimit) (hu : un + uni < cLine) (hp : pre s.heap) (hf : ∀ q ∈ frs, q ∈ news)
    (h : ∀ v h' tk nw', Fr h₀ L h' m → News h₀ L h' (nw' ++ news) → (∀ b o, s.heap.get? b = some o → h'.get? b = some o) → (∀ p ∈ nw', s.heap.get? p.1 = none) → post v nw' → Q v { s with heap := h', toks := tk }) :
    wpAny (model Pg w) (ktrTop dp un gd cn cs L a ccd cl outer) (call (.ref f) vs) Q E s := by
  (have z5 := (ground_of (nw := []) Fs hlt F N (fun q hq => nomatch hq) hf (fun q hq p hp => nomatch hp)); refine Mine.e1_4 z5 ?_; intro g up Fg Ng ff; (try clear z5))
  have B : Below { ktrTop dp un gd cn cs L a ccd cl outer with frames := some outer } h₀ outer g := ⟨rfl, up, ff⟩
  refine C mean mg mb dp un gd cn cs a ccd cl outer _ _ g L m s Q E B Fg (X.keeps up) (T.keeps up) hk hd hu hp fun v h' tk nw' F' N' K fr po => h v h' tk nw' ⟨F'.ns, fun b o e => F'.keep b o (up b o e), F.above⟩ (fun q hq => ?_) K fr po
  rcases List.mem_append.mp hq with hq | hq
  · refine ⟨(N' q hq).1, (N' q hq).2.1, ?_⟩
    cases e : h₀.get? q.1 with
    | none => rfl
    | some o => have := (N' q hq).2.2; rw [up _ _ e] at this; cases this
  · exact ⟨K _ _ (N q hq).1, (N q hq).2⟩
end
end Mine
namespace Mine
open PyProof.Rows.TI (Frs SameUp)
/-- a frame's own object, whatever is noted on it -/
structure FrObj (L : Addr) (m : Nm) (oL : Obj) : Prop where
  dict : ∃ es ep, oL.data = .dict es ep
  ns : ∀ (h : Heap) (sl : Array (Option Value)), h.get? L = some { oL with slots := sl } → h.Ns L m
theorem fr_obj {h₀ h : Heap} {L : Addr} {m : Nm} (F : Fr h₀ L h m) : ∃ oL, h.get? L = some oL ∧ FrObj L m oL := by
  (refine Mine.e3_4 F.ns ?_; intro oL es ep hL hLd hLk hLf; (try clear F.ns))
  exact ⟨oL, hL, ⟨es, ep, hLd⟩, fun h' sl e => ⟨_, es, ep, e, hLd, hLk, hLf⟩⟩
section
variable {prog : Program} {w : World} {A : Around} {s : Shared} {h₀ : Heap} {L : Addr} {m mg mb : Nm} {news : Led} {K : Frag} {p : Program} {loose : List Str} {mean : ExcName → Option Value}
  {R : Result → Shared → Prop} {name qual : Str} {params : Arguments} {body : List Stmt} {scope : Scope} {dV kV doc pm cdv ct oc : Value} {an od : Option Addr} {osl : Array (Option Value)} {f : Addr} {args : Args} {binds : List (Str × Value)}
/-- a def called, the caller's frame laid onto the ledger -/
theorem code_defF (F : Fr h₀ L s.heap m) (X₀ : K.In h₀) (N : News h₀ L s.heap news) (T : Top p loose mean mg mb h₀)
    (ho : K.lookup f = some ⟨oc, od, .func (fnOf name qual params body scope dV kV doc pm an cdv ct), osl⟩) (hcd : codeIn K cdv qual = true) (hroom : A.depth < recursionLimit)
    (hbind : BindsTo s (fnOf name qual params body scope dV kV doc pm an cdv ct) args binds) (hloc : ∀ y ∈ binds, scope.names.lookup y.1 = some .local)
    (h : ∀ oL L' h₁, FrObj L m oL → @LT.lt Nat _ L L' → (∀ q ∈ news, @LT.lt Nat _ q.1 L') → Fr h₀ L' h₁ (fun y => binds.reverse.lookup y) → News h₀ L' h₁ ((L, oL) :: news) →
      wpAny (model prog w) (A.deeper (envOf qual scope L' f cdv)) (execs body (envOf qual scope L' f cdv))
        (fun fl s' => R (.ok (.ret (match fl with | .ret v => v | _ => .none))) s')
        (fun e s' => wpAny (model prog w) (A.deeper (envOf qual scope L' f cdv)) (leaving (envOf qual scope L' f cdv) e) (fun _ s'' => R (.error e) s'') (fun e' s'' => R (.error e') s'') s')
        { s with heap := h₁, toks := s.toks + binds.length })
    (hco : scope.isCoroutine = false) (hgen : scope.isGenerator = false) (hk : scope.kind = .function)
    (hcell : ∀ x ∈ scope.names, x.2 ≠ .cell) : codeAny (model prog w) A (.call (.ref f) args) R s := by
  have X := X₀.keeps F.keep
  (have z2 := (fr_obj F); refine Mine.e1_2 z2 ?_; intro oL hL fo; (try clear z2))
  have hLt := Heap.lt_size hL
  refine codeAny_call_def (fd := fnOf name qual params body scope dV kV doc pm an cdv ct) (body := body) (binds := binds) hroom (X _ _ ho) rfl (T.nolimit.keeps F.keep) (codeRec_of X hcd) rfl hbind hcell hloc (fun h₁ hns hk₁ => ?_) hco hgen hk
  have up : ∀ b o, s.heap.get? b = some o → h₁.get? b = some o := fun b o e => hk₁ b o e
  refine h oL s.heap.objs.size h₁ fo hLt (fun q hq => Heap.lt_size (N q hq).1) ⟨hns, fun b o e => up b o (F.keep b o e), Nat.le_trans F.above (Nat.le_of_lt hLt)⟩ (fun q hq => ?_)
  rcases List.mem_cons.mp hq with rfl | hq
  · exact ⟨up _ _ hL, Nat.ne_of_lt hLt, Heap.get?_none_of_le F.above⟩
  · (have z3 := (N q hq); refine Mine.e0_3 z3 ?_; intro h1 h2 h3; (try clear z3))
    exact ⟨up _ _ h1, Nat.ne_of_lt (Heap.lt_size h1), h3⟩
/-- the same, a def whose names lie in cells -/
theorem code_defCF (F : Fr h₀ L s.heap m) (X₀ : K.In h₀) (N : News h₀ L s.heap news) (T : Top p loose mean mg mb h₀)
    (ho : K.lookup f = some ⟨oc, od, .func (fnOf name qual params body scope dV kV doc pm an cdv ct), osl⟩) (hcd : codeIn K cdv qual = true) (hroom : A.depth < recursionLimit)
    (hbind : BindsTo s (fnOf name qual params body scope dV kV doc pm an cdv ct) args binds) (hkind : (binds.all fun y => scope.names.lookup y.1 == some .local || scope.names.lookup y.1 == some .cell) = true)
    (hnd : ((cellsFrom 0 scope.names []).map (·.1)).Nodup)
    (h : ∀ oL L' h₁ tk cells, FrObj L m oL → @LT.lt Nat _ L L' → (∀ q ∈ news, @LT.lt Nat _ q.1 L') → (∀ q ∈ cells, s.heap.get? q.1 = none) → Fr h₀ L' h₁ (bindL (envOfC qual scope L' f cdv).kindOf binds fun _ => none) → News h₀ L' h₁ (cells ++ (L, oL) :: news) →
      CellsAre (bindC (envOfC qual scope L' f cdv).kindOf binds fun _ => none) (cellsFrom (L' + 1) scope.names []) cells →
      wpAny (model prog w) (A.deeper (envOfC qual scope L' f cdv)) (execs body (envOfC qual scope L' f cdv))
        (fun fl s' => R (.ok (.ret (match fl with | .ret v => v | _ => .none))) s')
        (fun e s' => wpAny (model prog w) (A.deeper (envOfC qual scope L' f cdv)) (leaving (envOfC qual scope L' f cdv) e) (fun _ s'' => R (.error e) s'') (fun e' s'' => R (.error e') s'') s')
        { s with heap := h₁, toks := tk })
    (hco : scope.isCoroutine = false) (hgen : scope.isGenerator = false) (hk : scope.kind = .function) : codeAny (model prog w) A (.call (.ref f) args) R s := by
  have X := X₀.keeps F.keep
  (have z4 := (fr_obj F); refine Mine.e1_2 z4 ?_; intro oL hL fo; (try clear z4))
  have hLt := Heap.lt_size hL
  refine codeAny_call_function (fd := fnX name qual params body scope [] dV kV doc pm an cdv ct) hroom (X _ _ ho) rfl hco hgen rfl (codeRec_of X hcd) (hbind _ _ _ _ ?_)
  refine wpAny_newFunctionEnv_cells hk (kindsX hkind _) fun env' he s' x => ?_
  subst he
  refine ⟨(T.nolimit.keeps F.keep).keeps x.toInCall.keep, codeAny_func ?_⟩
  (refine Mine.e2_2 x.done ?_; intro h₁ tk z5x2 _; (try clear x.done); (rcases z5x2 with rfl))
  have hk₁ := x.toInCall.keep
  (have z6 := (Cl.news (h₀ := s.heap) (Nat.le_refl _) fun n c hm => ⟨x.cell n c (lookup_of_mem_nodup (cellsFrom_names scope.names 0 (s.heap.objs.size + 1) [] [] rfl ▸ hnd) hm), x.above n c hm⟩); refine Mine.e1_2 z6 ?_; intro cells NC Y; (try clear z6))
  have hle : h₀.objs.size ≤ s.heap.objs.size := Nat.le_trans F.above (Nat.le_of_lt hLt)
  refine h oL s.heap.objs.size h₁ tk cells fo hLt (fun q hq => Heap.lt_size (N q hq).1) (fun q hq => (NC q hq).2.2) ⟨x.toInCall.ns, fun b o e => hk₁ b o (F.keep b o e), hle⟩ (fun q hq => ?_) Y
  · rcases List.mem_append.mp hq with hq | hq
    · refine ⟨(NC q hq).1, (NC q hq).2.1, ?_⟩
      cases e : h₀.get? q.1 with
      | none => rfl
      | some o => have := F.keep _ _ e; rw [(NC q hq).2.2] at this; cases this
    · rcases List.mem_cons.mp hq with rfl | hq
      · exact ⟨hk₁ _ _ hL, Nat.ne_of_lt hLt, Heap.get?_none_of_le F.above⟩
      · (have z7 := (N q hq); refine Mine.e0_3 z7 ?_; intro h1 h2 h3; (try clear z7))
        exact ⟨hk₁ _ _ h1, Nat.ne_of_lt (Heap.lt_size h1), h3⟩
end
theorem fret {h₀ : Heap} {L L' : Addr} {m m' : Nm} {oL : Obj} {s : Shared} {rest frs frs' nw' all : Led} {Q : Value → Shared → Prop} {post : Value → Led → Prop} {v : Value} {h' : Heap} {tk : Nat}
    (ret : FRet h₀ L m s rest frs Q post) (fo : FrObj L m oL) (ab : h₀.objs.size ≤ L) (F' : Fr h₀ L' h' m') (N' : News h₀ L' h' all) (hs : ∀ q ∈ nw' ++ (rest ++ frs'), q ∈ all) (nd : Nd (nw' ++ (rest ++ frs'))) (SU : SameUp ((L, oL) :: frs) frs') (hp : post v nw') : Q v { s with heap := h', toks := tk } := by
  cases frs' with
  | nil => exact False.elim SU
  | cons q r =>
    (refine Mine.e0_3 SU ?_; intro h1 z8x1 h3; (try clear SU); (rcases z8x1 with ⟨sl, h2⟩))
    obtain ⟨qa, qo⟩ := q
    dsimp only at h1 h2
    subst h1 h2
    have hL : h'.get? qa = some { oL with slots := sl } := (N' _ (hs _ (List.mem_append_right _ (List.mem_append_right _ List.mem_cons_self)))).1
    have sub : ∀ p ∈ nw' ++ (rest ++ r), p ∈ nw' ++ (rest ++ (qa, ({ oL with slots := sl } : Obj)) :: r) := fun p hp => by
      rcases List.mem_append.mp hp with hp | hp
      · exact List.mem_append_left _ hp
      · rcases List.mem_append.mp hp with hp | hp
        · exact List.mem_append_right _ (List.mem_append_left _ hp)
        · exact List.mem_append_right _ (List.mem_append_right _ (List.mem_cons_of_mem _ hp))
    have ndp : (nw' ++ (rest ++ (qa, ({ oL with slots := sl } : Obj)) :: r)).Perm ((qa, ({ oL with slots := sl } : Obj)) :: (nw' ++ (rest ++ r))) := by
      rw [← List.append_assoc, ← List.append_assoc]
      exact List.perm_middle
    have nd2 : Nd ((qa, ({ oL with slots := sl } : Obj)) :: (nw' ++ (rest ++ r))) := ((ndp.map (fun x : Addr × Obj => (x.1 : Nat))).nodup_iff).mp nd
    exact ret v h' tk nw' r ⟨fo.ns _ sl hL, F'.keep, ab⟩ (fun p hp => ⟨(N' p (hs p (sub p hp))).1, nd2.head p hp, (N' p (hs p (sub p hp))).2.2⟩) nd2.tail h3 hp
end Mine
namespace Mine
namespace NX
theorem slot_ga : Slot "list_iterator" "__getattribute__" "object.__getattribute__" := by
  first
  | exact .of (owner := "object") (n := "__getattribute__") (by rw [typeLookup_type, builtinLookup_eq_fast]; kernel_rfl) (by decide +kernel) (by decide +kernel) (by decide +kernel) (by first | exact .inl (by decide +kernel) | exact .inr (by decide +kernel)) (by rw [isSubtype_type]; kernel_rfl)
  | exact .of (owner := "list_iterator") (n := "__getattribute__") (by rw [typeLookup_type, builtinLookup_eq_fast]; kernel_rfl) (by decide +kernel) (by decide +kernel) (by decide +kernel) (by first | exact .inl (by decide +kernel) | exact .inr (by decide +kernel)) (by rw [isSubtype_type]; kernel_rfl)
theorem lk_next : typeLookup (.type "list_iterator") "__next__" = pure (some (.builtin "list_iterator.__next__")) := by rw [typeLookup_type, builtinLookup_eq_fast]; kernel_rfl
theorem type_next : typeOf (.builtin "list_iterator.__next__") = pure (.type "wrapper_descriptor") := by show builtinType _ = _; rw [builtinType_eq_fast]; kernel_rfl
theorem slot_get : Slot "wrapper_descriptor" "__get__" "wrapper_descriptor.__get__" :=
  .of (owner := "wrapper_descriptor") (n := "__get__") (by rw [typeLookup_type, builtinLookup_eq_fast]; kernel_rfl) (by decide +kernel) (by decide +kernel) (by decide +kernel) (by first | exact .inl (by decide +kernel) | exact .inr (by decide +kernel)) (by rw [isSubtype_type]; kernel_rfl)
theorem no_set : typeLookup (.type "wrapper_descriptor") "__set__" = pure none := by rw [typeLookup_type, builtinLookup_eq_fast]; kernel_rfl
theorem no_del : typeLookup (.type "wrapper_descriptor") "__delete__" = pure none := by rw [typeLookup_type, builtinLookup_eq_fast]; kernel_rfl
theorem entry_get : entryFor table "wrapper_descriptor.__get__" = some Builtin.«wrapper_descriptor.__get__» := entryFor_of_tree (by kernel_rfl)
theorem args_get (a b c : Value) : argsOk "wrapper_descriptor.__get__" ⟨[a, b, c], []⟩ := by unfold argsOk; kernel_rfl
theorem args_ga (a b : Value) : argsOk "object.__getattribute__" ⟨[a, b], []⟩ := by unfold argsOk; kernel_rfl
theorem entry_ga : entryFor table "object.__getattribute__" = some Builtin.«object.__getattribute__» := entryFor_of_tree (by kernel_rfl)
theorem owner_next : (".".intercalate ("list_iterator.__next__".cutAt '.').dropLast) = "list_iterator" := by
  have e0 : "list_iterator.__next__".cutAt '.' = ["list_iterator", "__next__"] := by first | rfl | decide +kernel
  rw [e0]; decide +kernel
theorem sub_next : isSubtype (.type "list_iterator") (.type (".".intercalate ("list_iterator.__next__".cutAt '.').dropLast)) = pure true := by
  rw [owner_next, isSubtype_type]; kernel_rfl
noncomputable def bObj (it : Addr) : Obj := { cls := .type "method-wrapper", data := .fields #[.builtin "list_iterator.__next__", .ref it] }
section
variable {prog : Program} {w : World} {A : Around} {E : Value → Shared → Prop} {h : Heap} {g : Array GenState} {d : Drawn} {t : Nat} {os : OsState} {a : Addr} {o : Obj}
theorem next_get {R : Result → Shared → Prop} (hx : h.get? a = some o) (hc : o.cls = .type "list_iterator") (hq : R (.ok (.ret (.ref h.objs.size))) ⟨h.push (bObj a), g, d, t, os⟩) :
    codeAny (model prog w) A (.call (.builtin "wrapper_descriptor.__get__") ⟨[.builtin "list_iterator.__next__", .ref a, .type "list_iterator"], []⟩) R ⟨h, g, d, t, os⟩ := by
  have hT : (⟨h, g, d, t, os⟩ : Shared).TypeIs (.ref a) "list_iterator" := ⟨_, hx, hc⟩
  have hT5 : (⟨h, g, d, t, os⟩ : Shared).TypeIs (.builtin "list_iterator.__next__") "wrapper_descriptor" := NX.type_next
  have f8 := NX.sub_next
  refine codeAny_call_builtin NX.slot_get.plain NX.entry_get (NX.slot_get.check _ _ _ _ _ _ _ _ hT5 (NX.args_get _ _ _) ?_)
  repeat (any_goals (first | assumption | wp_step))
theorem next_entry {f : Array Value} {sl : Array (Option Value)} {tk : Tok} {Q : Fin → Shared → Prop} (hx : h.get? a = some { cls := .type "list_iterator", dict := none, data := .fields f, slots := sl }) (hq : Q (.done (.ret (.ref h.objs.size))) ⟨h.push (bObj a), g, d, t, os⟩) :
    wpAny (model prog w) A (Builtin.«object.__getattribute__» ⟨[.ref a, .str "__next__" tk], []⟩) Q E ⟨h, g, d, t, os⟩ := by
  have hc : ({ cls := .type "list_iterator", dict := none, data := .fields f, slots := sl } : Obj).cls = .type "list_iterator" := rfl
  have hT : (⟨h, g, d, t, os⟩ : Shared).TypeIs (.ref a) "list_iterator" := ⟨_, hx, rfl⟩
  have hT5 : (⟨h, g, d, t, os⟩ : Shared).TypeIs (.builtin "list_iterator.__next__") "wrapper_descriptor" := NX.type_next
  have f4 := NX.lk_next
  have f5 := NX.type_next
  have f6 := NX.slot_get.lookup
  have f7 := NX.no_set
  have f8 := NX.no_del
  repeat (any_goals (first | assumption | wp_step))
  refine next_get hx rfl ?_
  repeat (any_goals (first | assumption | wp_step))
theorem next_call {f : Array Value} {sl : Array (Option Value)} {tk : Tok} {R : Result → Shared → Prop} (hx : h.get? a = some { cls := .type "list_iterator", dict := none, data := .fields f, slots := sl }) (hq : R (.ok (.ret (.ref h.objs.size))) ⟨h.push (bObj a), g, d, t, os⟩) :
    codeAny (model prog w) A (.call (.builtin "object.__getattribute__") ⟨[.ref a, .str "__next__" tk], []⟩) R ⟨h, g, d, t, os⟩ :=
  codeAny_call_builtin NX.slot_ga.plain NX.entry_ga (NX.slot_ga.check _ _ _ _ _ _ _ _ (show (⟨h, g, d, t, os⟩ : Shared).TypeIs (.ref a) "list_iterator" from ⟨_, hx, rfl⟩) (NX.args_ga _ _) (next_entry hx hq))
theorem next_attr {f : Array Value} {sl : Array (Option Value)} {Q : Value → Shared → Prop} (hx : h.get? a = some { cls := .type "list_iterator", dict := none, data := .fields f, slots := sl }) (hq : Q (.ref h.objs.size) ⟨h.push (bObj a), g, d, t + 1, os⟩) :
    wpAny (model prog w) A (getAttr (.ref a) "__next__" true) Q E ⟨h, g, d, t, os⟩ := by
  have hT : (⟨h, g, d, t, os⟩ : Shared).TypeIs (.ref a) "list_iterator" := ⟨_, hx, rfl⟩
  have hT' : (⟨h, g, d, t + 1, os⟩ : Shared).TypeIs (.ref a) "list_iterator" := ⟨_, hx, rfl⟩
  have f2 := NX.slot_ga.lookup
  have f3 := NX.slot_ga.bind (.ref a)
  unfold getAttr
  repeat (any_goals (first | assumption | wp_step))
  refine next_call hx ?_
  show wpAny _ _ (handedOut (Value.ref h.objs.size)) _ _ _
  exact wpAny_pure hq
/-- an iterator over a list, at a place -/
noncomputable def itObj (l : Addr) (i : Nat) : Obj := { cls := .type "list_iterator", data := .fields #[.ref l, .int i 0] }
theorem check_next {it : Addr} : checkBoundCall "list_iterator.__next__" ⟨[.ref it], []⟩ = pure () := by first | kernel_rfl | rfl
theorem quiet_next {as : Args} : (Code.builtin "list_iterator.__next__" as).quiet = true := Code.quiet_builtin _ (by decide +kernel)
section
variable {s : Shared}
theorem call_bound {b it : Addr} {Q : Value → Shared → Prop} (hb : s.heap.get? b = some (bObj it)) (h : codeAny (model prog w) A (.builtin "list_iterator.__next__" ⟨[.ref it], []⟩) (fun r s' => match r with | .ok (.ret v) => Q v s' | .ok _ => False | .error e => E e s') s) :
    wpAny (model prog w) A (call (.ref b) []) Q E s := by
  refine wpAny_call (codeAny_of_tree ?_)
  show wpAny _ A.in1 (callAny (.ref b) ⟨[], []⟩) _ _ s
  simp only [callAny]
  refine wpAny_bind (wpAny_load hb ?_)
  simp only [bObj, show (Value.type "method-wrapper" == Value.type "method" || Value.type "method-wrapper" == Value.type "builtin_function_or_method" || Value.type "method-wrapper" == Value.type "method-wrapper") = true by decide, if_true]
  refine KFB.if_so (by decide) ?_
  refine wpAny_bind (wpAny_of_eq (a := ()) check_next ?_)
  refine wpAny_bind (wpAny_pure (wpAny_pure ?_))
  exact ⟨quiet_next, h⟩
theorem call_item {b it l : Addr} {i : Nat} {items : Array Value} {x : Value} {Q : Value → Shared → Prop} (hb : s.heap.get? b = some (bObj it)) (hit : s.heap.get? it = some (itObj l i)) (hl : s.heap.IsList l items) (hx : items[i]? = some x)
    (hQ : ∀ h', h'.get? it = some (itObj l (i + 1)) → Heap.SameBut it s.heap h' → Q x { s with heap := h' }) : wpAny (model prog w) A (call (.ref b) []) Q E s := by
  (refine Mine.e1_3 hl ?_; intro ol hol _ z1r; (try clear hl); (rcases z1r with ⟨nl, hdl⟩))
  refine call_bound hb (codeAny_builtin entry_listiter_next ?_)
  show wpAny _ _ (field (.ref it) 0 >>= _) _ _ s
  refine wpAny_bind (wpAny_field hit rfl (x := .ref l) rfl ?_)
  show wpAny _ _ (if (Value.ref l == Value.none) = true then _ else _) _ _ s
  rw [if_neg (show ¬ ((Value.ref l == Value.none) = true) from Bool.false_ne_true)]
  show wpAny _ _ (field (.ref it) 1 >>= _) _ _ s
  refine wpAny_bind (wpAny_field hit rfl (x := .int i 0) rfl ?_)
  show wpAny _ _ (seqItems? (.ref l) >>= _) _ _ s
  refine wpAny_bind (wpAny_seqItems hol hdl ?_)
  simp only [Int.toNat_natCast, hx]
  refine wpAny_bind (wpAny_setField hit rfl (by simp) (wpAny_pure (hQ _ ?_ (Heap.SameBut.update ..))))
  rw [Heap.get?_update_self _ hit rfl]
  unfold itObj Obj.mapFields
  simp [rawInt]
theorem call_end {b it l : Addr} {i : Nat} {items : Array Value} {Q : Value → Shared → Prop} (hh : A.handled = none) (hb : s.heap.get? b = some (bObj it)) (hit : s.heap.get? it = some (itObj l i)) (hl : s.heap.IsList l items) (hx : items[i]? = none)
    (hE : ∀ h₁ h' e, Heap.SameBut it s.heap h₁ → Heap.NewExc h₁ h' e "StopIteration" → E (.ref e) { s with heap := h' }) : wpAny (model prog w) A (call (.ref b) []) Q E s := by
  (refine Mine.e1_3 hl ?_; intro ol hol _ z2r; (try clear hl); (rcases z2r with ⟨nl, hdl⟩))
  refine call_bound hb (codeAny_builtin entry_listiter_next ?_)
  show wpAny _ _ (field (.ref it) 0 >>= _) _ _ s
  refine wpAny_bind (wpAny_field hit rfl (x := .ref l) rfl ?_)
  show wpAny _ _ (if (Value.ref l == Value.none) = true then _ else _) _ _ s
  rw [if_neg (show ¬ ((Value.ref l == Value.none) = true) from Bool.false_ne_true)]
  show wpAny _ _ (field (.ref it) 1 >>= _) _ _ s
  refine wpAny_bind (wpAny_field hit rfl (x := .int i 0) rfl ?_)
  show wpAny _ _ (seqItems? (.ref l) >>= _) _ _ s
  refine wpAny_bind (wpAny_seqItems hol hdl ?_)
  simp only [Int.toNat_natCast, hx]
  refine wpAny_bind (wpAny_rule (wpAny_bind (wpAny_setField hit rfl (by simp) ?_)))
  show wpAny _ _ (newExc (.type "StopIteration") [] >>= _) _ _ _
  refine wpAny_bind ?_
  simp only [newExc, newTuple]
  refine wpAny_bind (wpAny_newObj_type ?_ (by size_fits))
  refine wpAny_bind (m := firstArgMember _ _) (wpAny_of_eq (a := Value.none) (by first | rfl | (simp only [firstArgMember]; rfl)) ?_)
  refine wpAny_newObj_type ?_ (by size_fits)
  simp only [raiseNew]
  refine wpAny_bind (wpAny_handled ?_)
  first | rw [show (A.under (.builtin "list_iterator.__next__" ⟨[.ref it], []⟩)).handled = none from hh] | rw [show A.in1.in1.handled = none from hh] | rw [show A.in1.handled = none from hh] | rw [hh]
  refine wpAny_bind (wpAny_pure (wpAny_throw ?_))
  exact hE _ _ _ (Heap.SameBut.update ..) ⟨fun b o hb => Heap.get?_push_of_some _ (Heap.get?_push_of_some _ hb), Heap.get?_none_of_le (by simp), _, _, Heap.get?_push_size _ rfl, rfl, rfl⟩
end
end
end NX
end Mine
namespace Mine
open LCg (NsObj lst lst_snoc ns_obj)
open PyProof.Rows.TI (Frs SameUp)
/-- a node on the stack: its name, its bound next, its iterator over a list of successors, how far it is -/
structure SE where
  key : Str
  b : Addr
  it : Addr
  l : Addr
  pos : Nat
  su : List Str
noncomputable def stkM : List SE → Led
  | [] => []
  | e :: r => (e.b, NX.bObj e.it) :: (e.it, NX.itObj e.l e.pos) :: stkM r
noncomputable def keysOf (stk : List SE) : List Str := stk.reverse.map (·.key)
/-- the search's own objects in the ledger -/
structure FdAt (w : World) (es : List NE) (rk : Str → Nat) (C : Led) (Sk Is Sn Nk : Addr) (frs0 : Led) (stk : List SE) (seen : List Str) (nw : Led) : Prop where
  ex : ∃ (svs : List Value) (sc : Nat) (ic : Nat) (so : Obj) (n : Nat) (od : Obj) (kvs : List (Str × Value)) (frs : Led),
    nw = (Sk, W.listOf svs.toArray sc) :: (Is, W.listOf (stk.reverse.map fun e => Value.ref e.b).toArray ic) :: (Sn, so) :: (Nk, od) :: (stkM stk ++ (C ++ frs)) ∧ SameUp frs0 frs ∧ StrsAre svs (keysOf stk) ∧
    so.SetObjOf (PySem.strKind Pg w) (fun k => decide (k ∈ seen)) n ∧ n ≤ seen.length ∧ od.IsDictOf (PySem.strKind Pg w) kvs ∧ kvs.map (·.1) = keysOf stk
  nd : Nd nw
  it : ∀ e ∈ stk, (∃ vs c, (e.l, W.listOf vs c) ∈ C ∧ StrsAre vs.toList e.su) ∧ e.key ∈ seen ∧ (∃ x ∈ es, x.key = e.key ∧ x.su = e.su) ∧ e.pos ≤ e.su.length
  rank : stk.Pairwise fun a b => rk b.key < rk a.key
  sn : seen.Nodup
  se : ∀ k ∈ seen, k ∈ es.map (·.key)
  lo : (Nk == sysModules) = false
noncomputable def unW (es : List NE) (seen : List Str) : Nat := (es.map fun e => if e.key ∈ seen then 0 else 2 + e.su.length).sum
noncomputable def stW (stk : List SE) : Nat := (stk.map fun e => 1 + (e.su.length - e.pos)).sum
theorem unW_add {es : List NE} (hn : (es.map (·.key)).Nodup) {seen : List Str} {e : NE} (he : e ∈ es) (hs : e.key ∉ seen) : unW es (seen ++ [e.key]) + (2 + e.su.length) = unW es seen := by
  unfold unW
  induction es with
  | nil => cases he
  | cons x r ih =>
    rw [List.map_cons, List.nodup_cons] at hn
    rw [List.map_cons, List.sum_cons, List.map_cons, List.sum_cons]
    rcases List.mem_cons.mp he with rfl | he
    · have h1 : (r.map fun x => if x.key ∈ seen ++ [e.key] then 0 else 2 + x.su.length) = r.map fun x => if x.key ∈ seen then 0 else 2 + x.su.length := by
        refine List.map_congr_left fun x hx => ?_
        have hne : x.key ≠ e.key := fun q => hn.1 (List.mem_map.mpr ⟨x, hx, q⟩)
        have : x.key ∈ seen ++ [e.key] ↔ x.key ∈ seen := by simp [hne]
        by_cases hm : x.key ∈ seen
        · rw [if_pos hm, if_pos (this.mpr hm)]
        · rw [if_neg hm, if_neg (fun q => hm (this.mp q))]
      rw [h1, if_pos (by simp), if_neg hs]; omega
    · have := ih hn.2 he
      have hne : x.key ≠ e.key := fun q => hn.1 (List.mem_map.mpr ⟨e, he, q.symm⟩)
      have h2 : x.key ∈ seen ++ [e.key] ↔ x.key ∈ seen := by simp [hne]
      by_cases hm : x.key ∈ seen
      · rw [if_pos hm, if_pos (h2.mpr hm)]; omega
      · rw [if_neg hm, if_neg (fun q => hm (h2.mp q))]; omega
theorem fr_name {L : Addr} {m : Nm} {oL : Obj} (fo : FrObj L m oL) : ∃ x, x = oL := ⟨_, rfl⟩
theorem name_four {h₀ h : Heap} {L : Addr} {a b c d : Addr × Obj} {r : Led} (N : News h₀ L h (a :: b :: c :: d :: r)) : ∃ A B C D, A = a.1 ∧ B = b.1 ∧ C = c.1 ∧ D = d.1 := ⟨_, _, _, _, rfl, rfl, rfl, rfl⟩
theorem of_allLt {d : Addr} : ∀ {l : Led}, AllLt d l → ∀ p ∈ l, @LT.lt Nat _ p.1 d
  | [], _, _, h => nomatch h
  | q :: r, x, p, h => by
    rcases List.mem_cons.mp h with rfl | h
    · exact x.1
    · exact of_allLt x.2 p h
theorem Nd.perm {a b : Led} (h : Nd a) (p : a.Perm b) : Nd b := ((p.map (fun x : Addr × Obj => (x.1 : Nat))).nodup_iff).mp h
theorem nd_base {I rest frs : Led} {L : Addr} {oL : Obj} (h : Nd (I ++ (rest ++ frs))) (hn : ∀ q ∈ I ++ (rest ++ frs), q.1 ≠ L) : Nd ((I ++ rest) ++ (L, oL) :: frs) :=
  (Nd.cons (o := oL) (by rw [← List.append_assoc] at h; exact h) (by rw [← List.append_assoc] at hn; exact hn)).perm List.perm_middle.symm
theorem nd_four {B : Led} {Sk Is Sn Nk : Addr} {o1 o2 o3 o4 : Obj} (h : Nd B) (h1 : ∀ q ∈ B, @LT.lt Nat _ q.1 Sk) (a1 : @LT.lt Nat _ Sk Is) (a2 : @LT.lt Nat _ Is Sn) (a3 : @LT.lt Nat _ Sn Nk) : Nd ((Sk, o1) :: (Is, o2) :: (Sn, o3) :: (Nk, o4) :: B) := by
  have n1 : ∀ {x y : Addr}, @LT.lt Nat _ x y → x ≠ y := fun h => Nat.ne_of_lt h
  refine Nd.cons (Nd.cons (Nd.cons (Nd.cons h fun q hq => ?_) fun q hq => ?_) fun q hq => ?_) fun q hq => ?_
  · exact n1 (Nat.lt_trans (Nat.lt_trans (Nat.lt_trans (h1 q hq) a1) a2) a3)
  · rcases List.mem_cons.mp hq with rfl | hq
    · exact Ne.symm (n1 a3)
    · exact n1 (Nat.lt_trans (Nat.lt_trans (h1 q hq) a1) a2)
  · rcases List.mem_cons.mp hq with rfl | hq
    · exact Ne.symm (n1 a2)
    · rcases List.mem_cons.mp hq with rfl | hq
      · exact Ne.symm (n1 (Nat.lt_trans a2 a3))
      · exact n1 (Nat.lt_trans (h1 q hq) a1)
  · rcases List.mem_cons.mp hq with rfl | hq
    · exact Ne.symm (n1 a1)
    · rcases List.mem_cons.mp hq with rfl | hq
      · exact Ne.symm (n1 (Nat.lt_trans a1 a2))
      · rcases List.mem_cons.mp hq with rfl | hq
        · exact Ne.symm (n1 (Nat.lt_trans (Nat.lt_trans a1 a2) a3))
        · exact n1 (h1 q hq)
theorem nodup_le {α : Type} [DecidableEq α] : ∀ {a b : List α}, a.Nodup → (∀ x ∈ a, x ∈ b) → a.length ≤ b.length
  | [], _, _, _ => Nat.zero_le _
  | x :: r, b, h, hs => by
    have hx : x ∈ b := hs x List.mem_cons_self
    obtain ⟨h1, h2⟩ := List.nodup_cons.mp h
    have := nodup_le (b := b.erase x) h2 fun y hy => (List.mem_erase_of_ne (show y ≠ x from fun q => h1 (by rw [← q]; exact hy))).mpr (hs y (List.mem_cons_of_mem _ hy))
    rw [List.length_erase_of_mem hx] at this
    have hp : 0 < b.length := List.length_pos_of_mem hx
    rw [List.length_cons]; omega
theorem seen_le {es : List NE} {seen : List Str} (hs : seen.Nodup) (hk : ∀ k ∈ seen, k ∈ es.map (·.key)) : seen.length ≤ es.length := by
  have := nodup_le hs hk
  rwa [List.length_map] at this
theorem no_exc {α : Type} {M : Model} {A : Around} {a : Sem α} {Q : α → Shared → Prop} {E' : Value → Shared → Prop} {s : Shared} (h : wpAny M A a Q (fun _ _ => False) s) : wpAny M A a Q E' s :=
  wpAny_mono h (fun _ _ h => h) fun _ _ h => h.elim
theorem no_exc2 {α β : Type} {M : Model} {A : Around} {a : Sem α} {b : α → Sem β} {Q : β → Shared → Prop} {E' : Value → Shared → Prop} {s : Shared} (h : wpAny M A a (fun v s₂ => wpAny M A (b v) Q (fun _ _ => False) s₂) (fun _ _ => False) s) : wpAny M A a (fun v s₂ => wpAny M A (b v) Q E' s₂) E' s :=
  wpAny_mono h (fun _ _ h => no_exc h) fun _ _ h => h.elim
theorem nd_heads {Sk Is Sn Nk : Addr} {o1 o2 o3 o4 : Obj} {T : Led} (h : Nd ((Sk, o1) :: (Is, o2) :: (Sn, o3) :: (Nk, o4) :: T)) :
    (@Ne Nat Sk Is ∧ @Ne Nat Sk Sn ∧ @Ne Nat Sk Nk ∧ @Ne Nat Is Sn ∧ @Ne Nat Is Nk ∧ @Ne Nat Sn Nk) ∧ (∀ p ∈ T, p.1 ≠ Sk) ∧ (∀ p ∈ T, p.1 ≠ Is) ∧ (∀ p ∈ T, p.1 ≠ Sn) ∧ (∀ p ∈ T, p.1 ≠ Nk) := by
  have h1 := h.head
  have h2 := h.tail.head
  have h3 := h.tail.tail.head
  have h4 := h.tail.tail.tail.head
  simp only [List.mem_cons, forall_eq_or_imp] at h1 h2 h3 h4
  (refine Mine.e0_4 h1 ?_; intro a1 a2 a3 a4; (try clear h1))
  (refine Mine.e0_3 h2 ?_; intro b1 b2 b3; (try clear h2))
  obtain ⟨c1, c2⟩ := h3
  exact ⟨⟨Ne.symm a1, Ne.symm a2, Ne.symm a3, Ne.symm b1, Ne.symm b2, Ne.symm c1⟩, a4, b3, c2, h4⟩
/-- its bound next asked for: a new object of the ledger -/
theorem next_led {prog : Program} {w : World} {A : Around} {E : Value → Shared → Prop} {s : Shared} {h₀ : Heap} {L : Addr} {m : Nm} {news : Led} {it l : Addr} {i : Nat} {Q : Value → Shared → Prop} (F : Fr h₀ L s.heap m) (N : News h₀ L s.heap news) (hm : (it, NX.itObj l i) ∈ news)
    (h : ∀ b h', Fr h₀ L h' m → News h₀ L h' ((b, NX.bObj it) :: news) → (∀ p ∈ news, p.1 < b) → Q (.ref b) { s with heap := h', toks := s.toks + 1 }) : wpAny (model prog w) A (getAttr (.ref it) "__next__" true) Q E s := by
  (first | (refine Mine.hideP ?_; intro Gz kGz; rcases s with ⟨hp, g, d, t, os⟩; all_goals (refine kGz ?_; clear kGz Gz)) | rcases s with ⟨hp, g, d, t, os⟩)
  exact NX.next_attr (N _ hm).1 (h _ _ (F.push _) (N.push F _) fun p hp => Heap.lt_size (N p hp).1)
theorem iter_led {prog : Program} {w : World} {A : Around} {E : Value → Shared → Prop} {s : Shared} {h₀ : Heap} {L : Addr} {m : Nm} {news : Led} {l : Addr} {items : Array Value} {n : Nat} {Q : Value → Shared → Prop} (F : Fr h₀ L s.heap m) (N : News h₀ L s.heap news) (hm : (l, W.listOf items n) ∈ news)
    (h : ∀ b h', Fr h₀ L h' m → News h₀ L h' ((b, NX.itObj l 0) :: news) → (∀ p ∈ news, p.1 < b) → Q (.ref b) { s with heap := h' }) : wpAny (model prog w) A (call (.builtin "iter") [.ref l]) Q E s := by
  refine call_function_entry (by decide +kernel) (by decide +kernel) kdk_entry_iter (kdk_args_iter _) ?_
  unfold Builtin.«iter»
  refine wpAny_bind (m := someArgs "iter" 1 2 _) (wpAny_of_eq (a := [Value.ref l]) (by first | rfl | kernel_rfl!) ?_)
  show wpAny _ _ (pyIter (.ref l) >>= _) _ _ _
  refine wpAny_bind (wpAny_pyIter_list ⟨_, (N _ hm).1, rfl, n, rfl⟩ ?_)
  exact wpAny_pure ⟨_, rfl, h _ _ (F.push _) (N.push F (NX.itObj l 0)) fun p hp => Heap.lt_size (N p hp).1⟩
theorem len_of {prog : Program} {w : World} {A : Around} {E : Value → Shared → Prop} {s : Shared} {h₀ : Heap} {L : Addr} {news : Led} {l : Addr} {ws : List Value} {c : Nat} {Q : Value → Shared → Prop} (N : News h₀ L s.heap news) (hm : (l, W.listOf ws.toArray c) ∈ news) (hfit : ws.length ≤ 1000000)
    (h : ∀ t k, Q (.int (ws.length : Int) t) { s with toks := k }) : wpAny (model prog w) A (call (.builtin "len") [.ref l]) Q E s := len_led ⟨_, (N _ hm).1, rfl, c, rfl⟩ rfl hfit h
theorem truthy_of {prog : Program} {w : World} {A : Around} {E : Value → Shared → Prop} {s : Shared} {h₀ : Heap} {L : Addr} {news : Led} {l : Addr} {ws : List Value} {c : Nat} {b : Bool} {Q : Bool → Shared → Prop} (N : News h₀ L s.heap news) (hm : (l, W.listOf ws.toArray c) ∈ news) (hb : ws.isEmpty = b) (hfit : ws.length ≤ 1000000)
    (h : Q (!b) { s with toks := s.toks + 1 + 1 }) : wpAny (model prog w) A (truthy (.ref l)) Q E s := by
  refine wpAny_truthy_list (items := ws.toArray) ⟨_, (N _ hm).1, rfl, c, rfl⟩ (by rw [List.size_toArray]; omega) ?_
  have : ws.toArray.isEmpty = b := by rw [← hb]; simp
  rw [this]; exact h
theorem callWith_nx {M : Model} {A : Around} {E : Value → Shared → Prop} {s : Shared} {pos : Pos} {u it : Addr} {env : Env} {h₀ : Heap} {L : Addr} {news : Led} {Q : Value → Shared → Prop} (N : News h₀ L s.heap news) (hm : (u, NX.bObj it) ∈ news) (h : wpAny M A (call (.ref u) []) Q E s) :
    wpAny M A (callWith pos (.ref u) [] (backTo pos (starEach [] env)) []) Q E s := by
  unfold callWith
  refine wpAny_bind (wpAny_holding (wpAny_mono (PyProof.Rows.evalArgs_none (Q := fun x s₁ => x = ⟨[], []⟩ ∧ s₁ = s) ⟨rfl, rfl⟩) (fun x s₁ h₁ => wpAny_bind (wpAny_standAt ?_)) fun _ _ x => x))
  obtain ⟨rfl, rfl⟩ := h₁
  have hplain : (backTo pos (starEach [] env)).any (·.1) = false := rfl
  simp only [hplain, List.any_nil, Bool.or_false]
  refine wpAny_bind (m := keeperOf (.ref u)) ?_
  unfold keeperOf
  refine wpAny_bind (wpAny_load (N _ hm).1 ?_)
  simp only [NX.bObj, show (Value.type "method-wrapper" != Value.type "method") = true by decide, show (Value.type "method-wrapper" == Value.type "builtin_function_or_method" || Value.type "method-wrapper" == Value.type "method-wrapper") = true by decide, if_true]
  refine wpAny_pure ?_
  exact wpAny_bind (wpAny_mono h (fun r s₂ hr => wpAny_bind (wpAny_holding (wpAny_point (wpAny_pure hr)))) fun _ _ x => x)
theorem last_at {α : Type} {l : List α} {x : α} (h : l.getLast? = some x) : ∃ j, seqIndex? (-1) l.length = some j ∧ l[j]? = some x := by
  rw [List.getLast?_eq_getElem?] at h
  have hp : 0 < l.length := by
    cases l with
    | nil => simp at h
    | cons => exact Nat.succ_pos _
  refine ⟨l.length - 1, ?_, h⟩
  unfold seqIndex?
  have h1 : ((-1 : Int) + (l.length : Int)).toNat = l.length - 1 := by omega
  simp
  omega
theorem sub_last {prog : Program} {w : World} {A : Around} {E : Value → Shared → Prop} {s : Shared} {h₀ : Heap} {L : Addr} {news : Led} {value slice : Expr} {l : Addr} {ws : List Value} {c : Nat} {u : Tok} {x : Value} {Q : Value → Shared → Prop} (N : News h₀ L s.heap news) (hm : (l, W.listOf ws.toArray c) ∈ news) (hx : ws.getLast? = some x) (h : Q x s)
    (hs : subscripted slice false (.ref l) (.int (-1) u) = operate [.ref l, .int (-1) u] (getItem (.ref l) (.int (-1) u)) := by with_unfolding_all rfl) :
    wpAny (model prog w) A (subscriptTail value slice (.ref l) (.int (-1) u)) Q E s := by
  (have z4 := (last_at hx); refine Mine.e1_2 z4 ?_; intro j hj hxj; (try clear z4))
  exact kde_neg ⟨_, (N _ hm).1, rfl, c, rfl⟩ (by decide) (by decide) hj hxj h hs
theorem fr_loc {h₀ h : Heap} {L : Addr} {m : Nm} (F : Fr h₀ L h m) : ∃ x, x = L := ⟨_, rfl⟩
theorem pw_nodup {rk : Str → Nat} : ∀ {stk : List SE}, (stk.Pairwise fun a b => rk b.key < rk a.key) → (stk.map (·.key)).Nodup
  | [], _ => .nil
  | e :: r, h => by
    obtain ⟨h1, h2⟩ := List.pairwise_cons.mp h
    rw [List.map_cons, List.nodup_cons]
    refine ⟨fun q => ?_, pw_nodup h2⟩
    (have z5 := (List.mem_map.mp q); refine Mine.e1_2 z5 ?_; intro x hx ex; (try clear z5))
    have := h1 x hx
    rw [ex] at this; exact Nat.lt_irrefl _ this
theorem FdAt.len {w : World} {es : List NE} {rk : Str → Nat} {C : Led} {Sk Is Sn Nk : Addr} {frs0 : Led} {stk : List SE} {seen : List Str} {nw : Led} (fd : FdAt w es rk C Sk Is Sn Nk frs0 stk seen nw) : stk.length ≤ es.length := by
  have h1 := nodup_le (b := seen) (pw_nodup fd.rank) fun k hk => by
    (have z6 := (List.mem_map.mp hk); refine Mine.e1_2 z6 ?_; intro e he z6x2; (try clear z6); (rcases z6x2 with rfl))
    exact (fd.it e he).2.1
  rw [List.length_map] at h1
  exact Nat.le_trans h1 (seen_le fd.sn fd.se)
theorem keysOf_len {stk : List SE} : (keysOf stk).length = stk.length := by unfold keysOf; rw [List.length_map, List.length_reverse]
theorem fd_start {w : World} {es : List NE} {rk : Str → Nat} {h₀ h : Heap} {L' Sk Is Sn Nk L : Addr} {od so oL : Obj} {c1 c2 : Nat} {I rest frs : Led} (N : News h₀ L' h ((Nk, od) :: (Sn, so) :: (Is, W.listOf #[] c1) :: (Sk, W.listOf #[] c2) :: (L, oL) :: (I ++ (rest ++ frs))))
    (nd : ∀ o1 o2 o3 o4, Nd ((Sk, o1) :: (Is, o2) :: (Sn, o3) :: (Nk, o4) :: ((I ++ rest) ++ (L, oL) :: frs))) (hso : so.SetObjOf (PySem.strKind Pg w) (fun _ => false) 0) (hod : od.IsDictOf (PySem.strKind Pg w) []) (lo : (Nk == sysModules) = false) :
    ∃ nw, News h₀ L' h nw ∧ FdAt w es rk (I ++ rest) Sk Is Sn Nk ((L, oL) :: frs) [] [] nw := by
  refine ⟨(Sk, W.listOf #[] c2) :: (Is, W.listOf #[] c1) :: (Sn, so) :: (Nk, od) :: ((I ++ rest) ++ (L, oL) :: frs), fun q hq => N q ?_, { ex := ⟨[], c2, c1, so, 0, od, [], (L, oL) :: frs, rfl, SameUp.refl _, .nil, ?_, Nat.le_refl _, hod, rfl⟩, nd := nd _ _ _ _, it := (fun _ h => nomatch h), rank := .nil, sn := .nil, se := (fun _ h => nomatch h), lo := lo }⟩
  · simp only [List.mem_cons, List.mem_append] at hq ⊢
    rcases hq with h | h | h | h | (h | h) | h | h <;> simp only [h, true_or, or_true]
  · have : (fun k => decide (k ∈ ([] : List Str))) = fun _ => false := by funext k; simp
    rw [this]; exact hso
/-- between the nodes that the search starts at -/
noncomputable def FdJ (w : World) (es : List NE) (rk : Str → Nat) (D : Addr) (C : Led) (Sk Is Sn Nk : Addr) (frs0 : Led) (i : Nat) (m : Nm) (nw : Led) : Prop :=
  m (Str.ofString "n2i") = some (.ref D) ∧ m (Str.ofString "stack") = some (.ref Sk) ∧ m (Str.ofString "itstack") = some (.ref Is) ∧ m (Str.ofString "seen") = some (.ref Sn) ∧ m (Str.ofString "node2stacki") = some (.ref Nk) ∧
    ∃ seen, FdAt w es rk C Sk Is Sn Nk frs0 [] seen nw
theorem fd_push {w : World} {es : List NE} {rk : Str → Nat} {C : Led} {Sk Is Sn Nk It b it l : Addr} {oI so so' od od' : Obj} {frs0 frs' : Led} {stk : List SE} {seen : List Str} {svs : List Value} {sc ic n c : Nat} {kvs : List (Str × Value)} {k : Str} {t : Tok} {v : Value} {su : List Str} {vs : Array Value} {e : NE}
    (fd : FdAt w es rk C Sk Is Sn Nk frs0 stk seen ((Sk, W.listOf svs.toArray sc) :: (Is, W.listOf (stk.reverse.map fun e => Value.ref e.b).toArray ic) :: (Sn, so) :: (Nk, od) :: (stkM stk ++ (C ++ frs'))))
    (ho : ∀ p ∈ ((Sk, W.listOf svs.toArray sc) :: (Is, W.listOf (stk.reverse.map fun e => Value.ref e.b).toArray ic) :: (Sn, so) :: (Nk, od) :: (stkM stk ++ (C ++ frs')) : Led), p.1 ≠ It)
    (SU : SameUp frs0 frs') (hsvs : StrsAre svs (keysOf stk)) (hn : n ≤ seen.length) (hkvs : kvs.map (·.1) = keysOf stk) (hv : (valueAt kvs k).isSome = false) (hks : k ∉ seen) (hkin : k ∈ es.map (·.key)) (hrk : ∀ e ∈ stk, rk e.key < rk k)
    (hso : so'.SetObjOf (PySem.strKind Pg w) (fun k' => decide (k' ∈ seen) || decide (k' = k)) (if decide (k ∈ seen) = true then n else n + 1)) (hod : od'.IsDictOf (PySem.strKind Pg w) (stored kvs k v))
    (hl : (l, W.listOf vs c) ∈ C) (hvs : StrsAre vs.toList su) (he : e ∈ es) (hek : e.key = k) (hes : e.su = su)
    (hb : @LT.lt Nat _ it b ∧ @LT.lt Nat _ It b ∧ @LT.lt Nat _ Sk b ∧ @LT.lt Nat _ Is b ∧ @LT.lt Nat _ Sn b ∧ @LT.lt Nat _ Nk b ∧ AllLt b (stkM stk ++ (C ++ frs')))
    (hi : @LT.lt Nat _ It it ∧ @LT.lt Nat _ Sk it ∧ @LT.lt Nat _ Is it ∧ @LT.lt Nat _ Sn it ∧ @LT.lt Nat _ Nk it ∧ AllLt it (stkM stk ++ (C ++ frs'))) :
    ∃ nw', (∀ q ∈ (It, oI) :: nw', q ∈ ((b, NX.bObj it) :: (it, NX.itObj l 0) :: (It, oI) :: (Sk, W.listOf (svs.toArray.push (.str k t)) (sc + 1)) :: (Is, W.listOf ((stk.reverse.map fun e => Value.ref e.b).toArray.push (.ref b)) (ic + 1)) :: (Sn, so') :: (Nk, od') :: (stkM stk ++ (C ++ frs')) : Led)) ∧
      FdAt w es rk C Sk Is Sn Nk frs0 (⟨k, b, it, l, 0, su⟩ :: stk) (seen ++ [k]) nw' ∧ (∀ p ∈ nw', p.1 ≠ It) := by
  (have z7 := (nd_heads fd.nd); refine Mine.e0_5 z7 ?_; intro z7x0 t1 t2 t3 t4; (try clear z7); (refine Mine.e0_6 z7x0 ?_; intro n1 n2 n3 n4 n5 n6; (try clear z7x0)))
  (refine Mine.e0_7 hb ?_; intro b1 b2 b3 b4 b5 b6 b7; (try clear hb))
  (refine Mine.e0_6 hi ?_; intro i1 i2 i3 i4 i5 i6; (try clear hi))
  have b7 := of_allLt b7
  have i6 := of_allLt i6
  have hT : Nd (stkM stk ++ (C ++ frs')) := fd.nd.tail.tail.tail.tail
  have hT2 : Nd ((b, NX.bObj it) :: (it, NX.itObj l 0) :: (stkM stk ++ (C ++ frs'))) := by
    refine Nd.cons (Nd.cons hT fun q hq => Nat.ne_of_lt (i6 q hq)) fun q hq => ?_
    rcases List.mem_cons.mp hq with rfl | hq
    · exact Nat.ne_of_lt b1
    · exact Nat.ne_of_lt (b7 q hq)
  have off : ∀ {x : Addr}, @LT.lt Nat _ x b → @LT.lt Nat _ x it → (∀ p ∈ stkM stk ++ (C ++ frs'), p.1 ≠ x) → ∀ p ∈ ((b, NX.bObj it) :: (it, NX.itObj l 0) :: (stkM stk ++ (C ++ frs')) : Led), p.1 ≠ x := fun h1 h2 h3 p hp => by
    rcases List.mem_cons.mp hp with rfl | hp
    · exact Ne.symm (Nat.ne_of_lt h1)
    · rcases List.mem_cons.mp hp with rfl | hp
      · exact Ne.symm (Nat.ne_of_lt h2)
      · exact h3 p hp
  have hpush : ∀ (xs : List Value) (x : Value), xs.toArray.push x = (xs ++ [x]).toArray := fun xs x => by simp
  have hrev : ((⟨k, b, it, l, 0, su⟩ :: stk : List SE).reverse.map fun e => Value.ref e.b) = (stk.reverse.map fun e => Value.ref e.b) ++ [.ref b] := by rw [List.reverse_cons, List.map_append]; rfl
  have hkeys : keysOf (⟨k, b, it, l, 0, su⟩ :: stk) = keysOf stk ++ [k] := by unfold keysOf; rw [List.reverse_cons, List.map_append]; rfl
  have hvn : valueAt kvs k = none := by
    cases h : valueAt kvs k with
    | none => rfl
    | some x => rw [h] at hv; cases hv
  refine ⟨(Sk, W.listOf (svs ++ [Value.str k t]).toArray (sc + 1)) :: (Is, W.listOf ((⟨k, b, it, l, 0, su⟩ :: stk : List SE).reverse.map fun e => Value.ref e.b).toArray (ic + 1)) :: (Sn, so') :: (Nk, od') :: (stkM (⟨k, b, it, l, 0, su⟩ :: stk) ++ (C ++ frs')), fun q hq => ?_, ⟨⟨svs ++ [Value.str k t], sc + 1, ic + 1, so', n + 1, od', _, frs', rfl, SU, ?_, ?_, ?_, hod, ?_⟩, ?_, ?_, ?_, ?_, ?_, fd.lo⟩, ?_⟩
  · rw [hpush, hpush, ← hrev]
    simp only [stkM, List.cons_append, List.mem_cons] at hq ⊢
    rcases hq with h | h | h | h | h | h | h | h <;> simp only [h, true_or, or_true]
  · rw [hkeys]; exact strs_snoc hsvs
  · rw [if_neg (by simpa using hks)] at hso
    have : (fun k' => decide (k' ∈ seen ++ [k])) = fun k' => decide (k' ∈ seen) || decide (k' = k) := by funext k'; simp
    rw [this]; exact hso
  · rw [List.length_append]; exact Nat.succ_le_succ hn
  · rw [stored_absent hvn, List.map_append, hkvs, hkeys]; rfl
  · refine Nd.cons (Nd.cons (Nd.cons (Nd.cons hT2 (off b6 i5 t4)) fun q hq => ?_) fun q hq => ?_) fun q hq => ?_
    · rcases List.mem_cons.mp hq with rfl | hq
      · exact Ne.symm n6
      · exact off b5 i4 t3 q hq
    · rcases List.mem_cons.mp hq with rfl | hq
      · exact Ne.symm n4
      · rcases List.mem_cons.mp hq with rfl | hq
        · exact Ne.symm n5
        · exact off b4 i3 t2 q hq
    · rcases List.mem_cons.mp hq with rfl | hq
      · exact Ne.symm n1
      · rcases List.mem_cons.mp hq with rfl | hq
        · exact Ne.symm n2
        · rcases List.mem_cons.mp hq with rfl | hq
          · exact Ne.symm n3
          · exact off b3 i2 t1 q hq
  · intro x hx
    rcases List.mem_cons.mp hx with rfl | hx
    · exact ⟨⟨vs, c, hl, hvs⟩, List.mem_append_right _ (List.mem_singleton.mpr rfl), ⟨e, he, hek, hes⟩, Nat.zero_le _⟩
    · (have z10 := (fd.it x hx); refine Mine.e0_3 z10 ?_; intro h1 h2 h3; (try clear z10))
      exact ⟨h1, List.mem_append_left _ h2, h3⟩
  · exact List.pairwise_cons.mpr ⟨hrk, fd.rank⟩
  · exact List.nodup_append.mpr ⟨fd.sn, List.nodup_cons.mpr ⟨fun h => (nomatch h), .nil⟩, fun a ha c hc => by rw [List.mem_singleton.mp hc]; exact fun q => hks (q ▸ ha)⟩
  · intro x hx
    rcases List.mem_append.mp hx with hx | hx
    · exact fd.se x hx
    · rw [List.mem_singleton.mp hx]; exact hkin
  · intro p hp
    rcases List.mem_cons.mp hp with rfl | hp
    · exact (ho (Sk, _) List.mem_cons_self : Sk ≠ It)
    · rcases List.mem_cons.mp hp with rfl | hp
      · exact (ho (Is, _) (List.mem_cons_of_mem _ List.mem_cons_self) : Is ≠ It)
      · rcases List.mem_cons.mp hp with rfl | hp
        · exact (ho (Sn, _) (List.mem_cons_of_mem _ (List.mem_cons_of_mem _ List.mem_cons_self)) : Sn ≠ It)
        · rcases List.mem_cons.mp hp with rfl | hp
          · exact (ho (Nk, _) (List.mem_cons_of_mem _ (List.mem_cons_of_mem _ (List.mem_cons_of_mem _ List.mem_cons_self))) : Nk ≠ It)
          · exact off b2 i1 (fun p hp => ho p (List.mem_cons_of_mem _ (List.mem_cons_of_mem _ (List.mem_cons_of_mem _ (List.mem_cons_of_mem _ hp))))) p hp
/-- the top's iterator has drawn -/
theorem fd_draw {w : World} {es : List NE} {rk : Str → Nat} {C : Led} {Sk Is Sn Nk It : Addr} {oI so od : Obj} {frs0 frs' : Led} {e : SE} {r : List SE} {seen : List Str} {svs : List Value} {sc ic n : Nat} {kvs : List (Str × Value)}
    (fd : FdAt w es rk C Sk Is Sn Nk frs0 (e :: r) seen ((Sk, W.listOf svs.toArray sc) :: (Is, W.listOf ((e :: r).reverse.map fun e => Value.ref e.b).toArray ic) :: (Sn, so) :: (Nk, od) :: (stkM (e :: r) ++ (C ++ frs'))))
    (ho : ∀ p ∈ ((Sk, W.listOf svs.toArray sc) :: (Is, W.listOf ((e :: r).reverse.map fun e => Value.ref e.b).toArray ic) :: (Sn, so) :: (Nk, od) :: (stkM (e :: r) ++ (C ++ frs')) : Led), p.1 ≠ It)
    (SU : SameUp frs0 frs') (hsvs : StrsAre svs (keysOf (e :: r))) (hn : n ≤ seen.length) (hkvs : kvs.map (·.1) = keysOf (e :: r)) (hso : so.SetObjOf (PySem.strKind Pg w) (fun k => decide (k ∈ seen)) n) (hod : od.IsDictOf (PySem.strKind Pg w) kvs) (hp : e.pos < e.su.length) :
    ∃ nw', (∀ q ∈ (It, oI) :: nw', q ∈ updA e.it (NX.itObj e.l (e.pos + 1)) ((It, oI) :: (Sk, W.listOf svs.toArray sc) :: (Is, W.listOf ((e :: r).reverse.map fun e => Value.ref e.b).toArray ic) :: (Sn, so) :: (Nk, od) :: (stkM (e :: r) ++ (C ++ frs')))) ∧
      FdAt w es rk C Sk Is Sn Nk frs0 ({ e with pos := e.pos + 1 } :: r) seen nw' ∧ (∀ p ∈ nw', p.1 ≠ It) := by
  have ndI := Nd.cons (p := It) (o := oI) fd.nd ho
  have hmem : (e.it, NX.itObj e.l e.pos) ∈ ((It, oI) :: (Sk, W.listOf svs.toArray sc) :: (Is, W.listOf ((e :: r).reverse.map fun e => Value.ref e.b).toArray ic) :: (Sn, so) :: (Nk, od) :: (stkM (e :: r) ++ (C ++ frs')) : Led) := by
    simp only [stkM, List.cons_append, List.mem_cons, true_or, or_true]
  have hupd := upd_of (o' := NX.itObj e.l (e.pos + 1)) ndI hmem
  refine ⟨(Sk, W.listOf svs.toArray sc) :: (Is, W.listOf ((e :: r).reverse.map fun e => Value.ref e.b).toArray ic) :: (Sn, so) :: (Nk, od) :: (stkM ({ e with pos := e.pos + 1 } :: r) ++ (C ++ frs')), fun q hq => ?_, ⟨⟨svs, sc, ic, so, n, od, kvs, frs', ?_, SU, ?_, hso, hn, hod, ?_⟩, fd.nd, ?_, ?_, fd.sn, fd.se, fd.lo⟩, ?_⟩
  · by_cases hqe : q.1 = e.it
    · have : q = (e.it, NX.itObj e.l (e.pos + 1)) := by
        obtain ⟨qa, qo⟩ := q
        dsimp only at hqe
        subst hqe
        have nd2 : Nd ((It, oI) :: (Sk, W.listOf svs.toArray sc) :: (Is, W.listOf ((e :: r).reverse.map fun e => Value.ref e.b).toArray ic) :: (Sn, so) :: (Nk, od) :: (stkM ({ e with pos := e.pos + 1 } :: r) ++ (C ++ frs'))) := ndI
        rw [nd2.one hq (o' := NX.itObj e.l (e.pos + 1)) (by simp only [stkM, List.cons_append, List.mem_cons, true_or, or_true])]
      rw [this]
      exact mem_self hmem
    · obtain ⟨qa, qo⟩ := q
      refine mem_ne ?_ hqe
      simp only [stkM, List.cons_append, List.mem_cons] at hq ⊢
      rcases hq with h | h | h | h | h | h | h | h
      · simp only [h, true_or]
      · simp only [h, true_or, or_true]
      · simp only [h, true_or, or_true]
      · simp only [h, true_or, or_true]
      · simp only [h, true_or, or_true]
      · simp only [h, true_or, or_true]
      · exact absurd (congrArg Prod.fst h) hqe
      · simp only [h, or_true]
  · rw [List.reverse_cons, List.reverse_cons, List.map_append, List.map_append]; rfl
  · rw [show keysOf ({ e with pos := e.pos + 1 } :: r) = keysOf (e :: r) from by unfold keysOf; rw [List.reverse_cons, List.reverse_cons, List.map_append, List.map_append]; rfl]; exact hsvs
  · rw [show keysOf ({ e with pos := e.pos + 1 } :: r) = keysOf (e :: r) from by unfold keysOf; rw [List.reverse_cons, List.reverse_cons, List.map_append, List.map_append]; rfl]; exact hkvs
  · intro x hx
    rcases List.mem_cons.mp hx with rfl | hx
    · (have z12 := (fd.it e List.mem_cons_self); refine Mine.e0_4 z12 ?_; intro h1 h2 h3 h4; (try clear z12))
      exact ⟨h1, h2, h3, hp⟩
    · exact fd.it x (List.mem_cons_of_mem _ hx)
  · obtain ⟨h1, h2⟩ := List.pairwise_cons.mp fd.rank
    exact List.pairwise_cons.mpr ⟨h1, h2⟩
  · intro p hp
    simp only [stkM, List.cons_append, List.mem_cons] at hp
    have hh : ∀ {x : Addr} {o : Obj}, (x, o) ∈ ((Sk, W.listOf svs.toArray sc) :: (Is, W.listOf ((e :: r).reverse.map fun e => Value.ref e.b).toArray ic) :: (Sn, so) :: (Nk, od) :: (stkM (e :: r) ++ (C ++ frs')) : Led) → x ≠ It := fun h => ho _ h
    rcases hp with rfl | rfl | rfl | rfl | rfl | rfl | hp
    · exact hh (o := W.listOf svs.toArray sc) (by simp)
    · exact hh (o := W.listOf ((e :: r).reverse.map fun e => Value.ref e.b).toArray ic) (by simp)
    · exact hh (o := so) (by simp)
    · exact hh (o := od) (by simp)
    · exact hh (o := NX.bObj e.it) (by simp [stkM])
    · exact hh (o := NX.itObj e.l e.pos) (by simp [stkM])
    · exact ho p (by simp only [stkM, List.cons_append, List.mem_cons, hp, or_true])
theorem pop_of {prog : Program} {w : World} {A : Around} {E : Value → Shared → Prop} {s : Shared} {h₀ : Heap} {L D : Addr} {m : Nm} {news news' : Led} {ws p : List Value} {y : Value} {n : Nat} {Q : Value → Shared → Prop} (F : Fr h₀ L s.heap m) (N : News h₀ L s.heap news) (e : kl_last ws = some (p, y)) (U : Upd D (W.listOf ws.toArray n) (W.listOf p.toArray (n + 1)) news news')
    (hz : ws.length ≤ 1000000) (h : ∀ h', Fr h₀ L h' m → News h₀ L h' news' → Q y { s with heap := h' }) : wpAny (model prog w) A (call (.builtin "list.pop") [.ref D]) Q E s :=
  kl_pop F N (its := ws.toArray) (by simpa using e) U (by rw [sizeLine_eq]; simp; omega) h
theorem strs_unsnoc {k : Str} : ∀ {ys : List Str} {vs : List Value}, StrsAre vs (ys ++ [k]) → ∃ ps t, vs = ps ++ [.str k t] ∧ StrsAre ps ys
  | [], _, .cons _ t .nil => ⟨[], t, rfl, .nil⟩
  | y :: ys, _, .cons _ u r => by
    (have z13 := (strs_unsnoc (ys := ys) r); refine Mine.e2_2 z13 ?_; intro ps t z13x2 hp; (try clear z13); (rcases z13x2 with rfl))
    exact ⟨.str y u :: ps, t, rfl, .cons _ u hp⟩
theorem sameUp_map : ∀ {a b : Led}, SameUp a b → a.map (fun x : Addr × Obj => (x.1 : Nat)) = b.map (fun x : Addr × Obj => (x.1 : Nat))
  | [], [], _ => rfl
  | [], _ :: _, h => False.elim h
  | _ :: _, [], h => False.elim h
  | p :: r, q :: t, h => by
    (refine Mine.e0_3 h ?_; intro h1 _ h3; (try clear h))
    rw [List.map_cons, List.map_cons, sameUp_map h3, h1]
theorem nd_mid {A B : Led} {x y : Addr × Obj} (h : Nd (A ++ x :: y :: B)) : Nd (A ++ B) ∧ ∀ q ∈ A ++ B, q.1 ≠ y.1 := by
  have h2 : Nd (x :: y :: (A ++ B)) := h.perm ((List.perm_middle).trans (List.Perm.cons _ List.perm_middle))
  exact ⟨h2.tail.tail, h2.tail.head⟩
theorem Nd.dis {a b : Led} (h : Nd (a ++ b)) (p : Addr × Obj) (hp : p ∈ a) (q : Addr × Obj) (hq : q ∈ b) : q.1 ≠ p.1 := by
  induction a with
  | nil => cases hp
  | cons x r ih =>
    rcases List.mem_cons.mp hp with rfl | hp
    · exact Nd.head (p := p) (nw := r ++ b) h q (List.mem_append_right _ hq)
    · exact ih (Nd.tail (p := x) (nw := r ++ b) h) hp
theorem news_but {h₀ h h' : Heap} {L p : Addr} {news l : Led} (N : News h₀ L h news) (hs : Heap.SameBut p h h') (hl : ∀ q ∈ l, q ∈ news ∧ q.1 ≠ p) : News h₀ L h' l :=
  fun q hq => ⟨(hs.2 q.1 (hl q hq).2).trans (N q (hl q hq).1).1, (N q (hl q hq).1).2⟩
/-- the top is taken off -/
theorem fd_pop {w : World} {es : List NE} {rk : Str → Nat} {C : Led} {Sk Is Sn Nk It : Addr} {oI so od od' : Obj} {frs0 frs' frs3 : Led} {e : SE} {r : List SE} {seen : List Str} {svs ps : List Value} {sc ic n : Nat} {kvs : List (Str × Value)}
    (fd : FdAt w es rk C Sk Is Sn Nk frs0 (e :: r) seen ((Sk, W.listOf svs.toArray sc) :: (Is, W.listOf ((e :: r).reverse.map fun e => Value.ref e.b).toArray ic) :: (Sn, so) :: (Nk, od) :: (stkM (e :: r) ++ (C ++ frs'))))
    (ho : ∀ p ∈ ((Sk, W.listOf svs.toArray sc) :: (Is, W.listOf ((e :: r).reverse.map fun e => Value.ref e.b).toArray ic) :: (Sn, so) :: (Nk, od) :: (stkM (e :: r) ++ (C ++ frs')) : Led), p.1 ≠ It)
    (SU : SameUp frs0 frs') (SU3 : SameUp frs' frs3) (hps : StrsAre ps (keysOf r)) (hn : n ≤ seen.length) (hkvs : kvs.map (·.1) = keysOf (e :: r)) (hso : so.SetObjOf (PySem.strKind Pg w) (fun k => decide (k ∈ seen)) n) (hod : od'.IsDictOf (PySem.strKind Pg w) (without kvs e.key)) :
    FdAt w es rk C Sk Is Sn Nk frs0 r seen ((Sk, W.listOf ps.toArray (sc + 1)) :: (Is, W.listOf (r.reverse.map fun e => Value.ref e.b).toArray (ic + 1)) :: (Sn, so) :: (Nk, od') :: (stkM r ++ (C ++ frs3))) ∧
    (∀ p ∈ ((Sk, W.listOf ps.toArray (sc + 1)) :: (Is, W.listOf (r.reverse.map fun e => Value.ref e.b).toArray (ic + 1)) :: (Sn, so) :: (Nk, od') :: (stkM r ++ (C ++ frs3)) : Led), p.1 ≠ It) := by
  have ndI := Nd.cons (p := It) (o := oI) fd.nd ho
  obtain ⟨h1, _⟩ := nd_mid (A := [(It, oI), (Sk, W.listOf svs.toArray sc), (Is, W.listOf ((e :: r).reverse.map fun e => Value.ref e.b).toArray ic), (Sn, so), (Nk, od)]) (B := stkM r ++ (C ++ frs')) ndI
  have h2 : Nd ((It, oI) :: (Sk, W.listOf ps.toArray (sc + 1)) :: (Is, W.listOf (r.reverse.map fun e => Value.ref e.b).toArray (ic + 1)) :: (Sn, so) :: (Nk, od') :: (stkM r ++ (C ++ frs3))) := by
    unfold Nd at h1 ⊢
    have : (stkM r ++ (C ++ frs3)).map (fun x : Addr × Obj => (x.1 : Nat)) = (stkM r ++ (C ++ frs')).map (fun x : Addr × Obj => (x.1 : Nat)) := by
      rw [List.map_append, List.map_append, List.map_append, List.map_append, sameUp_map SU3]
    simp only [List.map_cons, this]
    exact h1
  have hpw := List.pairwise_cons.mp fd.rank
  refine ⟨⟨⟨ps, sc + 1, ic + 1, so, n, od', _, frs3, rfl, SU.trans SU3, hps, hso, hn, hod, ?_⟩, h2.tail, fun x hx => fd.it x (List.mem_cons_of_mem _ hx), hpw.2, fd.sn, fd.se, fd.lo⟩, h2.head⟩
  have hk : keysOf (e :: r) = keysOf r ++ [e.key] := by unfold keysOf; rw [List.reverse_cons, List.map_append]; rfl
  have hno : ∀ k ∈ keysOf r, k ≠ e.key := fun k hk q => by
    (have z15 := (List.mem_map.mp hk); refine Mine.e1_2 z15 ?_; intro x hx z15x2; (try clear z15); (rcases z15x2 with rfl))
    have := hpw.1 x (List.mem_reverse.mp hx)
    rw [q] at this; exact Nat.lt_irrefl _ this
  have : (without kvs e.key).map (·.1) = (kvs.map (·.1)).filter fun k => decide (k ≠ e.key) := by
    unfold without; rw [List.filter_map]; rfl
  rw [this, hkvs, hk, List.filter_append, List.filter_eq_self.mpr (fun k hk => by simpa using hno k hk)]
  simp
/-- the search's word while it runs from one node -/
noncomputable def WhI (w : World) (es : List NE) (rk : Str → Nat) (D : Addr) (C : Led) (Sk Is Sn Nk : Addr) (frs0 : Led) (h₀ : Heap) (L' : Addr) (s : Shared) (It : Addr) (oI : Obj) (n : Nat) (s' : Shared) : Prop :=
  ∃ h tk m nw stk seen k t, s' = { s with heap := h, toks := tk } ∧ Fr h₀ L' h m ∧ News h₀ L' h ((It, oI) :: nw) ∧
    m (Str.ofString "n2i") = some (.ref D) ∧ m (Str.ofString "stack") = some (.ref Sk) ∧ m (Str.ofString "itstack") = some (.ref Is) ∧ m (Str.ofString "seen") = some (.ref Sn) ∧ m (Str.ofString "node2stacki") = some (.ref Nk) ∧ m (Str.ofString "node") = some (.str k t) ∧
    FdAt w es rk C Sk Is Sn Nk frs0 stk seen nw ∧ k ∈ es.map (·.key) ∧ (∀ e ∈ stk, rk e.key < rk k) ∧ (∀ p ∈ nw, p.1 ≠ It) ∧ unW es seen + stW stk = n
/-- and while it draws -/
noncomputable def InI (w : World) (es : List NE) (rk : Str → Nat) (D : Addr) (C : Led) (Sk Is Sn Nk : Addr) (frs0 : Led) (h₀ : Heap) (L' : Addr) (s : Shared) (It : Addr) (oI : Obj) (M n : Nat) (s' : Shared) : Prop :=
  ∃ h tk m nw stk seen, s' = { s with heap := h, toks := tk } ∧ Fr h₀ L' h m ∧ News h₀ L' h ((It, oI) :: nw) ∧
    m (Str.ofString "n2i") = some (.ref D) ∧ m (Str.ofString "stack") = some (.ref Sk) ∧ m (Str.ofString "itstack") = some (.ref Is) ∧ m (Str.ofString "seen") = some (.ref Sn) ∧ m (Str.ofString "node2stacki") = some (.ref Nk) ∧
    FdAt w es rk C Sk Is Sn Nk frs0 stk seen nw ∧ (∀ p ∈ nw, p.1 ≠ It) ∧ unW es seen + stW stk ≤ M ∧ stW stk = n
end Mine
theorem Mine.kw38 : True := by
  (k_with "3:k_mem" => (first | assumption | exact List.mem_cons_self | (refine' List.mem_append_left _ ?_; assumption) | (refine' List.mem_append_right _ (List.mem_append_left _ ?_); assumption) | (refine' List.Mem.tail _ ?_; k_mem)))
  (k_with "3:compareOp In str ref" => ((k_here; k_dflt (first
  | (refine' kse_in (knd := PySem.strKind _ _) ?kN ?kU ?kS ?kb (strKind_is _ _ _ _) rfl ?_; (case kS => assumption); (case kN => k_asm); (case kU => k_updF); (case kb => (unfold scanBound; omega)))
  | (refine' kda_in (knd := PySem.strKind _ _) ?kN ?kM ?kD ?kL (strKind_is _ _ _ _) _ ?kV ?_; (case kD => assumption); (case kN => k_asm); (case kM => k_mem); (case kL => assumption); (case kV => assumption))))))
  (k_with "3:exec While Constant cons nil" => ((k_here; k_dflt (refine wpAny_While ?_))))
  (k_with "3:exec While Name cons cons" => ((k_here; k_dflt (refine wpAny_While ?_))))
  (k_with "3:k_all" => (assumption))
  (k_with "3:call builtin:set.add cons nil" => ((k_here; (with_reducible show wpAny _ _ (call (Value.builtin "set.add") [Value.ref _, Value.str _ _]) _ _ _); k_dflt (refine' kse_add (knd := PySem.strKind _ _) ?kF ?kN ?kU ?kS ?kb (strKind_is _ _ _ _) rfl ?_; (case kF => k_asm); (case kN => k_asm); (case kU => k_updF); (case kS => assumption); (case kb => (unfold scanBound; omega))); intro _ _ _ Nzq _; (try dsimp only at Nzq))))
  (k_with "3:getAttr ref true" => ((k_here; (with_reducible show wpAny _ _ (getAttr (Value.ref _) (Str.ofString "__next__") true) _ _ _); (rename Fr _ _ _ _ => F9q); (rename News _ _ _ _ => N9q); k_dflt (refine' next_led F9q N9q ?kM ?_; (case kM => k_mem)); intro _ _ _ _ l1q; (try k_lt l1q))))
  (k_with "3:call builtin:iter cons nil" => ((k_here; (rename Fr _ _ _ _ => F9q); (rename News _ _ _ _ => N9q); k_dflt (refine' iter_led F9q N9q ?kM ?_; (case kM => k_mem)); intro _ _ _ _ l1q; (try k_lt l1q))))
  (k_with "3:isplit" => (repeat' ((fail_if_success (with_reducible show (@Eq Flow _ _) ∧ _)); (fail_if_success (with_reducible show wpAny _ _ (pyIter _) (CompIn _ _ _ _ _ _ _ _ _ _ _ _) _ _)); (fail_if_success (with_reducible show wpAny _ _ (pyIter _) (CompInA _ _ _ _ _ _ _ _ _ _ _ _ _) _ _)); (fail_if_success (with_reducible show wpAny _ _ (pyIter _) (fun it s₂ => LoopIn _ _ _ _ _ _ _ _ it s₂) _ _)); (fail_if_success (with_reducible show CE _ _ _ _ _ _ _ _)); (fail_if_success (with_reducible show TL _ _ _ _ _ _ Flow.next _)); (fail_if_success (with_reducible show TL _ _ _ _ _ _ Flow.cont _)); (first | (with_reducible refine stepN (by assumption) ?_; (try dsimp only)) | (with_reducible refine stepRet (by assumption) ?_) | (with_reducible refine stepCont (by assumption) ?_) | (with_reducible refine stepBrk (by assumption) ?_) | (k_unfold; (try dsimp only)) | (k_end; wrow_close) | (walk1 <;> (try dsimp only)) | (dsimp only; walk1 <;> (try dsimp only)) | (leave1; try dsimp only) | fail "no step"))))
  (k_with "3:call builtin:len cons nil" => ((k_here; (with_reducible show wpAny _ _ (call (Value.builtin _) [Value.ref _]) _ _ _); k_dflt (refine' len_of ?kN ?kM ?kz ?_; (case kN => k_asm); (case kM => k_mem); (case kz => omega)); intro _ _)))
  (k_with "3:truthy ref" => ((k_here; k_dflt (refine' truthy_of ?kN ?kM ?kV ?kz ?_; (case kN => k_asm); (case kM => k_mem); (case kV => assumption); (case kz => omega)))))
  (k_with "3:subscriptTail Name UnaryOp ref int" => ((k_here; k_dflt (refine' sub_last ?kN ?kM ?kX ?_ ?ks; (case ks => with_unfolding_all rfl); (case kN => k_asm); (case kM => k_mem); (case kX => assumption)))))
  (k_with "3:callWith ref nil nil" => ((k_here; (with_reducible show wpAny _ _ (callWith _ (Value.ref _) _ (backTo _ (starEach [] _)) []) _ _ _); k_dflt (refine' callWith_nx ?kN ?kM ?_; (case kN => k_asm); (case kM => k_mem)))))
  (k_with "3:call builtin:list.pop cons nil" => ((k_here; (with_reducible show wpAny _ _ (call (Value.builtin "list.pop") [Value.ref _]) _ _ _); (rename Fr _ _ _ _ => F9q); (rename News _ _ _ _ => N9q); k_dflt (refine' pop_of F9q N9q ?ke ?kU ?kz ?_; (case kU => k_upd); (case ke => assumption); (case kz => omega)); intro _ _ _)))
  (k_with "3:delItem ref str" => ((k_here; k_dflt (refine' kob_del (knd := PySem.strKind _ _) ?F ?N ?U ?d (strKind_is _ _ _ _) ?l ?z ?_; (case F => k_asm); (case N => k_asm); (case U => k_updF); (case d => assumption); (case l => assumption); (case z => (rw [sizeLine_eq]; omega))); intro _ _ _ Nzq _; (try dsimp only at Nzq))))
  trivial
section
local macro_rules | `(tactic| walk_at $s:str) => `(tactic| k_extra $(Lean.Syntax.mkStrLit ("3:" ++ s.getString)))
local macro_rules | `(tactic| k_mem) => `(tactic| k_extra "3:k_mem")
local macro_rules | `(tactic| k_all) => `(tactic| k_extra "3:k_all")
local macro_rules | `(tactic| isplit) => `(tactic| k_extra "3:isplit")
theorem Mine.off39 : True := by (w_top off); trivial
section
local macro_rules | `(tactic| walk_at $s:str) => `(tactic| k_extra $(Lean.Syntax.mkStrLit ("Find:" ++ s.getString)))
local macro_rules | `(tactic| walk_at "no such") => `(tactic| skip)
namespace Mine
open LCg (NsObj lst lst_snoc ns_obj)
open PyProof.Rows.TI (Frs SameUp)
set_option maxHeartbeats 4000000
theorem Mine.kw40 : True := by
  (k_with "Find:cell_enter" => ((refine' code_defF ?k2 ?k3 ?kN ?k5 ?k6 ?k7 ?k8 ?k9 ?kB ?_ ?c2 ?c3 ?c4 ?c5; (case k2 => k_asm); (case k3 => k_asm); (case kN => k_asm); (case k5 => k_asm); (case k6 => k_is); (case k7 => k_is); (case k8 => ktr_room); (case k9 => exact BindsTo.of_eq rfl); (case c5 => decide); (case kB => exact locs rfl); (case c2 => exact rfl); (case c3 => exact rfl); (case c4 => exact rfl); k_whole; intro _ _ _ _ _ _ _ _; (try dsimp only); (try k_fold))))
  trivial
local macro_rules | `(tactic| cell_enter) => `(tactic| k_extra "Find:cell_enter")
theorem Mine.kw41 : True := by
  (k_with "Find:exec For Name Name cons nil" => ((k_here; k_dflt (refine For_in ?_))))
  trivial
theorem c_find (w : World) (X DX D : Addr) (rv : Value) (po fi : Int) (es : List NE) (as : List AE) (I : Led) (rk : Str → Nat) (TR : TsAt w X DX D rv po fi es as I) (hes : es.length ≤ 100) (hsu : SuB es 100) (hss : ∀ e ∈ es, ∀ s ∈ e.su, s ∈ es.map (·.key)) (hrk : ∀ e ∈ es, ∀ s ∈ e.su, rk e.key < rk s) :
    FCon w 141 [.ref X] 1 200 I (fun _ => True) (fun v I' => v = .none ∧ I' = I) := by
  intro mean mg mb dp un gd cn cs a ccd cl outer h₀ L m s Q E rest frs Fs hlt F X N ndN T hk hd' hu hpre ret
  (have z1 := (id TR); first | (refine Mine.hideP ?_; intro Gz kGz; rcases z1 with ⟨nd, hX, ⟨k1, k2, k3, k4, t1, t2, t3, t4, u, v, hF⟩, ⟨o, hDm, hD⟩, lo, hl, hN, dd, ad, jx, jl⟩; all_goals (refine kGz ?_; clear kGz Gz)) | rcases z1 with ⟨nd, hX, ⟨k1, k2, k3, k4, t1, t2, t3, t4, u, v, hF⟩, ⟨o, hDm, hD⟩, lo, hl, hN, dd, ad, jx, jl⟩)
  refine wpAny_call ?_
  k_dflt cell_enter
  rename FrObj _ _ _ => fo
  obtain ⟨oL9, eoL⟩ := fr_name fo
  subst eoL
  isplit
  (rename Fr _ _ _ _ => F1)
  (rename News _ _ _ _ => N1)
  obtain ⟨L9, eL9⟩ := fr_loc F1
  subst eL9
  (have z2 := (name_four N1); refine Mine.e4_4 z2 ?_; intro Nk Sn Is Sk e1 e2 e3 e4; (try clear z2))
  dsimp only at e1 e2 e3 e4
  subst e1 e2 e3 e4
  (rename (Sn < Nk ∧ _) => q4)
  (rename (Is < Sn ∧ _) => q3)
  (rename (Sk < Is ∧ _) => q2)
  (rename (L < Sk ∧ _) => q1)
  (rename ((Nk == sysModules) = false) => loN)
  (rename L < _ => lLL)
  have ndB := nd_base (oL := oL9) ndN fun q hq => (N q hq).2.1
  have hB : ∀ q ∈ (I ++ rest) ++ (L, oL9) :: frs, @LT.lt Nat _ q.1 Sk := fun q hq => by
    have hall := of_allLt q1.2
    rcases List.mem_append.mp hq with hq | hq
    · rcases List.mem_append.mp hq with hq | hq
      · exact hall q (List.mem_append_left _ hq)
      · exact hall q (List.mem_append_right _ (List.mem_append_left _ hq))
    · rcases List.mem_cons.mp hq with rfl | hq
      · exact q1.1
      · exact hall q (List.mem_append_right _ (List.mem_append_right _ hq))
  have nd0 := fun o1 o2 o3 o4 => nd_four (o1 := o1) (o2 := o2) (o3 := o3) (o4 := o4) ndB hB q2.1 q3.1 q4.1
  have hDC : (D, o) ∈ I ++ rest := List.mem_append_left _ hDm
  (rename Obj.SetObjOf (PySem.strKind Pg w) _ _ _ => hso)
  (have z3 := (fd_start (es := es) (rk := rk) N1 nd0 hso (by assumption) loN); refine Mine.e1_2 z3 ?_; intro nw0 N2 fd0; (try clear z3))
  k_dflt (refine loop_keys (knd := PySem.strKind Pg w) (FdJ w es rk D (I ++ rest) Sk Is Sn Nk ((L, oL9) :: frs)) rfl F1 N2 hD lo ?hst ⟨rfl, rfl, rfl, rfl, rfl, [], fd0⟩ ?turn ?last)
  case hst =>
    (intro i m nw z4h; refine Mine.e0_6 z4h ?_; intro _ _ _ _ _ z4r; (try clear z4h); (rcases z4r with ⟨seen, fd⟩))
    (refine Mine.e8_2 fd.ex ?_; intro svs sc ic so n od kvs frs' z5x8 _; (try clear fd.ex); (rcases z5x8 with rfl))
    exact List.mem_cons_of_mem _ (List.mem_cons_of_mem _ (List.mem_cons_of_mem _ (List.mem_cons_of_mem _ (List.mem_append_right _ (List.mem_append_left _ hDC)))))
  case turn =>
    (intro i k y x m nw oI h tk E' hx hkv z6h; refine Mine.e0_6 z6h ?_; intro e1 e2 e3 e4 e5 z6r; (try clear z6h); (rcases z6r with ⟨seen, fd⟩); intro ho F6 N6)
    obtain ⟨t0, rfl⟩ := Value.isStrOf_shape hkv
    refine no_exc2 ?_
    (refine Mine.e8_7 fd.ex ?_; intro svs sc ic so n od kvs frs' z7x8 SU hsvs hso9 hn9 hod9 hkvs; (try clear fd.ex); (rcases z7x8 with rfl))
    have F7 := fr_pin (Str.ofString "n2i") (fr_pin (Str.ofString "stack") (fr_pin (Str.ofString "itstack") (fr_pin (Str.ofString "seen") (fr_pin (Str.ofString "node2stacki") F6 e5) e4) e3) e2) e1
    clear F1 N1 N2 F6
    obtain ⟨It, eIt⟩ := name_head N6
    dsimp only at eIt N6 ho
    rw [← eIt] at N6 ho
    have ndI := Nd.cons (p := It) (o := oI) fd.nd ho
    have hsl := seen_le fd.sn fd.se
    iterate 12 one_sign
    · isplit
      subst eIt
      exact TL.cont (nw := _) (by k_asm) (by k_asm) (fun q hq => hq) (fun q hq => by simpa using ho q hq) ⟨rfl, rfl, rfl, rfl, rfl, seen, fd⟩
    · iterate 4 one_sign
      (rename Fr _ _ _ _ => F8)
      (rename News _ _ _ _ => N8)
      have hkin : k ∈ es.map (·.key) := by
        rw [← refs_keys hl]
        exact List.mem_map.mpr ⟨_, List.mem_of_getElem? hx, rfl⟩
      refine codeAny_whileLoop (WhI w es rk D (I ++ rest) Sk Is Sn Nk ((L, oL9) :: frs) h₀ _ s It oI) ?wt _ (i8_14 _ _ _ _ [] seen k t0 rfl F8 N8 rfl rfl rfl rfl rfl rfl fd hkin (fun _ h => nomatch h) ho rfl)
      case wt =>
        (intro n s' z8h; refine Mine.e8_14 z8h ?_; intro h tk m nw stk seen k t z8x8 F9 N9 e1 e2 e3 e4 e5 e6 fd hkin hrkk ho z8x21; (try clear z8h); (rcases z8x8 with rfl); (rcases z8x21 with rfl))
        refine no_exc ?_
        (refine Mine.e8_7 fd.ex ?_; intro svs sc ic so n9 od kvs frs' z9x8 SU hsvs hso9 hn9 hod9 hkvs; (try clear fd.ex); (rcases z9x8 with rfl))
        have F10 := fr_pin (Str.ofString "n2i") (fr_pin (Str.ofString "stack") (fr_pin (Str.ofString "itstack") (fr_pin (Str.ofString "seen") (fr_pin (Str.ofString "node2stacki") (fr_pin (Str.ofString "node") F9 e6) e5) e4) e3) e2) e1
        clear F8 N8 F9 ndI nd0 hso
        (have z10 := (nd_heads fd.nd); refine Mine.e0_5 z10 ?_; intro z10x0 t1' t2' t3' t4'; (try clear z10); (refine Mine.e0_6 z10x0 ?_; intro n1 n2 n3 n4 n5 n6; (try clear z10x0)))
        have hIT : ∀ q ∈ I, q ∈ stkM stk ++ (I ++ rest ++ frs') := fun q hq => List.mem_append_right _ (List.mem_append_left _ (List.mem_append_left _ hq))
        obtain ⟨z1, z2, z3, z4, z5⟩ : @Ne Nat Sk It ∧ @Ne Nat Is It ∧ @Ne Nat Sn It ∧ @Ne Nat Nk It ∧ (∀ p ∈ stkM stk ++ (I ++ rest ++ frs'), p.1 ≠ It) := ⟨ho _ List.mem_cons_self, ho _ (List.mem_cons_of_mem _ List.mem_cons_self), ho _ (List.mem_cons_of_mem _ (List.mem_cons_of_mem _ List.mem_cons_self)), ho _ (List.mem_cons_of_mem _ (List.mem_cons_of_mem _ (List.mem_cons_of_mem _ List.mem_cons_self))), fun p hp => ho p (List.mem_cons_of_mem _ (List.mem_cons_of_mem _ (List.mem_cons_of_mem _ (List.mem_cons_of_mem _ hp))))⟩
        have hsl := seen_le fd.sn fd.se
        have hkst : k ∉ keysOf stk := fun hm => by
          (have z11 := (List.mem_map.mp hm); refine Mine.e1_2 z11 ?_; intro e he hke; (try clear z11))
          have := hrkk e (List.mem_reverse.mp he)
          rw [hke] at this; exact Nat.lt_irrefl _ this
        have hvn : (valueAt kvs k).isSome = false := by
          rw [valueAt_isSome_eq_any]
          cases hb : kvs.any (fun kv => decide (kv.1 = k)) with
          | false => rfl
          | true =>
            (have z12 := (List.any_eq_true.mp hb); refine Mine.e1_2 z12 ?_; intro p hp hpk; (try clear z12))
            exact absurd (hkvs ▸ List.mem_map.mpr ⟨p, hp, by simpa using hpk⟩) hkst
        (have z13 := (TR.look hkin); refine Mine.e9_8 z13 ?_; intro j8 e8 x8 d8 l8 t8 u8 vs8 c8 he8 ha8 hkey8 hv8 h81 h82 h83 h84; (try clear z13))
        have g81 := hIT _ h81
        have g82 := hIT _ h82
        have g83 := hIT _ h83
        have c83 : (l8, W.listOf vs8 c8) ∈ I ++ rest := List.mem_append_left _ h83
        have gD := hIT _ hDm
        clear h81 h82 h83
        generalize hTT : stkM stk ++ (I ++ rest ++ frs') = TT at N9 t1' t2' t3' t4' z5 g81 g82 g83 gD
        have hlen := fd.len
        have hkl : (keysOf stk).length = stk.length := keysOf_len
        have hkvl : kvs.length = stk.length := by rw [← hkl, ← hkvs, List.length_map]
        have hsvl := hsvs.length
        have hivl : (stk.reverse.map fun e => Value.ref e.b).length = stk.length := by rw [List.length_map, List.length_reverse]
        iterate 4 one_sign
        refine no_exc ?_
        iterate 1 one_sign
        refine wpAny_mono (E := fun _ _ => False) (Q := fun f s₁ => f = Flow.next ∧ ∃ n, InI w es rk D (I ++ rest) Sk Is Sn Nk ((L, oL9) :: frs) h₀ L9 s It oI (unW es seen + stW stk) n s₁) ?g1 ?g2 (fun _ _ h => h.elim)
        case g1 =>
          iterate 7 one_sign
          · isplit
            subst hTT
            exact ⟨rfl, i7_12 _ _ _ _ _ stk seen rfl (by assumption) (by assumption) rfl rfl rfl rfl rfl fd ho (Nat.le_refl _) rfl⟩
          · isplit
            (rename (_ < _ ∧ It < _ ∧ _) => hb9)
            (rename (It < _ ∧ _) => hi9)
            (rename News _ _ _ _ => N11)
            (rename Fr _ _ _ _ => F11)
            (rename Obj.SetObjOf _ _ _ _ => hso11)
            subst hTT
            (have z14 := (fd_push (oI := oI) (t := t) fd ho SU hsvs hn9 hkvs hvn (by assumption) hkin hrkk hso11 (by assumption) c83 h84 (List.mem_of_getElem? he8) hkey8 rfl hb9 hi9); refine Mine.e1_3 z14 ?_; intro nw' sub' fd' ho'; (try clear z14))
            have hW := unW_add TR.keys (List.mem_of_getElem? he8) (by rw [hkey8]; assumption)
            rw [hkey8] at hW
            have hS : ∀ b it, stW (⟨k, b, it, l8, 0, e8.su⟩ :: stk) = stW stk + (1 + e8.su.length) := by
              intro b it
              unfold stW
              rw [List.map_cons, List.sum_cons]
              show 1 + (e8.su.length - 0) + _ = _
              omega
            exact ⟨rfl, i7_12 _ _ _ _ _ _ _ rfl F11 (news_sub N11 sub') rfl rfl rfl rfl rfl fd' ho' (by rw [hS]; omega) rfl⟩
        case g2 =>
          (intro f s₁ z15h; refine Mine.e0_2 z15h ?_; intro z15x0 z15r; (try clear z15h); (rcases z15x0 with rfl); (refine Mine.e7_12 z15r ?_; intro n h tk m nw stk' seen' z15rx7 F11 N11 e1 e2 e3 e4 e5 fd' ho' hM z15rx18; (try clear z15r); (rcases z15rx7 with rfl); (rcases z15rx18 with rfl)))
          iterate 2 one_sign
          clear F10 N9 hTT t1' t2' t3' t4' z5 g81 g82 g83 gD c83 hv8 h84 hsl hkst hvn hlen hkl hkvl hsvl hivl hIT
          refine codeAny_whileLoop (InI w es rk D (I ++ rest) Sk Is Sn Nk ((L, oL9) :: frs) h₀ L9 s It oI (unW es seen + stW stk)) ?wt2 _ (i6_12 h _ m nw stk' seen' rfl F11 N11 e1 e2 e3 e4 e5 fd' ho' hM rfl)
          case wt2 =>
            (intro n s' z16h; refine Mine.e6_12 z16h ?_; intro h tk m nw stk2 seen2 z16x6 F12 N12 e1 e2 e3 e4 e5 fd2 ho2 hM2 z16x17; (try clear z16h); (rcases z16x6 with rfl); (rcases z16x17 with rfl))
            refine no_exc ?_
            (refine Mine.e8_7 fd2.ex ?_; intro svs2 sc2 ic2 so2 n2' od2 kvs2 frs2 z17x8 SU2 hsvs2 hso2 hn2 hod2 hkvs2; (try clear fd2.ex); (rcases z17x8 with rfl))
            have F13 := fr_pin (Str.ofString "n2i") (fr_pin (Str.ofString "stack") (fr_pin (Str.ofString "itstack") (fr_pin (Str.ofString "seen") (fr_pin (Str.ofString "node2stacki") F12 e5) e4) e3) e2) e1
            clear F11 N11 F12
            have hlen2 := fd2.len
            have hsvl2 := hsvs2.length
            have hkl2 : (keysOf stk2).length = stk2.length := keysOf_len
            cases stk2 with
            | nil =>
              have hemp : svs2.isEmpty = true := by cases hsvs2; rfl
              iterate 7 one_sign
              subst eIt
              exact TL.next (nw := _) (by k_asm) (by k_asm) (fun q hq => hq) (fun q hq => by simpa using ho2 q hq) ⟨rfl, rfl, rfl, rfl, rfl, seen2, fd2⟩
            | cons e r =>
              have hemp : svs2.isEmpty = false := by
                cases svs2 with
                | nil => rw [hkl2] at hsvl2; cases hsvl2
                | cons _ _ => rfl
              have hlast : ((e :: r).reverse.map fun e => Value.ref e.b).getLast? = some (.ref e.b) := by
                rw [List.reverse_cons, List.map_append, List.getLast?_append]; rfl
              iterate 16 one_sign
              (have z18 := (fd2.it e List.mem_cons_self); refine Mine.e0_4 z18 ?_; intro z18x0 hes2 z18x2 hpos; (try clear z18); (refine Mine.e2_2 z18x0 ?_; intro vl cl9 hlC hvl; (try clear z18x0)); (refine Mine.e1_3 z18x2 ?_; intro x9 hx9 hxk hxs; (try clear z18x2)))
              have gB : (e.b, NX.bObj e.it) ∈ stkM (e :: r) ++ (I ++ rest ++ frs2) := List.mem_append_left _ List.mem_cons_self
              have gI : (e.it, NX.itObj e.l e.pos) ∈ stkM (e :: r) ++ (I ++ rest ++ frs2) := List.mem_append_left _ (List.mem_cons_of_mem _ List.mem_cons_self)
              have gL : (e.l, W.listOf vl cl9) ∈ stkM (e :: r) ++ (I ++ rest ++ frs2) := List.mem_append_right _ (List.mem_append_left _ hlC)
              have up5 : ∀ {a b c d f : Addr × Obj} {q : Addr × Obj} {l : Led}, q ∈ l → q ∈ a :: b :: c :: d :: f :: l := fun h => List.mem_cons_of_mem _ (List.mem_cons_of_mem _ (List.mem_cons_of_mem _ (List.mem_cons_of_mem _ (List.mem_cons_of_mem _ h))))
              by_cases hp : e.pos < e.su.length
              · have hvp : e.pos < vl.toList.length := by rw [hvl.length]; exact hp
                (have z19 := (strs_at hvl (List.getElem?_eq_getElem hvp)); refine Mine.e2_2 z19 ?_; intro p9 t9 hv9 hs9; (try clear z19))
                have hix : vl[e.pos]? = some (.str p9 t9) := by rw [← Array.getElem?_toList, List.getElem?_eq_getElem hvp, hv9]
                refine NX.call_item (N12 _ (up5 gB)).1 (N12 _ (up5 gI)).1 ⟨_, (N12 _ (up5 gL)).1, rfl, cl9, rfl⟩ hix ?_
                intro h9 hget hsb
                (have z20 := (fd_draw (oI := oI) fd2 ho2 SU2 hsvs2 hn2 hkvs2 hso2 hod2 hp); refine Mine.e1_3 z20 ?_; intro nw' sub' fd' ho'; (try clear z20))
                have F14 := fr_upd F13 N12 (up5 gI) hsb
                have N14 := news_sub (news_updA N12 (up5 gI) hsb hget) sub'
                clear F13 N12
                iterate 4 one_sign
                (rename Fr _ _ _ _ => F15)
                (rename News _ _ _ _ => N15)
                have hpin : p9 ∈ x9.su := by rw [hxs]; exact List.mem_of_getElem? hs9
                have hrk9 := hrk x9 hx9 p9 hpin
                rw [hxk] at hrk9
                refine ⟨_, ?_, i8_14 _ _ _ _ _ _ p9 t9 rfl F15 N15 rfl rfl rfl rfl rfl rfl fd' (hss x9 hx9 p9 hpin) (fun x hx => ?_) ho' rfl⟩
                · have hS : stW ({ e with pos := e.pos + 1 } :: r) + 1 ≤ stW (e :: r) := by
                    unfold stW
                    rw [List.map_cons, List.sum_cons, List.map_cons, List.sum_cons]
                    show 1 + (e.su.length - (e.pos + 1)) + _ + 1 ≤ 1 + (e.su.length - e.pos) + _
                    omega
                  omega
                · rcases List.mem_cons.mp hx with rfl | hx
                  · exact hrk9
                  · exact Nat.lt_trans ((List.pairwise_cons.mp fd2.rank).1 x hx) hrk9
              · have hix : vl[e.pos]? = none := by
                  rw [← Array.getElem?_toList]
                  exact List.getElem?_eq_none (by rw [hvl.length]; omega)
                refine NX.call_end rfl (N12 _ (up5 gB)).1 (N12 _ (up5 gI)).1 ⟨_, (N12 _ (up5 gL)).1, rfl, cl9, rfl⟩ hix ?_
                intro h9 h10 e9 hsb hex
                have Fs9 : Frs (envX cn cs L a ccd cl :: outer) frs2 := PyProof.Rows.TI.Frs.up (show Frs (envX cn cs L a ccd cl :: outer) ((L, oL9) :: frs) from ⟨by show cs.kind ≠ _; rw [hk]; decide, rfl, fo.dict, Fs⟩) SU2
                have ndI2 := Nd.cons (p := It) (o := oI) fd2.nd ho2
                obtain ⟨ndn, hoff⟩ := nd_mid (A := [(It, oI), (Sk, W.listOf svs2.toArray sc2), (Is, W.listOf ((e :: r).reverse.map fun e => Value.ref e.b).toArray ic2), (Sn, so2), (Nk, od2)]) (x := (e.b, NX.bObj e.it)) (y := (e.it, NX.itObj e.l e.pos)) (B := stkM r ++ (I ++ rest ++ frs2)) ndI2
                have F14 := fr_upd F13 N12 (up5 gI) hsb
                have N14 : News h₀ L9 h9 (((It, oI) :: (Sk, W.listOf svs2.toArray sc2) :: (Is, W.listOf ((e :: r).reverse.map fun e => Value.ref e.b).toArray ic2) :: (Sn, so2) :: (Nk, od2) :: (stkM r ++ (I ++ rest))) ++ frs2) := by
                  refine news_but N12 hsb fun q hq => ?_
                  have hq : q ∈ (It, oI) :: (Sk, W.listOf svs2.toArray sc2) :: (Is, W.listOf ((e :: r).reverse.map fun e => Value.ref e.b).toArray ic2) :: (Sn, so2) :: (Nk, od2) :: (stkM r ++ (I ++ rest ++ frs2)) := by
                    simpa only [List.cons_append, List.append_assoc] using hq
                  refine ⟨?_, hoff q hq⟩
                  simp only [stkM, List.cons_append, List.mem_cons] at hq ⊢
                  rcases hq with h | h | h | h | h | h <;> simp only [h, true_or, or_true]
                clear F13 N12
                refine PyProof.Rows.TLg.noted_newA rfl Fs9 hex F14 N14 (fun p hp hm => ?hap) (fun h11 frs3 SU3 Fs3 H => ?_) rfl
                case hap =>
                  rcases List.mem_cons.mp hm with q | hm
                  · exact (N14 p (List.mem_append_left _ hp)).2.1 q
                  · (have z21 := (List.mem_map.mp hm); refine Mine.e1_2 z21 ?_; intro f hf ef; (try clear z21))
                    have nd9 : Nd (((It, oI) :: (Sk, W.listOf svs2.toArray sc2) :: (Is, W.listOf ((e :: r).reverse.map fun e => Value.ref e.b).toArray ic2) :: (Sn, so2) :: (Nk, od2) :: (stkM r ++ (I ++ rest))) ++ frs2) := by
                      simpa only [List.cons_append, List.append_assoc, List.nil_append] using ndn
                    exact nd9.dis p hp f hf ef
                refine H.land fun h12 H2 => ?_
                refine no_exc ?_
                refine PyProof.Rows.TT.clause_hitTN H2 T (hE := PassesOwnAt.never) (k := fun h13 F15 N15 => ?_)
                clear F14 N14
                obtain ⟨ps, t9, rfl, hps⟩ : ∃ ps t, svs2 = ps ++ [.str e.key t] ∧ StrsAre ps (keysOf r) := strs_unsnoc (by
                  have hk : keysOf (e :: r) = keysOf r ++ [e.key] := by unfold keysOf; rw [List.reverse_cons, List.map_append]; rfl
                  rw [← hk]; exact hsvs2)
                have hkl1 : kl_last (ps ++ [Value.str e.key t9]) = some (ps, .str e.key t9) := kpa_last _ _
                have hrev9 : ((e :: r).reverse.map fun e => Value.ref e.b) = (r.reverse.map fun e => Value.ref e.b) ++ [.ref e.b] := by rw [List.reverse_cons, List.map_append]; rfl
                have hkl3 : kl_last ((e :: r).reverse.map fun e => Value.ref e.b) = some (r.reverse.map fun e => Value.ref e.b, .ref e.b) := by rw [hrev9]; exact kpa_last _ _
                have hivl2 : ((e :: r).reverse.map fun e => Value.ref e.b).length = (e :: r).length := by rw [List.length_map, List.length_reverse]
                have hkvl2 : kvs2.length = (e :: r).length := by rw [← hkl2, ← hkvs2, List.length_map]
                have hvs9 : (valueAt kvs2 e.key).isSome = true := by
                  rw [valueAt_isSome_eq_any, List.any_eq_true]
                  have : e.key ∈ kvs2.map (·.1) := by rw [hkvs2]; exact List.mem_map.mpr ⟨e, List.mem_reverse.mpr List.mem_cons_self, rfl⟩
                  (have z22 := (List.mem_map.mp this); refine Mine.e1_2 z22 ?_; intro p hp hpk; (try clear z22))
                  exact ⟨p, hp, by simpa using hpk⟩
                have N16 : News h₀ L9 h13 ((It, oI) :: (Sk, W.listOf (ps ++ [Value.str e.key t9]).toArray sc2) :: (Is, W.listOf ((e :: r).reverse.map fun e => Value.ref e.b).toArray ic2) :: (Sn, so2) :: (Nk, od2) :: (stkM r ++ (I ++ rest ++ frs3))) := by
                  simpa only [List.cons_append, List.append_assoc] using N15
                clear N15 hsb hex H H2
                have ndx : Nd ((It, oI) :: (Sk, W.listOf (ps ++ [Value.str e.key t9]).toArray sc2) :: (Is, W.listOf ((e :: r).reverse.map fun e => Value.ref e.b).toArray ic2) :: (Sn, so2) :: (Nk, od2) :: (stkM r ++ (I ++ rest ++ frs3))) := by
                  unfold Nd at ndn ⊢
                  have : (stkM r ++ (I ++ rest ++ frs3)).map (fun x : Addr × Obj => (x.1 : Nat)) = (stkM r ++ (I ++ rest ++ frs2)).map (fun x : Addr × Obj => (x.1 : Nat)) := by
                    simp only [List.map_append, sameUp_map SU3]
                  simp only [List.map_cons, this]
                  exact ndn
                (have z23 := (nd_heads ndx.tail); refine Mine.e0_5 z23 ?_; intro _ u1 u2 u3 u4; (try clear z23))
                have u5 : ∀ p ∈ stkM r ++ (I ++ rest ++ frs3), p.1 ≠ It := fun p hp => ndx.head p (List.mem_cons_of_mem _ (List.mem_cons_of_mem _ (List.mem_cons_of_mem _ (List.mem_cons_of_mem _ hp))))
                generalize hT3 : stkM r ++ (I ++ rest ++ frs3) = T3 at N16 u1 u2 u3 u4 u5
                clear ndx ndn hoff ndI2
                iterate 21 one_sign
                (rename Fr _ _ _ _ => F17)
                (rename News _ _ _ _ => N17)
                (rename Obj.IsDictOf _ _ (without _ _) => hd17)
                obtain ⟨fd', ho'⟩ := fd_pop (oI := oI) fd2 ho2 SU2 SU3 hps hn2 hkvs2 hso2 hd17
                subst hT3
                have hS : stW r < stW (e :: r) := by
                  unfold stW
                  rw [List.map_cons, List.sum_cons]
                  omega
                exact ⟨_, hS, i6_12 _ _ _ _ r seen2 rfl F17 N17 rfl rfl rfl rfl rfl fd' ho' (by omega) rfl⟩
  case last =>
    (intro m nw h tk E' z24h; refine Mine.e0_6 z24h ?_; intro e1 e2 e3 e4 e5 z24r; (try clear z24h); (rcases z24r with ⟨seen, fd⟩); intro F6 N6)
    (refine Mine.e8_3 fd.ex ?_; intro svs sc ic so n od kvs frs' z25x8 SU _; (try clear fd.ex); (rcases z25x8 with rfl))
    clear F1 N1 N2
    isplit
    refine fret ret fo F.above (by assumption) N6 (nw' := I) (frs' := frs') (fun q hq => ?_) ?_ SU ⟨rfl, rfl⟩
    · rw [← List.append_assoc] at hq
      exact List.mem_cons_of_mem _ (List.mem_cons_of_mem _ (List.mem_cons_of_mem _ (List.mem_cons_of_mem _ hq)))
    · rw [← List.append_assoc]
      exact fd.nd.tail.tail.tail.tail
end Mine
end
theorem Mine.off42 : True := by (w_top off); trivial
section
local macro_rules | `(tactic| walk_at $s:str) => `(tactic| k_extra $(Lean.Syntax.mkStrLit ("Prep:" ++ s.getString)))
namespace Mine
open LCg (NsObj lst lst_snoc ns_obj)
open PyProof.Rows.TI (Frs SameUp)
set_option maxHeartbeats 4000000
theorem Mine.kw43 : True := by
  (k_with "Prep:cell_enter" => ((refine' code_defF ?k2 ?k3 ?kN ?k5 ?k6 ?k7 ?k8 ?k9 ?kB ?_ ?c2 ?c3 ?c4 ?c5; (case k2 => k_asm); (case k3 => k_asm); (case kN => k_asm); (case k5 => k_asm); (case k6 => k_is); (case k7 => k_is); (case k8 => ktr_room); (case k9 => exact BindsTo.of_eq rfl); (case c5 => decide); (case kB => exact locs rfl); (case c2 => exact rfl); (case c3 => exact rfl); (case c4 => exact rfl); k_whole; intro _ _ _ _ _ _ _ _; (try dsimp only); (try k_fold))))
  trivial
local macro_rules | `(tactic| cell_enter) => `(tactic| k_extra "Prep:cell_enter")
theorem Mine.kw44 : True := by
  (k_with "Prep:eval ListComp Attribute cons" => ((k_here; refine' ListComp_b (cl := _) ?kc ?kk ?kn ?_; (case kc => with_unfolding_all rfl); (case kk => with_unfolding_all rfl); (case kn => decide))))
  trivial
theorem Mine.kw45 : True := by
  (k_with "Prep:getMethod ref" => ((k_here; k_dflt ((with_reducible show wpAny _ _ (getMethod (Value.ref _) (Str.ofString "values") _) _ _ _); refine' kdl_method (knd := PySem.strKind _ _) PySem.F.slot_dict_values PySem.F.type_dict_values ?kN ?kM ?kD ?_; (case kN => k_asm); (case kM => k_mem); (case kD => assumption)))))
  trivial
theorem Mine.kw46 : True := by
  (k_with "Prep:call builtin:dict.values cons nil" => ((k_here; (with_reducible show wpAny _ _ (call (Value.builtin "dict.values") [Value.ref _]) _ _ _); k_dflt (refine' kdl_view_values (knd := PySem.strKind _ _) ?kF ?kN ?kM ?kD ?kL ?_; (case kF => k_asm); (case kN => k_asm); (case kM => k_mem); (case kD => assumption); (case kL => assumption)); intro _ _ _ _ l1zq; (try k_lt l1zq))))
  trivial
theorem view_of {h₀ h : Heap} {L V d : Addr} {l : Led} (N : News h₀ L h ((V, { cls := .type "dict_values", data := .fields #[.ref d] }) :: l)) : h.IsValuesView V d := ⟨_, (N _ List.mem_cons_self).1, rfl, rfl⟩
noncomputable def readyF (es : List NE) : List Str := (es.filter fun e => e.np == 0).map (·.key)
theorem readyF_succ {es : List NE} {i : Nat} {e : NE} (h : es[i]? = some e) : readyF (es.take (i + 1)) = readyF (es.take i) ++ if e.np == 0 then [e.key] else [] := by
  unfold readyF
  rw [List.take_add_one, h, List.filter_append, List.map_append]
  cases hc : e.np == 0 <;> simp [List.filter, hc]
theorem refs_get {k : Str} {v : Value} {i : Nat} {es : List NE} {as : List AE} (h : (refsOf es as)[i]? = some (k, v)) : ∃ e a, es[i]? = some e ∧ as[i]? = some a ∧ k = e.key ∧ v = .ref a.x := by
  unfold refsOf at h
  rw [List.getElem?_map] at h
  cases hz : (es.zip as)[i]? with
  | none => rw [hz] at h; cases h
  | some p =>
    rw [hz] at h
    obtain ⟨e, a⟩ := p
    obtain ⟨h1, h2⟩ := List.getElem?_zip_eq_some.mp hz
    have h3 := Option.some.inj h
    exact ⟨e, a, h1, h2, (congrArg Prod.fst h3).symm, (congrArg Prod.snd h3).symm⟩
theorem c_prepare (w : World) (X DX D : Addr) (po fi : Int) (es : List NE) (as : List AE) (I : Led) (rk : Str → Nat) (TR : TsAt w X DX D .none po fi es as I) (hes : es.length ≤ 100) (hsu : SuB es 100) (hss : ∀ e ∈ es, ∀ s ∈ e.su, s ∈ es.map (·.key)) (hrk : ∀ e ∈ es, ∀ s ∈ e.su, rk e.key < rk s) :
    FCon w 106 [.ref X] 2 400 I (fun _ => True) (fun v I' => v = .none ∧ ∃ R, TrAt w X DX D R (readyF es) po fi es as I') := by
  intro mean mg mb dp un gd cn cs a ccd cl outer h₀ L m s Q E rest frs Fs hlt F X N ndN T hk hd' hu hpre ret
  (have z1 := (id TR); first | (refine Mine.hideP ?_; intro Gz kGz; rcases z1 with ⟨nd, hX, ⟨k1, k2, k3, k4, t1, t2, t3, t4, u, v, hF⟩, ⟨o, hDm, hD⟩, lo, hl, hN, dd, ad, jx, jl⟩; all_goals (refine kGz ?_; clear kGz Gz)) | rcases z1 with ⟨nd, hX, ⟨k1, k2, k3, k4, t1, t2, t3, t4, u, v, hF⟩, ⟨o, hDm, hD⟩, lo, hl, hN, dd, ad, jx, jl⟩)
  refine wpAny_call ?_
  k_dflt cell_enter
  rename FrObj _ _ _ => fo
  obtain ⟨oL9, eoL⟩ := fr_name fo
  subst eoL
  iterate 22 one_sign
  (rename News _ _ _ _ => N1)
  (rename Fr _ _ _ _ => F1)
  obtain ⟨V, eV⟩ := name_head N1
  dsimp only at eV
  rw [← eV] at N1 ⊢
  have hgl : ∀ {q : Addr × Obj} {a b : Addr × Obj}, q ∈ I → q ∈ a :: b :: (I ++ (rest ++ frs)) := fun h => List.mem_cons_of_mem _ (List.mem_cons_of_mem _ (List.mem_append_left _ h))
  k_dflt (refine comp_of (blk_vals (knd := PySem.strKind Pg w) (fun i ys nw => nw = _ ∧ StrsAre ys (readyF (es.take i)) ∧ ys.length ≤ i) rfl (by decide) rfl rfl (by rw [refs_len hl]; omega) F1 N1 (view_of N1) hD (fun i ys nw h => by rw [h.1]; exact hgl hDm) ⟨rfl, .nil, Nat.le_refl _⟩ (fun i ys nw h => h.2.2) ?cturn fun _ => ⟨_, rfl⟩) ?fin)
  case cturn =>
    (intro i k v ys nw It oI C oC D9 m₂ h tk E' hv hm₂ hC z2h; refine Mine.e0_3 z2h ?_; intro z2x0 hys hyl; (try clear z2h); (rcases z2x0 with rfl); intro ho F6 N6)
    (have z3 := (refs_get hv); refine Mine.e2_4 z3 ?_; intro e9 a9 he9 ha9 z3x4 z3x5; (try clear z3); (rcases z3x4 with rfl); (rcases z3x5 with rfl))
    (have z4 := (hN i e9 a9 he9 ha9); refine Mine.e4_4 z4 ?_; intro t9 u9 vs9 c9 hn9 _ _ _; (try clear z4))
    refine wpAny_tests_one ?_
    iterate 8 one_sign
    · (rename _ = (0 : Int) => hc9)
      isplit
      refine CE.mk F6 N6 (fun p hp => hp) (fun p hp => by simpa [not_or] using ho p hp) ⟨rfl, ?_, by (rw [List.length_append]; exact Nat.succ_le_succ hyl)⟩
      rw [readyF_succ he9, if_pos (by rw [hc9]; rfl)]
      exact strs_snoc hys
    · (rename _ ≠ (0 : Int) => hc9)
      (try dsimp only)
      refine CE.mk F6 N6 (fun p hp => hp) (fun p hp => by simpa [not_or] using ho p hp) ⟨rfl, ?_, Nat.le_succ_of_le hyl⟩
      rw [readyF_succ he9, if_neg (by simpa using hc9), List.append_nil]
      exact hys
  case fin =>
    (intro ys nw D9 h tk z5h; refine Mine.e0_3 z5h ?_; intro z5x0 hys hyl; (try clear z5h); (rcases z5x0 with rfl); intro F6 N6 ho)
    have hLn : ∀ q ∈ I ++ (rest ++ frs), q.1 ≠ L := fun q hq => (N q hq).2.1
    have N7 : News h₀ _ h ((D9, lst ys) :: (L, oL9) :: (I ++ (rest ++ frs))) := news_sub N6 fun q hq => by
      rcases List.mem_cons.mp hq with e | hq
      · exact e ▸ List.mem_cons_self
      · exact List.mem_cons_of_mem _ (List.mem_cons_of_mem _ hq)
    have nd7 : Nd ((D9, lst ys) :: (L, oL9) :: (I ++ (rest ++ frs))) := Nd.cons (Nd.cons ndN hLn) fun q hq => ho q (List.mem_cons_of_mem _ hq)
    clear N1 N6
    iterate 2 one_sign
    (rename News _ _ _ _ => N8)
    have hDX1 : @Ne Nat D9 DX := Ne.symm (nd7.head _ (List.mem_cons_of_mem _ (List.mem_append_left _ hF)))
    have hDX2 : @Ne Nat L DX := Ne.symm (hLn _ (List.mem_append_left _ hF))
    rw [updA_ne hDX1, updA_ne hDX2, updA_app, updA_id (ndN.dis _ hF)] at N8
    have TS2 := TR.setf hF (k1' := k1) (k2' := k2) (k3' := k3) (k4' := k4) (t1' := t1) (t2' := t2) (t3' := t3) (t4' := t4) (u' := u) (v' := v) (.ref D9) po fi
    have hF2 := mem_self (o' := fldsOf k1 k2 k3 k4 t1 t2 t3 t4 u v D (.ref D9) po fi) hF
    have hoD : ∀ q ∈ updA DX (fldsOf k1 k2 k3 k4 t1 t2 t3 t4 u v D (.ref D9) po fi) I, q.1 ≠ D9 := fun q hq => by
      rcases mem_of_mem_updA hq with rfl | ⟨hq, _⟩
      · exact Ne.symm hDX1
      · exact nd7.head q (List.mem_cons_of_mem _ (List.mem_append_left _ hq))
    have ndJ : Nd (updA DX (fldsOf k1 k2 k3 k4 t1 t2 t3 t4 u v D (.ref D9) po fi) I ++ (rest ++ frs)) := by
      have := ndN.upd (p := DX) (o := fldsOf k1 k2 k3 k4 t1 t2 t3 t4 u v D (.ref D9) po fi)
      rwa [updA_app, updA_id (ndN.dis _ hF)] at this
    have hLJ : ∀ q ∈ updA DX (fldsOf k1 k2 k3 k4 t1 t2 t3 t4 u v D (.ref D9) po fi) I ++ (rest ++ frs), q.1 ≠ L := fun q hq => by
      rcases List.mem_append.mp hq with hq | hq
      · rcases mem_of_mem_updA hq with rfl | ⟨hq, _⟩
        · exact Ne.symm hDX2
        · exact hLn q (List.mem_append_left _ hq)
      · exact hLn q (List.mem_append_right _ hq)
    have jl9 : ∀ a ∈ as, D9 ≠ a.l := fun a ha => by
      obtain ⟨j, hj⟩ := List.getElem?_of_mem ha
      (have z6 := (TR.node hj); refine Mine.e1_2 z6 ?_; intro e9 _ z6r; (try clear z6); (refine Mine.e4_4 z6r ?_; intro t9 u9 vs9 c9 _ _ h9 _; (try clear z6r)))
      exact Ne.symm (nd7.head _ (List.mem_cons_of_mem _ (List.mem_append_left _ h9)))
    generalize hJ : updA DX (fldsOf k1 k2 k3 k4 t1 t2 t3 t4 u v D (.ref D9) po fi) I = J at N8 TS2 hF2 hoD ndJ hLJ
    have N9 : News h₀ _ _ ((D9, lst ys) :: (J ++ (rest ++ (L, oL9) :: frs))) := news_sub N8 fun q hq => by
      simp only [List.mem_cons, List.mem_append] at hq ⊢
      rcases hq with h | h | h | h | h <;> simp only [h, true_or, or_true]
    have nd9 : Nd ((D9, lst ys) :: (J ++ (rest ++ (L, oL9) :: frs))) := by
      have := nd_base (oL := oL9) ndJ hLJ
      rw [List.append_assoc] at this
      refine this.cons fun q hq => ?_
      rcases List.mem_append.mp hq with hq | hq
      · exact hoD q hq
      · rcases List.mem_append.mp hq with hq | hq
        · exact nd7.head q (List.mem_cons_of_mem _ (List.mem_append_right _ (List.mem_append_left _ hq)))
        · rcases List.mem_cons.mp hq with rfl | hq
          · exact nd7.head _ List.mem_cons_self
          · exact nd7.head q (List.mem_cons_of_mem _ (List.mem_append_right _ (List.mem_append_right _ hq)))
    have hX2 := TS2.hX
    have TS3 := TS2.sub (I' := (D9, lst ys) :: J) (Nd.cons TS2.nd hoD) fun p hp => List.mem_cons_of_mem _ hp
    clear N8 nd7 hJ
    iterate 6 one_sign
    have FsL : Frs (envX cn cs L a ccd cl :: outer) ((L, oL9) :: frs) := ⟨by show cs.kind ≠ _; rw [hk]; decide, rfl, fo.dict, Fs⟩
    have hltL : ∀ p ∈ ((L, oL9) :: frs : Led), @LT.lt Nat _ p.1 _ := fun p hp => by
      rcases List.mem_cons.mp hp with rfl | hp
      · exact (by assumption : @LT.lt Nat _ L _)
      · exact Nat.lt_trans (hlt p hp) (by assumption : @LT.lt Nat _ L _)
    refine' c_find w _ DX D (.ref D9) po fi es as _ rk TS3 hes hsu hss hrk _ _ _ _ _ _ _ _ _ _ _ _ _ _ _ _ _ _ rest ((L, oL9) :: frs) FsL hltL ?k1 ?k2 ?k3 nd9 ?k5 ?k6 ?k7 ?k8 trivial ?k9
    case k1 => k_asm
    case k2 => k_asm
    case k3 => exact N9
    case k5 => k_asm
    case k6 => exact rfl
    case k7 => ktr_room
    case k8 => ktr_units
    rintro v8 h8 tk8 nw8 frs8 F8 N8 nd8 SU8 ⟨rfl, rfl⟩
    clear N9 N
    isplit
    refine fret ret fo F.above (by assumption) (by assumption) (nw' := (D9, lst ys) :: J) (frs' := frs8) (fun q hq => hq) nd8 SU8 ⟨rfl, D9, TS3, ⟨_, _, List.mem_cons_self, ?_⟩, jl9⟩
    rw [refs_len hl, List.take_length] at hys
    simpa using hys
end Mine
end
theorem Mine.off47 : True := by (w_top off); trivial
section
namespace Mine
open LCg (NsObj lst lst_snoc ns_obj)
set_option maxHeartbeats 4000000
theorem Mine.kw48 : True := by
  (k_with "New:cell_enter" => ((refine' code_defG ?k1 ?k2 ?k3 ?kN ?k5 ?kA ?kF ?kK ?k6 ?k7 ?k8 ?k9 ?kB ?_ ?c2 ?c3 ?c4 ?c5; (case kA => exact rfl); (case kF => exact rfl); (case kK => assumption); (case k1 => k_asm); (case k2 => k_asm); (case k3 => k_asm); (case kN => k_asm); (case k5 => k_asm); (case k6 => k_is); (case k7 => k_is); (case k8 => ktr_room); (case k9 => exact BindsTo.of_eq rfl); (case c5 => decide); (case kB => exact locs rfl); (case c2 => exact rfl); (case c3 => exact rfl); (case c4 => exact rfl); k_whole; intro _ _ _ _ _ _ Bvzq _ _ _; (try dsimp only); (try k_lift Bvzq); (try k_fold))))
  trivial
local macro_rules | `(tactic| cell_enter) => `(tactic| k_extra "New:cell_enter")
theorem c_new (w : World) : PCon w 151 [] 3 100 (fun _ => True) (fun v nw => ∃ X DX D, v = .ref X ∧ TsAt w X DX D .none 0 0 [] [] nw) := by
  intro mean mg mb dp un gd cn cs a ccd cl outer A₀ base h₀ L m s Q E B F X T hk hd' hu hpre ret
  k_dflt (refine' call_clsN ?k1 ?k2 ?k4 ?k5 ?k6 ?_; (case k1 => k_asm); (case k2 => k_asm); (case k4 => k_is); (case k5 => k_is); (case k6 => k_is); k_whole; intro x' d' h' F' N' l2 up'; (try k_lt2 l2); (refine' code_defG ?k1 ?k2 ?k3 ?kN ?k5 ?kA ?kF ?kK ?k6 ?k7 ?k8 ?k9 ?kB ?_ ?c2 ?c3 ?c4 ?c5; (case kA => exact rfl); (case kF => exact rfl); (case kK => assumption); (case k1 => k_asm); (case k2 => k_asm); (case k3 => k_asm); (case kN => k_asm); (case k5 => k_asm); (case k6 => k_is); (case k7 => k_is); (case k8 => ktr_room); (case k9 => exact binds_K (by k_in) rfl (by k_is) rfl rfl rfl); (case c5 => decide); (case kB => exact locs rfl); (case c2 => exact rfl); (case c3 => exact rfl); (case c4 => exact rfl); k_whole; intro g' L' h'' FG' F'' N'' B' X' T' GS'; (try dsimp only); (try k_lift B'); (try k_fold)))
  k_steps
  (rename GSub _ _ _ => GS)
  (rename (∀ b o, _ → _ ∧ _) => up)
  (rename _ ∧ @LT.lt Nat _ _ _ => hlt)
  (rename @LT.lt Nat _ _ _ => hl2)
  refine pretN ret up GS (by assumption) (by assumption) (by assumption) (by assumption) ⟨_, _, _, rfl, ⟨Nd.three hlt.1 hl2, List.mem_cons_of_mem _ List.mem_cons_self, ⟨_, _, _, _, _, _, _, _, _, _, List.mem_cons_of_mem _ (List.mem_cons_of_mem _ List.mem_cons_self)⟩, ⟨_, List.mem_cons_self, by assumption⟩, by assumption, rfl, fun i e a he => by simp at he, Nat.ne_of_lt hlt.2, (fun a ha => nomatch ha), fun i j a b ha => by simp at ha, fun i j a b ha => by simp at ha⟩⟩
end Mine
end
namespace Mine
open LCg (NsObj lst lst_snoc ns_obj)
section
variable {prog : Program} {w : World} {A : Around} {E : Value → Shared → Prop} {s : Shared} {env : Env} {elts : List Expr} {kt : Nat} {tpos : Pos} {body orelse : List Stmt} {Q : Flow → Shared → Prop}
/-- for a, b in zip(two lists of the ledger that the word keeps) -/
theorem loop_zip_led {h₀ : Heap} {L : Addr} {m₀ : Nm} {news : Led} {la lb : Addr} {xs ys : Array Value} {na nb : Nat} (hh : A.handled = none) (F : Fr h₀ L s.heap m₀) (N : News h₀ L s.heap news)
    (J : Nat → Nm → Led → Prop) (hst : ∀ i m nw, J i m nw → (la, W.listOf xs na) ∈ nw ∧ (lb, W.listOf ys nb) ∈ nw) (j0 : J 0 m₀ news)
    (turn : ∀ i x y T m nw its h tk (E' : Value → Shared → Prop), xs[i]? = some x → ys[i]? = some y → h.IsTuple T #[x, y] → J i m nw → its.map (·.1) = [s.heap.objs.size + 4, s.heap.objs.size + 2, s.heap.objs.size + 3, s.heap.objs.size, s.heap.objs.size + 1] → (∀ p ∈ nw, p.1 ∉ its.map (·.1)) → Fr h₀ L h m → News h₀ L h (its ++ nw) →
      wpAny (model prog w) A (assign (.Tuple elts kt tpos) env (.ref T)) (fun _ s₂ => wpAny (model prog w) A (execs body env) (TL h₀ L s Q its (J (i + 1))) E' s₂) E' { s with heap := h, toks := tk })
    (last : ∀ m nw h tk (E' : Value → Shared → Prop), J (min xs.size ys.size) m nw → Fr h₀ L h m → News h₀ L h nw → wpAny (model prog w) A (execs orelse env) Q E' { s with heap := h, toks := tk }) :
    wpAny (model prog w) A (call (.type "zip") [.ref la, .ref lb]) (fun xv s₁ => wpAny (model prog w) A (pyIter xv) (fun it s₂ => LoopIn prog w A env (.Tuple elts kt tpos) body orelse Q it s₂) E s₁) E s := by
  obtain ⟨ma, mb⟩ := hst _ _ _ j0
  have hla : la < s.heap.objs.size := Heap.lt_size (N _ ma).1
  have hlb : lb < s.heap.objs.size := Heap.lt_size (N _ mb).1
  have ha' : s.heap.IsList la xs := ⟨_, (N _ ma).1, rfl, na, rfl⟩
  have hb' : s.heap.IsList lb ys := ⟨_, (N _ mb).1, rfl, nb, rfl⟩
  refine call_zip_2 ha' hb' fun h' hz hTI hTO h1 h2 hsz hk => ?_
  refine wpAny_pyIter_zip hz fun X => ⟨_, rfl, ?_⟩
  have none_of : ∀ a, s.heap.objs.size ≤ a → h₀.get? a = none := fun a ha => none_above F ha
  have hLs := F.ns.lt
  have D : ZipApart (s.heap.objs.size + 4) (s.heap.objs.size + 2) (s.heap.objs.size + 3) s.heap.objs.size (s.heap.objs.size + 1) la lb := by
    generalize s.heap.objs.size = k at *
    replace hla : @LT.lt Nat _ la k := hla
    replace hlb : @LT.lt Nat _ lb k := hlb
    constructor <;> exact fun (e : @Eq Nat _ _) => by omega
  have W := WalksT.zip2 (prog := prog) (w := w) hh _ _ _ _ _ _ _ D xs ys
  have F' : Fr h₀ L h' m₀ := F.keeps hk
  have N' : News h₀ L h' news := N.grown hk
  have wr_ge : ∀ b ∈ [s.heap.objs.size + 4, s.heap.objs.size + 2, s.heap.objs.size + 3, s.heap.objs.size, s.heap.objs.size + 1], s.heap.objs.size ≤ b := by
    generalize s.heap.objs.size = k
    intro b hb
    simp only [List.mem_cons, List.not_mem_nil, or_false] at hb
    show @LE.le Nat _ _ _
    rcases hb with rfl | rfl | rfl | rfl | rfl <;> omega
  refine loop_led (h₀ := h₀) (L := L) (m₀ := m₀) (news := news) (s := { s with heap := h' }) (wider (wr' := [s.heap.objs.size + 4, s.heap.objs.size + 2, s.heap.objs.size + 3, s.heap.objs.size, s.heap.objs.size + 1]) (KTurns.ofWalksU W.toU) (fun b hb => by simp only [List.mem_cons, List.not_mem_nil, or_false] at hb ⊢; rcases hb with h | h | h | h <;> simp only [h, true_or, or_true]) (fun b hb => by simp only [List.mem_cons, List.not_mem_nil, or_false] at hb ⊢; rcases hb with h | h | h | h | h <;> simp only [h, true_or, or_true])) ?_ ?_ ?_ F' N' ?_ ⟨hz, hTI, ⟨_, _, hTO⟩, h1, h2, ha'.at fun o e => hk _ _ e, hb'.at fun o e => hk _ _ e⟩ J j0 ?_ ?_ ?_ X
  · exact fun b hb => none_of b (wr_ge b hb)
  · exact fun hb => absurd hLs (Nat.not_lt.mpr (wr_ge L hb))
  · (intro i h z1h; refine Mine.e0_6 z1h ?_; intro hz hTI z1x2 z1x3 z1x4 _; (try clear z1h); (refine Mine.e2_1 z1x2 ?_; intro a b hTO; (try clear z1x2)); (refine Mine.e1_2 z1x3 ?_; intro o1 h1 _; (try clear z1x3)); (refine Mine.e1_2 z1x4 ?_; intro o2 h2 _; (try clear z1x4)); intro b hb)
    simp only [List.mem_cons, List.not_mem_nil, or_false] at hb
    rcases hb with rfl | rfl | rfl | rfl | rfl
    · exact ⟨_, hz⟩
    · exact ⟨_, hTI⟩
    · exact ⟨_, hTO⟩
    · exact ⟨_, h1⟩
    · exact ⟨_, h2⟩
  · exact fun p hp hb => absurd (Heap.lt_size (N p hp).1) (Nat.not_lt.mpr (wr_ge _ hb))
  · intro i m nw h j F₁ N₁ b hb hbw h₁ k₁ i' m' nw' j' N₁'
    have hbl : b = la ∨ b = lb := by
      simp only [List.mem_cons, List.not_mem_nil, or_false, not_or] at hb hbw
      rcases hb with q | q | q | q | q | q | q
      · exact absurd q hbw.1
      · exact absurd q hbw.2.1
      · exact absurd q hbw.2.2.1
      · exact absurd q hbw.2.2.2.1
      · exact absurd q hbw.2.2.2.2
      · exact Or.inl q
      · exact Or.inr q
    rcases hbl with rfl | rfl
    · rw [(N₁ _ (hst _ _ _ j).1).1, (N₁' _ (hst _ _ _ j').1).1]
    · rw [(N₁ _ (hst _ _ _ j).2).1, (N₁' _ (hst _ _ _ j').2).1]
  · (intro i v m nw its h tk E' hi z2h; refine Mine.e2_3 z2h ?_; intro T vals z2x2 z2x3 hT; (try clear z2h); (rcases z2x2 with rfl); (refine Mine.e2_3 z2x3 ?_; intro x y hx hy z2x3x4; (try clear z2x3); (rcases z2x3x4 with rfl)); intro j e o F₁ N₁)
    exact turn i x y T m nw its h tk E' hx hy hT j e o F₁ N₁
  · exact fun m nw h tk E' j F₁ N₁ => last m nw h tk E' j F₁ N₁
end
end Mine
namespace Mine
section
variable {prog : Program} {w : World} {A : Around} {E : Value → Shared → Prop} {s : Shared}
/-- sorted(a list or tuple of texts in the ledger) -/
theorem sorted_seq_str {h₀ : Heap} {L : Addr} {m : Nm} {news : Led} {l : Addr} {T : String} {o : Obj} {items : Array Value} {n : Nat} {ss : List Str} {Q : Value → Shared → Prop} (hT : T = "list" ∨ T = "tuple") (F : Fr h₀ L s.heap m) (N : News h₀ L s.heap news) (hm : (l, o) ∈ news) (hc : o.cls = .type T) (hd : o.data = .seq items n)
    (hS : StrsAre items.toList ss) (h64 : items.size < 64)
    (h : ∀ (D : Addr) (h' : Heap) (vs' : List Value) (ss' : List Str) (e : Nat), Fr h₀ L h' m → News h₀ L h' ((D, W.listOf vs'.toArray e) :: news) → (∀ q ∈ news, q.1 ≠ D) →
      StrsAre vs' ss' → ss'.Perm ss → sortedS ss' = true → Q (.ref D) { s with heap := h' }) :
    wpAny (model prog w) A (call (.builtin "sorted") [.ref l]) Q E s := by
  refine Calls.call_function_entry kind_sorted plain_sorted entry_sorted (args_sorted1 _) ?_
  unfold Builtin.«sorted»
  refine wpAny_bind (m := checkCount "sorted" 1 1 _) (wpAny_pure ?_)
  refine wpAny_bind (wpAny_collect_seq l hT (N _ hm).1 hc hd (fun h1 hk => ?_) (by rw [sizeLine_eq]; omega))
  refine wpAny_bind (wpAny_newList ?_ (by rw [sizeLine_eq, Array.length_toList]; omega))
  have F1 : Fr h₀ L h1 m := F.keeps hk
  have N1 : News h₀ L h1 news := N.grown hk
  have hoL : (h1.push (seqObj "list" items.toList.toArray 0)).get? h1.objs.size = some (seqObj "list" items.toList.toArray 0) := Heap.get?_push_size _ rfl
  have old : ∀ {out : Array Value} {b : Addr} {ob : Obj}, h1.get? b = some ob → (sortedHeap (h1.push (seqObj "list" items.toList.toArray 0)) h1.objs.size items.toList out).get? b = some ob := fun {out b ob} e => by
    have hlt := Heap.lt_size e
    rw [sortedHeap_old (Nat.ne_of_lt hlt) (by rw [size_push']; exact Nat.lt_succ_of_lt hlt)]
    exact Heap.get?_push_of_some _ e
  refine wpAny_bind (wpAny_holding (wpAny_call_entry slot_list_sort ⟨_, hoL, rfl⟩ entry_list_sort (list_sort_treeK strKind_oneLt hoL hS.keysOf (fun v₁ v₂ rest e => keyKind_strs (by rw [← e]; exact hS)) (by rw [Array.length_toList]; exact h64) fun st' hp hs => ⟨_, rfl, ?_⟩) (args_list_sort _)))
  (have z1 := (sorted_out_str hS hp hs); refine Mine.e1_3 z1 ?_; intro ss' h2 h3 h4; (try clear z1))
  obtain ⟨e, he⟩ := sortedHeap_at (out := (arrOf st').map (·.2)) hoL
  refine wpAny_pure ⟨_, rfl, h h1.objs.size _ ((arrOf st').map (·.2)).toList ss' e (F1.kept fun _ _ => old) (N1.kept_cons F1 (fun _ _ => old) (Nat.le_refl _) ?_) (fun q hq => Nat.ne_of_lt (Heap.lt_size (N1 q hq).1)) h2 h3 h4⟩
  rw [Array.toArray_toList]
  exact he
end
end Mine
theorem Mine.off49 : True := by (w_top off); trivial
section
local macro_rules | `(tactic| walk_at $s:str) => `(tactic| k_extra $(Lean.Syntax.mkStrLit ("Rounds:" ++ s.getString)))
namespace Mine
open LCg (NsObj lst lst_snoc ns_obj)
open PyProof.Rows.TI (Frs SameUp)
set_option maxHeartbeats 4000000
theorem Mine.kw50 : True := by
  (k_with "Rounds:cell_call" => ((refine' code_defCF ?k2 ?k3 ?kN ?k5 ?k6 ?k7 ?k8 ?k9 ?kB ?kD ?_ ?c2 ?c3 ?c4; (case k2 => k_asm); (case k3 => k_asm); (case kN => k_asm); (case k5 => k_asm); (case k6 => k_is); (case k7 => k_is); (case k8 => ktr_room); (case k9 => exact BindsTo.of_eq rfl); (case kB => exact rfl); (case kD => decide +kernel); (case c2 => exact rfl); (case c3 => exact rfl); (case c4 => exact rfl); k_whole; intro _ _ _ _ _ _ _ _ _ _ Nvzq Yvzq; k_cells Yvzq; (try simp only [List.cons_append, List.nil_append] at Nvzq); (try dsimp only); (try k_fold))))
  trivial
local macro_rules | `(tactic| cell_call) => `(tactic| k_extra "Rounds:cell_call")
noncomputable def esF (gs : List Str) (ns : List (List Int)) : Nat → List NE
  | 0 => []
  | i + 1 => addF (esF gs ns i) (gs.getD i Str.empty) ((ns.getD i []).map fun x => gs.getD x.toNat Str.empty)
theorem esF_len {gs : List Str} {ns : List (List Int)} (h : ∀ j, (ns.getD j []).length ≤ 8) : ∀ i, (esF gs ns i).length ≤ 9 * i
  | 0 => Nat.le_refl _
  | i + 1 => by
    have h1 := esF_len (gs := gs) h i
    have h2 := addN_len (es := esF gs ns i) (k := gs.getD i Str.empty) (ps := (ns.getD i []).map fun x => gs.getD x.toNat Str.empty) ((ns.getD i []).map fun x => gs.getD x.toNat Str.empty).length
    rw [addN_all, List.length_map] at h2
    have h3 := h i
    show (addF _ _ _).length ≤ _
    omega
theorem esF_su {gs : List Str} {ns : List (List Int)} (h : ∀ j, (ns.getD j []).length ≤ 8) : ∀ i, SuB (esF gs ns i) (8 * i)
  | 0 => fun e he => nomatch he
  | i + 1 => by
    have h1 := esF_su (gs := gs) h i
    have h2 := addN_su (k := gs.getD i Str.empty) (ps := (ns.getD i []).map fun x => gs.getD x.toNat Str.empty) h1 ((ns.getD i []).map fun x => gs.getD x.toNat Str.empty).length
    rw [addN_all, List.length_map] at h2
    have h3 := h i
    exact fun e he => Nat.le_trans (h2 e he) (by omega)
/-- the word of the loop that tells the sorter -/
noncomputable def RdJ (w : World) (X1 DX D : Addr) (OUT : Led) (gs : List Str) (ns : List (List Int)) (i : Nat) (m : Nm) (nw : Led) : Prop :=
  m (Str.ofString "sorter") = some (.ref X1) ∧ ∃ as IS, nw = IS ++ OUT ∧ TsAt w X1 DX D .none 0 0 (esF gs ns i) as IS ∧ ∀ p ∈ IS, ∀ q ∈ OUT, p.1 ≠ q.1
section
variable {M : Model} {A : Around} {E : Value → Shared → Prop} {s : Shared} {env : Env} {Q : Value → Shared → Prop}
/-- o.name(.., *r): the attribute is asked for, no method call's form -/
theorem MethodCallStar_ {o : Expr} {name : Str} {apos pos : Pos} {args : List Expr}
    (h : wpAny M A (eval o env) (fun ov s₁ => wpAny M A (getAttr ov name true) (fun f s₂ => wpAny M A (callWith pos f [] (backTo pos (starEach args env)) []) Q E s₂) E s₁) E s)
    (he : eval (.Call (.Attribute o name apos) args [] pos) env = (do
      let ov ← eval o env
      standAt apos.atName
      let (f, first) ← holding [ov] (do pure (← getAttr ov name true, []))
      callWith pos f first (backTo pos (starEach args env)) []) := by rfl) :
    wpAny M A (eval (.Call (.Attribute o name apos) args [] pos) env) Q E s := by
  rw [he]
  refine wpAny_bind (wpAny_mono h (fun ov s₁ h₁ => wpAny_bind (wpAny_standAt (wpAny_bind (wpAny_holding (wpAny_bind (wpAny_mono h₁ (fun f s₂ h₂ => wpAny_pure h₂) fun _ _ x => x)))))) fun _ _ x => x)
theorem callWith_SM {K : Frag} {q g : Addr} {self : Value} {pos p : Pos} {first : List Value} {e : Expr} (hf : fnIn K g = true) (h : wpAny M A (eval e env) (fun v s₁ => StarOf M A E v (fun vs s₂ => MethP K q g self s₂.heap ∧ wpAny M A (call (.ref q) (first ++ vs)) Q E s₂) s₁) E s)
    (he : starEach [.Starred e p] env = [(true, eval e env)] := by rfl) :
    wpAny M A (callWith pos (.ref q) first (backTo pos (starEach [.Starred e p] env)) []) Q E s := by
  rw [he]
  exact ks_call rfl (keeps_M hf) (ks_lone h)
theorem callWith_SM2 {K : Frag} {q g : Addr} {self : Value} {pos : Pos} {first : List Value} {e : Expr} {rest : List Expr} (hf : fnIn K g = true) (h : wpAny M A (spliced (backTo pos (starEach (e :: rest) env))) (fun vs s₁ => MethP K q g self s₁.heap ∧ wpAny M A (call (.ref q) (first ++ vs)) Q E s₁) E s)
    (he : starEach (e :: rest) env = (false, eval e env) :: starEach rest env := by rfl) (hst : (backTo pos (starEach rest env)).any (·.1) = true := by rfl) :
    wpAny M A (callWith pos (.ref q) first (backTo pos (starEach (e :: rest) env)) []) Q E s := by
  rw [he] at h ⊢
  exact ks_call (by show (false || (backTo pos (starEach rest env)).any (·.1)) = true; rw [hst]; rfl) (keeps_M hf) (evalArgs_plain h)
end
theorem Mine.kw51 : True := by
  (k_with "Rounds:eval ListComp Subscript cons" => ((k_here; refine' ListComp_b (cl := _) ?kc ?kk ?kn ?_; (case kc => with_unfolding_all rfl); (case kk => with_unfolding_all rfl); (case kn => decide))))
  trivial
theorem ints_at {zs : List Value} {ps : List Int} (h : IntsAre zs ps) {i : Nat} {v : Value} (hv : zs[i]? = some v) : ∃ p t, v = .int p t ∧ ps[i]? = some p := by
  have hlt := (List.getElem?_eq_some_iff.mp hv).1
  rw [h.length] at hlt
  obtain ⟨t, ht⟩ := h.get i ps[i] (List.getElem?_eq_getElem hlt)
  rw [ht] at hv
  exact ⟨ps[i], t, (Option.some.inj hv).symm, List.getElem?_eq_getElem hlt⟩
inductive RoundsF : List NE → List Str → List (List Str) → Prop
  | stop {es : List NE} : RoundsF es [] []
  | turn {es : List NE} {rd : List Str} {rs : List (List Str)} : rd ≠ [] → rd.length ≤ 8 → (∀ k ∈ rd, k ∈ es.map (·.key)) → (∀ i p, rd[i]? = some p → (nodeOf (doneF (outE es rd, []) (rd.take i)).1 p).np = -1) →
      RoundsF (doneF (outE es rd, []) rd).1 (doneF (outE es rd, []) rd).2 rs → RoundsF es rd (rd :: rs)
theorem RoundsF.len8 {es : List NE} {rd : List Str} {rs : List (List Str)} (h : RoundsF es rd rs) : rd.length ≤ 8 := by
  cases h with
  | stop => exact Nat.zero_le _
  | turn _ h => exact h
theorem RoundsF.nil_of {es : List NE} {rs : List (List Str)} (h : RoundsF es [] rs) : rs = [] := by
  cases h with
  | stop => rfl
  | turn h => exact absurd rfl h
theorem SameSu.outs {es : List NE} {ps : List Str} : ∀ {es' : List NE}, SameSu es es' → SameSu es (outE es' ps) := by
  unfold outE
  induction ps with
  | nil => exact fun h => h
  | cons k r ih => intro es' h; exact ih (h.set (f := fun e => { e with np := -1 }) fun _ => rfl)
/-- rows of texts in a ledger, each the sorted one of a given row -/
noncomputable def RowsAt (RL : Led) (rvs : List Value) (dn : List (List Str)) : Prop := rvs.length = dn.length ∧ ∀ (i : Nat) (v : Value), rvs[i]? = some v → ∃ (a : Addr) (vs : Array Value) (c : Nat) (ps ss : List Str), v = Value.ref a ∧ (a, W.listOf vs c) ∈ RL ∧ StrsAre vs.toList ss ∧ dn[i]? = some ps ∧ ss.Perm ps ∧ sortedS ss = true
theorem RowsAt.more {RL RL' : Led} {rvs : List Value} {dn : List (List Str)} (h : RowsAt RL rvs dn) (k : ∀ p ∈ RL, p ∈ RL') : RowsAt RL' rvs dn :=
  ⟨h.1, fun i v hv => by
    (have z1 := (h.2 i v hv); refine Mine.e5_3 z1 ?_; intro a vs c ps ss h1 h2 h3; (try clear z1))
    exact ⟨a, vs, c, ps, ss, h1, k _ h2, h3⟩⟩
theorem RowsAt.snoc {RL : Led} {rvs : List Value} {dn : List (List Str)} (h : RowsAt RL rvs dn) {a : Addr} {vs : Array Value} {c : Nat} {ps ss : List Str} (h1 : (a, W.listOf vs c) ∈ RL) (h2 : StrsAre vs.toList ss) (h3 : ss.Perm ps) (h4 : sortedS ss = true) : RowsAt RL (rvs ++ [.ref a]) (dn ++ [ps]) := by
  refine ⟨by rw [List.length_append, List.length_append, h.1]; rfl, fun i v hv => ?_⟩
  by_cases hi : i < rvs.length
  · rw [List.getElem?_append_left hi] at hv
    (have z2 := (h.2 i v hv); refine Mine.e5_5 z2 ?_; intro a' vs' c' ps' ss' g1 g2 g3 g4 g5; (try clear z2))
    exact ⟨a', vs', c', ps', ss', g1, g2, g3, by rw [List.getElem?_append_left (by rw [← h.1]; exact hi)]; exact g4, g5⟩
  · rw [List.getElem?_append_right (Nat.le_of_not_lt hi)] at hv
    have h0 : i - rvs.length = 0 := by
      cases hj : i - rvs.length with
      | zero => rfl
      | succ j => rw [hj] at hv; simp at hv
    rw [h0] at hv
    refine ⟨a, vs, c, ps, ss, (Option.some.inj hv).symm, h1, h2, ?_, h3, h4⟩
    rw [List.getElem?_append_right (by rw [← h.1]; exact Nat.le_of_not_lt hi), ← h.1, h0]; rfl
/-- the word of the rounds' loop -/
noncomputable def RwI (w : World) (X1 DX D Rn R : Addr) (OUT : Led) (es0 : List NE) (rs0 : List (List Str)) (h₀ : Heap) (L' : Addr) (s : Shared) (n : Nat) (s' : Shared) : Prop :=
  ∃ h tk m es rd po as IS rvs rc RL rs dn, s' = { s with heap := h, toks := tk } ∧ Fr h₀ L' h m ∧ News h₀ L' h ((Rn, W.listOf rvs.toArray rc) :: (RL ++ (IS ++ OUT))) ∧ m (Str.ofString "sorter") = some (.ref X1) ∧ m (Str.ofString "rounds") = some (.ref Rn) ∧
    TrAt w X1 DX D R rd po po es as IS ∧ RoundsF es rd rs ∧ rs.length = n ∧ dn ++ rs = rs0 ∧ RowsAt RL rvs dn ∧ SameSu es0 es ∧ es.map (·.key) = es0.map (·.key) ∧ Nd ((Rn, W.listOf rvs.toArray rc) :: (RL ++ (IS ++ OUT)))
theorem name_obj {h₀ h : Heap} {L : Addr} {a : Addr × Obj} {r : Led} (N : News h₀ L h (a :: r)) : ∃ o, o = a.2 := ⟨_, rfl⟩
theorem Mine.kw52 : True := by
  (k_with "Rounds:exec For Tuple Call cons nil" => ((k_here; k_dflt (refine For_in ?_))))
  trivial
theorem Mine.kw53 : True := by
  (k_with "Rounds:assign Tuple cons ref" => ((k_here; (with_reducible show wpAny _ _ (assign (Expr.Tuple _ _ _) _ (Value.ref _)) _ _ _); k_dflt (refine' unpackN_ ?F ?N ?T ?k1 ?k2 ?k3 ?_; (case F => k_asm); (case N => k_asm); (case T => assumption); (case k1 => exact rfl); (case k2 => exact rfl); (case k3 => exact rfl)); intro _ _ _)))
  trivial
theorem Mine.kw54 : True := by
  (k_with "Rounds:exec While Call cons nil" => ((k_here; k_dflt (refine wpAny_While ?_))))
  trivial
theorem nd_rw {x : Addr × Obj} {A B C : Led} (h : Nd (x :: (A ++ (B ++ C)))) : Nd (B ++ (x :: (A ++ C))) :=
  h.perm ((List.Perm.cons _ (by
    rw [← List.append_assoc, ← List.append_assoc]
    exact List.Perm.append_right _ List.perm_append_comm)).trans List.perm_middle.symm)
theorem nd_wr {x : Addr × Obj} {A B C : Led} (h : Nd (B ++ (x :: (A ++ C)))) : Nd (x :: (A ++ (B ++ C))) :=
  h.perm (List.perm_middle.trans (List.Perm.cons _ (by
    rw [← List.append_assoc, ← List.append_assoc]
    exact List.Perm.append_right _ List.perm_append_comm)))
theorem Nd.tail' {a b : Led} (h : Nd (a ++ b)) : Nd b := List.Nodup.sublist ((List.sublist_append_right a b).map _) h
theorem Nd.sublist {a b : Led} (h : Nd b) (s : List.Sublist a b) : Nd a := List.Nodup.sublist (s.map _) h
theorem Mine.kw55 : True := by
  (k_with "Rounds:call builtin:sorted cons nil" => ((k_here; (with_reducible show wpAny _ _ (call (Value.builtin "sorted") [Value.ref _]) _ _ _); (rename Fr _ _ _ _ => F9zq); (rename News _ _ _ _ => N9zq); k_dflt (refine' sorted_seq_str (.inr rfl) F9zq N9zq ?km rfl rfl ?kS ?kz ?_; (case km => k_mem); (case kS => assumption); (case kz => (rw [List.size_toArray]; omega))); intro _ _ _ _ _ _ _ _ _ _ _)))
  trivial
theorem c_rounds (w : World) (l1 l2 : Addr) (vs rs : List Value) (gs : List Str) (c1 c2 : Nat) (I : Led) (hg : StrsAre vs gs) (hm1 : (l1, W.listOf vs.toArray c1) ∈ I) (hm2 : (l2, W.listOf rs.toArray c2) ∈ I) (hlen : gs.length ≤ 8) (hrl : rs.length = gs.length) (ns : List (List Int)) (hnl : ns.length = gs.length)
    (hrows : ∀ (i : Nat) (r : List Int), ns[i]? = some r → ∃ (a : Addr) (zs : Array Value) (c : Nat), rs[i]? = some (Value.ref a) ∧ (a, W.listOf zs c) ∈ I ∧ IntsAre zs.toList r ∧ r.length ≤ 8 ∧ ∀ x ∈ r, 0 ≤ x ∧ x.toNat < gs.length)
    (rk : Str → Nat) (es0 : List NE) (he0 : esF gs ns gs.length = es0) (hss : ∀ e ∈ es0, ∀ s ∈ e.su, s ∈ es0.map (·.key)) (hrk : ∀ e ∈ es0, ∀ s ∈ e.su, rk e.key < rk s) (rs0 : List (List Str)) (hR : RoundsF es0 (readyF es0) rs0) (hR8 : rs0.length ≤ 100) :
    FCon w 231 [.ref l1, .ref l2] 12 900 I (fun _ => True) (fun v I' => ∃ Rn rvs rc RL, v = .ref Rn ∧ I' = (Rn, W.listOf rvs.toArray rc) :: (RL ++ I) ∧ RowsAt RL rvs rs0) := by
  intro mean mg mb dp un gd cn cs a ccd cl outer h₀ L m s Q E rest frs Fs hlt F X N ndN T hk hd' hu hpre ret
  refine wpAny_call ?_
  k_dflt cell_call
  rename FrObj _ _ _ => fo
  obtain ⟨oL9, eoL⟩ := fr_name fo
  subst eoL
  have FsL : Frs (envX cn cs L a ccd cl :: outer) ((L, oL9) :: frs) := ⟨by show cs.kind ≠ _; rw [hk]; decide, rfl, fo.dict, Fs⟩
  (rename News _ _ _ _ => N0)
  (rename Fr _ _ _ _ => F0)
  have hltL : ∀ p ∈ ((L, oL9) :: frs : Led), @LT.lt Nat _ p.1 _ := fun p hp => by
    rcases List.mem_cons.mp hp with rfl | hp
    · exact (by assumption : @LT.lt Nat _ L _)
    · exact Nat.lt_trans (hlt p hp) (by assumption : @LT.lt Nat _ L _)
  obtain ⟨L9, eL9⟩ := fr_loc F0
  subst eL9
  obtain ⟨oC, eoC⟩ := name_obj N0
  dsimp only at eoC
  subst eoC
  have ndOUT : Nd ((L9 + 1, oC) :: (L, oL9) :: (I ++ (rest ++ frs))) := by
    (rename ∀ q ∈ _, Heap.get? _ _ = none => hlc)
    have h1 : Nd ((L, oL9) :: (I ++ (rest ++ frs))) := Nd.cons ndN fun q hq => (N q hq).2.1
    refine h1.cons fun q hq => ?_
    rcases List.mem_cons.mp hq with rfl | hq
    · exact Nat.ne_of_lt (Nat.lt_succ_of_lt (by assumption : @LT.lt Nat _ L L9))
    · intro e
      have h2 := (N q hq).1
      rw [e, hlc _ List.mem_cons_self] at h2; cases h2
  iterate 5 one_sign
  refine' pcallF (c_new w) FsL hltL ?k1 ?k2 N0 ?k4 ?k5 ?k6 ?k7 ?k8 ?k9 ?kr
  case k1 => k_asm
  case k2 => k_asm
  case k4 => k_asm
  case k5 => exact rfl
  case k6 => ktr_room
  case k7 => ktr_units
  case k8 => exact trivial
  case k9 =>
    intro q hq
    rcases List.mem_cons.mp hq with rfl | hq
    · exact List.mem_cons_of_mem _ List.mem_cons_self
    · exact List.mem_cons_of_mem _ (List.mem_cons_of_mem _ (List.mem_append_right _ (List.mem_append_right _ hq)))
  (intro v1 h1 tk1 nw1 F1 N1 K1 fr1 z3h; refine Mine.e3_2 z3h ?_; intro X1 DX D z3x3 TS; (try clear z3h); (rcases z3x3 with rfl))
  have off1 : ∀ p ∈ nw1, ∀ q ∈ (L9 + 1, oC) :: (L, oL9) :: (I ++ (rest ++ frs)), p.1 ≠ q.1 := fun p hp q hq e => by
    have h1 := fr1 p hp
    rw [e, (N0 q hq).1] at h1; cases h1
  have hI : ∀ q ∈ I, q ∈ (L9 + 1, oC) :: (L, oL9) :: (I ++ (rest ++ frs)) := fun q hq => List.mem_cons_of_mem _ (List.mem_cons_of_mem _ (List.mem_append_left _ hq))
  have gC : (L9 + 1, oC) ∈ (L9 + 1, oC) :: (L, oL9) :: (I ++ (rest ++ frs)) := List.mem_cons_self
  have gL : (L, oL9) ∈ (L9 + 1, oC) :: (L, oL9) :: (I ++ (rest ++ frs)) := List.mem_cons_of_mem _ List.mem_cons_self
  have gF : ∀ q ∈ frs, q ∈ (L9 + 1, oC) :: (L, oL9) :: (I ++ (rest ++ frs)) := fun q hq => List.mem_cons_of_mem _ (List.mem_cons_of_mem _ (List.mem_append_right _ (List.mem_append_right _ hq)))
  generalize hOUT : ((L9 + 1, oC) :: (L, oL9) :: (I ++ (rest ++ frs)) : Led) = OUT at N1 off1 hI gC gL gF
  clear F0 N0
  iterate 11 one_sign
  (rename Fr _ _ _ _ => F2)
  (rename News _ _ _ _ => N2)
  k_dflt (refine loop_zip_led (xs := vs.toArray) (ys := rs.toArray) (na := c1) (nb := c2) rfl F2 N2 (RdJ w X1 DX D OUT gs ns) ?st ⟨rfl, [], nw1, rfl, TS, off1⟩ ?turn ?last)
  case st =>
    (intro i m nw z4h; refine Mine.e0_2 z4h ?_; intro _ z4r; (try clear z4h); (refine Mine.e2_2 z4r ?_; intro as IS z4rx2 _; (try clear z4r); (rcases z4rx2 with rfl)))
    exact ⟨List.mem_append_right _ (hI _ hm1), List.mem_append_right _ (hI _ hm2)⟩
  case turn =>
    (intro i x y T9 m nw its h tk E' hx hy hT z5h; refine Mine.e0_2 z5h ?_; intro e1 z5r; (try clear z5h); (refine Mine.e2_3 z5r ?_; intro as IS z5rx2 TS2 off2; (try clear z5r); (rcases z5rx2 with rfl)); intro he hoT F3 N3)
    have F4 := fr_pin (Str.ofString "sorter") F3 e1
    (have z6 := (id TS2); first | (refine Mine.hideP ?_; intro Gz kGz; rcases z6 with ⟨nd2, hX2, ⟨k1, k2, k3, k4, t1, t2, t3, t4, u, v, hF2⟩, _⟩; all_goals (refine kGz ?_; clear kGz Gz)) | rcases z6 with ⟨nd2, hX2, ⟨k1, k2, k3, k4, t1, t2, t3, t4, u, v, hF2⟩, _⟩)
    (have z7 := (strs_at hg (by simpa using hx)); refine Mine.e2_2 z7 ?_; intro p tp z7x2 hp; (try clear z7); (rcases z7x2 with rfl))
    have gX := List.mem_append_left OUT hX2
    have gF2 := List.mem_append_left OUT hF2
    have gC2 := List.mem_append_right IS gC
    have gl1 := List.mem_append_right IS (hI _ hm1)
    have hii : i < ns.length := by
      have := (Array.getElem?_eq_some_iff.mp hy).1
      rw [List.size_toArray] at this
      omega
    (have z8 := (hrows i ns[i] (List.getElem?_eq_getElem hii)); refine Mine.e3_5 z8 ?_; intro ar zs cr hyr hmr hzr hr8 hrn; (try clear z8))
    have hyy : y = .ref ar := by
      rw [List.getElem?_toArray, hyr] at hy
      exact (Option.some.inj hy).symm
    subst hyy
    have hzl : zs.size = ns[i].length := by rw [← hzr.length, Array.length_toList]
    have glr := List.mem_append_right IS (hI _ hmr)
    generalize hW : IS ++ OUT = WW at N3 gX gF2 gC2 gl1 glr
    clear F2 N2 F3
    iterate 10 one_sign
    refine MethodCallStar_ ?_
    iterate 2 one_sign
    refine' callWith_SM2 (K := hd.heap_1 w.params) (g := 101) (self := .ref X1) ?kf ?_
    case kf => k_is
    iterate 5 one_sign
    (rename Fr _ _ _ _ => F5)
    (rename News _ _ _ _ => N5)
    k_dflt (refine comp_of (blk_list (items := zs) (fun k ys nw => nw = _ ∧ StrsAre ys ((ns[i].take k).map fun x => gs.getD x.toNat Str.empty) ∧ ys.length ≤ k) rfl (by decide) rfl rfl (by omega) F5 N5 ⟨W.listOf zs cr, rfl, ⟨_, rfl⟩, Or.inr fun k _ nw ⟨ys, h⟩ => by rw [h.1]; k_mem⟩ ⟨rfl, .nil, Nat.le_refl _⟩ (fun i ys nw h => h.2.2) ?cturn fun _ => ⟨_, rfl⟩) ?fin)
    case cturn =>
      (intro k v ys nw It oI C oC2 D9 m₂ h tk E' hv hm₂ hC z9h; refine Mine.e0_3 z9h ?_; intro z9x0 hys hyl; (try clear z9h); (rcases z9x0 with rfl); intro ho F6 N6)
      (have z10 := (ints_at hzr (show zs.toList[k]? = some v from by rw [Array.getElem?_toList]; exact hv)); refine Mine.e2_2 z10 ?_; intro x tx z10x2 hxr; (try clear z10); (rcases z10x2 with rfl))
      obtain ⟨hx0, hx1⟩ := hrn x (List.mem_of_getElem? hxr)
      iterate 5 one_sign
      refine' item_strs (ws := vs) (ns := gs) ?kl hg hx0 (by omega) (by omega) ?_ ?ks
      case ks => with_unfolding_all rfl
      case kl => exact News.isList (by k_asm) (by k_mem)
      intro tI
      refine CE.mk F6 N6 (fun p hp => hp) (fun p hp => by simpa [not_or] using ho p hp) ⟨rfl, ?_, by (rw [List.length_append]; exact Nat.succ_le_succ hyl)⟩
      rw [List.take_add_one, hxr, List.map_append]
      exact strs_snoc hys
    case fin =>
      (intro ys nw D9 h tk z11h; refine Mine.e0_3 z11h ?_; intro z11x0 hys hyl; (try clear z11h); (rcases z11x0 with rfl); intro F6 N6 ho)
      rw [hzl, List.take_length] at hys
      refine star_seq (ws := ys) (n := _) (its := ys.toArray) F6 N6 List.mem_cons_self rfl rfl (.inl rfl) (by simp) (by rw [List.size_toArray, sizeLine_eq]; omega) ?_
      intro h8 F8 N8
      have hnm : ∀ j, (ns.getD j []).length ≤ 8 := fun j => by
        rw [List.getD_eq_getElem?_getD]
        cases hj : ns[j]? with
        | none => exact Nat.zero_le _
        | some r => (have z12 := (hrows j r hj); refine Mine.e3_5 z12 ?_; intro _ _ _ _ _ _ h8 _; (try clear z12)); exact h8
      clear F6 N6 F5 N5
      iterate 3 one_sign
      rw [List.append_nil]
      refine' mcallB (c_add w X1 DX D 0 0 (esF gs ns i) as IS p tp ys _ hys TS2 (by have := esF_len (gs := gs) hnm i; omega) (by rw [List.length_map]; exact hr8) (b := 8 * i) (by omega) (esF_su hnm i)) (rest := its ++ OUT) ?bb FsL hltL ?b1 ?b2 N8 ?b4 ?b5 ?b6 ?b7 trivial ?bn ?bf ?br ?bh
      case bb => exact (N8 _ (List.mem_cons_of_mem _ List.mem_cons_self)).1
      case b1 => k_asm
      case b2 => k_asm
      case b4 => k_asm
      case b5 => exact rfl
      case b6 => ktr_room
      case b7 => ktr_units
      case bn => exact fun q hq => List.mem_cons_of_mem _ (List.mem_cons_of_mem _ (List.mem_append_right _ (hW ▸ List.mem_append_left _ hq)))
      case bf =>
        intro q hq
        rcases List.mem_cons.mp hq with rfl | hq
        · exact List.mem_append_right _ gL
        · exact List.mem_append_right _ (gF q hq)
      case br =>
        intro q hq
        rcases List.mem_append.mp hq with hq | hq
        · exact ⟨List.mem_cons_of_mem _ (List.mem_cons_of_mem _ (List.mem_append_left _ hq)), fun p hp e => hoT p (List.mem_append_left _ hp) (e ▸ List.mem_map_of_mem hq)⟩
        · exact ⟨List.mem_cons_of_mem _ (List.mem_cons_of_mem _ (List.mem_append_right _ (hW ▸ List.mem_append_right _ hq))), fun p hp => off2 p hp q hq⟩
      rintro v9 h9 tk9 IS9 F9 N9 off9 ⟨as9, TS9⟩
      clear N8
      isplit
      refine TL.next (nw := IS9 ++ OUT) (by k_asm) (by k_asm) (fun q hq => ?_) (fun q hq hm => ?_) ⟨rfl, as9, IS9, rfl, ?_, fun q hq r hr => off9 q hq r (List.mem_append_right _ hr)⟩
      · simp only [List.mem_append] at hq ⊢
        rcases hq with h | h | h <;> simp only [h, true_or, or_true]
      · (have z13 := (List.mem_map.mp hm); refine Mine.e1_2 z13 ?_; intro r hr er; (try clear z13))
        rcases List.mem_append.mp hq with hq | hq
        · exact off9 q hq r (List.mem_append_left _ hr) er.symm
        · exact hoT q (List.mem_append_right _ hq) hm
      · show TsAt _ _ _ _ _ _ _ (addF (esF gs ns i) (gs.getD i Str.empty) ((ns.getD i []).map fun x => gs.getD x.toNat Str.empty)) _ _
        rw [List.getD_eq_getElem?_getD, hp, List.getD_eq_getElem?_getD, List.getElem?_eq_getElem hii]
        exact TS9
  case last =>
    (intro m nw h tk E' z14h; refine Mine.e0_2 z14h ?_; intro e1 z14r; (try clear z14h); (refine Mine.e2_3 z14r ?_; intro as IS z14rx2 TS2 off2; (try clear z14r); (rcases z14rx2 with rfl)); intro F3 N3)
    have F4 := fr_pin (Str.ofString "sorter") F3 e1
    (have z15 := (id TS2); first | (refine Mine.hideP ?_; intro Gz kGz; rcases z15 with ⟨nd2, hX2, ⟨k1, k2, k3, k4, t1, t2, t3, t4, u, v, hF2⟩, _⟩; all_goals (refine kGz ?_; clear kGz Gz)) | rcases z15 with ⟨nd2, hX2, ⟨k1, k2, k3, k4, t1, t2, t3, t4, u, v, hF2⟩, _⟩)
    clear F2 N2 F3
    have hnm : ∀ j, (ns.getD j []).length ≤ 8 := fun j => by
      rw [List.getD_eq_getElem?_getD]
      cases hj : ns[j]? with
      | none => exact Nat.zero_le _
      | some r => (have z16 := (hrows j r hj); refine Mine.e3_5 z16 ?_; intro _ _ _ _ _ _ h8 _; (try clear z16)); exact h8
    have hvl := hg.length
    rw [List.size_toArray, List.size_toArray, show min vs.length rs.length = gs.length by omega, he0] at TS2
    have hes : es0.length ≤ 100 := by have := esF_len (gs := gs) hnm gs.length; rw [he0] at this; omega
    have hsu : SuB es0 100 := fun e he => by
      have h1 := esF_su (gs := gs) hnm gs.length
      rw [he0] at h1
      exact Nat.le_trans (h1 e he) (by omega)
    iterate 7 one_sign
    have N5 : News h₀ L9 _ (IS ++ (((L9 + 1, oC) :: (I ++ rest)) ++ ((L, oL9) :: frs))) := news_sub N3 fun q hq => by
      rw [← hOUT]
      simp only [List.mem_append, List.mem_cons] at hq ⊢
      rcases hq with h | (h | h | h) | h | h <;> simp only [h, true_or, or_true]
    have nd5 : Nd (IS ++ (((L9 + 1, oC) :: (I ++ rest)) ++ ((L, oL9) :: frs))) := by
      have h1 : Nd (((L9 + 1, oC) :: (I ++ rest)) ++ ((L, oL9) :: frs)) := ndOUT.perm (by
        refine List.Perm.cons _ ?_
        rw [← List.append_assoc]
        exact List.perm_middle.symm)
      refine Nd.app TS2.nd h1 fun p hp q hq => off2 p hp q ?_
      rw [← hOUT]
      simp only [List.mem_append, List.mem_cons] at hq ⊢
      rcases hq with (h | h | h) | h | h <;> simp only [h, true_or, or_true]
    refine' c_prepare w X1 DX D 0 0 es0 as IS rk TS2 hes hsu hss hrk _ _ _ _ _ _ _ _ _ _ _ _ _ _ _ _ _ _ ((L9 + 1, oC) :: (I ++ rest)) ((L, oL9) :: frs) FsL hltL ?p1 ?p2 ?p3 nd5 ?p5 ?p6 ?p7 ?p8 trivial ?p9
    case p1 => k_asm
    case p2 => k_asm
    case p3 => exact N5
    case p5 => k_asm
    case p6 => exact rfl
    case p7 => ktr_room
    case p8 => ktr_units
    (intro v8 h8 tk8 IS8 frs8 F8 N8 nd8 SU8 z17h; refine Mine.e0_2 z17h ?_; intro z17x0 z17r; (try clear z17h); (rcases z17x0 with rfl); (rcases z17r with ⟨R, TR⟩))
    clear N5 N3
    have Fs8 := PyProof.Rows.TI.Frs.up FsL SU8
    have hlt8 : ∀ p ∈ frs8, @LT.lt Nat _ p.1 L9 := fun p hp => by
      (have z18 := (SU8.fwd p hp); refine Mine.e1_2 z18 ?_; intro x hx e; (try clear z18))
      rw [e]; exact hltL x hx
    iterate 8 one_sign
    (rename News _ _ _ _ => N9)
    (rename Fr _ _ _ _ => F9)
    (rename ∀ p ∈ IS8 ++ _, _ => hRn2)
    obtain ⟨Rn, eRn⟩ := name_head N9
    dsimp only at eRn
    subst eRn
    have hgf : ∀ q ∈ frs8, q ∈ ((L9 + 1, oC) :: (I ++ rest)) ++ frs8 := fun q hq => List.mem_append_right _ hq
    refine codeAny_whileLoop (RwI w X1 DX D Rn R (((L9 + 1, oC) :: (I ++ rest)) ++ frs8) es0 rs0 h₀ L9 s) ?wt _ (i13_13 _ _ _ es0 (readyF es0) 0 as IS8 [] _ [] rs0 [] rfl F9 N9 ?e1 ?e2 TR hR rfl rfl ⟨rfl, fun i v hv => by simp at hv⟩ SameSu.refl rfl (Nd.cons nd8 fun q hq => Nat.ne_of_lt (hRn2 q hq)))
    case e1 => rfl
    case e2 => rfl
    case wt =>
      (intro n s' z19h; refine Mine.e13_13 z19h ?_; intro h tk m es rd po as IS rvs rc RL rs dn z19x13 F10 N10 e1 e2 TR2 hR2 z19x20 hdn hrw hsame hkeys nd10; (try clear z19h); (rcases z19x13 with rfl); (rcases z19x20 with rfl))
      clear hRn2 F9 N9 TR
      generalize hO2 : (((L9 + 1, oC) :: (I ++ rest)) ++ frs8 : Led) = OUT2 at N10 nd10 hgf
      have F11 := fr_pin (Str.ofString "rounds") (fr_pin (Str.ofString "sorter") F10 e1) e2
      (rcases (id TR2) with ⟨⟨nd2, hX2, ⟨k1, k2, k3, k4, t1, t2, t3, t4, u, v, hF2⟩, _⟩, _⟩)
      clear F10
      refine no_exc ?_
      iterate 5 one_sign
      have ndS := nd_rw nd10
      have hr8 := hR2.len8
      refine' mcallF (c_active w X1 DX D R rd po po es as IS TR2 (by omega)) (rest := (Rn, W.listOf rvs.toArray rc) :: (RL ++ OUT2)) Fs8 hlt8 ?q1 ?q2 N10 ?q4 ?q5 ?q6 ?q7 trivial ?qn ?qf ?qr ?qh
      case q1 => k_asm
      case q2 => k_asm
      case q4 => k_asm
      case q5 => exact rfl
      case q6 => ktr_room
      case q7 => ktr_units
      case qn => exact fun q hq => List.mem_cons_of_mem _ (List.mem_append_right _ (List.mem_append_left _ hq))
      case qf => exact fun q hq => List.mem_cons_of_mem _ (List.mem_append_right _ (hgf q hq))
      case qr =>
        refine fun q hq => ⟨?_, fun p hp => Ne.symm (ndS.dis p hp q hq)⟩
        rcases List.mem_cons.mp hq with rfl | hq
        · exact List.mem_cons_self
        · rcases List.mem_append.mp hq with hq | hq
          · exact List.mem_cons_of_mem _ (List.mem_append_left _ hq)
          · exact List.mem_cons_of_mem _ (List.mem_append_right _ (List.mem_append_right _ hq))
      rintro v11 h11 tk11 IS11 F12 N12 off12 ⟨rfl, TR3⟩
      clear N10 hX2 hF2
      have ndT : Nd (IS11 ++ ((Rn, W.listOf rvs.toArray rc) :: (RL ++ OUT2))) := Nd.app TR3.ts.nd (Nd.tail' ndS) fun p hp q hq => off12 p hp q hq
      (rcases (id TR3) with ⟨⟨nd3, hX3, ⟨k1, k2, k3, k4, t1, t2, t3, t4, u, v, hF3⟩, _⟩, _⟩)
      rw [show (decide (po < po) || !rd.isEmpty) = !rd.isEmpty by simp]
      cases rd with
      | nil =>
        have hrs := hR2.nil_of
        subst hrs
        rw [List.append_nil] at hdn
        subst hdn
        iterate 6 one_sign
        dsimp only
        refine fret ret fo F.above F12 N12 (nw' := (Rn, W.listOf rvs.toArray rc) :: (RL ++ I)) (frs' := frs8) (fun q hq => ?_) ?_ SU8 ⟨Rn, rvs, rc, RL, rfl, rfl, hrw⟩
        · rw [← hO2]
          simp only [List.mem_append, List.mem_cons] at hq ⊢
          rcases hq with (h | h | h) | h | h <;> simp only [h, true_or, or_true]
        · have h1 := ndT.tail'
          rw [← hO2] at h1
          refine Nd.sublist h1 ?_
          show List.Sublist ((Rn, W.listOf rvs.toArray rc) :: ((RL ++ I) ++ (rest ++ frs8))) _
          refine List.Sublist.cons₂ _ ?_
          rw [List.append_assoc]
          refine List.Sublist.append (List.Sublist.refl _) ?_
          show List.Sublist _ ((L9 + 1, oC) :: ((I ++ rest) ++ frs8))
          rw [← List.append_assoc]
          exact List.Sublist.cons _ (List.Sublist.refl _)
      | cons k0 rd0 =>
        rw [show (!(k0 :: rd0).isEmpty) = true from rfl]
        cases hR2 with
        | turn hne hl8 hin hok hR3 =>
        rename_i rs9
        iterate 8 one_sign
        refine' mcallF (c_ready w X1 DX D R (k0 :: rd0) po po es as IS11 TR3 (by omega) (Nat.succ_pos _) hin) (rest := (Rn, W.listOf rvs.toArray rc) :: (RL ++ OUT2)) Fs8 hlt8 ?r1 ?r2 N12 ?r4 ?r5 ?r6 ?r7 trivial ?rn ?rf ?rr ?rh
        case r1 => k_asm
        case r2 => k_asm
        case r4 => k_asm
        case r5 => exact rfl
        case r6 => ktr_room
        case r7 => ktr_units
        case rn => exact fun q hq => List.mem_append_left _ hq
        case rf => exact fun q hq => List.mem_cons_of_mem _ (List.mem_append_right _ (hgf q hq))
        case rr => exact fun q hq => ⟨List.mem_append_right _ hq, fun p hp => off12 p hp q hq⟩
        (intro v13 h13 tk13 IS13 F14 N14 off14 z22h; refine Mine.e4_5 z22h ?_; intro T9 zs J as14 z22x4 z22x5 hz hTJ TR4; (try clear z22h); (rcases z22x4 with rfl); (rcases z22x5 with rfl))
        clear N12 hX3 hF3
        (rcases (id TR4) with ⟨⟨nd4, hX4, ⟨k1, k2, k3, k4, t1, t2, t3, t4, u, v, hF4⟩, _⟩, _⟩)
        have ndU : Nd (((T9, tupOf zs) :: J) ++ ((Rn, W.listOf rvs.toArray rc) :: (RL ++ OUT2))) := Nd.app (Nd.cons TR4.ts.nd hTJ) ndT.tail' fun p hp q hq => off14 p hp q hq
        iterate 3 one_sign
        refine MethodCallStar_ ?_
        iterate 2 one_sign
        refine' callWith_SM (K := hd.heap_1 w.params) (g := 134) (self := .ref X1) ?sf ?_
        case sf => k_is
        iterate 1 one_sign
        (rename Fr _ _ _ _ => F15)
        (rename News _ _ _ _ => N15)
        have hzl := hz.length
        refine star_seq (ws := zs) (n := _) (its := zs.toArray) F15 N15 (List.mem_cons_of_mem _ List.mem_cons_self) rfl rfl (.inr rfl) (by simp) (by rw [List.size_toArray, sizeLine_eq]; omega) ?_
        intro h16 F16 N16
        clear F15 N15
        iterate 1 one_sign
        have hsame2 : SameSu es0 (outE es (k0 :: rd0)) := SameSu.outs hsame
        have hkeys2 : (outE es (k0 :: rd0)).map (·.key) = es0.map (·.key) := outE_keys.trans hkeys
        refine' mcallB (c_done w X1 DX D R [] (po + ((k0 :: rd0).length : Nat)) po (outE es (k0 :: rd0)) as14 J zs (k0 :: rd0) hz TR4 (Nat.zero_le _) hl8 (SameSu.sub hsame2 hsu) (fun p hp => by rw [hkeys2, ← hkeys]; exact hin p hp) (fun e he s hs => by
          (have z24 := (hsame2 e he); refine Mine.e1_2 z24 ?_; intro c hc hcs; (try clear z24))
          rw [hkeys2]
          exact hss c hc s (hcs ▸ hs)) hok) (rest := (T9, tupOf zs) :: (Rn, W.listOf rvs.toArray rc) :: (RL ++ OUT2)) ?d0 Fs8 hlt8 ?d1 ?d2 N16 ?d4 ?d5 ?d6 ?d7 trivial ?dn ?df ?dr ?dh
        case d0 => exact (N16 _ List.mem_cons_self).1
        case d1 => k_asm
        case d2 => k_asm
        case d4 => k_asm
        case d5 => exact rfl
        case d6 => ktr_room
        case d7 => ktr_units
        case dn => exact fun q hq => List.mem_cons_of_mem _ (List.mem_append_left _ (List.mem_cons_of_mem _ hq))
        case df => exact fun q hq => List.mem_cons_of_mem _ (List.mem_cons_of_mem _ (List.mem_append_right _ (hgf q hq)))
        case dr =>
          intro q hq
          rcases List.mem_cons.mp hq with rfl | hq
          · exact ⟨List.mem_cons_of_mem _ (List.mem_append_left _ List.mem_cons_self), hTJ⟩
          · exact ⟨List.mem_cons_of_mem _ (List.mem_append_right _ hq), fun p hp => Ne.symm (ndU.dis p (List.mem_cons_of_mem _ hp) q hq)⟩
        rintro v17 h17 tk17 IS17 F17 N17 off17 ⟨as17, TR5⟩
        clear N16
        have ndV : Nd (IS17 ++ ((Rn, W.listOf rvs.toArray rc) :: (RL ++ OUT2))) := Nd.app TR5.ts.nd ndT.tail' fun p hp q hq => off17 p hp q (List.mem_cons_of_mem _ hq)
        have ndW := nd_wr ndV
        iterate 13 one_sign
        refine sorted_seq_str (.inr rfl) F17 N17 (List.mem_append_right _ List.mem_cons_self) rfl rfl (ss := k0 :: rd0) (by simpa using hz) (by rw [List.size_toArray]; omega) ?_
        intro D19 h19 vs19 ss19 e19 F19 N19 off19 hs19 hp19 ho19
        have N20 : News h₀ L9 h19 ((Rn, W.listOf rvs.toArray rc) :: (((D19, W.listOf vs19.toArray e19) :: RL) ++ (IS17 ++ OUT2))) := news_sub N19 fun q hq => by
          simp only [List.mem_append, List.mem_cons] at hq ⊢
          rcases hq with h | (h | h) | h | h <;> simp only [h, true_or, or_true]
        have ndD : Nd (((D19, W.listOf vs19.toArray e19) :: RL) ++ (IS17 ++ OUT2)) := Nd.cons ndW.tail fun q hq => off19 q (by
          have hq : q ∈ RL ++ (IS17 ++ OUT2) := hq
          simp only [List.mem_append, List.mem_cons] at hq ⊢
          rcases hq with h | h | h <;> simp only [h, true_or, or_true])
        have hRo : ∀ q ∈ ((D19, W.listOf vs19.toArray e19) :: RL) ++ (IS17 ++ OUT2), q.1 ≠ Rn := fun q hq => by
          rcases List.mem_cons.mp (show q ∈ (D19, W.listOf vs19.toArray e19) :: (RL ++ (IS17 ++ OUT2)) from hq) with e | hq
          · rw [e]
            exact Ne.symm (off19 (Rn, W.listOf rvs.toArray rc) (List.mem_append_right _ (List.mem_cons_of_mem _ List.mem_cons_self)))
          · exact ndW.head q hq
        have hrl : rvs.length ≤ 100 := by rw [hrw.1]; have h1 := congrArg List.length hdn; rw [List.length_append] at h1; omega
        clear N19
        generalize hX9 : ((D19, W.listOf vs19.toArray e19) :: RL) ++ (IS17 ++ OUT2) = X9 at N20 hRo
        iterate 3 one_sign
        (rename News _ _ _ _ => N21)
        (rename Fr _ _ _ _ => F21)
        subst hX9
        simp only [List.push_toArray] at N21
        refine ⟨rs9.length, Nat.lt_succ_self _, i13_13 _ _ _ _ _ _ as17 IS17 (rvs ++ [.ref D19]) (rc + 1) ((D19, W.listOf vs19.toArray e19) :: RL) rs9 (dn ++ [k0 :: rd0]) rfl F21 N21 rfl rfl TR5 hR3 rfl ?_ ((hrw.more fun p hp => List.mem_cons_of_mem _ hp).snoc List.mem_cons_self (by simpa using hs19) hp19 ho19) (SameSu.dones (st := (outE es (k0 :: rd0), [])) hsame2) (doneF_keys.trans hkeys2) (Nd.cons ndD hRo)⟩
        rw [List.append_assoc]; exact hdn
end Mine
end
end
end
namespace Mine
open LCg (NsObj lst lst_snoc ns_obj)
section
variable {prog : Program} {w : World} {A : Around} {E : Value → Shared → Prop} {s : Shared} {env : Env} {elt iter : Expr} {ifs : List Expr} {scope : Scope} {pos : Pos} {x : Str} {px : Pos}
/-- a comprehension's own names laid, one of them a cell -/
theorem newEnv_cell {M : Model} {globals builtins : Addr} {cl : List (Str × Addr)} {qual : Str} {Q : Env → Shared → Prop}
    (hcf : ∀ n, cellsFrom n scope.names cl = (x, n) :: cl) (hpc : ∀ h, pushCells h scope.names = h.push { cls := .type "cell", data := .cell none })
    (hQ : Q { scope, locals := s.heap.objs.size, globals, cells := (x, s.heap.objs.size + 1) :: cl, qual, func := none, code := env.code, frame := env.frame, builtins := env.builtins } { s with heap := (s.heap.push { cls := .type "dict", data := .dict #[] }).push { cls := .type "cell", data := .cell none } }) :
    wpAny M A (newFunctionEnv scope globals cl [] qual none .none (some env) builtins) Q E s := by
  simp only [newFunctionEnv, Option.isSome_some, if_true]
  refine wpAny_bind (wpAny_alloc ?_)
  refine wpAny_bind (wpAny_layCells _ (fun name kind cells => by cases hkc : kind == NameKind.cell <;> simp [hkc]) _ _ _ _ ?_)
  rw [hcf, hpc]
  have hs : ({ s with heap := s.heap.push { cls := .type "dict", data := .dict #[] } } : Shared).heap.objs.size = s.heap.objs.size + 1 := Heap.size_push ..
  rw [hs]
  refine wpAny_bind ?_
  rw [List.forIn_nil]
  exact wpAny_pure (wpAny_pure hQ)
theorem comp_ledK {h₀ : Heap} {L : Addr} {m : Nm} {news : Led} {I : Addr} {fp wr : List Addr} {n : Nat} {P Md : Nat → Value → Heap → Prop} {St : Nat → Heap → Prop} {cl : List (Str × Addr)} {Pv : Nat → Value → Prop} (W : KTurns prog w A (.Name x px) I fp wr n P Md St)
    (hself : ∀ i (s : Shared) (Q : Value → Shared → Prop) (E : Value → Shared → Prop), St i s.heap → Q (.ref I) s → wpAny (model prog w) A (pyIter (.ref I)) Q E s)
    (hcf : ∀ n, cellsFrom n scope.names cl = (x, n) :: cl) (hpc : ∀ h, pushCells h scope.names = h.push { cls := .type "cell", data := .cell none }) (hxc : (relabel scope env).names.lookup x = some .cell) (hkind : scope.kind = .function) (hsz : n ≤ 1000000)
    (hw : ∀ b ∈ wr, h₀.get? b = none) (hL : L ∉ wr) (hlive : ∀ i h, St i h → ∀ b ∈ wr, ∃ o, h.get? b = some o) (hfp : ∀ b ∈ fp, b < s.heap.objs.size)
    (F : Fr h₀ L s.heap m) (N : News h₀ L s.heap news) (ho : ∀ p ∈ news, p.1 ∉ wr) (st0 : St 0 s.heap) (J : Nat → List Value → Led → Prop) (j0 : J 0 [] news)
    (hfx : ∀ i ys nw h, J i ys nw → Fr h₀ L h m → News h₀ L h nw → ∀ b ∈ fp, b ∉ wr → ∀ h', (∀ c o, h₀.get? c = some o → h'.get? c = some o) → (∀ i' ys' nw', J i' ys' nw' → News h₀ L h' nw' → h'.get? b = h.get? b))
    (hPv : ∀ i v h, P i v h → Pv i v)
    (turn : ∀ i v ys nw its oC oK m₂ C K D h tk (E' : Value → Shared → Prop), i < n → Pv i v → J i ys nw → its.map (·.1) = wr → (∀ p ∈ nw, p.1 ∉ (its ++ [(C, oC), (K, oK), (D, lst ys)]).map (·.1)) → NsObj oC m₂ → oK.data = Data.cell (some v) → Fr h₀ L h m → News h₀ L h ((its ++ [(C, oC), (K, oK), (D, lst ys)]) ++ nw) →
      wpAny (model prog w) A (tests ifs (compEnvC scope ((x, K) :: cl) C env)) (fun ok s₃ =>
        if ok = true then wpAny (model prog w) A (eval elt (compEnvC scope ((x, K) :: cl) C env)) (CE h₀ L m s (its ++ [(C, oC), (K, oK), (D, lst ys)]) (fun y nw' => J (i + 1) (ys ++ [y]) nw')) E' s₃
        else CE h₀ L m s (its ++ [(C, oC), (K, oK), (D, lst ys)]) (fun _ nw' => J (i + 1) ys nw') Value.none s₃) E' { s with heap := h, toks := tk })
    (hys : ∀ i ys nw, J i ys nw → ys.length ≤ i)
    {RR : Value → Addr → Result → Shared → Prop}
    (hRR : ∀ D C h tk m' ys nw, Fr h₀ L h m → News h₀ L h ((D, lst ys) :: nw) → (∀ p ∈ nw, p.1 ≠ D) → h.Ns C m' → h₀.get? C = none → C ≠ L → D ≠ C → (∀ p ∈ nw, p.1 ≠ C) → J n ys nw → RR (.ref D) C (.ok .next) { s with heap := h, toks := tk }) :
    wpAny (model prog w) A (newList []) (fun acc s₃ => wpAny (model prog w) A (newFunctionEnv scope env.globals cl [] env.qual none .none (some env)) (fun cenv s₄ =>
      codeAny (model prog w) A (.compStart (.ListComp elt [⟨.Name x px, iter, ifs, 0⟩] scope pos) 0 (.ref I) acc { cenv with scope := relabel scope env }) (RR acc cenv.locals) s₄) E s₃) E s := by
  refine wpAny_newObj_type (newEnv_cell hcf hpc ?_)
  dsimp only
  generalize hH : s.heap.push { cls := .type "list", dict := none, data := .seq ([] : List Value).toArray } = H
  have hD : H.get? s.heap.objs.size = some (lst []) := by rw [← hH]; exact Heap.get?_push_size _ rfl
  have hHs : H.objs.size = s.heap.objs.size + 1 := by rw [← hH, Heap.size_push]
  generalize hh1 : (H.push { cls := .type "dict", data := .dict #[] }).push { cls := .type "cell", data := .cell none } = h₁
  have up1 : ∀ b o, H.get? b = some o → h₁.get? b = some o := fun b o e => hh1 ▸ Heap.get?_push_of_some _ (Heap.get?_push_of_some _ e)
  have hns₁ : h₁.Ns H.objs.size (fun _ => none) := (Heap.Ns.new H (.type "dict")).keeps fun b o e => hh1 ▸ Heap.get?_push_of_some _ e
  have hK₁ : h₁.get? (H.objs.size + 1) = some { cls := .type "cell", data := .cell none } := by
    rw [← hh1]
    have hz : (H.push { cls := .type "dict", data := .dict #[] }).objs.size = H.objs.size + 1 := Heap.size_push ..
    rw [← hz]; exact Heap.get?_push_size _ rfl
  generalize hDe : s.heap.objs.size = D at *
  generalize hCe : H.objs.size = C at *
  generalize hKe : C + 1 = K at *
  have hlt : ∀ b o, s.heap.get? b = some o → b < D := fun b o e => hDe ▸ Heap.lt_size e
  have up : ∀ b o, s.heap.get? b = some o → h₁.get? b = some o := fun b o e => up1 b o (hH ▸ Heap.get?_push_of_some _ e)
  have hDC : D ≠ C := n2 hHs
  have hDK : D ≠ K := fun e => by have h1 : @Eq Nat D K := e; have h2 : @Eq Nat (C + 1) K := hKe; have h3 : @Eq Nat C (D + 1) := hHs; omega
  have hCK : C ≠ K := fun e => by have h1 : @Eq Nat C K := e; have h2 : @Eq Nat (C + 1) K := hKe; omega
  have hD₁ : h₁.get? D = some (lst []) := up1 _ _ hD
  have free : ∀ a : Addr, D ≤ a → h₀.get? a = none := fun a ha => none_above F (by rw [hDe]; exact ha)
  have hC₀ : h₀.get? C = none := free C (n3 hHs)
  have hD₀ : h₀.get? D = none := free D (Nat.le_refl _)
  have hDKl : @LE.le Nat _ D K := by have h2 : @Eq Nat (C + 1) K := hKe; have h3 : @Eq Nat C (D + 1) := hHs; omega
  have hK₀ : h₀.get? K = none := free K hDKl
  have hLlt : L < D := by rw [← hDe]; exact F.ns.lt
  have hCL : C ≠ L := n5 hLlt hHs
  have hDL : D ≠ L := n4 hLlt
  have hKL : K ≠ L := fun e => by have h1 : @Eq Nat K L := e; have h2 : @LT.lt Nat _ L D := hLlt; omega
  have hCf : C ∉ fp := fun hb => n1 (hfp _ hb) hHs rfl
  have hDf : D ∉ fp := fun hb => Nat.lt_irrefl _ (hfp _ hb)
  have hKf : K ∉ fp := fun hb => by have h1 : @LT.lt Nat _ K D := hfp _ hb; omega
  have hnD : ∀ p ∈ news, p.1 ≠ D ∧ p.1 ≠ C ∧ p.1 ≠ K := fun p hp => ⟨n6 (hlt _ _ (N p hp).1), n1 (hlt _ _ (N p hp).1) hHs, fun e => by have h1 : @Eq Nat p.1 K := e; have h2 : @LT.lt Nat _ p.1 D := hlt _ _ (N p hp).1; omega⟩
  have hwr : ∀ b ∈ wr, b ∈ fp := W.sub
  have hxk : ∀ C', (compEnvC scope ((x, K) :: cl) C' env).kindOf x = some .cell := fun _ => hxc
  refine codeAny_compStart_list ?_ (hself 0 _ _ _ (W.frame _ _ _ st0 fun b hb o e => up b o e) ?_)
  all_goals
    refine comp_go (s := { s with heap := h₁ }) (cenv := compEnvC scope ((x, K) :: cl) C env) W
      (fun i h => ∃ ys nw m' oK v0, Fr h₀ L h m ∧ News h₀ L h ((D, lst ys) :: nw) ∧ (∀ p ∈ nw, p.1 ≠ D ∧ p.1 ≠ C ∧ p.1 ≠ K ∧ p.1 ∉ wr) ∧ h.Ns C m' ∧ h.get? K = some oK ∧ oK.data = .cell v0 ∧ J i ys nw) ?_ ⟨[], news, _, _, none, F.keeps up, ?_, fun p hp => ⟨(hnD p hp).1, (hnD p hp).2.1, (hnD p hp).2.2, ho p hp⟩, hns₁, hK₁, rfl, j0⟩ (W.frame _ _ _ st0 fun b hb o e => up b o e) ?_ ?_
    · (intro i h h' z1h; refine Mine.e5_7 z1h ?_; intro ys nw m' oK v0 F N ho hn hk1 hk2 j; (try clear z1h); intro k)
      exact ⟨ys, nw, m', oK, v0, fr_wr F hL hw k, news_wr N (fun p hp => by
        rcases List.mem_cons.mp hp with rfl | hp
        · exact fun q => hDf (hwr _ q)
        · exact (ho p hp).2.2.2) k, ho, hn.at' fun o e => k _ o (fun q => hCf (hwr _ q)) e, k _ _ (fun q => hKf (hwr _ q)) hk1, hk2, j⟩
    · intro p hp
      rcases List.mem_cons.mp hp with rfl | hp
      · exact ⟨hD₁, hDL, hD₀⟩
      · exact ⟨up _ _ (N p hp).1, (N p hp).2⟩
    · (intro i v h tk E' hi hP st z2h; refine Mine.e5_7 z2h ?_; intro ys nw m' oK0 v0 F N ho hn hk1 hk2 j; (try clear z2h))
      refine wpAny_assign_Name (wpAny_storeName_cell (c := K) (by exact hkind) (hxk C) (by simp [compEnvC]) ⟨oK0, hk1, hk2⟩ fun h₂ hcell₂ hs₂ => ?_)
      (refine Mine.e1_2 hcell₂ ?_; intro oK hoK hdK; (try clear hcell₂))
      have hn₂ := hn.sameBut hs₂ hCK
      have st₂ : St (i + 1) h₂ := W.frame _ _ _ st fun b hb o e => hs₂.extBut b o (fun q => hKf (q ▸ hb)) e
      (have z4 := (its_of (hlive _ _ st₂)); refine Mine.e1_2 z4 ?_; intro its₀ e₀ g₀; (try clear z4))
      (have z5 := (ns_obj hn₂); refine Mine.e1_2 z5 ?_; intro oC hoC hnoC; (try clear z5))
      have F₂ : Fr h₀ L h₂ m := F.change hs₂ hKL hK₀
      have N₂ : News h₀ L h₂ ((D, lst ys) :: nw) := fun p hp => ⟨hs₂.extBut _ _ (by
        rcases List.mem_cons.mp hp with rfl | hp
        · exact hDK
        · exact (ho p hp).2.2.1) (N p hp).1, (N p hp).2⟩
      have hmap : (its₀ ++ [(C, oC), (K, oK), (D, lst ys)]).map (·.1) = wr ++ [C, K, D] := by rw [List.map_append, e₀]; rfl
      have Nall : News h₀ L h₂ ((its₀ ++ [(C, oC), (K, oK), (D, lst ys)]) ++ nw) := fun p hp => by
        rcases List.mem_append.mp hp with hp | hp
        · rcases List.mem_append.mp hp with hp | hp
          · have : p.1 ∈ wr := e₀ ▸ List.mem_map_of_mem hp
            exact ⟨g₀ p hp, fun q => hL (q ▸ this), hw _ this⟩
          · rcases List.mem_cons.mp hp with rfl | hp
            · exact ⟨hoC, hCL, hC₀⟩
            · rcases List.mem_cons.mp hp with rfl | hp
              · exact ⟨hoK, hKL, hK₀⟩
              · rw [List.mem_singleton.mp hp]; exact N₂ _ List.mem_cons_self
        · exact N₂ p (List.mem_cons_of_mem _ hp)
      have hoff : ∀ p ∈ nw, p.1 ∉ (its₀ ++ [(C, oC), (K, oK), (D, lst ys)]).map (·.1) := fun p hp q => by
        rw [hmap] at q
        rcases List.mem_append.mp q with q | q
        · exact (ho p hp).2.2.2 q
        · rcases List.mem_cons.mp q with q | q
          · exact (ho p hp).2.1 q
          · rcases List.mem_cons.mp q with q | q
            · exact (ho p hp).2.2.1 q
            · exact (ho p hp).1 (List.mem_singleton.mp q)
      have back : ∀ (h₃ : Heap) (nw₃ : Led) (ys₃ : List Value), Fr h₀ L h₃ m → News h₀ L h₃ ((its₀ ++ [(C, oC), (K, oK), (D, lst ys)]) ++ nw₃) → (∀ p ∈ nw₃, p.1 ∉ (its₀ ++ [(C, oC), (K, oK), (D, lst ys)]).map (·.1)) → J (i + 1) ys₃ nw₃ → St (i + 1) h₃ ∧ h₃.Ns C m' ∧ h₃.get? D = some (lst ys) ∧ h₃.get? K = some oK ∧ News h₀ L h₃ nw₃ ∧ ∀ p ∈ nw₃, p.1 ≠ D ∧ p.1 ≠ C ∧ p.1 ≠ K ∧ p.1 ∉ wr := by
        intro h₃ nw₃ ys₃ F₃ N₃ ho₃ j₃
        have N₃' : News h₀ L h₃ nw₃ := fun p hp => N₃ p (List.mem_append_right _ hp)
        refine ⟨W.frame _ h₂ _ st₂ (fun b hb o eo => ?_), hnoC.ns (N₃ (C, oC) (List.mem_append_left _ (List.mem_append_right _ List.mem_cons_self))).1,
          (N₃ (D, lst ys) (List.mem_append_left _ (List.mem_append_right _ (List.mem_cons_of_mem _ (List.mem_cons_of_mem _ (List.mem_singleton.mpr rfl)))))).1,
          (N₃ (K, oK) (List.mem_append_left _ (List.mem_append_right _ (List.mem_cons_of_mem _ List.mem_cons_self)))).1, N₃', fun p hp => ?_⟩
        · by_cases hbw : b ∈ wr
          · rw [← e₀] at hbw
            (have z6 := (List.mem_map.mp hbw); refine Mine.e1_2 z6 ?_; intro p hp z6x2; (try clear z6); (rcases z6x2 with rfl))
            rw [g₀ p hp] at eo
            cases eo
            exact (N₃ p (List.mem_append_left _ (List.mem_append_left _ hp))).1
          · rw [hfx i ys nw h₂ j F₂ (fun p hp => N₂ p (List.mem_cons_of_mem _ hp)) b hb hbw h₃ F₃.keep (i + 1) ys₃ nw₃ j₃ N₃']
            exact eo
        · have q := ho₃ p hp
          rw [hmap] at q
          exact ⟨fun e => q (List.mem_append_right _ (by rw [e]; simp)), fun e => q (List.mem_append_right _ (by rw [e]; exact List.mem_cons_self)), fun e => q (List.mem_append_right _ (by rw [e]; simp)), fun e => q (List.mem_append_left _ e)⟩
      refine wpAny_mono (turn i v ys nw its₀ oC oK m' C K D h₂ tk E' hi (hPv i v _ hP) j e₀ hoff hnoC hdK F₂ Nall) (fun ok s₃ h₃ => ?_) fun _ _ e => e
      cases ok with
      | false =>
        (have z7 := h₃; clear h₃; refine Mine.e3_5 z7 ?_; intro h₃ tk₃ nw₃ z7x3 F₃ N₃ ho₃ j₃; (try clear z7); (rcases z7x3 with rfl))
        (have z8 := (back h₃ nw₃ ys F₃ N₃ ho₃ j₃); refine Mine.e0_6 z8 ?_; intro st₃ hn₃ hd₃ hk₃ N₃' ho₃'; (try clear z8))
        refine ⟨h₃, tk₃, rfl, st₃, ys, nw₃, m', oK, _, F₃, fun p hp => ?_, ho₃', hn₃, hk₃, hdK, j₃⟩
        rcases List.mem_cons.mp hp with rfl | hp
        · exact ⟨hd₃, hDL, hD₀⟩
        · exact N₃' p hp
      | true =>
        refine wpAny_mono h₃ (fun y s₄ h₄ => ?_) fun _ _ e => e
        (have z9 := h₄; clear h₄; refine Mine.e3_5 z9 ?_; intro h₄ tk₄ nw₄ z9x3 F₄ N₄ ho₄ j₄; (try clear z9); (rcases z9x3 with rfl))
        (have z10 := (back h₄ nw₄ _ F₄ N₄ ho₄ j₄); refine Mine.e0_6 z10 ?_; intro st₄ hn₄ hd₄ hk₄ N₄' ho₄'; (try clear z10))
        refine append_at (s := { s with heap := h₄, toks := tk₄ }) (D := D) hd₄ (fun h₅ hs₅ hD₅ => ?_) (hsz := by
          rw [sizeLine_eq, List.size_toArray]
          have := hys i ys nw j
          omega)
        refine ⟨h₅, tk₄, rfl, W.frame _ _ _ st₄ fun b hb o e => hs₅.extBut b o (fun q => hDf (q ▸ hb)) e, ys ++ [y], nw₄, m', oK, _, F₄.change hs₅ hDL hD₀, fun p hp => ?_, ho₄', hn₄.sameBut hs₅ (Ne.symm hDC), hs₅.extBut _ _ (Ne.symm hDK) hk₄, hdK, j₄⟩
        rcases List.mem_cons.mp hp with rfl | hp
        · exact ⟨hD₅.trans (congrArg some (lst_snoc ys y)), hDL, hD₀⟩
        · exact ⟨hs₅.extBut _ _ (ho₄' p hp).1 (N₄' p hp).1, (N₄' p hp).2⟩
    · (intro h tk z11h; refine Mine.e5_7 z11h ?_; intro ys nw m' oK v0 F N ho hn _ _ j; (try clear z11h))
      exact hRR D C h tk m' ys nw F N (fun p hp => (ho p hp).1) hn hC₀ hCL hDC (fun p hp => (ho p hp).2.1) j
/-- [.. for x in range(n) ..], x a cell -/
theorem blk_rangeK {h₀ : Heap} {L : Addr} {m : Nm} {news : Led} {r : Addr} {n : Nat} {t u v : Tok} {x : Str} {px : Pos} {cl : List (Str × Addr)} {Qs : Shared → Prop} (J : Nat → List Value → Led → Prop) (hh : A.handled = none)
    (hcf : ∀ n, cellsFrom n scope.names cl = (x, n) :: cl) (hpc : ∀ h, pushCells h scope.names = h.push { cls := .type "cell", data := .cell none }) (hxc : (relabel scope env).names.lookup x = some .cell) (hkind : scope.kind = .function) (hsz : n ≤ 1000000)
    (F : Fr h₀ L s.heap m) (N : News h₀ L s.heap news) (hr : IsRange s.heap r 0 (n : Int) 1 t u v) (j0 : J 0 [] news) (hys : ∀ i ys nw, J i ys nw → ys.length ≤ i)
    (turn : ∀ i tk0 ys nw I oI C oC K oK D m₂ h tk (E' : Value → Shared → Prop), i < n → oK.data = Data.cell (some (.int (i : Int) tk0)) → NsObj oC m₂ → J i ys nw → (∀ p ∈ nw, p.1 ≠ I ∧ p.1 ≠ C ∧ p.1 ≠ K ∧ p.1 ≠ D) → Fr h₀ L h m → News h₀ L h ((I, oI) :: (C, oC) :: (K, oK) :: (D, lst ys) :: nw) →
      wpAny (model prog w) A (tests ifs (compEnvC scope ((x, K) :: cl) C env)) (fun ok s₃ =>
        if ok = true then wpAny (model prog w) A (eval elt (compEnvC scope ((x, K) :: cl) C env)) (CE h₀ L m s [(I, oI), (C, oC), (K, oK), (D, lst ys)] (fun y nw' => J (i + 1) (ys ++ [y]) nw')) E' s₃
        else CE h₀ L m s [(I, oI), (C, oC), (K, oK), (D, lst ys)] (fun _ nw' => J (i + 1) ys nw') Value.none s₃) E' { s with heap := h, toks := tk })
    (fin : ∀ h, Qs { s with heap := h }) :
    wpAny (model prog w) A (pyIter (.ref r)) (fun it s₂ => Block prog w A env (.Name x px) elt iter ifs scope pos cl h₀ L m (J n) it s₂ ∧ Qs s₂) E s := by
  obtain ⟨hsm, hn⟩ := range_ok hsz
  refine wpAny_pyIter_range hr hsm ⟨fun E RR hRR => ⟨_, rfl, ?_⟩, fin _⟩
  have hk : ∀ b o, s.heap.get? b = some o → (s.heap.push { cls := .type "range_iterator", data := .fields #[rawInt 0, rawInt (Builtin.Range.rangeSize 0 (n : Int) 1), rawInt 1] }).get? b = some o := fun b o e => Heap.get?_push_of_some _ e
  have W := LCg.range_walks (prog := prog) (w := w) (I := s.heap.objs.size) hh 0 n
  refine comp_ledK (h₀ := h₀) (L := L) (m := m) (news := news) (s := { s with heap := _ }) (Pv := fun i v => ∃ t, v = .int (0 + (i : Int)) t)
    (KTurns.ofWalks (target := .Name x px) W fun i v s Q E st hQ => wpAny_pure hQ) W.self hcf hpc hxc hkind hsz ?_ ?_ ?_ ?_ (F.keeps hk) (N.grown hk) ?_ (range_at (s := s) hn) J j0 ?_
    (fun i v h hP => hP) ?_ hys hRR
  · intro b hb
    rw [List.mem_singleton.mp hb]; exact none_above F (Nat.le_refl _)
  · intro hb
    have := F.ns.lt
    rw [List.mem_singleton.mp hb] at this
    exact Nat.lt_irrefl _ this
  · intro i h st b hb
    rw [List.mem_singleton.mp hb]; exact ⟨_, st⟩
  · intro b hb
    show b < (Heap.push _ _).objs.size
    rw [Heap.size_push, List.mem_singleton.mp hb]
    exact Nat.lt_succ_self _
  · intro p hp hb
    have := Heap.lt_size (N p hp).1
    rw [List.mem_singleton.mp hb] at this; exact Nat.lt_irrefl _ this
  · intro i ys nw h j F₁ N₁ b hb hbw
    exact absurd hb hbw
  · rintro i v ys nw its oC oK m₂ C K D h tk E' hi ⟨tk0, rfl⟩ j e o hC hK F₁ N₁
    obtain ⟨oI, rfl⟩ := one_of e
    rw [Int.zero_add] at hK
    exact turn i tk0 ys nw _ oI C oC K oK D m₂ h tk E' hi hK hC j (fun p hp => ⟨fun q => o p hp (by simp [q]), fun q => o p hp (by simp [q]), fun q => o p hp (by simp [q]), fun q => o p hp (by simp [q])⟩) F₁ N₁
end
section
variable {prog : Program} {w : World} {A : Around} {E : Value → Shared → Prop} {s : Shared} {env : Env} {target elt iter : Expr} {ifs : List Expr} {scope : Scope} {pos : Pos}
theorem comp_ledT {h₀ : Heap} {L : Addr} {m : Nm} {news : Led} {I : Addr} {fp wr : List Addr} {n : Nat} {P Md : Nat → Value → Heap → Prop} {St : Nat → Heap → Prop} {cl : List (Str × Addr)} {Bd : Nat → Nm → Prop} (W : KTurns prog w A target I fp wr n P Md St)
    (hself : ∀ i (s : Shared) (Q : Value → Shared → Prop) (E : Value → Shared → Prop), St i s.heap → Q (.ref I) s → wpAny (model prog w) A (pyIter (.ref I)) Q E s)
    (hcell : ∀ y ∈ scope.names, y.2 ≠ .cell) (hkind : scope.kind = .function) (hsz : n ≤ 1000000)
    (hw : ∀ b ∈ wr, h₀.get? b = none) (hL : L ∉ wr) (hlive : ∀ i h, St i h → ∀ b ∈ wr, ∃ o, h.get? b = some o) (hfp : ∀ b ∈ fp, b < s.heap.objs.size)
    (F : Fr h₀ L s.heap m) (N : News h₀ L s.heap news) (ho : ∀ p ∈ news, p.1 ∉ wr) (st0 : St 0 s.heap) (J : Nat → List Value → Led → Prop) (j0 : J 0 [] news)
    (hfx : ∀ i ys nw h, J i ys nw → Fr h₀ L h m → News h₀ L h nw → ∀ b ∈ fp, b ∉ wr → ∀ h', (∀ c o, h₀.get? c = some o → h'.get? c = some o) → (∀ i' ys' nw', J i' ys' nw' → News h₀ L h' nw' → h'.get? b = h.get? b))
    (hasg : ∀ C i v (s' : Shared) m' (Q : Unit → Shared → Prop) (E : Value → Shared → Prop), P i v s'.heap → s'.heap.Ns C m' → (∀ h' tk m₂, h'.Ns C m₂ → (∀ b o, b ≠ C → s'.heap.get? b = some o → h'.get? b = some o) → Bd i m₂ → Q () { s' with heap := h', toks := tk }) → wpAny (model prog w) A (assign target (compEnvC scope cl C env) v) Q E s')
    (turn : ∀ i ys nw its oC m₂ C D h tk (E' : Value → Shared → Prop), i < n → Bd i m₂ → J i ys nw → its.map (·.1) = wr → (∀ p ∈ nw, p.1 ∉ (its ++ [(C, oC), (D, lst ys)]).map (·.1)) → NsObj oC m₂ → Fr h₀ L h m → News h₀ L h ((its ++ [(C, oC), (D, lst ys)]) ++ nw) →
      wpAny (model prog w) A (tests ifs (compEnvC scope cl C env)) (fun ok s₃ =>
        if ok = true then wpAny (model prog w) A (eval elt (compEnvC scope cl C env)) (CE h₀ L m s (its ++ [(C, oC), (D, lst ys)]) (fun y nw' => J (i + 1) (ys ++ [y]) nw')) E' s₃
        else CE h₀ L m s (its ++ [(C, oC), (D, lst ys)]) (fun _ nw' => J (i + 1) ys nw') Value.none s₃) E' { s with heap := h, toks := tk })
    (hys : ∀ i ys nw, J i ys nw → ys.length ≤ i)
    {RR : Value → Addr → Result → Shared → Prop}
    (hRR : ∀ D C h tk m' ys nw, Fr h₀ L h m → News h₀ L h ((D, lst ys) :: nw) → (∀ p ∈ nw, p.1 ≠ D) → h.Ns C m' → h₀.get? C = none → C ≠ L → D ≠ C → (∀ p ∈ nw, p.1 ≠ C) → J n ys nw → RR (.ref D) C (.ok .next) { s with heap := h, toks := tk }) :
    wpAny (model prog w) A (newList []) (fun acc s₃ => wpAny (model prog w) A (newFunctionEnv scope env.globals cl [] env.qual none .none (some env)) (fun cenv s₄ =>
      codeAny (model prog w) A (.compStart (.ListComp elt [⟨target, iter, ifs, 0⟩] scope pos) 0 (.ref I) acc { cenv with scope := relabel scope env }) (RR acc cenv.locals) s₄) E s₃) E s := by
  refine wpAny_newObj_type (wpAny_newFunctionEnv hcell (by intro y hy; simp at hy) (fun h₁ hns₁ hsb₁ => ?_) hkind)
  dsimp only at hns₁ hsb₁ ⊢
  generalize hH : s.heap.push { cls := .type "list", dict := none, data := .seq ([] : List Value).toArray } = H at hns₁ hsb₁ ⊢
  have hD : H.get? s.heap.objs.size = some (lst []) := by rw [← hH]; exact Heap.get?_push_size _ rfl
  have hHs : H.objs.size = s.heap.objs.size + 1 := by rw [← hH, Heap.size_push]
  generalize hDe : s.heap.objs.size = D at *
  generalize hCe : H.objs.size = C at *
  have hlt : ∀ b o, s.heap.get? b = some o → b < D := fun b o e => hDe ▸ Heap.lt_size e
  have up : ∀ b o, s.heap.get? b = some o → h₁.get? b = some o := fun b o e =>
    hsb₁.extBut b o (n1 (hlt b o e) hHs) (Heap.get?_push_of_some _ (hH ▸ Heap.get?_push_of_some _ e))
  have hDC : D ≠ C := n2 hHs
  have hD₁ : h₁.get? D = some (lst []) := hsb₁.extBut _ _ hDC (Heap.get?_push_of_some _ hD)
  have free : ∀ a : Addr, D ≤ a → h₀.get? a = none := fun a ha => none_above F (by rw [hDe]; exact ha)
  have hC₀ : h₀.get? C = none := free C (n3 hHs)
  have hD₀ : h₀.get? D = none := free D (Nat.le_refl _)
  have hLlt : L < D := by rw [← hDe]; exact F.ns.lt
  have hCL : C ≠ L := n5 hLlt hHs
  have hDL : D ≠ L := n4 hLlt
  have hCf : C ∉ fp := fun hb => n1 (hfp _ hb) hHs rfl
  have hDf : D ∉ fp := fun hb => Nat.lt_irrefl _ (hfp _ hb)
  have hnD : ∀ p ∈ news, p.1 ≠ D ∧ p.1 ≠ C := fun p hp => ⟨n6 (hlt _ _ (N p hp).1), n1 (hlt _ _ (N p hp).1) hHs⟩
  refine codeAny_compStart_list ?_ (hself 0 _ _ _ (W.frame _ _ _ st0 fun b hb o e => up b o e) ?_)
  all_goals
    refine comp_go (s := { s with heap := h₁, toks := s.toks + ([] : List (Str × Value)).length }) (cenv := compEnvC scope cl C env) W
      (fun i h => ∃ ys nw m', Fr h₀ L h m ∧ News h₀ L h ((D, lst ys) :: nw) ∧ (∀ p ∈ nw, p.1 ≠ D ∧ p.1 ≠ C ∧ p.1 ∉ wr) ∧ h.Ns C m' ∧ J i ys nw) ?_ ⟨[], news, _, F.keeps up, ?_, fun p hp => ⟨(hnD p hp).1, (hnD p hp).2, ho p hp⟩, hns₁, j0⟩ (W.frame _ _ _ st0 fun b hb o e => up b o e) ?_ ?_
    · (intro i h h' z12h; refine Mine.e3_5 z12h ?_; intro ys nw m' F N ho hn j; (try clear z12h); intro k)
      have hwr : ∀ b ∈ wr, b ∈ fp := W.sub
      exact ⟨ys, nw, m', fr_wr F hL hw k, news_wr N (fun p hp => by
        rcases List.mem_cons.mp hp with rfl | hp
        · exact fun q => hDf (hwr _ q)
        · exact (ho p hp).2.2) k, ho, hn.at' fun o e => k _ o (fun q => hCf (hwr _ q)) e, j⟩
    · intro p hp
      rcases List.mem_cons.mp hp with rfl | hp
      · exact ⟨hD₁, hDL, hD₀⟩
      · exact ⟨up _ _ (N p hp).1, (N p hp).2⟩
    · (intro i v h tk E' hi hP st z13h; refine Mine.e3_5 z13h ?_; intro ys nw m' F N ho hn j; (try clear z13h))
      have hwr : ∀ b ∈ wr, b ∈ fp := W.sub
      refine hasg C i v _ m' _ _ hP hn fun h₂ tk₂ m₂ hn₂ hs₂ hbd => ?_
      have st₂ : St (i + 1) h₂ := W.frame _ _ _ st fun b hb o e => hs₂ b o (fun q => hCf (q ▸ hb)) e
      (have z14 := (its_of (hlive _ _ st₂)); refine Mine.e1_2 z14 ?_; intro its₀ e₀ g₀; (try clear z14))
      (have z15 := (ns_obj hn₂); refine Mine.e1_2 z15 ?_; intro oC hoC hnoC; (try clear z15))
      have F₂ : Fr h₀ L h₂ m := ⟨F.ns.at' fun o e => hs₂ _ o (Ne.symm hCL) e, fun b ob e => hs₂ b ob (fun q => by rw [q, hC₀] at e; cases e) (F.keep b ob e), F.above⟩
      have N₂ : News h₀ L h₂ ((D, lst ys) :: nw) := fun p hp => ⟨hs₂ _ _ (by
        rcases List.mem_cons.mp hp with rfl | hp
        · exact hDC
        · exact (ho p hp).2.1) (N p hp).1, (N p hp).2⟩
      have hmap : (its₀ ++ [(C, oC), (D, lst ys)]).map (·.1) = wr ++ [C, D] := by rw [List.map_append, e₀]; rfl
      have Nall : News h₀ L h₂ ((its₀ ++ [(C, oC), (D, lst ys)]) ++ nw) := fun p hp => by
        rcases List.mem_append.mp hp with hp | hp
        · rcases List.mem_append.mp hp with hp | hp
          · have : p.1 ∈ wr := e₀ ▸ List.mem_map_of_mem hp
            exact ⟨g₀ p hp, fun q => hL (q ▸ this), hw _ this⟩
          · rcases List.mem_cons.mp hp with rfl | hp
            · exact ⟨hoC, hCL, hC₀⟩
            · rw [List.mem_singleton.mp hp]; exact N₂ _ List.mem_cons_self
        · exact N₂ p (List.mem_cons_of_mem _ hp)
      have hoff : ∀ p ∈ nw, p.1 ∉ (its₀ ++ [(C, oC), (D, lst ys)]).map (·.1) := fun p hp q => by
        rw [hmap] at q
        rcases List.mem_append.mp q with q | q
        · exact (ho p hp).2.2 q
        · rcases List.mem_cons.mp q with q | q
          · exact (ho p hp).2.1 q
          · exact (ho p hp).1 (List.mem_singleton.mp q)
      have back : ∀ (h₃ : Heap) (nw₃ : Led) (ys₃ : List Value), Fr h₀ L h₃ m → News h₀ L h₃ ((its₀ ++ [(C, oC), (D, lst ys)]) ++ nw₃) → (∀ p ∈ nw₃, p.1 ∉ (its₀ ++ [(C, oC), (D, lst ys)]).map (·.1)) → J (i + 1) ys₃ nw₃ → St (i + 1) h₃ ∧ h₃.Ns C m₂ ∧ h₃.get? D = some (lst ys) ∧ News h₀ L h₃ nw₃ ∧ ∀ p ∈ nw₃, p.1 ≠ D ∧ p.1 ≠ C ∧ p.1 ∉ wr := by
        intro h₃ nw₃ ys₃ F₃ N₃ ho₃ j₃
        have N₃' : News h₀ L h₃ nw₃ := fun p hp => N₃ p (List.mem_append_right _ hp)
        refine ⟨W.frame _ h₂ _ st₂ (fun b hb o eo => ?_), hnoC.ns (N₃ (C, oC) (List.mem_append_left _ (List.mem_append_right _ List.mem_cons_self))).1,
          (N₃ (D, lst ys) (List.mem_append_left _ (List.mem_append_right _ (List.mem_cons_of_mem _ (List.mem_singleton.mpr rfl))))).1, N₃', fun p hp => ?_⟩
        · by_cases hbw : b ∈ wr
          · rw [← e₀] at hbw
            (have z16 := (List.mem_map.mp hbw); refine Mine.e1_2 z16 ?_; intro p hp z16x2; (try clear z16); (rcases z16x2 with rfl))
            rw [g₀ p hp] at eo
            cases eo
            exact (N₃ p (List.mem_append_left _ (List.mem_append_left _ hp))).1
          · rw [hfx i ys nw h₂ j F₂ (fun p hp => N₂ p (List.mem_cons_of_mem _ hp)) b hb hbw h₃ F₃.keep (i + 1) ys₃ nw₃ j₃ N₃']
            exact eo
        · have q := ho₃ p hp
          rw [hmap] at q
          exact ⟨fun e => q (List.mem_append_right _ (by rw [e]; exact List.mem_cons_of_mem _ (List.mem_singleton.mpr rfl))), fun e => q (List.mem_append_right _ (by rw [e]; exact List.mem_cons_self)), fun e => q (List.mem_append_left _ e)⟩
      refine wpAny_mono (turn i ys nw its₀ oC m₂ C D h₂ tk₂ E' hi hbd j e₀ hoff hnoC F₂ Nall) (fun ok s₃ h₃ => ?_) fun _ _ e => e
      cases ok with
      | false =>
        (have z17 := h₃; clear h₃; refine Mine.e3_5 z17 ?_; intro h₃ tk₃ nw₃ z17x3 F₃ N₃ ho₃ j₃; (try clear z17); (rcases z17x3 with rfl))
        (have z18 := (back h₃ nw₃ ys F₃ N₃ ho₃ j₃); refine Mine.e0_5 z18 ?_; intro st₃ hn₃ hd₃ N₃' ho₃'; (try clear z18))
        refine ⟨h₃, tk₃, rfl, st₃, ys, nw₃, m₂, F₃, fun p hp => ?_, ho₃', hn₃, j₃⟩
        rcases List.mem_cons.mp hp with rfl | hp
        · exact ⟨hd₃, hDL, hD₀⟩
        · exact N₃' p hp
      | true =>
        refine wpAny_mono h₃ (fun y s₄ h₄ => ?_) fun _ _ e => e
        (have z19 := h₄; clear h₄; refine Mine.e3_5 z19 ?_; intro h₄ tk₄ nw₄ z19x3 F₄ N₄ ho₄ j₄; (try clear z19); (rcases z19x3 with rfl))
        (have z20 := (back h₄ nw₄ _ F₄ N₄ ho₄ j₄); refine Mine.e0_5 z20 ?_; intro st₄ hn₄ hd₄ N₄' ho₄'; (try clear z20))
        refine append_at (s := { s with heap := h₄, toks := tk₄ }) (D := D) hd₄ (fun h₅ hs₅ hD₅ => ?_) (hsz := by
          rw [sizeLine_eq, List.size_toArray]
          have := hys i ys nw j
          omega)
        refine ⟨h₅, tk₄, rfl, W.frame _ _ _ st₄ fun b hb o e => hs₅.extBut b o (fun q => hDf (q ▸ hb)) e, ys ++ [y], nw₄, m₂, F₄.change hs₅ hDL hD₀, fun p hp => ?_, ho₄', hn₄.sameBut hs₅ (Ne.symm hDC), j₄⟩
        rcases List.mem_cons.mp hp with rfl | hp
        · exact ⟨hD₅.trans (congrArg some (lst_snoc ys y)), hDL, hD₀⟩
        · exact ⟨hs₅.extBut _ _ (ho₄' p hp).1 (N₄' p hp).1, (N₄' p hp).2⟩
    · (intro h tk z21h; refine Mine.e3_5 z21h ?_; intro ys nw m' F N ho hn j; (try clear z21h))
      exact hRR D C h tk m' ys nw F N (fun p hp => (ho p hp).1) hn hC₀ hCL hDC (fun p hp => (ho p hp).2.1) j
end
section
variable {prog : Program} {w : World} {A : Around} {E : Value → Shared → Prop} {s : Shared} {env : Env} {elt iter : Expr} {ifs : List Expr} {scope : Scope} {pos : Pos} {a b : Str} {pa pb tpos : Pos} {kt : Nat}
theorem asg_pair {T C : Addr} {cl : List (Str × Addr)} {x y : Value} {s' : Shared} {m' : Nm} {Q : Unit → Shared → Prop} (hh : A.handled = none) (hkind : scope.kind = .function) (ha : scope.names.lookup a = some .local) (hb : scope.names.lookup b = some .local) (hab : a ≠ b)
    (hT : s'.heap.IsTuple T #[x, y]) (hn : s'.heap.Ns C m') (h : ∀ h' tk m₂, h'.Ns C m₂ → (∀ b o, b ≠ C → s'.heap.get? b = some o → h'.get? b = some o) → (m₂ a = some x ∧ m₂ b = some y) → Q () { s' with heap := h', toks := tk }) :
    wpAny (model prog w) A (assign (.Tuple [.Name a pa, .Name b pb] kt tpos) (compEnvC scope cl C env) (.ref T)) Q E s' := by
  refine wpAny_assign_Tuple hh hT rfl rfl fun h₁ he₁ => ?_
  have hn₁ : h₁.Ns C m' := hn.at' fun o e => he₁ C o (Nat.ne_of_lt (Heap.lt_size e)) e
  have kf : ((compEnvC scope cl C env).scope.kind == .class || ((compEnvC scope cl C env).scope.kind == .module && (compEnvC scope cl C env).locals != (compEnvC scope cl C env).globals)) = false := by simp [compEnvC, relabel, hkind]
  show wpAny _ A (do holding [y] (assign (.Name a pa) (compEnvC scope cl C env) x); assignInOrder [assign (.Name b pb) (compEnvC scope cl C env)] [y]) Q E _
  refine wpAny_bind (wpAny_holding (wpAny_assign_Name (wpAny_storeName_local (lookup_relabel_local ha) hn₁ (fun h₂ hn₂ hs₂ => ?_) kf)))
  show wpAny _ A (do holding [] (assign (.Name b pb) (compEnvC scope cl C env) y); assignInOrder [] []) Q E _
  refine wpAny_bind (wpAny_holding (wpAny_assign_Name (wpAny_storeName_local (lookup_relabel_local hb) hn₂ (fun h₃ hn₃ hs₃ => ?_) kf)))
  refine wpAny_pure (h h₃ _ _ hn₃ (fun c o hc e => hs₃.extBut c o hc (hs₂.extBut c o hc (he₁ c o (Nat.ne_of_lt (Heap.lt_size e)) e))) ⟨?_, ?_⟩)
  · simp [hab]
  · simp
/-- [.. for a, b in zip(la, lb) ..] -/
theorem comp_zip {h₀ : Heap} {L : Addr} {m : Nm} {news : Led} {la lb : Addr} {xs ys : Array Value} {cl : List (Str × Addr)} {Q : Value → Shared → Prop} (J : Nat → List Value → Led → Prop) (hh : A.handled = none)
    (hcell : ∀ y ∈ scope.names, y.2 ≠ .cell) (hkind : scope.kind = .function) (hla : scope.names.lookup a = some .local) (hlb : scope.names.lookup b = some .local) (hab : a ≠ b) (hsz : min xs.size ys.size ≤ 1000000)
    (F : Fr h₀ L s.heap m) (N : News h₀ L s.heap news) (Sa : Stays h₀ "list" la xs (fun i _ nw => ∃ zs, J i zs nw)) (Sb : Stays h₀ "list" lb ys (fun i _ nw => ∃ zs, J i zs nw)) (j0 : J 0 [] news) (hys : ∀ i zs nw, J i zs nw → zs.length ≤ i)
    (turn : ∀ i x y zs nw its oC m₂ C D h tk (E' : Value → Shared → Prop), xs[i]? = some x → ys[i]? = some y → m₂ a = some x → m₂ b = some y → NsObj oC m₂ → J i zs nw → its.map (·.1) = [s.heap.objs.size + 4, s.heap.objs.size + 2, s.heap.objs.size + 3, s.heap.objs.size, s.heap.objs.size + 1] → (∀ p ∈ nw, p.1 ∉ (its ++ [(C, oC), (D, lst zs)]).map (·.1)) → Fr h₀ L h m → News h₀ L h ((its ++ [(C, oC), (D, lst zs)]) ++ nw) →
      wpAny (model prog w) A (tests ifs (compEnvC scope cl C env)) (fun ok s₃ =>
        if ok = true then wpAny (model prog w) A (eval elt (compEnvC scope cl C env)) (CE h₀ L m s (its ++ [(C, oC), (D, lst zs)]) (fun y nw' => J (i + 1) (zs ++ [y]) nw')) E' s₃
        else CE h₀ L m s (its ++ [(C, oC), (D, lst zs)]) (fun _ nw' => J (i + 1) zs nw') Value.none s₃) E' { s with heap := h, toks := tk })
    (fin : ∀ zs nw D h tk, J (min xs.size ys.size) zs nw → Fr h₀ L h m → News h₀ L h ((D, lst zs) :: nw) → (∀ p ∈ nw, p.1 ≠ D) → Q (.ref D) { s with heap := h, toks := tk }) :
    wpAny (model prog w) A (call (.type "zip") [.ref la, .ref lb]) (fun xv s₁ => wpAny (model prog w) A (pyIter xv) (CompIn prog w A env (.Tuple [.Name a pa, .Name b pb] kt tpos) elt iter ifs scope pos cl Q) E s₁) E s := by
  (refine Mine.e1_3 Sa ?_; intro oa ca z22x2 Sa'; (try clear Sa); (rcases z22x2 with ⟨na, da⟩))
  (refine Mine.e1_3 Sb ?_; intro ob cb z23x2 Sb'; (try clear Sb); (rcases z23x2 with ⟨nb, db⟩))
  have ma := Stays.at (c := "list") (m := m) (items := xs) Sa' F N (i := 0) ⟨[], j0⟩
  have mb := Stays.at (c := "list") (m := m) (items := ys) Sb' F N (i := 0) ⟨[], j0⟩
  have hla' : la < s.heap.objs.size := Heap.lt_size ma
  have hlb' : lb < s.heap.objs.size := Heap.lt_size mb
  have ha' : s.heap.IsList la xs := ⟨_, ma, ca, na, da⟩
  have hb' : s.heap.IsList lb ys := ⟨_, mb, cb, nb, db⟩
  refine call_zip_2 ha' hb' fun h' hz hTI hTO h1 h2 hsz' hk => ?_
  have none_of : ∀ a, s.heap.objs.size ≤ a → h₀.get? a = none := fun a ha => none_above F ha
  have hLs := F.ns.lt
  have D : ZipApart (s.heap.objs.size + 4) (s.heap.objs.size + 2) (s.heap.objs.size + 3) s.heap.objs.size (s.heap.objs.size + 1) la lb := by
    generalize s.heap.objs.size = k at *
    replace hla' : @LT.lt Nat _ la k := hla'
    replace hlb' : @LT.lt Nat _ lb k := hlb'
    constructor <;> exact fun (e : @Eq Nat _ _) => by omega
  have W := WalksT.zip2 (prog := prog) (w := w) hh _ _ _ _ _ _ _ D xs ys
  have F' : Fr h₀ L h' m := F.keeps hk
  have N' : News h₀ L h' news := N.grown hk
  have wr_ge : ∀ b ∈ [s.heap.objs.size + 4, s.heap.objs.size + 2, s.heap.objs.size + 3, s.heap.objs.size, s.heap.objs.size + 1], s.heap.objs.size ≤ b := by
    generalize s.heap.objs.size = k
    intro b hb
    simp only [List.mem_cons, List.not_mem_nil, or_false] at hb
    show @LE.le Nat _ _ _
    rcases hb with rfl | rfl | rfl | rfl | rfl <;> omega
  refine wpAny_pyIter_zip hz ⟨h₀, L, m, J (min xs.size ys.size), fun E RR hRR => ⟨_, rfl, ?_⟩, fun zs nw D h tk j F N o => fin zs nw D h tk j F N o⟩
  refine comp_ledT (h₀ := h₀) (L := L) (m := m) (news := news) (s := { s with heap := h' }) (Bd := fun i m₂ => ∃ x y, xs[i]? = some x ∧ ys[i]? = some y ∧ m₂ a = some x ∧ m₂ b = some y)
    (wider (wr' := [s.heap.objs.size + 4, s.heap.objs.size + 2, s.heap.objs.size + 3, s.heap.objs.size, s.heap.objs.size + 1]) (KTurns.ofWalksU W.toU) (fun b hb => by simp only [List.mem_cons, List.not_mem_nil, or_false] at hb ⊢; rcases hb with h | h | h | h <;> simp only [h, true_or, or_true]) (fun b hb => by simp only [List.mem_cons, List.not_mem_nil, or_false] at hb ⊢; rcases hb with h | h | h | h | h <;> simp only [h, true_or, or_true]))
    (fun i s Q E st hQ => wpAny_pyIter_zip st.1 hQ) hcell hkind hsz ?_ ?_ ?_ ?_ F' N' ?_ ⟨hz, hTI, ⟨_, _, hTO⟩, h1, h2, ha'.at fun o e => hk _ _ e, hb'.at fun o e => hk _ _ e⟩ J j0 ?_ ?_ ?_ hys hRR
  · exact fun b hb => none_of b (wr_ge b hb)
  · exact fun hb => absurd hLs (Nat.not_lt.mpr (wr_ge L hb))
  · (intro i h z24h; refine Mine.e0_6 z24h ?_; intro hz hTI z24x2 z24x3 z24x4 _; (try clear z24h); (refine Mine.e2_1 z24x2 ?_; intro a b hTO; (try clear z24x2)); (refine Mine.e1_2 z24x3 ?_; intro o1 h1 _; (try clear z24x3)); (refine Mine.e1_2 z24x4 ?_; intro o2 h2 _; (try clear z24x4)); intro b hb)
    simp only [List.mem_cons, List.not_mem_nil, or_false] at hb
    rcases hb with rfl | rfl | rfl | rfl | rfl
    · exact ⟨_, hz⟩
    · exact ⟨_, hTI⟩
    · exact ⟨_, hTO⟩
    · exact ⟨_, h1⟩
    · exact ⟨_, h2⟩
  · intro b hb
    show b < h'.objs.size
    rw [hsz']
    generalize s.heap.objs.size = k at *
    replace hla' : @LT.lt Nat _ la k := hla'
    replace hlb' : @LT.lt Nat _ lb k := hlb'
    show @LT.lt Nat _ b (k + 5)
    simp only [List.mem_cons, List.not_mem_nil, or_false] at hb
    rcases hb with rfl | rfl | rfl | rfl | rfl | rfl | rfl <;> omega
  · exact fun p hp hb => absurd (Heap.lt_size (N p hp).1) (Nat.not_lt.mpr (wr_ge _ hb))
  · intro i zs nw h j F₁ N₁ b hb hbw h₁ k₁ i' zs' nw' j' N₁'
    have F₂ : Fr h₀ L h m := F₁
    have hbl : b = la ∨ b = lb := by
      simp only [List.mem_cons, List.not_mem_nil, or_false, not_or] at hb hbw
      rcases hb with q | q | q | q | q | q | q
      · exact absurd q hbw.1
      · exact absurd q hbw.2.1
      · exact absurd q hbw.2.2.1
      · exact absurd q hbw.2.2.2.1
      · exact absurd q hbw.2.2.2.2
      · exact Or.inl q
      · exact Or.inr q
    rcases hbl with rfl | rfl
    · rw [Stays.at (c := "list") (m := m) (items := xs) Sa' F₁ N₁ (i := i) ⟨zs, j⟩]
      exact Sa'.elim (fun e => k₁ _ _ e) fun k => (N₁' _ (k i' m nw' ⟨zs', j'⟩)).1
    · rw [Stays.at (c := "list") (m := m) (items := ys) Sb' F₁ N₁ (i := i) ⟨zs, j⟩]
      exact Sb'.elim (fun e => k₁ _ _ e) fun k => (N₁' _ (k i' m nw' ⟨zs', j'⟩)).1
  · (intro C i v s' m' Q E z25h; refine Mine.e2_3 z25h ?_; intro T vals z25x2 z25x3 hT; (try clear z25h); (rcases z25x2 with rfl); (refine Mine.e2_3 z25x3 ?_; intro x y hx hy z25x3x4; (try clear z25x3); (rcases z25x3x4 with rfl)); intro hn h)
    exact asg_pair hh hkind hla hlb hab hT hn fun h' tk m₂ hn₂ k₂ hb₂ => h h' tk m₂ hn₂ k₂ ⟨x, y, hx, hy, hb₂⟩
  · (intro i zs nw its oC m₂ C D h tk E' hi z26h; refine Mine.e2_4 z26h ?_; intro x y hx hy hm1 hm2; (try clear z26h); intro j e o hC F₁ N₁)
    exact turn i x y zs nw its oC m₂ C D h tk E' hx hy hm1 hm2 hC j e o F₁ N₁
end
end Mine
theorem Mine.off56 : True := by (w_top off); trivial
section
local macro_rules | `(tactic| walk_at $s:str) => `(tactic| k_extra $(Lean.Syntax.mkStrLit ("Levels:" ++ s.getString)))
namespace Mine
open LCg (NsObj lst lst_snoc ns_obj)
set_option maxHeartbeats 4000000
theorem Mine.kw57 : True := by
  (k_with "Levels:eval ListComp Call cons" => ((k_here; refine' ListComp_b (cl := _) ?kc ?kk ?kn ?_; (case kc => with_unfolding_all rfl); (case kk => with_unfolding_all rfl); (case kn => decide))))
  trivial
theorem Mine.kw58 : True := by
  (k_with "Levels:eval ListComp BinOp cons" => ((k_here; refine' ListComp_b (cl := _) ?kc ?kk ?kn ?_; (case kc => with_unfolding_all rfl); (case kk => with_unfolding_all rfl); (case kn => decide))))
  trivial
theorem Mine.kw59 : True := by
  (k_with "Levels:eval ListComp Name cons" => ((k_here; refine' ListComp_b (cl := _) ?kc ?kk ?kn ?_; (case kc => with_unfolding_all rfl); (case kk => with_unfolding_all rfl); (case kn => decide))))
  trivial
theorem Mine.kw60 : True := by
  (k_with "Levels:k_mem" => (first | assumption | (refine' List.mem_append_right _ ?_; assumption) | (refine' List.mem_append_right _ (List.mem_append_right _ ?_); assumption) | (refine' List.Mem.tail _ ?_; k_mem)))
  trivial
local macro_rules | `(tactic| k_mem) => `(tactic| k_extra "Levels:k_mem")
/-- the names at a level -/
noncomputable def rowOf (gs : List Str) (lv : List Int) (k : Nat) : List Str := ((gs.zip lv).filter fun p => decide (p.2 = (k : Int))).map (·.1)
theorem row_succ {z : List (Str × Int)} {j k : Nat} {p : Str} {l : Int} (h : z[j]? = some (p, l)) : ((z.take (j + 1)).filter fun p => decide (p.2 = (k : Int))).map (·.1) = ((z.take j).filter fun p => decide (p.2 = (k : Int))).map (·.1) ++ if l = (k : Int) then [p] else [] := by
  rw [List.take_add_one, h, List.filter_append, List.map_append]
  by_cases hl : l = (k : Int)
  · rw [if_pos hl]; simp [List.filter, hl]
  · rw [if_neg hl]; simp [List.filter, hl]
noncomputable def maxF (l : List Int) : Int := l.foldl max 0
noncomputable def levF (ns : List (List Int)) : Nat → List Int
  | 0 => List.replicate ns.length 0
  | i + 1 => ns.map fun r => maxF (r.map fun x => (levF ns i).getD x.toNat 0 + 1)
noncomputable def LvJ (L9 l2 : Addr) (o2 : Obj) (ns : List (List Int)) (i : Nat) (m : Nm) (nw : Led) : Prop :=
  m (Str.ofString "needs") = some (.ref l2) ∧ ∃ D ws n oL, nw = [(D, W.listOf ws n), (L9 + 1 + 1, oL), (L9 + 1, o2)] ∧ oL.data = Data.cell (some (.ref D)) ∧ IntsAre ws.toList (levF ns i) ∧ @Ne Nat (L9 + 1 + 1) D
theorem maxF_le {l : List Int} : ∀ {b : Int}, b ≤ l.foldl max b ∧ (∀ a ∈ l, a ≤ l.foldl max b) ∧ (l.foldl max b = b ∨ l.foldl max b ∈ l) := by
  induction l with
  | nil => exact fun {b} => ⟨Int.le_refl _, (fun a ha => nomatch ha), .inl rfl⟩
  | cons x r ih =>
    intro b
    (have z1 := (ih (b := max b x)); refine Mine.e0_3 z1 ?_; intro h1 h2 h3; (try clear z1))
    refine ⟨Int.le_trans (by omega) h1, fun a ha => ?_, ?_⟩
    · rcases List.mem_cons.mp ha with rfl | ha
      · exact Int.le_trans (by omega) h1
      · exact h2 a ha
    · rcases h3 with h3 | h3
      · rw [List.foldl_cons, h3]
        by_cases hx : b ≤ x
        · exact .inr (by rw [show max b x = x by omega]; exact List.mem_cons_self)
        · exact .inl (by omega)
      · exact .inr (List.mem_cons_of_mem _ h3)
theorem maxF_of {l : List Int} {M : Int} (h1 : M ∈ l ++ [0]) (h2 : ∀ a ∈ l ++ [0], a ≤ M) : M = maxF l := by
  (have z2 := (maxF_le (l := l) (b := 0)); refine Mine.e0_3 z2 ?_; intro g1 g2 g3; (try clear z2))
  have h3 : maxF l ≤ M := by
    rcases g3 with g | g
    · show l.foldl max 0 ≤ M
      rw [g]; exact h2 0 (List.mem_append_right _ (List.mem_singleton.mpr rfl))
    · exact h2 _ (List.mem_append_left _ g)
  have h4 : M ≤ maxF l := by
    rcases List.mem_append.mp h1 with h | h
    · exact g2 _ h
    · rw [List.mem_singleton.mp h]; exact g1
  omega
theorem levF_bound {ns : List (List Int)} : ∀ i, ∀ x ∈ levF ns i, 0 ≤ x ∧ x ≤ i
  | 0, x, hx => by
    obtain ⟨_, h⟩ := List.mem_replicate.mp hx
    rw [h]; exact ⟨Int.le_refl _, Int.le_refl _⟩
  | i + 1, x, hx => by
    (have z3 := (List.mem_map.mp hx); refine Mine.e1_2 z3 ?_; intro r _ z3x2; (try clear z3); (rcases z3x2 with rfl))
    (have z4 := (maxF_le (l := r.map fun x => (levF ns i).getD x.toNat 0 + 1) (b := 0)); refine Mine.e0_3 z4 ?_; intro g1 g2 g3; (try clear z4))
    refine ⟨g1, ?_⟩
    show List.foldl max 0 _ ≤ _
    rcases g3 with g | g
    · rw [g]; omega
    · (have z5 := (List.mem_map.mp g); refine Mine.e1_2 z5 ?_; intro y _ hy; (try clear z5))
      rw [← hy]
      have h1 : (levF ns i).getD y.toNat 0 ≤ i := by
        rw [List.getD_eq_getElem?_getD]
        cases hq : (levF ns i)[y.toNat]? with
        | none => show (0 : Int) ≤ i; omega
        | some z => exact (levF_bound i z (List.mem_of_getElem? hq)).2
      omega
theorem ints_zero {n : Nat} {t : Tok} : IntsAre (List.replicate n [Value.int 0 t]).flatten (List.replicate n 0) := by
  induction n with
  | zero => exact .nil
  | succ n ih => exact .cons 0 t ih
theorem levF_len {ns : List (List Int)} : ∀ i, (levF ns i).length = ns.length
  | 0 => List.length_replicate
  | i + 1 => List.length_map _
theorem Mine.kw61 : True := by
  (k_with "Levels:exec For Name Name cons nil" => ((k_here; k_dflt (refine For_in ?_))))
  trivial
noncomputable def levelsF (gs : List Str) (ns : List (List Int)) : List (List Str) := (List.range ((maxF (levF ns gs.length)).toNat + 1)).map (rowOf gs (levF ns gs.length))
theorem c_levels (w : World) (l1 l2 : Addr) (vs rs : List Value) (gs : List Str) (ns : List (List Int)) (hg : StrsAre vs gs) (hlen : gs.length ≤ 8) (h0 : 0 < gs.length) (hrl : rs.length = gs.length) (hnl : ns.length = gs.length) :
    PCon w 236 [.ref l1, .ref l2] 5 600 (fun h => h.IsList l1 vs.toArray ∧ h.IsList l2 rs.toArray ∧ ∀ (i : Nat) (r : List Int), ns[i]? = some r → ∃ (a : Addr) (zs : Array Value), rs[i]? = some (Value.ref a) ∧ h.IsList a zs ∧ IntsAre zs.toList r ∧ r.length ≤ 8 ∧ ∀ x ∈ r, 0 ≤ x ∧ x.toNat < gs.length) (fun v nw => ∃ Rn rvs c, v = .ref Rn ∧ (Rn, W.listOf rvs.toArray c) ∈ nw ∧ RowsAt nw rvs (levelsF gs ns)) := by
  intro mean mg mb dp un gd cn cs a' ccd cl outer A₀ base h₀ L m s Q E B F X T hk hd' hu hpre ret
  refine wpAny_call ?_
  k_dflt cell_call
  (rename GSub _ _ _ => GS)
  (rename Fr _ _ _ _ => F1)
  (rename News _ _ _ _ => N1)
  have hL1 := hpre.1.at fun o e => GS _ _ e (by simp)
  have hL2 := hpre.2.1.at fun o e => GS _ _ e (by simp)
  have hrows : ∀ (i : Nat) (r : List Int), ns[i]? = some r → ∃ (a : Addr) (zs : Array Value), rs[i]? = some (Value.ref a) ∧ _ ∧ IntsAre zs.toList r ∧ r.length ≤ 8 ∧ ∀ x ∈ r, 0 ≤ x ∧ x.toNat < gs.length := fun i r h => by
    (have z6 := (hpre.2.2 i r h); refine Mine.e2_3 z6 ?_; intro a zs g1 g2 g3; (try clear z6))
    exact ⟨a, zs, g1, g2.at fun o e => GS _ _ e (by simp), g3⟩
  iterate 20 one_sign
  (rename News _ _ _ _ => N2)
  (rename Fr _ _ _ _ => F2)
  obtain ⟨L9, eL9⟩ := fr_loc F2
  subst eL9
  have N3 := news_sub N2 (nw' := [_, _, _]) fun q hq => by
    simp only [List.mem_cons, List.not_mem_nil, or_false] at hq
    rcases hq with h | h | h
    · exact h ▸ List.mem_cons_self
    · exact h ▸ List.mem_cons_of_mem _ (List.mem_cons_of_mem _ List.mem_cons_self)
    · exact h ▸ List.mem_cons_of_mem _ (List.mem_cons_of_mem _ (List.mem_cons_of_mem _ List.mem_cons_self))
  (have z7 := (id hL1); refine Mine.e1_3 z7 ?_; intro lo hlo1 hlo2 hlo3; (try clear z7))
  k_dflt (refine loop_list (LvJ L9 l2 _ ns) rfl F2 N3 ⟨lo, hlo2, hlo3, Or.inl hlo1⟩ ⟨rfl, _, _, _, _, rfl, by assumption, ?z0, ?zd⟩ ?turn ?last)
  case z0 =>
    show IntsAre _ (List.replicate ns.length 0)
    rw [hnl]
    simpa using ints_zero
  case zd =>
    exact Nat.ne_of_lt (by omega)
  case turn =>
    (intro i x m nw oI h tk E' hx z8h; refine Mine.e0_2 z8h ?_; intro e1 z8r; (try clear z8h); (refine Mine.e4_4 z8r ?_; intro D ws n oL z8rx4 hoL hws hLD; (try clear z8r); (rcases z8rx4 with rfl)); intro ho F4 N4)
    have F5 := fr_pin (Str.ofString "needs") F4 e1
    clear F2 N2 N3 F4
    (have z9 := (id hL2); refine Mine.e1_3 z9 ?_; intro lr hlr1 hlr2 hlr3; (try clear z9))
    iterate 6 one_sign
    (rename Fr _ _ _ _ => F6)
    (rename News _ _ _ _ => N6)
    k_dflt (refine comp_of (blk_list (items := rs.toArray) (fun k ys nw => nw = _ ∧ IntsAre ys ((ns.take k).map fun r => maxF (r.map fun x => (levF ns i).getD x.toNat 0 + 1)) ∧ ys.length ≤ k) rfl (by decide) rfl rfl (by rw [List.size_toArray]; omega) F6 N6 ⟨lr, hlr2, hlr3, Or.inl hlr1⟩ ⟨rfl, .nil, Nat.le_refl _⟩ (fun i ys nw h => h.2.2) ?cturn fun _ => ⟨_, rfl⟩) ?fin)
    case cturn =>
      (intro k v ys nw It oI2 C oC D9 m₂ h tk E' hv hm₂ hC z10h; refine Mine.e0_3 z10h ?_; intro z10x0 hys hyl; (try clear z10h); (rcases z10x0 with rfl); intro ho9 F7 N7)
      have hkl : k < ns.length := by
        have := (Array.getElem?_eq_some_iff.mp hv).1
        rw [List.size_toArray] at this
        omega
      (have z11 := (hrows k ns[k] (List.getElem?_eq_getElem hkl)); refine Mine.e2_5 z11 ?_; intro ar zs g1 g2 g3 hr8 hrn; (try clear z11))
      have hvv : v = .ref ar := by
        rw [List.getElem?_toArray, g1] at hv
        exact (Option.some.inj hv).symm
      subst hvv
      (have z12 := (id g2); refine Mine.e1_3 z12 ?_; intro lz hz1 hz2 hz3; (try clear z12))
      have hzl : zs.size = ns[k].length := by rw [← g3.length, Array.length_toList]
      have hll := levF_len (ns := ns) i
      have hwl := hws.length
      rw [Array.length_toList] at hwl
      iterate 9 one_sign
      (rename Fr _ _ _ _ => F8)
      (rename News _ _ _ _ => N8)
      k_dflt (refine comp_of (blk_list (items := zs) (fun j ys nw => nw = _ ∧ IntsAre ys ((ns[k].take j).map fun x => (levF ns i).getD x.toNat 0 + 1) ∧ ys.length ≤ j) rfl (by decide) rfl rfl (by omega) F8 N8 ⟨lz, hz2, hz3, Or.inl hz1⟩ ⟨rfl, .nil, Nat.le_refl _⟩ (fun i ys nw h => h.2.2) ?ct2 fun _ => ⟨_, rfl⟩) ?fin2)
      case ct2 =>
        (intro j v2 ys2 nw2 It2 oI3 C2 oC2 D2 m₃ h2 tk2 E2 hv2 hm₃ hC2 z13h; refine Mine.e0_3 z13h ?_; intro z13x0 hys2 hyl2; (try clear z13h); (rcases z13x0 with rfl); intro ho2 F10 N10)
        (have z14 := (ints_at g3 (show zs.toList[j]? = some v2 from by rw [Array.getElem?_toList]; exact hv2)); refine Mine.e2_2 z14 ?_; intro x tx z14x2 hxr; (try clear z14); (rcases z14x2 with rfl))
        obtain ⟨hx0, hx1⟩ := hrn x (List.mem_of_getElem? hxr)
        iterate 9 one_sign
        refine CE.mk F10 N10 (fun p hp => hp) (fun p hp => by simpa [not_or] using ho2 p hp) ⟨rfl, ?_, by (rw [List.length_append]; exact Nat.succ_le_succ hyl2)⟩
        rw [List.take_add_one, hxr, List.map_append]
        exact ints_snoc hys2
      case fin2 =>
        (intro ys2 nw2 D2 h2 tk2 z15h; refine Mine.e0_3 z15h ?_; intro z15x0 hys2 hyl2; (try clear z15h); (rcases z15x0 with rfl); intro F10 N10 ho2)
        rw [hzl, List.take_length] at hys2
        iterate 8 one_sign
        (rename _ ∈ _ ++ _ => hMi)
        (rename ∀ _, _ ∈ _ ++ _ → _ => hMa)
        have hM := maxF_of hMi hMa
        subst hM
        refine CE.mk (by k_asm) (by k_asm) (fun p hp => List.mem_cons_of_mem _ (List.mem_cons_of_mem _ (List.mem_cons_of_mem _ hp))) (fun p hp => by simpa [not_or] using ho9 p hp) ⟨rfl, ?_, by (rw [List.length_append]; exact Nat.succ_le_succ hyl)⟩
        rw [List.take_add_one, List.getElem?_eq_getElem hkl, List.map_append]
        exact ints_snoc hys
    case fin =>
      (intro ys nw D9 h tk z16h; refine Mine.e0_3 z16h ?_; intro z16x0 hys hyl; (try clear z16h); (rcases z16x0 with rfl); intro F7 N7 ho9)
      have n9 : @Ne Nat (L9 + 1 + 1) D9 := ho9 (L9 + 1 + 1, oL) (by simp)
      have n8 := natNe (ho (L9 + 1 + 1, oL) (by simp))
      dsimp only at n8 N7
      have hysl : rs.toArray.size = ns.length := by rw [List.size_toArray]; omega
      rw [hysl, List.take_length] at hys
      iterate 2 one_sign
      (rename _ = Data.cell _ => hcell9)
      refine TL.next (nw := [(D9, lst ys), (L9 + 1 + 1, _), (L9 + 1, _)]) (by k_asm) (by k_asm) (fun p hp => ?_) (fun p hp => ?_) ⟨rfl, D9, ys.toArray, _, _, rfl, hcell9, hys, n9⟩
      · simp only [List.cons_append, List.nil_append, List.mem_cons, List.not_mem_nil, or_false] at hp ⊢
        rcases hp with h | h | h | h <;> simp only [h, true_or, or_true]
      · simp only [List.map_cons, List.map_nil, List.mem_singleton]
        simp only [List.mem_cons, List.not_mem_nil, or_false] at hp
        rcases hp with h | h | h <;> rw [h]
        · exact Ne.symm (ho9 _ List.mem_cons_self)
        · exact n8
        · exact ho (L9 + 1, _) (by simp)
  case last =>
    (intro m nw h tk E' z17h; refine Mine.e0_2 z17h ?_; intro e1 z17r; (try clear z17h); (refine Mine.e4_4 z17r ?_; intro D ws n oL z17rx4 hoL hws hLD; (try clear z17r); (rcases z17rx4 with rfl)); intro F4 N4)
    have F5 := fr_pin (Str.ofString "needs") F4 e1
    clear F2 N2 N3 F4
    iterate 15 one_sign
    (rename Fr _ _ _ _ => F6)
    (rename News _ _ _ _ => N6)
    rw [List.size_toArray, hg.length] at hws
    have hll := levF_len (ns := ns) gs.length
    refine kso_max (vs := ws.toList) F6 N6 ⟨_, (N6 _ List.mem_cons_self).1, rfl, n, by simp⟩ hws (by omega) rfl ?_
    intro h7 M tM tk7 F7 N7 hMi hMa
    obtain ⟨hM0, hM8⟩ := levF_bound gs.length M hMi
    obtain ⟨K, rfl⟩ : ∃ K : Nat, M = (K : Int) := ⟨M.toNat, by omega⟩
    clear F6 N6
    iterate 4 one_sign
    (rename IsRange _ _ _ _ _ _ _ _ => R1)
    (rename Fr _ _ _ _ => F8)
    (rename News _ _ _ _ => N8)
    rw [show ((K : Int) + 1) = ((K + 1 : Nat) : Int) from rfl] at R1
    obtain ⟨BB, N9, gD, gL, gN⟩ : ∃ BB, News _ _ _ BB ∧ (D, W.listOf ws n) ∈ BB ∧ (L9 + 1 + 1, oL) ∈ BB ∧ (L9 + 1, _) ∈ BB := ⟨_, N8, by simp, by simp, List.mem_cons_of_mem _ (List.mem_cons_of_mem _ List.mem_cons_self)⟩
    k_dflt (refine comp_of (blk_rangeK (n := K + 1) (news := BB) (fun k ys nw => ∃ RL, nw = RL ++ BB ∧ RowsAt RL ys ((List.range k).map (rowOf gs (levF ns gs.length))) ∧ ys.length ≤ k) rfl (fun _ => rfl) (fun _ => rfl) rfl rfl (by omega) F8 N9 R1 ⟨[], rfl, ⟨rfl, fun i v hv => by simp at hv⟩, Nat.le_refl _⟩ (fun i ys nw h => by (have z18 := h; clear h; refine Mine.e1_3 z18 ?_; intro _ _ _ h; (try clear z18)); exact h) ?oturn fun _ => ⟨_, rfl⟩) ?ofin)
    case oturn =>
      (intro k tk0 ys nw It oI C oC KA oK D9 m₂ h tk E' hk hoK hC z19h; refine Mine.e1_3 z19h ?_; intro RL z19x1 hrw hyl; (try clear z19h); (rcases z19x1 with rfl); intro ho9 F10 N10)
      iterate 16 one_sign
      have hgl := hg.length
      have hwl := hws.length
      rw [Array.length_toList] at hwl
      have gD2 := List.mem_append_right RL gD
      k_dflt (refine comp_zip (xs := vs.toArray) (ys := ws) (fun j zs nw => nw = _ ∧ StrsAre zs ((((gs.zip (levF ns gs.length)).take j).filter fun p => decide (p.2 = (k : Int))).map (·.1)) ∧ zs.length ≤ j) rfl (by decide) rfl rfl rfl (by decide) (by rw [List.size_toArray]; omega) F10 N10 ⟨lo, hlo2, hlo3, Or.inl hlo1⟩ ⟨W.listOf ws n, rfl, ⟨_, rfl⟩, Or.inr fun i _ nw h => by
        (refine Mine.e1_2 h ?_; intro zs h1 _; (try clear h))
        rw [h1]
        exact List.mem_cons_of_mem _ (List.mem_cons_of_mem _ (List.mem_cons_of_mem _ (List.mem_cons_of_mem _ gD2)))⟩ ⟨rfl, .nil, Nat.le_refl _⟩ (fun i zs nw h => h.2.2) ?iturn ?ifin)
      case iturn =>
        (intro j x y zs nw its oC2 m₃ C2 D2 h2 tk2 E2 hx hy hm1 hm2 hC2 z21h; refine Mine.e0_3 z21h ?_; intro z21x0 hzs hzl; (try clear z21h); (rcases z21x0 with rfl); intro he hoi F11 N11)
        (have z22 := (strs_at hg (by simpa using hx)); refine Mine.e2_2 z22 ?_; intro p tp z22x2 hp; (try clear z22); (rcases z22x2 with rfl))
        (have z23 := (ints_at hws (show ws.toList[j]? = some y from by rw [Array.getElem?_toList]; exact hy)); refine Mine.e2_2 z23 ?_; intro l tl z23x2 hl; (try clear z23); (rcases z23x2 with rfl))
        (have z24 := (five_of he); refine Mine.e5_1 z24 ?_; intro i1 i2 i3 i4 i5 z24x5; (try clear z24); (rcases z24x5 with rfl))
        simp only [List.cons_append, List.nil_append] at N11
        have hz : (gs.zip (levF ns gs.length))[j]? = some (p, l) := List.getElem?_zip_eq_some.mpr ⟨hp, hl⟩
        refine wpAny_tests_one ?_
        iterate 7 one_sign
        · (rename _ = (k : Int) => hlk)
          refine CE.mk F11 N11 (fun p hp => hp) hoi ⟨rfl, ?_, by (rw [List.length_append]; exact Nat.succ_le_succ hzl)⟩
          rw [row_succ hz, if_pos hlk]
          exact strs_snoc hzs
        · (rename _ ≠ (k : Int) => hlk)
          refine CE.mk F11 N11 (fun p hp => hp) hoi ⟨rfl, ?_, Nat.le_succ_of_le hzl⟩
          rw [row_succ hz, if_neg hlk, List.append_nil]
          exact hzs
      case ifin =>
        (intro zs nw D2 h2 tk2 z25h; refine Mine.e0_3 z25h ?_; intro z25x0 hzs hzl; (try clear z25h); (rcases z25x0 with rfl); intro F11 N11 hoi)
        rw [List.size_toArray] at hzl hzs
        rw [List.take_of_length_le (by rw [List.length_zip]; omega)] at hzs
        iterate 1 one_sign
        refine sorted_seq_str (.inl rfl) F11 N11 List.mem_cons_self rfl rfl (ss := rowOf gs (levF ns gs.length) k) (by unfold rowOf; simpa using hzs) (by rw [List.size_toArray]; omega) ?_
        intro D19 h19 vs19 ss19 e19 F19 N19 off19 hs19 hp19 ho19
        refine CE.mk (nw := (D19, W.listOf vs19.toArray e19) :: (RL ++ BB)) F19 N19 (fun p hp => ?_) (fun p hp => ?_) ⟨(D19, W.listOf vs19.toArray e19) :: RL, rfl, ?_, by (rw [List.length_append]; exact Nat.succ_le_succ hyl)⟩
        · simp only [List.cons_append, List.nil_append, List.mem_cons] at hp ⊢
          rcases hp with h | h | h | h | h | h <;> simp only [h, true_or, or_true]
        · simp only [List.map_cons, List.map_nil, List.mem_cons, List.not_mem_nil, or_false, not_or]
          rcases List.mem_cons.mp hp with rfl | hp
          · exact ⟨Ne.symm (off19 (It, oI) (by simp)), Ne.symm (off19 (C, oC) (by simp)), Ne.symm (off19 (KA, oK) (by simp)), Ne.symm (off19 (D9, lst ys) (by simp))⟩
          · exact ho9 p hp
        · rw [List.range_succ, List.map_append]
          exact (hrw.more fun p hp => List.mem_cons_of_mem _ hp).snoc List.mem_cons_self (by simpa using hs19) hp19 ho19
    case ofin =>
      (intro ys nw D9 h tk z26h; refine Mine.e1_3 z26h ?_; intro RL z26x1 hrw hyl; (try clear z26h); (rcases z26x1 with rfl); intro F10 N10 ho9)
      have hKm := maxF_of (List.mem_append_left _ hMi) (fun a ha => by
        rcases List.mem_append.mp ha with ha | ha
        · exact hMa a ha
        · rw [List.mem_singleton.mp ha]; exact hM0)
      isplit
      refine pret ret (by assumption) (by assumption) (by assumption) (by assumption) (by assumption) ⟨D9, ys, ys.length, rfl, List.mem_cons_self, ?_⟩
      unfold levelsF
      rw [← hKm, Int.toNat_natCast]
      exact hrw.more fun p hp => List.mem_cons_of_mem _ (List.mem_append_left _ hp)
end Mine
end
namespace Mine
theorem bitAnd_nat (n c : Nat) : Builtin.bitAnd (n : Int) (c : Int) = ((n &&& c : Nat) : Int) := by
  unfold Builtin.bitAnd
  simp
theorem pickC_mask {n m i : Nat} (hi : i ≠ 0) : ∀ {ps : List (Addr × Int × Str)}, (ps.all fun r => decide (0 ≤ r.2.1) && decide (r.2.1.toNat &&& m = r.2.1.toNat)) = true → pickC (n : Int) i ps = pickC ((n &&& m : Nat) : Int) i ps := by
  intro ps h
  have hh : ∀ r ∈ ps, hits (n : Int) i r.2.1 = hits ((n &&& m : Nat) : Int) i r.2.1 := fun r hr => by
    have h1 := List.all_eq_true.mp h r hr
    simp only [Bool.and_eq_true, decide_eq_true_eq] at h1
    obtain ⟨h2, h3⟩ := h1
    obtain ⟨c, hc⟩ : ∃ c : Nat, r.2.1 = (c : Int) := ⟨r.2.1.toNat, by omega (splitDisjunctions := true)⟩
    rw [hc] at h3 ⊢
    rw [Int.toNat_natCast] at h3
    unfold hits
    rw [if_neg hi, if_neg hi, bitAnd_nat, bitAnd_nat, Nat.and_assoc, Nat.and_comm m c, h3]
  have hf : ∀ {l : List (Addr × Int × Str)}, (∀ r ∈ l, hits (n : Int) i r.2.1 = hits ((n &&& m : Nat) : Int) i r.2.1) → l.find? (fun r => hits (n : Int) i r.2.1) = l.find? (fun r => hits ((n &&& m : Nat) : Int) i r.2.1) := by
    intro l
    induction l with
    | nil => exact fun _ => rfl
    | cons x r ih =>
      intro hl
      rw [List.find?_cons, List.find?_cons, hl x List.mem_cons_self, ih fun y hy => hl y (List.mem_cons_of_mem _ hy)]
  unfold pickC
  rw [hf hh]
theorem low12 {n m : Nat} (hm : 4095 &&& m = m) : n &&& m = (n % 4096) &&& m := by
  have h : n % 4096 = n &&& 4095 := by
    have := Nat.and_two_pow_sub_one_eq_mod n 12
    simpa using this.symm
  rw [h, Nat.and_assoc, hm]
theorem all_lt {f : Nat → Bool} : ∀ {n : Nat}, (List.range n).all f = true → ∀ i, i < n → f i = true := fun h i hi => List.all_eq_true.mp h i (List.mem_range.mpr hi)
theorem m1 : (List.range 4096).all (fun n => decide (n &&& 2496 = 64 * (n / 64 % 8) + 2048 * (n / 2048 % 2))) = true := by decide +kernel
theorem m2 : (List.range 4096).all (fun n => decide (n &&& 1080 = 8 * (n / 8 % 8) + 1024 * (n / 1024 % 2))) = true := by decide +kernel
theorem m3 : (List.range 4096).all (fun n => decide (n &&& 519 = n % 8 + 512 * (n / 512 % 2))) = true := by decide +kernel
theorem mask1 (n : Nat) : n &&& 2496 = 64 * (n / 64 % 8) + 2048 * (n / 2048 % 2) := by
  have h := of_decide_eq_true (all_lt m1 (n % 4096) (Nat.mod_lt _ (by decide)))
  rw [low12 (by decide), h]; omega (splitDisjunctions := true)
theorem mask2 (n : Nat) : n &&& 1080 = 8 * (n / 8 % 8) + 1024 * (n / 1024 % 2) := by
  have h := of_decide_eq_true (all_lt m2 (n % 4096) (Nat.mod_lt _ (by decide)))
  rw [low12 (by decide), h]; omega (splitDisjunctions := true)
theorem mask3 (n : Nat) : n &&& 519 = n % 8 + 512 * (n / 512 % 2) := by
  have h := of_decide_eq_true (all_lt m3 (n % 4096) (Nat.mod_lt _ (by decide)))
  rw [low12 (by decide), h]; omega (splitDisjunctions := true)
theorem mask0 {n : Nat} (hn : n < 65536) : n &&& 61440 = 4096 * (n / 4096) := by
  have h : n &&& (15 <<< 12) = ((n >>> 12) &&& 15) <<< 12 := by
    apply Nat.eq_of_testBit_eq
    intro j
    simp only [Nat.testBit_and, Nat.testBit_shiftLeft, Nat.testBit_shiftRight]
    by_cases hj : 12 ≤ j
    · rw [show 12 + (j - 12) = j by omega (splitDisjunctions := true)]
      simp [hj]
    · simp [hj]
  rw [show (61440 : Nat) = 15 <<< 12 by decide, h, Nat.shiftLeft_eq, Nat.shiftRight_eq_div_pow]
  have h2 : n / 2 ^ 12 &&& 15 = n / 2 ^ 12 % 16 := Nat.and_two_pow_sub_one_eq_mod (n / 2 ^ 12) 4
  rw [h2]
  omega (splitDisjunctions := true)
theorem pickC_kind {n : Nat} (hn : n < 65536) {ps : List (Addr × Int × Str)} : pickC (n : Int) 0 ps = pickC ((4096 * (n / 4096) : Nat) : Int) 0 ps := by
  have hh : ∀ b, hits (n : Int) 0 b = hits ((4096 * (n / 4096) : Nat) : Int) 0 b := fun b => by
    have e : (61440 : Int) = ((61440 : Nat) : Int) := rfl
    unfold hits
    rw [if_pos rfl, if_pos rfl, e, bitAnd_nat, bitAnd_nat, mask0 hn, mask0 (by omega (splitDisjunctions := true))]
    congr 2
    omega (splitDisjunctions := true)
  unfold pickC
  simp only [hh]
theorem fdiv_nat (n k : Nat) : (n : Int).fdiv (k : Int) = ((n / k : Nat) : Int) := by
  rw [Int.fdiv_eq_ediv_of_nonneg _ (Int.natCast_nonneg k)]; rfl
theorem fmod_nat (n k : Nat) : (n : Int).fmod (k : Int) = ((n % k : Nat) : Int) := by
  rw [Int.fmod_eq_emod_of_nonneg _ (Int.natCast_nonneg k)]; rfl
noncomputable abbrev P0 : List (Addr × Int × Str) := [(163, 40960, Str.ofString "l"), (164, 49152, Str.ofString "s"), (165, 32768, Str.ofString "-"), (166, 24576, Str.ofString "b"), (167, 16384, Str.ofString "d"), (168, 8192, Str.ofString "c"), (169, 4096, Str.ofString "p")]
theorem k0 : ∀ a : Fin 16, pickC ((4096 * a.val : Nat) : Int) 0 P0 = pickS ((a.val : Nat) : Int) kindD (Str.ofString "?") := by decide +kernel
theorem o1 : ∀ u : Fin 8, ∀ v : Fin 2, pickC ((64 * u.val + 2048 * v.val : Nat) : Int) 1 [(171, 256, Str.ofString "r")] = Txt.item (Str.ofString "-r") ((u.val / 4 : Nat) : Int) := by decide +kernel
theorem o2 : ∀ u : Fin 8, ∀ v : Fin 2, pickC ((64 * u.val + 2048 * v.val : Nat) : Int) 2 [(173, 128, Str.ofString "w")] = Txt.item (Str.ofString "-w") ((u.val / 2 % 2 : Nat) : Int) := by decide +kernel
theorem o3 : ∀ u : Fin 8, ∀ v : Fin 2, pickC ((64 * u.val + 2048 * v.val : Nat) : Int) 3 [(175, 2112, Str.ofString "s"), (176, 2048, Str.ofString "S"), (177, 64, Str.ofString "x")] = Txt.item (Str.ofString "-xSs") ((v.val * 2 + u.val % 2 : Nat) : Int) := by decide +kernel
theorem g1 : ∀ u : Fin 8, ∀ v : Fin 2, pickC ((8 * u.val + 1024 * v.val : Nat) : Int) 4 [(179, 32, Str.ofString "r")] = Txt.item (Str.ofString "-r") ((u.val / 4 : Nat) : Int) := by decide +kernel
theorem g2 : ∀ u : Fin 8, ∀ v : Fin 2, pickC ((8 * u.val + 1024 * v.val : Nat) : Int) 5 [(181, 16, Str.ofString "w")] = Txt.item (Str.ofString "-w") ((u.val / 2 % 2 : Nat) : Int) := by decide +kernel
theorem g3 : ∀ u : Fin 8, ∀ v : Fin 2, pickC ((8 * u.val + 1024 * v.val : Nat) : Int) 6 [(183, 1032, Str.ofString "s"), (184, 1024, Str.ofString "S"), (185, 8, Str.ofString "x")] = Txt.item (Str.ofString "-xSs") ((v.val * 2 + u.val % 2 : Nat) : Int) := by decide +kernel
theorem a1 : ∀ u : Fin 8, ∀ v : Fin 2, pickC ((u.val + 512 * v.val : Nat) : Int) 7 [(187, 4, Str.ofString "r")] = Txt.item (Str.ofString "-r") ((u.val / 4 : Nat) : Int) := by decide +kernel
theorem a2 : ∀ u : Fin 8, ∀ v : Fin 2, pickC ((u.val + 512 * v.val : Nat) : Int) 8 [(189, 2, Str.ofString "w")] = Txt.item (Str.ofString "-w") ((u.val / 2 % 2 : Nat) : Int) := by decide +kernel
theorem a3 : ∀ u : Fin 8, ∀ v : Fin 2, pickC ((u.val + 512 * v.val : Nat) : Int) 9 [(191, 513, Str.ofString "t"), (192, 512, Str.ofString "T"), (193, 1, Str.ofString "x")] = Txt.item (Str.ofString "-xTt") ((v.val * 2 + u.val % 2 : Nat) : Int) := by decide +kernel
theorem join10 (c0 c1 c2 c3 c4 c5 c6 c7 c8 c9 : Str) : Txt.join (Str.ofString "") [c0, c1, c2, c3, c4, c5, c6, c7, c8, c9] = c0 ++ c1 ++ c2 ++ c3 ++ c4 ++ c5 ++ c6 ++ c7 ++ c8 ++ c9 := by
  have he : (Str.ofString "").cps = #[] := by decide
  unfold Txt.join Builtin.Str.glued
  rw [he]
  simp only [List.drop_succ_cons, List.drop_zero, List.foldl_cons, List.foldl_nil, Array.append_empty, List.headD_cons]
  rfl
/-- both readings of a mode -/
theorem mode_signs {n : Nat} (hn : n < 65536) : fmodeF (n : Int) = signsF (n : Int) := by
  have h0 : fmodeF (n : Int) = Txt.join (Str.ofString "") [pickC n 0 P0, pickC n 1 [(171, 256, Str.ofString "r")], pickC n 2 [(173, 128, Str.ofString "w")], pickC n 3 [(175, 2112, Str.ofString "s"), (176, 2048, Str.ofString "S"), (177, 64, Str.ofString "x")], pickC n 4 [(179, 32, Str.ofString "r")], pickC n 5 [(181, 16, Str.ofString "w")], pickC n 6 [(183, 1032, Str.ofString "s"), (184, 1024, Str.ofString "S"), (185, 8, Str.ofString "x")], pickC n 7 [(187, 4, Str.ofString "r")], pickC n 8 [(189, 2, Str.ofString "w")], pickC n 9 [(191, 513, Str.ofString "t"), (192, 512, Str.ofString "T"), (193, 1, Str.ofString "x")]] := rfl
  have hu1 : n / 64 % 8 < 8 := Nat.mod_lt _ (by decide)
  have hu2 : n / 8 % 8 < 8 := Nat.mod_lt _ (by decide)
  have hu3 : n % 8 < 8 := Nat.mod_lt _ (by decide)
  have hv1 : n / 2048 % 2 < 2 := Nat.mod_lt _ (by decide)
  have hv2 : n / 1024 % 2 < 2 := Nat.mod_lt _ (by decide)
  have hv3 : n / 512 % 2 < 2 := Nat.mod_lt _ (by decide)
  rw [h0, pickC_kind hn, pickC_mask (i := 1) (m := 2496) (by decide) (by decide), pickC_mask (i := 2) (m := 2496) (by decide) (by decide), pickC_mask (i := 3) (m := 2496) (by decide) (by decide),
    pickC_mask (i := 4) (m := 1080) (by decide) (by decide), pickC_mask (i := 5) (m := 1080) (by decide) (by decide), pickC_mask (i := 6) (m := 1080) (by decide) (by decide),
    pickC_mask (i := 7) (m := 519) (by decide) (by decide), pickC_mask (i := 8) (m := 519) (by decide) (by decide), pickC_mask (i := 9) (m := 519) (by decide) (by decide), mask1, mask2, mask3,
    k0 ⟨n / 4096, by omega (splitDisjunctions := true)⟩, o1 ⟨_, hu1⟩ ⟨_, hv1⟩, o2 ⟨_, hu1⟩ ⟨_, hv1⟩, o3 ⟨_, hu1⟩ ⟨_, hv1⟩, g1 ⟨_, hu2⟩ ⟨_, hv2⟩, g2 ⟨_, hu2⟩ ⟨_, hv2⟩, g3 ⟨_, hu2⟩ ⟨_, hv2⟩, a1 ⟨_, hu3⟩ ⟨_, hv3⟩, a2 ⟨_, hu3⟩ ⟨_, hv3⟩, a3 ⟨_, hu3⟩ ⟨_, hv3⟩, join10]
  have e : ∀ k : Nat, (n : Int).fdiv (k : Int) = ((n / k : Nat) : Int) := fdiv_nat n
  have e1 : (n : Int).fdiv 1 = ((n : Nat) : Int) := by have := fdiv_nat n 1; rwa [Nat.div_one] at this
  have f8 : ∀ k : Nat, (k : Int).fmod 8 = ((k % 8 : Nat) : Int) := fun k => fmod_nat k 8
  have f2 : ∀ k : Nat, (k : Int).fmod 2 = ((k % 2 : Nat) : Int) := fun k => fmod_nat k 2
  have d4 : ∀ k : Nat, (k : Int).fdiv 4 = ((k / 4 : Nat) : Int) := fun k => fdiv_nat k 4
  have d2 : ∀ k : Nat, (k : Int).fdiv 2 = ((k / 2 : Nat) : Int) := fun k => fdiv_nat k 2
  have p64 : (n : Int).fdiv 64 = ((n / 64 : Nat) : Int) := fdiv_nat n 64
  have p8 : (n : Int).fdiv 8 = ((n / 8 : Nat) : Int) := fdiv_nat n 8
  have p512 : (n : Int).fdiv 512 = ((n / 512 : Nat) : Int) := fdiv_nat n 512
  have p1024 : (n : Int).fdiv 1024 = ((n / 1024 : Nat) : Int) := fdiv_nat n 1024
  have p2048 : (n : Int).fdiv 2048 = ((n / 2048 : Nat) : Int) := fdiv_nat n 2048
  have p4096 : (n : Int).fdiv 4096 = ((n / 4096 : Nat) : Int) := fdiv_nat n 4096
  unfold signsF tripF
  simp only [e1, p64, p8, p512, p1024, p2048, p4096, f8, f2, d4, d2]
  rfl
end Mine
namespace Mine
/-- the nodes with other numbers of predecessors -/
noncomputable def WN (es0 : List NE) (f : Str → Int) : List NE := es0.map fun e => { e with np := f e.key }
theorem WN_keys {es0 : List NE} {f : Str → Int} : (WN es0 f).map (·.key) = es0.map (·.key) := by unfold WN; rw [List.map_map]; rfl
theorem WN_congr {es0 : List NE} {f g : Str → Int} (h : ∀ e ∈ es0, f e.key = g e.key) : WN es0 f = WN es0 g :=
  List.map_congr_left fun e he => by rw [h e he]
theorem setE_WN {es0 : List NE} {f : Str → Int} {k : Str} {h : Int → Int} : setE k (fun e => { e with np := h e.np }) (WN es0 f) = WN es0 (fun x => if x = k then h (f x) else f x) := by
  unfold setE WN
  rw [List.map_map]
  refine List.map_congr_left fun e he => ?_
  show (if e.key = k then _ else _) = _
  by_cases hk : e.key = k
  · rw [if_pos hk]; simp [hk]
  · rw [if_neg hk]; simp [hk]
theorem nodeOf_WN {es0 : List NE} (hn : (es0.map (·.key)).Nodup) {f : Str → Int} {e : NE} (he : e ∈ es0) : nodeOf (WN es0 f) e.key = { e with np := f e.key } := by
  obtain ⟨i, hi⟩ := List.getElem?_of_mem he
  have h1 : (WN es0 f)[i]? = some { e with np := f e.key } := by unfold WN; rw [List.getElem?_map, hi]; rfl
  exact nodeOf_get (by rw [WN_keys]; exact hn) h1
theorem decs_WN {es0 : List NE} (hn : (es0.map (·.key)).Nodup) : ∀ {ss : List Str} {f : Str → Int} {rd : List Str}, ss.Nodup → (∀ s ∈ ss, s ∈ es0.map (·.key)) →
    ss.foldl dec1 (WN es0 f, rd) = (WN es0 (fun x => if x ∈ ss then f x - 1 else f x), rd ++ ss.filter fun s => decide (f s - 1 = 0))
  | [], f, rd, _, _ => by simp
  | s :: r, f, rd, hnd, hin => by
    obtain ⟨h1, h2⟩ := List.nodup_cons.mp hnd
    (have z1 := (List.mem_map.mp (hin s List.mem_cons_self)); refine Mine.e1_2 z1 ?_; intro e he z1x2; (try clear z1); (rcases z1x2 with rfl))
    have hd : dec1 (WN es0 f, rd) e.key = (WN es0 (fun x => if x = e.key then f x - 1 else f x), if f e.key - 1 = 0 then rd ++ [e.key] else rd) := by
      unfold dec1
      rw [nodeOf_WN hn he, setE_WN (h := fun z => z - 1)]
    rw [List.foldl_cons, hd, decs_WN hn h2 fun x hx => hin x (List.mem_cons_of_mem _ hx)]
    refine Prod.ext ?_ ?_
    · dsimp only
      refine WN_congr fun e' he' => ?_
      by_cases hk : e'.key = e.key
      · simp [hk, h1]
      · simp [hk]
    · have hf : (r.filter fun s => decide ((if s = e.key then f s - 1 else f s) - 1 = 0)) = r.filter fun s => decide (f s - 1 = 0) := by
        refine List.filter_congr fun x hx => ?_
        have : x ≠ e.key := fun q => h1 (q ▸ hx)
        rw [if_neg this]
      show _ ++ (r.filter fun s => decide ((if s = e.key then f s - 1 else f s) - 1 = 0)) = _
      rw [hf, List.filter_cons]
      by_cases hz : f e.key - 1 = 0
      · rw [if_pos hz]; simp [hz]
      · rw [if_neg hz]; simp [hz]
/-- the successors of a name -/
noncomputable def suOf (es0 : List NE) (p : Str) : List Str := (nodeOf es0 p).su
noncomputable def cntF (es0 : List NE) (ps : List Str) (x : Str) : Nat := ps.countP fun p => decide (x ∈ suOf es0 p)
theorem suOf_eq {es0 : List NE} (hn : (es0.map (·.key)).Nodup) {e : NE} (he : e ∈ es0) : suOf es0 e.key = e.su := by
  obtain ⟨i, hi⟩ := List.getElem?_of_mem he
  unfold suOf
  rw [nodeOf_get hn hi]
theorem done1_WN {es0 : List NE} (hn : (es0.map (·.key)).Nodup) {f : Str → Int} {rd : List Str} {p : Str} (hp : p ∈ es0.map (·.key)) (hnd : (suOf es0 p).Nodup) (hin : ∀ s ∈ suOf es0 p, s ∈ es0.map (·.key)) (hps : p ∉ suOf es0 p) :
    done1 (WN es0 f, rd) p = (WN es0 (fun x => if x = p then -2 else if x ∈ suOf es0 p then f x - 1 else f x), rd ++ (suOf es0 p).filter fun s => decide (f s - 1 = 0)) := by
  (have z2 := (List.mem_map.mp hp); refine Mine.e1_2 z2 ?_; intro e he z2x2; (try clear z2); (rcases z2x2 with rfl))
  unfold done1 done0
  rw [nodeOf_WN hn he, suOf_eq hn he] at *
  show e.su.foldl dec1 (setE e.key (fun e => { e with np := -2 }) (WN es0 f), rd) = _
  rw [setE_WN (h := fun _ => -2), decs_WN hn hnd hin]
  refine Prod.ext ?_ ?_
  · dsimp only
    refine WN_congr fun e' he' => ?_
    by_cases hk : e'.key = e.key
    · simp [hk, hps]
    · simp [hk]
  · show rd ++ (e.su.filter fun s => decide ((if s = e.key then -2 else f s) - 1 = 0)) = _
    congr 1
    refine List.filter_congr fun x hx => ?_
    rw [if_neg (fun q : x = e.key => hps (q ▸ hx))]
theorem cntF_cons {es0 : List NE} {p x : Str} {r : List Str} : cntF es0 (p :: r) x = cntF es0 r x + if x ∈ suOf es0 p then 1 else 0 := by
  unfold cntF
  rw [List.countP_cons]
  by_cases h : x ∈ suOf es0 p <;> simp [h]
theorem cntF_pos {es0 : List NE} {x : Str} {ps : List Str} (h : 0 < cntF es0 ps x) : ∃ q ∈ ps, x ∈ suOf es0 q := by
  (have z3 := (List.countP_pos_iff.mp h); refine Mine.e1_2 z3 ?_; intro q hq hx; (try clear z3))
  exact ⟨q, hq, by simpa using hx⟩
theorem doneF_WN {es0 : List NE} (hn : (es0.map (·.key)).Nodup) : ∀ {ps : List Str} {f : Str → Int} {rd : List Str}, ps.Nodup → (∀ p ∈ ps, p ∈ es0.map (·.key) ∧ (suOf es0 p).Nodup ∧ ∀ s ∈ suOf es0 p, s ∈ es0.map (·.key) ∧ s ∉ ps) → (∀ x, 0 < cntF es0 ps x → (cntF es0 ps x : Int) ≤ f x) →
    ∃ R, doneF (WN es0 f, rd) ps = (WN es0 (fun x => if x ∈ ps then -2 else f x - cntF es0 ps x), rd ++ R) ∧ R.Nodup ∧ ∀ x, x ∈ R ↔ (0 < cntF es0 ps x ∧ f x = cntF es0 ps x)
  | [], f, rd, _, _, _ => ⟨[], by
      refine Prod.ext ?_ ?_
      · simp only [doneF, List.foldl_nil]
        refine WN_congr fun e he => ?_
        simp [cntF]
      · simp [doneF], .nil, fun x => by simp [cntF]⟩
  | p :: r, f, rd, hnd, hp, hge => by
    obtain ⟨h1, h2⟩ := List.nodup_cons.mp hnd
    (have z4 := (hp p List.mem_cons_self); refine Mine.e0_3 z4 ?_; intro hpk hpn hps; (try clear z4))
    have hpp : p ∉ suOf es0 p := fun h => (hps p h).2 List.mem_cons_self
    have hr : ∀ q ∈ r, q ∈ es0.map (·.key) ∧ (suOf es0 q).Nodup ∧ ∀ s ∈ suOf es0 q, s ∈ es0.map (·.key) ∧ s ∉ r := fun q hq => by
      (have z5 := (hp q (List.mem_cons_of_mem _ hq)); refine Mine.e0_3 z5 ?_; intro a b c; (try clear z5))
      exact ⟨a, b, fun s hs => ⟨(c s hs).1, fun h => (c s hs).2 (List.mem_cons_of_mem _ h)⟩⟩
    have hnp : ∀ x, 0 < cntF es0 r x → x ≠ p := fun x hx q => by
      (have z6 := (cntF_pos hx); refine Mine.e1_2 z6 ?_; intro q' hq' hxs; (try clear z6))
      exact ((hp q' (List.mem_cons_of_mem _ hq')).2.2 x hxs).2 (q ▸ List.mem_cons_self)
    have hpc : cntF es0 r p = 0 := by
      cases hc : cntF es0 r p with
      | zero => rfl
      | succ k => exact absurd rfl (hnp p (by omega))
    have hge' : ∀ x, 0 < cntF es0 r x → (cntF es0 r x : Int) ≤ (if x = p then -2 else if x ∈ suOf es0 p then f x - 1 else f x) := fun x hx => by
      have h3 := hge x (by rw [cntF_cons]; omega)
      rw [cntF_cons] at h3
      rw [if_neg (hnp x hx)]
      by_cases hs : x ∈ suOf es0 p
      · rw [if_pos hs] at h3 ⊢; omega
      · rw [if_neg hs] at h3 ⊢; omega
    (have z7 := (doneF_WN hn (f := fun x => if x = p then -2 else if x ∈ suOf es0 p then f x - 1 else f x) (rd := rd ++ (suOf es0 p).filter fun s => decide (f s - 1 = 0)) h2 hr hge'); refine Mine.e1_3 z7 ?_; intro R2 e2 n2 m2; (try clear z7))
    have m1 : ∀ x, x ∈ ((suOf es0 p).filter fun s => decide (f s - 1 = 0)) ↔ x ∈ suOf es0 p ∧ f x = 1 := fun x => by
      rw [List.mem_filter, decide_eq_true_eq]
      constructor
      · rintro ⟨a, b⟩; exact ⟨a, by omega⟩
      · rintro ⟨a, b⟩; exact ⟨a, by omega⟩
    refine ⟨((suOf es0 p).filter fun s => decide (f s - 1 = 0)) ++ R2, ?_, ?_, fun x => ?_⟩
    · have e1 : doneF (WN es0 f, rd) (p :: r) = doneF (done1 (WN es0 f, rd) p) r := rfl
      rw [e1, done1_WN hn hpk hpn (fun s hs => (hps s hs).1) hpp, e2]
      refine Prod.ext ?_ (by rw [List.append_assoc])
      dsimp only
      refine WN_congr fun e he => ?_
      by_cases hk : e.key = p
      · simp [hk, h1, hpc]
      · by_cases hkr : e.key ∈ r
        · simp [hkr]
        · have hnot : e.key ∉ p :: r := by simp [hk, hkr]
          rw [if_neg hnot, if_neg hkr, if_neg hk, cntF_cons]
          by_cases hs : e.key ∈ suOf es0 p
          · rw [if_pos hs, if_pos hs]; omega
          · rw [if_neg hs, if_neg hs]; omega
    · refine List.nodup_append.mpr ⟨hpn.filter _, n2, fun a ha b hb hab => ?_⟩
      subst hab
      obtain ⟨ha1, ha2⟩ := (m1 a).mp ha
      obtain ⟨hb1, hb2⟩ := (m2 a).mp hb
      have h3 := hge a (by rw [cntF_cons]; omega)
      rw [cntF_cons, if_pos ha1] at h3
      omega
    · rw [List.mem_append, m1, m2, cntF_cons]
      constructor
      · (intro z8h; rcases z8h with (⟨a, b⟩ | ⟨a, b⟩))
        · have h3 := hge x (by rw [cntF_cons, if_pos a]; omega)
          rw [cntF_cons, if_pos a] at h3
          rw [if_pos a]
          omega
        · rw [if_neg (hnp x a)] at b
          by_cases hs : x ∈ suOf es0 p
          · rw [if_pos hs] at b ⊢; omega
          · rw [if_neg hs] at b ⊢; omega
      · rintro ⟨a, b⟩
        by_cases hs : x ∈ suOf es0 p
        · rw [if_pos hs] at a b
          by_cases hc : cntF es0 r x = 0
          · exact .inl ⟨hs, by omega⟩
          · refine .inr ⟨by omega, ?_⟩
            rw [if_neg (hnp x (by omega)), if_pos hs]; omega
        · rw [if_neg hs] at a b
          refine .inr ⟨by omega, ?_⟩
          rw [if_neg (hnp x (by omega)), if_neg hs]; omega
theorem outE_WN {es0 : List NE} : ∀ {ps : List Str} {f : Str → Int}, outE (WN es0 f) ps = WN es0 (fun x => if x ∈ ps then -1 else f x)
  | [], f => by simp [outE]
  | p :: r, f => by
    have e1 : outE (WN es0 f) (p :: r) = outE (setE p (fun e => { e with np := -1 }) (WN es0 f)) r := rfl
    rw [e1, setE_WN (h := fun _ => -1), outE_WN]
    refine WN_congr fun e he => ?_
    by_cases h1 : e.key ∈ r
    · simp [h1]
    · by_cases h2 : e.key = p
      · simp [h1, h2]
      · simp [h1, h2]
/-- the nodes' levels -/
structure Lv (es0 : List NE) (lev : Str → Nat) : Prop where
  hn : (es0.map (·.key)).Nodup
  sn : ∀ p ∈ es0.map (·.key), (suOf es0 p).Nodup ∧ ∀ s ∈ suOf es0 p, s ∈ es0.map (·.key) ∧ lev p < lev s
  up : ∀ s ∈ es0.map (·.key), 0 < lev s → ∃ p ∈ es0.map (·.key), s ∈ suOf es0 p ∧ lev p + 1 = lev s
noncomputable def cge (es0 : List NE) (lev : Str → Nat) (r : Nat) (x : Str) : Nat := (es0.map (·.key)).countP fun p => decide (r ≤ lev p) && decide (x ∈ suOf es0 p)
noncomputable def npR (es0 : List NE) (lev : Str → Nat) (r : Nat) (x : Str) : Int := if lev x < r then -2 else (cge es0 lev r x : Int)
theorem cnt_at {es0 : List NE} {lev : Str → Nat} (H : Lv es0 lev) {r : Nat} {rd : List Str} (hnd : rd.Nodup) (hrd : ∀ x, x ∈ rd ↔ x ∈ es0.map (·.key) ∧ lev x = r) (x : Str) : cntF es0 rd x + cge es0 lev (r + 1) x = cge es0 lev r x := by
  have hp : rd.Perm ((es0.map (·.key)).filter fun p => decide (lev p = r)) := by
    refine (List.perm_ext_iff_of_nodup hnd (H.hn.filter _)).mpr fun y => ?_
    rw [hrd, List.mem_filter, decide_eq_true_eq]
  have h1 : cntF es0 rd x = (es0.map (·.key)).countP fun p => decide (lev p = r) && decide (x ∈ suOf es0 p) := by
    unfold cntF
    rw [hp.countP_eq, List.countP_filter]
    refine List.countP_congr fun y _ => ?_
    simp [Bool.and_comm]
  rw [h1]
  unfold cge
  generalize es0.map (·.key) = ks
  induction ks with
  | nil => rfl
  | cons k ks ih =>
    rw [List.countP_cons, List.countP_cons, List.countP_cons]
    by_cases hs : x ∈ suOf es0 k
    · by_cases hl : lev k = r
      · simp only [hs, hl, decide_true, Bool.and_true, Nat.le_refl, if_true, show ¬ r + 1 ≤ r by omega, decide_false, Bool.false_and, Bool.false_eq_true, if_false]
        omega
      · by_cases hl2 : r ≤ lev k
        · simp only [hs, hl, hl2, decide_true, Bool.and_true, if_true, show r + 1 ≤ lev k by omega, decide_false, Bool.false_eq_true, if_false]
          omega
        · simp only [hs, hl, hl2, decide_true, Bool.and_true, show ¬ r + 1 ≤ lev k by omega, decide_false, Bool.false_eq_true, if_false]
          omega
    · simp only [hs, decide_false, Bool.and_false, Bool.false_eq_true, if_false]
      omega
theorem cge_zero {es0 : List NE} {lev : Str → Nat} (H : Lv es0 lev) {r : Nat} {x : Str} (hx : lev x ≤ r) : cge es0 lev r x = 0 := by
  unfold cge
  rw [List.countP_eq_zero]
  intro p hp h
  simp only [Bool.and_eq_true, decide_eq_true_eq] at h
  have := ((H.sn p hp).2 x h.2).2
  omega
section
variable {es0 : List NE} {lev : Str → Nat} {r : Nat} {rd : List Str}
theorem rd_su (H : Lv es0 lev) (hrd : ∀ x, x ∈ rd ↔ x ∈ es0.map (·.key) ∧ lev x = r) {qs : List Str} (hq : ∀ q ∈ qs, q ∈ rd) : ∀ p ∈ qs, p ∈ es0.map (·.key) ∧ (suOf es0 p).Nodup ∧ ∀ s ∈ suOf es0 p, s ∈ es0.map (·.key) ∧ s ∉ qs := fun p hp => by
  obtain ⟨h1, h2⟩ := (hrd p).mp (hq p hp)
  obtain ⟨h3, h4⟩ := H.sn p h1
  refine ⟨h1, h3, fun s hs => ⟨(h4 s hs).1, fun h => ?_⟩⟩
  have := ((hrd s).mp (hq s h)).2
  have := (h4 s hs).2
  omega
theorem cnt_lev (H : Lv es0 lev) (hrd : ∀ x, x ∈ rd ↔ x ∈ es0.map (·.key) ∧ lev x = r) {qs : List Str} (hq : ∀ q ∈ qs, q ∈ rd) {x : Str} (hx : 0 < cntF es0 qs x) : x ∈ es0.map (·.key) ∧ r < lev x := by
  (have z9 := (cntF_pos hx); refine Mine.e1_2 z9 ?_; intro q hqq hs; (try clear z9))
  obtain ⟨h1, h2⟩ := (hrd q).mp (hq q hqq)
  obtain ⟨h3, h4⟩ := (H.sn q h1).2 x hs
  exact ⟨h3, by omega⟩
theorem round_step (H : Lv es0 lev) (hnd : rd.Nodup) (hrd : ∀ x, x ∈ rd ↔ x ∈ es0.map (·.key) ∧ lev x = r) :
    (doneF (outE (WN es0 (npR es0 lev r)) rd, []) rd).1 = WN es0 (npR es0 lev (r + 1)) ∧ (doneF (outE (WN es0 (npR es0 lev r)) rd, []) rd).2.Nodup ∧
    (∀ x, x ∈ (doneF (outE (WN es0 (npR es0 lev r)) rd, []) rd).2 ↔ x ∈ es0.map (·.key) ∧ lev x = r + 1) ∧
    ∀ i p, rd[i]? = some p → (nodeOf (doneF (outE (WN es0 (npR es0 lev r)) rd, []) (rd.take i)).1 p).np = -1 := by
  have hge : ∀ {qs : List Str}, (∀ q ∈ qs, q ∈ rd) → (∀ x, cntF es0 qs x ≤ cntF es0 rd x) → ∀ x, 0 < cntF es0 qs x → (cntF es0 qs x : Int) ≤ (if x ∈ rd then -1 else npR es0 lev r x) := fun hq hle x hx => by
    obtain ⟨h1, h2⟩ := cnt_lev H hrd hq hx
    have h3 : x ∉ rd := fun h => by have := ((hrd x).mp h).2; omega
    rw [if_neg h3]
    unfold npR
    rw [if_neg (by omega)]
    have := cnt_at H hnd hrd x
    have := hle x
    omega
  rw [outE_WN]
  refine ⟨?_, ?_⟩
  · (have z10 := (doneF_WN H.hn (f := fun x => if x ∈ rd then -1 else npR es0 lev r x) (rd := []) hnd (rd_su H hrd fun _ h => h) (hge (fun _ h => h) fun _ => Nat.le_refl _)); refine Mine.e1_3 z10 ?_; intro R e n m; (try clear z10))
    rw [e]
    dsimp only
    refine WN_congr fun b hb => ?_
    have hc := cnt_at H hnd hrd b.key
    have hbk : b.key ∈ es0.map (·.key) := List.mem_map.mpr ⟨b, hb, rfl⟩
    by_cases h1 : b.key ∈ rd
    · have := ((hrd _).mp h1).2
      unfold npR
      rw [if_pos h1, if_pos (by omega)]
    · rw [if_neg h1, if_neg h1]
      have hl : lev b.key ≠ r := fun q => h1 ((hrd _).mpr ⟨hbk, q⟩)
      unfold npR
      by_cases h2 : lev b.key < r
      · rw [if_pos h2, if_pos (by omega)]
        have := cge_zero H (r := r) (x := b.key) (by omega)
        omega
      · rw [if_neg h2, if_neg (by omega)]
        omega
  · (have z11 := (doneF_WN H.hn (f := fun x => if x ∈ rd then -1 else npR es0 lev r x) (rd := []) hnd (rd_su H hrd fun _ h => h) (hge (fun _ h => h) fun _ => Nat.le_refl _)); refine Mine.e1_3 z11 ?_; intro R e n m; (try clear z11))
    rw [e]
    refine ⟨by simpa using n, fun x => ?_, fun i p hp => ?_⟩
    · rw [List.nil_append, m]
      have hc := cnt_at H hnd hrd x
      constructor
      · rintro ⟨h1, h2⟩
        obtain ⟨h3, h4⟩ := cnt_lev H hrd (fun _ h => h) h1
        have h5 : x ∉ rd := fun h => by have := ((hrd x).mp h).2; omega
        rw [if_neg h5] at h2
        unfold npR at h2
        rw [if_neg (by omega)] at h2
        refine ⟨h3, ?_⟩
        by_cases h6 : lev x = r + 1
        · exact h6
        · (have z12 := (H.up x h3 (by omega)); refine Mine.e1_3 z12 ?_; intro p hp hs hl; (try clear z12))
          have h7 : 0 < cge es0 lev (r + 1) x := List.countP_pos_iff.mpr ⟨p, hp, by simp only [Bool.and_eq_true, decide_eq_true_eq]; exact ⟨by omega, hs⟩⟩
          omega
      · rintro ⟨h1, h2⟩
        have h5 : x ∉ rd := fun h => by have := ((hrd x).mp h).2; omega
        (have z13 := (H.up x h1 (by omega)); refine Mine.e1_3 z13 ?_; intro p hp hs hl; (try clear z13))
        have h8 : p ∈ rd := (hrd p).mpr ⟨hp, by omega⟩
        have h9 : 0 < cntF es0 rd x := List.countP_pos_iff.mpr ⟨p, h8, by simpa using hs⟩
        have h10 := cge_zero H (r := r + 1) (x := x) (by omega)
        refine ⟨h9, ?_⟩
        rw [if_neg h5]
        unfold npR
        rw [if_neg (by omega)]
        omega
    · have hsub : ∀ q ∈ rd.take i, q ∈ rd := fun q hq => List.mem_of_mem_take hq
      (have z14 := (doneF_WN H.hn (ps := rd.take i) (f := fun x => if x ∈ rd then -1 else npR es0 lev r x) (rd := []) (hnd.sublist (List.take_sublist _ _)) (rd_su H hrd hsub) (hge hsub fun x => (List.take_sublist i rd).countP_le)); refine Mine.e1_3 z14 ?_; intro R' e' n' m'; (try clear z14))
      rw [e']
      have hpr := List.mem_of_getElem? hp
      (have z15 := (List.mem_map.mp ((hrd p).mp hpr).1); refine Mine.e1_2 z15 ?_; intro b hb hbk; (try clear z15))
      rw [← hbk, nodeOf_WN H.hn hb]
      have hnt : b.key ∉ rd.take i := fun h => by
        obtain ⟨j, hj⟩ := List.getElem?_of_mem h
        have hji : j < i := by
          have := (List.getElem?_eq_some_iff.mp hj).1
          rw [List.length_take] at this
          omega
        rw [List.getElem?_take_of_lt hji] at hj
        rw [← hbk] at hp
        have h1 := (List.getElem?_eq_some_iff.mp hj)
        have h2 := (List.getElem?_eq_some_iff.mp hp)
        have := (List.getElem_inj hnd).mp (h1.2.trans h2.2.symm)
        omega
      have hc0 : cntF es0 (rd.take i) b.key = 0 := by
        cases hc : cntF es0 (rd.take i) b.key with
        | zero => rfl
        | succ k =>
          have h1 := (cnt_lev H hrd hsub (x := b.key) (by omega)).2
          have h2 := ((hrd p).mp hpr).2
          rw [← hbk] at h2
          omega
      show (if b.key ∈ rd.take i then -2 else (if b.key ∈ rd then -1 else npR es0 lev r b.key) - (cntF es0 (rd.take i) b.key : Int)) = -1
      rw [if_neg hnt, if_pos (hbk ▸ hpr), hc0]; rfl
end
theorem rounds_run {es0 : List NE} {lev : Str → Nat} (H : Lv es0 lev) (h8 : es0.length ≤ 8) : ∀ (d r : Nat) (rd : List Str), (∀ x ∈ es0.map (·.key), lev x < r + d) → rd.Nodup → (∀ x, x ∈ rd ↔ x ∈ es0.map (·.key) ∧ lev x = r) →
    ∃ rs, RoundsF (WN es0 (npR es0 lev r)) rd rs ∧ (∀ i ps, rs[i]? = some ps → ps ≠ [] ∧ ps.Nodup ∧ ∀ x, x ∈ ps ↔ x ∈ es0.map (·.key) ∧ lev x = r + i) ∧ (∀ x ∈ es0.map (·.key), r ≤ lev x → lev x < r + rs.length) ∧ rs.length ≤ d
  | 0, r, rd, hd, hnd, hrd => by
    have : rd = [] := by
      cases rd with
      | nil => rfl
      | cons y t =>
        have h1 := (hrd y).mp List.mem_cons_self
        have := hd y h1.1
        omega
    subst this
    exact ⟨[], .stop, fun i ps h => by simp at h, fun x hx h => by have := hd x hx; omega, Nat.le_refl _⟩
  | d + 1, r, rd, hd, hnd, hrd => by
    by_cases he : rd = []
    · subst he
      refine ⟨[], .stop, fun i ps h => by simp at h, fun x hx h => ?_, Nat.zero_le _⟩
      have none : ∀ k y, y ∈ es0.map (·.key) → lev y = r + k → False := by
        intro k
        induction k with
        | zero => exact fun y hy hl => by have := (hrd y).mpr ⟨hy, hl⟩; cases this
        | succ k ih =>
          intro y hy hl
          (have z16 := (H.up y hy (by omega)); refine Mine.e1_3 z16 ?_; intro p hp _ hpl; (try clear z16))
          exact ih p hp (by omega)
      exact (none (lev x - r) x hx (by omega)).elim
    · (have z17 := (round_step H hnd hrd); refine Mine.e0_4 z17 ?_; intro h1 h2 h3 h4; (try clear z17))
      (have z18 := (rounds_run H h8 d (r + 1) _ (fun x hx => by have := hd x hx; omega) h2 h3); refine Mine.e1_4 z18 ?_; intro rs g1 g2 g3 g4; (try clear z18))
      have hlen : rd.length ≤ 8 := by
        have := nodup_le hnd (b := es0.map (·.key)) fun x hx => ((hrd x).mp hx).1
        rw [List.length_map] at this
        omega
      refine ⟨rd :: rs, .turn he hlen (fun k hk => by rw [WN_keys]; exact ((hrd k).mp hk).1) h4 (by rw [h1]; exact g1), fun i ps hi => ?_, fun x hx hl => ?_, by rw [List.length_cons]; omega⟩
      · cases i with
        | zero =>
          cases hi
          exact ⟨he, hnd, hrd⟩
        | succ i =>
          (have z19 := (g2 i ps hi); refine Mine.e0_3 z19 ?_; intro a b c; (try clear z19))
          exact ⟨a, b, fun x => by rw [c]; constructor <;> rintro ⟨u, v⟩ <;> exact ⟨u, by omega⟩⟩
      · rw [List.length_cons]
        by_cases hr : lev x = r
        · omega
        · have := g3 x hx (by omega)
          omega
end Mine
namespace Mine
theorem rising_all : ∀ {r : List Str} {p : Str}, risingS p r = true → (∀ y ∈ r, p.cps.toList ≤ y.cps.toList) ∧ r.Pairwise (fun a b => a.cps.toList ≤ b.cps.toList)
  | [], p, _ => ⟨fun y hy => (nomatch hy), .nil⟩
  | x :: r, p, h => by
    have h' : (!ltCps x.cps.toList p.cps.toList && risingS x r) = true := h
    rw [Bool.and_eq_true, ltCps_eq] at h'
    obtain ⟨h1, h2⟩ := h'
    have h3 : p.cps.toList ≤ x.cps.toList := by
      have : ¬ x.cps.toList < p.cps.toList := by simpa using h1
      exact List.not_lt.mp this
    obtain ⟨i1, i2⟩ := rising_all h2
    refine ⟨fun y hy => ?_, List.pairwise_cons.mpr ⟨i1, i2⟩⟩
    rcases List.mem_cons.mp hy with rfl | hy
    · exact h3
    · exact List.le_trans h3 (i1 y hy)
theorem sorted_pw : ∀ {l : List Str}, sortedS l = true → l.Pairwise (fun a b => a.cps.toList ≤ b.cps.toList)
  | [], _ => .nil
  | x :: r, h => by
    obtain ⟨i1, i2⟩ := rising_all (p := x) (r := r) h
    exact List.pairwise_cons.mpr ⟨i1, i2⟩
theorem sorted_same {a b : List Str} (hp : a.Perm b) (ha : sortedS a = true) (hb : sortedS b = true) : a = b :=
  hp.eq_of_pairwise (fun x y _ _ h1 h2 => by
    have h := List.le_antisymm h1 h2
    obtain ⟨⟨x⟩⟩ := x
    obtain ⟨⟨y⟩⟩ := y
    simp only at h
    rw [h]) (sorted_pw ha) (sorted_pw hb)
end Mine
namespace Mine
theorem levF_at {ns : List (List Int)} {t i : Nat} {r : List Int} (h : ns[i]? = some r) : (levF ns (t + 1)).getD i 0 = maxF (r.map fun x => (levF ns t).getD x.toNat 0 + 1) := by
  show (ns.map _).getD i 0 = _
  rw [List.getD_eq_getElem?_getD, List.getElem?_map, h]; rfl
theorem levF_stable {ns : List (List Int)} {rho : Nat → Nat} (hr : ∀ i r, ns[i]? = some r → ∀ x ∈ r, 0 ≤ x ∧ x.toNat < ns.length ∧ rho x.toNat < rho i) : ∀ t i, i < ns.length → rho i < t → (levF ns t).getD i 0 = (levF ns (t + 1)).getD i 0
  | 0, i, _, h => absurd h (Nat.not_lt_zero _)
  | t + 1, i, hi, h => by
    have hn := List.getElem?_eq_getElem hi
    rw [levF_at hn, levF_at hn]
    congr 1
    refine List.map_congr_left fun x hx => ?_
    (have z1 := (hr i _ hn x hx); refine Mine.e0_3 z1 ?_; intro _ h2 h3; (try clear z1))
    rw [levF_stable hr t x.toNat h2 (by omega)]
/-- a node's level -/
noncomputable def levN (ns : List (List Int)) (i : Nat) : Nat := ((levF ns ns.length).getD i 0).toNat
theorem levF_nonneg {ns : List (List Int)} {t i : Nat} : 0 ≤ (levF ns t).getD i 0 := by
  rw [List.getD_eq_getElem?_getD]
  cases h : (levF ns t)[i]? with
  | none => exact Int.le_refl _
  | some z => exact (levF_bound t z (List.mem_of_getElem? h)).1
section
variable {ns : List (List Int)} {rho : Nat → Nat} (hr : ∀ i r, ns[i]? = some r → ∀ x ∈ r, 0 ≤ x ∧ x.toNat < ns.length ∧ rho x.toNat < rho i) (hb : ∀ i, i < ns.length → rho i < ns.length)
include hr hb
theorem levN_max {i : Nat} {r : List Int} (h : ns[i]? = some r) : (levN ns i : Int) = maxF (r.map fun x => (levN ns x.toNat : Int) + 1) := by
  have hi := (List.getElem?_eq_some_iff.mp h).1
  have h1 : (levN ns i : Int) = (levF ns ns.length).getD i 0 := Int.toNat_of_nonneg levF_nonneg
  rw [h1, levF_stable hr _ i hi (hb i hi), levF_at h]
  congr 1
  refine List.map_congr_left fun x hx => ?_
  rw [show (levN ns x.toNat : Int) = (levF ns ns.length).getD x.toNat 0 from Int.toNat_of_nonneg levF_nonneg]
theorem levN_lt {i : Nat} {r : List Int} (h : ns[i]? = some r) {x : Int} (hx : x ∈ r) : levN ns x.toNat < levN ns i := by
  have h1 := levN_max hr hb h
  (have z2 := (maxF_le (l := r.map fun x => (levN ns x.toNat : Int) + 1) (b := 0)); refine Mine.e0_3 z2 ?_; intro g1 g2 g3; (try clear z2))
  have h2 := g2 _ (List.mem_map.mpr ⟨x, hx, rfl⟩)
  have h3 : (levN ns i : Int) = List.foldl max 0 (r.map fun x => (levN ns x.toNat : Int) + 1) := h1
  omega
theorem levN_up {i : Nat} {r : List Int} (h : ns[i]? = some r) (h0 : 0 < levN ns i) : ∃ x ∈ r, levN ns x.toNat + 1 = levN ns i := by
  have h1 := levN_max hr hb h
  (have z3 := (maxF_le (l := r.map fun x => (levN ns x.toNat : Int) + 1) (b := 0)); refine Mine.e0_3 z3 ?_; intro g1 g2 g3; (try clear z3))
  have h3 : (levN ns i : Int) = List.foldl max 0 (r.map fun x => (levN ns x.toNat : Int) + 1) := h1
  rcases g3 with g | g
  · omega
  · (have z4 := (List.mem_map.mp g); refine Mine.e1_2 z4 ?_; intro x hx e; (try clear z4))
    exact ⟨x, hx, by omega⟩
end
end Mine
namespace Mine
/-- nodes told by functions of the name -/
structure GOk (es : List NE) (np : Str → Int) (su : Str → List Str) : Prop where
  nd : (es.map (·.key)).Nodup
  ok : ∀ e ∈ es, e.np = np e.key ∧ e.su = su e.key
  out : ∀ k, k ∉ es.map (·.key) → np k = 0 ∧ su k = []
theorem getF_mem {es : List NE} {k : Str} : ∀ x, x ∈ (getF es k).map (·.key) ↔ x ∈ es.map (·.key) ∨ x = k := fun x => by
  unfold getF
  split
  · rename_i h
    (have z1 := (List.any_eq_true.mp h); refine Mine.e1_2 z1 ?_; intro e he hk; (try clear z1))
    have hk : e.key = k := by simpa using hk
    exact ⟨.inl, fun h => h.elim id fun q => q ▸ hk ▸ List.mem_map.mpr ⟨e, he, rfl⟩⟩
  · rw [List.map_append, List.mem_append]
    simp
theorem GOk.get {es : List NE} {np : Str → Int} {su : Str → List Str} (G : GOk es np su) (k : Str) : GOk (getF es k) np su := by
  by_cases h : es.any (fun e => decide (e.key = k)) = true
  · have : getF es k = es := by unfold getF; rw [if_pos h]
    rw [this]; exact G
  · have hg : getF es k = es ++ [⟨k, 0, []⟩] := by unfold getF; rw [if_neg h]
    have hk : k ∉ es.map (·.key) := fun hm => by
      (have z2 := (List.mem_map.mp hm); refine Mine.e1_2 z2 ?_; intro e he hek; (try clear z2))
      exact h (List.any_eq_true.mpr ⟨e, he, by simpa using hek⟩)
    refine ⟨?_, fun e he => ?_, fun x hx => G.out x fun hm => hx ((getF_mem x).mpr (.inl hm))⟩
    · rw [hg, List.map_append]
      exact List.nodup_append.mpr ⟨G.nd, by simp, fun a ha b hb hab => by
        have : b = k := by simpa using hb
        exact hk (this ▸ hab ▸ ha)⟩
    · rw [hg] at he
      rcases List.mem_append.mp he with he | he
      · exact G.ok e he
      · rw [List.mem_singleton.mp he]
        obtain ⟨a, b⟩ := G.out k hk
        exact ⟨a.symm, b.symm⟩
theorem GOk.setn {es : List NE} {np : Str → Int} {su : Str → List Str} (G : GOk es np su) {k : Str} (hk : k ∈ es.map (·.key)) (n : Int) : GOk (setE k (fun e => { e with np := e.np + n }) es) (fun x => if x = k then np x + n else np x) su := by
  refine ⟨by rw [setE_key (f := fun e => { e with np := e.np + n }) fun _ => rfl]; exact G.nd, fun e he => ?_, fun x hx => ?_⟩
  · (have z3 := (List.mem_map.mp he); refine Mine.e1_2 z3 ?_; intro e₀ he₀ z3x2; (try clear z3); (rcases z3x2 with rfl))
    obtain ⟨a, b⟩ := G.ok e₀ he₀
    by_cases h : e₀.key = k
    · rw [if_pos h]; exact ⟨by show e₀.np + n = if e₀.key = k then _ else _; rw [if_pos h, a], b⟩
    · rw [if_neg h]; exact ⟨by rw [if_neg h]; exact a, b⟩
  · rw [setE_key (f := fun e => { e with np := e.np + n }) fun _ => rfl] at hx
    rw [if_neg fun q => hx (by rw [q]; exact hk)]
    exact G.out x hx
theorem GOk.addp {es : List NE} {np : Str → Int} {su : Str → List Str} (G : GOk es np su) (node p : Str) : GOk (addP node es p) np (fun x => if x = p then su x ++ [node] else su x) := by
  have G2 := G.get p
  have hp : p ∈ (getF es p).map (·.key) := (getF_mem p).mpr (.inr rfl)
  unfold addP
  refine ⟨by rw [setE_key (f := fun e => { e with su := e.su ++ [node] }) fun _ => rfl]; exact G2.nd, fun e he => ?_, fun x hx => ?_⟩
  · (have z4 := (List.mem_map.mp he); refine Mine.e1_2 z4 ?_; intro e₀ he₀ z4x2; (try clear z4); (rcases z4x2 with rfl))
    obtain ⟨a, b⟩ := G2.ok e₀ he₀
    by_cases h : e₀.key = p
    · rw [if_pos h]; exact ⟨a, by show e₀.su ++ [node] = if e₀.key = p then _ else _; rw [if_pos h, b]⟩
    · rw [if_neg h]; exact ⟨a, by rw [if_neg h]; exact b⟩
  · rw [setE_key (f := fun e => { e with su := e.su ++ [node] }) fun _ => rfl] at hx
    rw [if_neg fun q => hx (by rw [q]; exact hp)]
    exact G2.out x hx
theorem GOk.adds {node : Str} : ∀ {ps : List Str} {es : List NE} {np : Str → Int} {su : Str → List Str}, GOk es np su → GOk (ps.foldl (addP node) es) np (fun x => su x ++ List.replicate (ps.count x) node)
  | [], es, np, su, G => by simpa using G
  | p :: r, es, np, su, G => by
    have h := GOk.adds (node := node) (ps := r) (G.addp node p)
    refine ⟨h.nd, fun e he => ?_, fun k hk => ?_⟩
    · obtain ⟨a, b⟩ := h.ok e he
      refine ⟨a, b.trans ?_⟩
      by_cases hq : e.key = p
      · rw [if_pos hq, List.count_cons, if_pos (by simp [hq]), List.append_assoc]
        congr 1
      · rw [if_neg hq, List.count_cons, if_neg (by simpa using fun q => hq q.symm)]; rfl
    · obtain ⟨a, b⟩ := h.out k hk
      refine ⟨a, ?_⟩
      by_cases hq : k = p
      · rw [if_pos hq] at b; simp at b
      · rw [if_neg hq] at b
        rw [List.count_cons, if_neg (by simpa using fun q => hq q.symm)]
        exact b
theorem GOk.addF {es : List NE} {np : Str → Int} {su : Str → List Str} (G : GOk es np su) (k : Str) (ps : List Str) : GOk (addF es k ps) (fun x => if x = k then np x + (ps.length : Int) else np x) (fun x => su x ++ List.replicate (ps.count x) k) :=
  GOk.adds ((G.get k).setn ((getF_mem k).mpr (.inr rfl)) _)
theorem addP_mem {node p : Str} {es : List NE} : ∀ x, x ∈ (addP node es p).map (·.key) ↔ x ∈ es.map (·.key) ∨ x = p := fun x => by
  unfold addP
  rw [setE_key (f := fun e => { e with su := e.su ++ [node] }) fun _ => rfl]
  exact getF_mem x
theorem adds_mem {node : Str} : ∀ {ps : List Str} {es : List NE} (x : Str), x ∈ (ps.foldl (addP node) es).map (·.key) ↔ x ∈ es.map (·.key) ∨ x ∈ ps
  | [], es, x => by simp
  | p :: r, es, x => by
    rw [List.foldl_cons, adds_mem (ps := r), addP_mem, List.mem_cons]
    constructor
    · rintro ((h | h) | h)
      · exact .inl h
      · exact .inr (.inl h)
      · exact .inr (.inr h)
    · rintro (h | h | h)
      · exact .inl (.inl h)
      · exact .inl (.inr h)
      · exact .inr h
theorem addF_mem {es : List NE} {k : Str} {ps : List Str} (x : Str) : x ∈ (addF es k ps).map (·.key) ↔ x ∈ es.map (·.key) ∨ x = k ∨ x ∈ ps := by
  unfold addF
  rw [adds_mem, setE_key (f := fun e => { e with np := e.np + ps.length }) fun _ => rfl, getF_mem, or_assoc]
/-- the names of a row -/
noncomputable def rowN (gs : List Str) (ns : List (List Int)) (j : Nat) : List Str := (ns.getD j []).map fun x => gs.getD x.toNat Str.empty
noncomputable def npT (gs : List Str) (ns : List (List Int)) : Nat → Str → Int
  | 0, _ => 0
  | t + 1, x => if x = gs.getD t Str.empty then npT gs ns t x + ((rowN gs ns t).length : Int) else npT gs ns t x
noncomputable def suT (gs : List Str) (ns : List (List Int)) : Nat → Str → List Str
  | 0, _ => []
  | t + 1, x => suT gs ns t x ++ List.replicate ((rowN gs ns t).count x) (gs.getD t Str.empty)
theorem esF_ok {gs : List Str} {ns : List (List Int)} : ∀ t, GOk (esF gs ns t) (npT gs ns t) (suT gs ns t)
  | 0 => ⟨List.nodup_nil, fun e he => (nomatch he), fun k _ => ⟨rfl, rfl⟩⟩
  | t + 1 => (esF_ok t).addF (gs.getD t Str.empty) (rowN gs ns t)
theorem esF_mem {gs : List Str} {ns : List (List Int)} (x : Str) : ∀ t, x ∈ (esF gs ns t).map (·.key) ↔ ∃ j, j < t ∧ (x = gs.getD j Str.empty ∨ x ∈ rowN gs ns j)
  | 0 => by simp [esF]
  | t + 1 => by
    show x ∈ (addF (esF gs ns t) (gs.getD t Str.empty) (rowN gs ns t)).map (·.key) ↔ _
    rw [addF_mem, esF_mem x t]
    constructor
    · (intro z5h; rcases z5h with (⟨j, hj, h⟩ | h))
      · exact ⟨j, by omega, h⟩
      · exact ⟨t, by omega, h⟩
    · (intro z6h; refine Mine.e1_2 z6h ?_; intro j hj h; (try clear z6h))
      by_cases hjt : j = t
      · subst hjt; exact .inr h
      · exact .inl ⟨j, by omega, h⟩
theorem suT_mem {gs : List Str} {ns : List (List Int)} {x s : Str} : ∀ {t}, s ∈ suT gs ns t x ↔ ∃ j, j < t ∧ s = gs.getD j Str.empty ∧ x ∈ rowN gs ns j
  | 0 => by simp [suT]
  | t + 1 => by
    show s ∈ suT gs ns t x ++ List.replicate ((rowN gs ns t).count x) (gs.getD t Str.empty) ↔ _
    rw [List.mem_append, suT_mem, List.mem_replicate]
    constructor
    · (intro z7h; rcases z7h with (⟨j, hj, h⟩ | ⟨h1, h2⟩))
      · exact ⟨j, by omega, h⟩
      · exact ⟨t, by omega, h2, List.count_pos_iff.mp (by omega)⟩
    · (intro z8h; refine Mine.e1_3 z8h ?_; intro j hj h1 h2; (try clear z8h))
      by_cases hjt : j = t
      · subst hjt
        have := List.count_pos_iff.mpr h2
        exact .inr ⟨by omega, h1⟩
      · exact .inl ⟨j, by omega, h1, h2⟩
theorem getD_inj {gs : List Str} (hg : gs.Nodup) {i j : Nat} (hi : i < gs.length) (hj : j < gs.length) (h : gs.getD i Str.empty = gs.getD j Str.empty) : i = j := by
  rw [List.getD_eq_getElem?_getD, List.getD_eq_getElem?_getD, List.getElem?_eq_getElem hi, List.getElem?_eq_getElem hj] at h
  exact (List.getElem_inj hg).mp h
theorem npT_at {gs : List Str} {ns : List (List Int)} (hg : gs.Nodup) {i : Nat} (hi : i < gs.length) : ∀ t, t ≤ gs.length → npT gs ns t (gs.getD i Str.empty) = if i < t then ((rowN gs ns i).length : Int) else 0
  | 0, _ => by simp [npT]
  | t + 1, ht => by
    show (if gs.getD i Str.empty = gs.getD t Str.empty then npT gs ns t _ + ((rowN gs ns t).length : Int) else npT gs ns t _) = _
    rw [npT_at hg hi t (by omega)]
    by_cases hit : i = t
    · subst hit
      rw [if_pos rfl, if_neg (Nat.lt_irrefl _), if_pos (Nat.lt_succ_self _)]; omega
    · rw [if_neg fun q => hit (getD_inj hg hi (by omega) q)]
      by_cases h : i < t
      · rw [if_pos h, if_pos (by omega)]
      · rw [if_neg h, if_neg (by omega)]
theorem suT_nd {gs : List Str} {ns : List (List Int)} (hg : gs.Nodup) (hr : ∀ j, (rowN gs ns j).Nodup) {x : Str} : ∀ t, t ≤ gs.length → (suT gs ns t x).Nodup
  | 0, _ => List.nodup_nil
  | t + 1, ht => by
    show (suT gs ns t x ++ List.replicate ((rowN gs ns t).count x) (gs.getD t Str.empty)).Nodup
    refine List.nodup_append.mpr ⟨suT_nd hg hr t (by omega), ?_, fun a ha b hb hab => ?_⟩
    · have h1 : (rowN gs ns t).count x ≤ 1 := List.nodup_iff_count.mp (hr t) x
      match hc : (rowN gs ns t).count x with
      | 0 => exact List.nodup_nil
      | 1 => simp
      | k + 2 => omega
    · (have z9 := (suT_mem.mp ha); refine Mine.e1_3 z9 ?_; intro j hj h1 _; (try clear z9))
      obtain ⟨_, h2⟩ := List.mem_replicate.mp hb
      have := getD_inj hg (by omega) (by omega) (h1.symm.trans (hab.trans h2))
      omega
end Mine
namespace Mine
/-- the graph that the law tells: distinct names, rows of places, a rank that falls towards what is waited for -/
structure Told (gs : List Str) (ns : List (List Int)) (rho : Nat → Nat) : Prop where
  hg : gs.Nodup
  hl : ns.length = gs.length
  hn : ∀ (j : Nat) (r : List Int), ns[j]? = some r → r.Nodup
  hr : ∀ (i : Nat) (r : List Int), ns[i]? = some r → ∀ x ∈ r, 0 ≤ x ∧ x.toNat < ns.length ∧ rho x.toNat < rho i
  hb : ∀ i, i < ns.length → rho i < ns.length
section
variable {gs : List Str} {ns : List (List Int)} {rho : Nat → Nat}
theorem Told.row_mem (T : Told gs ns rho) {i j : Nat} (hi : i < gs.length) (hj : j < gs.length) : gs.getD i Str.empty ∈ rowN gs ns j ↔ (i : Int) ∈ ns.getD j [] := by
  have hrow : ns[j]? = some (ns.getD j []) := by
    rw [List.getD_eq_getElem?_getD, List.getElem?_eq_getElem (by rw [T.hl]; exact hj)]; rfl
  unfold rowN
  rw [List.mem_map]
  constructor
  · (intro z1h; refine Mine.e1_2 z1h ?_; intro x hx he; (try clear z1h))
    (have z2 := (T.hr j _ hrow x hx); refine Mine.e0_3 z2 ?_; intro h0 h1 _; (try clear z2))
    have := getD_inj T.hg (by rw [← T.hl]; exact h1) hi he
    rw [← this, Int.toNat_of_nonneg h0]; exact hx
  · intro h
    exact ⟨_, h, by simp⟩
theorem Told.row_nd (T : Told gs ns rho) (j : Nat) : (rowN gs ns j).Nodup := by
  unfold rowN
  rw [List.getD_eq_getElem?_getD]
  cases hj : ns[j]? with
  | none => exact List.nodup_nil
  | some r =>
    show (r.map _).Nodup
    rw [List.nodup_iff_pairwise_ne, List.pairwise_map]
    refine (T.hn j r hj).imp_of_mem fun {a b} ha hb hab e => hab ?_
    (have z3 := (T.hr j r hj a ha); refine Mine.e0_3 z3 ?_; intro a0 a1 _; (try clear z3))
    (have z4 := (T.hr j r hj b hb); refine Mine.e0_3 z4 ?_; intro b0 b1 _; (try clear z4))
    have := getD_inj T.hg (by rw [← T.hl]; exact a1) (by rw [← T.hl]; exact b1) e
    omega
theorem getD_mem {gs : List Str} {i : Nat} (hi : i < gs.length) : gs.getD i Str.empty ∈ gs := by
  rw [List.getD_eq_getElem?_getD, List.getElem?_eq_getElem hi]; exact List.getElem_mem hi
theorem idx_at (hg : gs.Nodup) {i : Nat} (hi : i < gs.length) : gs.idxOf (gs.getD i Str.empty) = i := by
  have h1 : gs.idxOf (gs.getD i Str.empty) < gs.length := List.idxOf_lt_length_of_mem (getD_mem hi)
  refine getD_inj hg h1 hi ?_
  rw [List.getD_eq_getElem?_getD (l := gs) (i := gs.idxOf _), List.getElem?_eq_getElem h1]
  exact List.getElem_idxOf h1
/-- a name's level -/
noncomputable def levS (gs : List Str) (ns : List (List Int)) (x : Str) : Nat := levN ns (gs.idxOf x)
theorem Told.keys (T : Told gs ns rho) (x : Str) : x ∈ (esF gs ns gs.length).map (·.key) ↔ ∃ i, i < gs.length ∧ x = gs.getD i Str.empty := by
  rw [esF_mem]
  constructor
  · (intro z5h; (first | (refine Mine.hideP ?_; intro Gz kGz; rcases z5h with ⟨j, hj, h | h⟩; all_goals (refine kGz ?_; clear kGz Gz)) | rcases z5h with ⟨j, hj, h | h⟩))
    · exact ⟨j, hj, h⟩
    · (have z6 := (List.mem_map.mp h); refine Mine.e1_2 z6 ?_; intro y hy he; (try clear z6))
      have hrow : ns[j]? = some (ns.getD j []) := by
        rw [List.getD_eq_getElem?_getD, List.getElem?_eq_getElem (by rw [T.hl]; exact hj)]; rfl
      (have z7 := (T.hr j _ hrow y hy); refine Mine.e0_3 z7 ?_; intro _ h1 _; (try clear z7))
      exact ⟨y.toNat, by rw [← T.hl]; exact h1, he.symm⟩
  · (intro z8h; refine Mine.e1_2 z8h ?_; intro i hi h; (try clear z8h)); exact ⟨i, hi, .inl h⟩
theorem Told.su (T : Told gs ns rho) {x : Str} (hx : x ∈ (esF gs ns gs.length).map (·.key)) : suOf (esF gs ns gs.length) x = suT gs ns gs.length x := by
  (have z9 := (List.mem_map.mp hx); refine Mine.e1_2 z9 ?_; intro e he z9x2; (try clear z9); (rcases z9x2 with rfl))
  rw [suOf_eq (esF_ok _).nd he]
  exact ((esF_ok _).ok e he).2
theorem Told.lv (T : Told gs ns rho) : Lv (esF gs ns gs.length) (levS gs ns) := by
  refine ⟨(esF_ok _).nd, fun p hp => ?_, fun s hs h0 => ?_⟩
  · rw [T.su hp]
    refine ⟨suT_nd T.hg T.row_nd _ (Nat.le_refl _), fun s hs => ?_⟩
    (have z10 := (suT_mem.mp hs); refine Mine.e1_3 z10 ?_; intro j hj z10x2 h2; (try clear z10); (rcases z10x2 with rfl))
    (have z11 := ((T.keys p).mp hp); refine Mine.e1_2 z11 ?_; intro i hi z11x2; (try clear z11); (rcases z11x2 with rfl))
    refine ⟨(T.keys _).mpr ⟨j, hj, rfl⟩, ?_⟩
    unfold levS
    rw [idx_at T.hg hi, idx_at T.hg hj]
    have h3 := (T.row_mem hi hj).mp h2
    have hrow : ns[j]? = some (ns.getD j []) := by
      rw [List.getD_eq_getElem?_getD, List.getElem?_eq_getElem (by rw [T.hl]; exact hj)]; rfl
    have := levN_lt T.hr T.hb hrow h3
    rwa [Int.toNat_natCast] at this
  · (have z12 := ((T.keys s).mp hs); refine Mine.e1_2 z12 ?_; intro j hj z12x2; (try clear z12); (rcases z12x2 with rfl))
    unfold levS at h0 ⊢
    rw [idx_at T.hg hj] at h0 ⊢
    have hrow : ns[j]? = some (ns.getD j []) := by
      rw [List.getD_eq_getElem?_getD, List.getElem?_eq_getElem (by rw [T.hl]; exact hj)]; rfl
    (have z13 := (levN_up T.hr T.hb hrow h0); refine Mine.e1_2 z13 ?_; intro x hx hl; (try clear z13))
    (have z14 := (T.hr j _ hrow x hx); refine Mine.e0_3 z14 ?_; intro x0 x1 _; (try clear z14))
    have hxi : x.toNat < gs.length := by rw [← T.hl]; exact x1
    have hk : gs.getD x.toNat Str.empty ∈ (esF gs ns gs.length).map (·.key) := (T.keys _).mpr ⟨_, hxi, rfl⟩
    refine ⟨gs.getD x.toNat Str.empty, hk, ?_, by rw [idx_at T.hg hxi]; exact hl⟩
    rw [T.su hk]
    exact suT_mem.mpr ⟨j, hj, rfl, (T.row_mem hxi hj).mpr (by rw [Int.toNat_of_nonneg x0]; exact hx)⟩
theorem Told.start (T : Told gs ns rho) : esF gs ns gs.length = WN (esF gs ns gs.length) (npR (esF gs ns gs.length) (levS gs ns) 0) := by
  have h : ∀ e ∈ esF gs ns gs.length, e = { e with np := npR (esF gs ns gs.length) (levS gs ns) 0 e.key } := fun e he => by
    have hk : e.key ∈ (esF gs ns gs.length).map (·.key) := List.mem_map.mpr ⟨e, he, rfl⟩
    (have z15 := ((T.keys e.key).mp hk); refine Mine.e1_2 z15 ?_; intro i hi hki; (try clear z15))
    have h1 := ((esF_ok gs.length).ok e he).1
    have h2 : npR (esF gs ns gs.length) (levS gs ns) 0 e.key = e.np := by
      rw [h1, hki, npT_at T.hg hi _ (Nat.le_refl _), if_pos hi]
      unfold npR
      rw [if_neg (Nat.not_lt_zero _)]
      unfold cge
      have hc : ((esF gs ns gs.length).map (·.key)).countP (fun p => decide (0 ≤ levS gs ns p) && decide (gs.getD i Str.empty ∈ suOf (esF gs ns gs.length) p)) = (rowN gs ns i).length := by
        rw [List.countP_eq_length_filter]
        refine ((List.perm_ext_iff_of_nodup ((esF_ok _).nd.filter _) (T.row_nd i)).mpr fun p => ?_).length_eq
        rw [List.mem_filter]
        constructor
        · rintro ⟨hp, h3⟩
          simp only [Bool.and_eq_true, decide_eq_true_eq] at h3
          rw [T.su hp] at h3
          (have z16 := (suT_mem.mp h3.2); refine Mine.e1_3 z16 ?_; intro j hj hs hr; (try clear z16))
          rw [getD_inj T.hg hi hj hs]; exact hr
        · intro hr
          have hp : p ∈ (esF gs ns gs.length).map (·.key) := (esF_mem p _).mpr ⟨i, hi, .inr hr⟩
          refine ⟨hp, ?_⟩
          simp only [Bool.and_eq_true, decide_eq_true_eq]
          exact ⟨Nat.zero_le _, by rw [T.su hp]; exact suT_mem.mpr ⟨i, hi, rfl, hr⟩⟩
      rw [hc]
    rw [h2]
  unfold WN
  conv => lhs; rw [← List.map_id (esF gs ns gs.length)]
  exact List.map_congr_left fun e he => h e he
theorem Told.rounds (T : Told gs ns rho) (h8 : (esF gs ns gs.length).length ≤ 8) : ∃ rs, RoundsF (esF gs ns gs.length) (readyF (esF gs ns gs.length)) rs ∧
    (∀ i ps, rs[i]? = some ps → ps ≠ [] ∧ ps.Nodup ∧ ∀ x, x ∈ ps ↔ x ∈ (esF gs ns gs.length).map (·.key) ∧ levS gs ns x = i) ∧ (∀ x ∈ (esF gs ns gs.length).map (·.key), levS gs ns x < rs.length) := by
  have H := T.lv
  have hs := T.start
  have hrd : ∀ x, x ∈ readyF (esF gs ns gs.length) ↔ x ∈ (esF gs ns gs.length).map (·.key) ∧ levS gs ns x = 0 := fun x => by
    unfold readyF
    have hnp : ∀ e ∈ esF gs ns gs.length, e.np = (cge (esF gs ns gs.length) (levS gs ns) 0 e.key : Int) := fun e he => by
      rw [hs] at he
      (have z17 := (List.mem_map.mp he); refine Mine.e1_2 z17 ?_; intro e₀ he₀ z17x2; (try clear z17); (rcases z17x2 with rfl))
      show npR _ _ 0 e₀.key = _
      unfold npR
      rw [if_neg (Nat.not_lt_zero _)]
    rw [List.mem_map]
    constructor
    · (intro z18h; refine Mine.e1_2 z18h ?_; intro e he z18x2; (try clear z18h); (rcases z18x2 with rfl))
      obtain ⟨h1, h2⟩ := List.mem_filter.mp he
      have hk : e.key ∈ (esF gs ns gs.length).map (·.key) := List.mem_map.mpr ⟨e, h1, rfl⟩
      refine ⟨hk, ?_⟩
      have h3 : e.np = 0 := by simpa using h2
      rw [hnp e h1] at h3
      by_cases h0 : levS gs ns e.key = 0
      · exact h0
      · (have z19 := (H.up e.key hk (by omega)); refine Mine.e1_3 z19 ?_; intro p hp hsu _; (try clear z19))
        have h7 : 0 < cge (esF gs ns gs.length) (levS gs ns) 0 e.key := List.countP_pos_iff.mpr ⟨p, hp, by simp only [Bool.and_eq_true, decide_eq_true_eq]; exact ⟨Nat.zero_le _, hsu⟩⟩
        omega
    · rintro ⟨hk, h0⟩
      (have z20 := (List.mem_map.mp hk); refine Mine.e1_2 z20 ?_; intro e he z20x2; (try clear z20); (rcases z20x2 with rfl))
      refine ⟨e, List.mem_filter.mpr ⟨he, ?_⟩, rfl⟩
      have := cge_zero H (r := 0) (x := e.key) (by omega)
      have h3 := hnp e he
      rw [this] at h3
      simp [h3]
  have hnd : (readyF (esF gs ns gs.length)).Nodup := by
    unfold readyF
    exact H.hn.sublist (List.Sublist.map _ List.filter_sublist)
  obtain ⟨rs, g1, g2, g3, _⟩ := rounds_run H h8 (ns.length + 1) 0 (readyF (esF gs ns gs.length)) (fun x hx => by
    have h1 : levS gs ns x ≤ ns.length := by
      unfold levS levN
      rw [List.getD_eq_getElem?_getD]
      cases hq : (levF ns ns.length)[gs.idxOf x]? with
      | none => exact Nat.zero_le _
      | some z =>
        have := (levF_bound _ z (List.mem_of_getElem? hq)).2
        show z.toNat ≤ _
        omega
    omega) hnd hrd
  rw [← hs] at g1
  exact ⟨rs, g1, fun i ps hi => by have := g2 i ps hi; simpa using this, fun x hx => by have := g3 x hx (Nat.zero_le _); omega⟩
end
end Mine
namespace Mine
theorem rowOf_mem {gs : List Str} {lv : List Int} {k : Nat} {x : Str} : x ∈ rowOf gs lv k ↔ ∃ i : Nat, gs[i]? = some x ∧ lv[i]? = some (k : Int) := by
  unfold rowOf
  rw [List.mem_map]
  constructor
  · (intro z1h; refine Mine.e1_2 z1h ?_; intro z1x0 h z1x2; (try clear z1h); (rcases z1x0 with ⟨a, b⟩); (rcases z1x2 with rfl))
    obtain ⟨h1, h2⟩ := List.mem_filter.mp h
    obtain ⟨i, hi⟩ := List.getElem?_of_mem h1
    obtain ⟨h3, h4⟩ := List.getElem?_zip_eq_some.mp hi
    have : b = (k : Int) := by simpa using h2
    exact ⟨i, h3, this ▸ h4⟩
  · (intro z2h; refine Mine.e1_2 z2h ?_; intro i h1 h2; (try clear z2h))
    have hz : (gs.zip lv)[i]? = some (x, (k : Int)) := List.getElem?_zip_eq_some.mpr ⟨h1, h2⟩
    exact ⟨(x, (k : Int)), List.mem_filter.mpr ⟨List.mem_of_getElem? hz, by simp⟩, rfl⟩
theorem rowOf_nd {gs : List Str} {lv : List Int} {k : Nat} (hg : gs.Nodup) (hl : gs.length ≤ lv.length) : (rowOf gs lv k).Nodup := by
  unfold rowOf
  refine List.Nodup.sublist (List.Sublist.map _ List.filter_sublist) ?_
  rw [List.map_fst_zip hl]
  exact hg
end Mine
namespace Mine
theorem geF_iff {x y : Str} (h : x.cps.size = y.cps.size) : geF x y = true ↔ ∀ j, j < x.cps.size → x.cps.getD j 0 = 45 ∨ x.cps.getD j 0 = y.cps.getD j 0 := by
  unfold geF okAt
  rw [List.all_eq_true, ← h, Nat.min_self]
  constructor
  · intro H j hj
    have := H j (List.mem_range.mpr hj)
    simpa [Bool.or_eq_true] using this
  · intro H j hj
    have := H j (List.mem_range.mp hj)
    simpa [Bool.or_eq_true] using this
theorem geF_trans {x y z : Str} (h1 : x.cps.size = y.cps.size) (h2 : y.cps.size = z.cps.size) (a : geF x y = true) (b : geF y z = true) : geF x z = true := by
  rw [geF_iff h1] at a
  rw [geF_iff h2] at b
  rw [geF_iff (h1.trans h2)]
  intro j hj
  rcases a j hj with a | a
  · exact .inl a
  · rcases b j (h1 ▸ hj) with b | b
    · exact .inl (a.trans b)
    · exact .inr (a.trans b)
theorem geF_anti {x y : Str} (h1 : x.cps.size = y.cps.size) (a : geF x y = true) (b : geF y x = true) : x = y := by
  rw [geF_iff h1] at a
  rw [geF_iff h1.symm] at b
  obtain ⟨x⟩ := x
  obtain ⟨y⟩ := y
  congr 1
  refine Array.ext h1 fun j hj hj2 => ?_
  have ga : x.getD j 0 = x[j] := by simp [Array.getD, hj]
  have gb : y.getD j 0 = y[j] := by simp [Array.getD, hj2]
  have a' := a j hj
  have b' := b j hj2
  simp only [ga, gb] at a' b'
  rcases a' with a' | a'
  · rcases b' with b' | b'
    · rw [a', b']
    · exact b'.symm
  · exact a'
end Mine
namespace Mine
section
variable {qs : List Str} {n : Nat} (hq : qs.length = n) (hs : ∀ i j, i < n → j < n → (gAt qs i).cps.size = (gAt qs j).cps.size)
include hs
theorem relF_trans {i j k : Nat} (hi : i < n) (hj : j < n) (hk : k < n) (a : relF qs i j = true) (b : relF qs j k = true) : relF qs i k = true := by
  unfold relF at a b ⊢
  simp only [Bool.and_eq_true, bne_iff_ne, ne_eq] at a b ⊢
  refine ⟨fun e => a.1 ?_, geF_trans (hs i j hi hj) (hs j k hj hk) a.2 b.2⟩
  rw [← e] at b
  exact geF_anti (hs i j hi hj) a.2 b.2
theorem relF_irr {i : Nat} : relF qs i i = false := by
  unfold relF; simp
noncomputable def rhoF (qs : List Str) (n i : Nat) : Nat := ((List.range n).filter (relF qs i)).length
theorem rhoF_lt {i j : Nat} (hi : i < n) (hj : j < n) (a : relF qs i j = true) : rhoF qs n j < rhoF qs n i := by
  have hnd : (List.range n).Nodup := List.nodup_range
  have h1 : (j :: (List.range n).filter (relF qs j)).Nodup := List.nodup_cons.mpr ⟨fun h => by
    have := (List.mem_filter.mp h).2
    rw [relF_irr hs] at this
    exact absurd this Bool.false_ne_true, hnd.filter _⟩
  have h2 := nodup_le h1 (b := (List.range n).filter (relF qs i)) fun x hx => by
    rcases List.mem_cons.mp hx with rfl | hx
    · exact List.mem_filter.mpr ⟨List.mem_range.mpr hj, a⟩
    · obtain ⟨hx1, hx2⟩ := List.mem_filter.mp hx
      exact List.mem_filter.mpr ⟨hx1, relF_trans hs hi hj (List.mem_range.mp hx1) a hx2⟩
  unfold rhoF
  rw [List.length_cons] at h2
  omega
/-- the rows of what is above -/
noncomputable def needF (qs : List Str) (n : Nat) : List (List Int) := (List.range n).map fun i => aboveF qs i n
theorem needF_at {i : Nat} {r : List Int} (h : (needF qs n)[i]? = some r) : i < n ∧ r = ((List.range n).filter (relF qs i)).map Int.ofNat := by
  unfold needF at h
  rw [List.getElem?_map] at h
  cases hi : (List.range n)[i]? with
  | none => rw [hi] at h; cases h
  | some j =>
    rw [hi] at h
    obtain ⟨h1, h2⟩ := List.getElem?_eq_some_iff.mp hi
    rw [List.getElem_range] at h2
    subst h2
    exact ⟨by simpa using h1, (Option.some.inj h).symm⟩
theorem told {gs : List Str} (hg : gs.Nodup) (hl : gs.length = n) : Told gs (needF qs n) (rhoF qs n) := by
  have hlen : (needF qs n).length = n := by unfold needF; rw [List.length_map, List.length_range]
  refine ⟨hg, by rw [hlen, hl], fun j r h => ?_, fun i r h x hx => ?_, fun i hi => ?_⟩
  · obtain ⟨_, rfl⟩ := needF_at hs h
    rw [List.nodup_iff_pairwise_ne, List.pairwise_map]
    exact (List.nodup_range.filter _).imp fun hab e => hab (Int.ofNat.inj e)
  · obtain ⟨hi, rfl⟩ := needF_at hs h
    (have z1 := (List.mem_map.mp hx); refine Mine.e1_2 z1 ?_; intro j hj z1x2; (try clear z1); (rcases z1x2 with rfl))
    obtain ⟨h1, h2⟩ := List.mem_filter.mp hj
    have hjn := List.mem_range.mp h1
    refine ⟨Int.natCast_nonneg j, by rw [hlen]; exact hjn, ?_⟩
    exact rhoF_lt hs hi hjn h2
  · rw [hlen] at hi ⊢
    have hsub := nodup_le (a := i :: (List.range n).filter (relF qs i)) (b := List.range n) (List.nodup_cons.mpr ⟨fun h => by
      have := (List.mem_filter.mp h).2
      rw [relF_irr hs] at this
      exact absurd this Bool.false_ne_true, List.nodup_range.filter _⟩) fun x hx => by
        rcases List.mem_cons.mp hx with e | hx
        · rw [e]; exact List.mem_range.mpr hi
        · exact (List.mem_filter.mp hx).1
    rw [List.length_cons, List.length_range] at hsub
    unfold rhoF; omega
end
end Mine
namespace Mine
open PySem (GenEnd Protocol Seg seg_iff seg_wrap seg_at seg_call seg_again seg_leaf seg_end seg_yield)
section
variable {M : Model} {A : Around} {R : GenEnd} {Y : Protocol} {n : Nat} {s₀ : Shared} {c : Code} {fs : List PySem.Frame} {s : Shared} {env : Env}
  {K : Flow → Sem Fin} {H : Value → Sem Fin} {gd : Bool → Bool} {lv : List Value → List Value}
/-- how a For's own call comes back within a generator -/
noncomputable abbrev backK (env : Env) (K : Flow → Sem Fin) (H : Value → Sem Fin) (gd : Bool → Bool) (lv : List Value → List Value) (r : Result) : Sem Fin :=
  ((match r with | .ok f => (.pure f : Sem Flow) | .error e => .raise e).onRaise fun (x : Value) => do
        if (← field x 1) == Value.none then unsupported "frame.own-activation:exception-without-traceback"
        setFlight x env.frame).wrap K H gd lv
theorem seg_For {target iter : Expr} {body orelse : List Stmt} {pos : Pos}
    (h : wpAny M (A.over c fs) (eval iter env) (fun xv s₁ => wpAny M (A.over c fs) (pyIter xv) (fun it s₂ => ∀ p, Seg M A R Y n s₀ (.forLoop target it body orelse env) (M.den (.forLoop target it body orelse env)) (.ret (backK env K H gd lv) none (gd false) (lv []) c p [] :: fs) s₂)
      (fun x s' => Seg M A R Y n s₀ c (H x) fs s') s₁) (fun x s' => Seg M A R Y n s₀ c (H x) fs s') s)
    (hs : ∀ x, foldedSetIterable iter env x = pure x := by intro _; rfl) :
    Seg M A R Y n s₀ c ((exec (.For target iter body orelse pos) env).wrap K H gd lv) fs s := by
  rw [exec_For]
  refine seg_at ?_
  show Seg M A R Y n s₀ c ((eval iter env >>= fun x => foldedSetIterable iter env x >>= fun x => standAt iter.pos >>= fun _ => holding [x] (pyIter x) >>= fun it => runOwn (.forLoop target it body orelse env) env).wrap K H gd lv) fs s
  rw [Sem.bind_eq_wrap', Sem.wrap_wrap]
  refine seg_wrap (wpAny_mono h (fun xv s₁ h₁ => ?_) fun _ _ e => e)
  rw [hs xv]
  refine seg_at ?_
  show Seg M A R Y n s₀ c ((holding [xv] (pyIter xv) >>= fun it => runOwn (.forLoop target it body orelse env) env).wrap K H gd lv) fs s₁
  rw [Sem.bind_eq_wrap', Sem.wrap_wrap]
  exact seg_wrap (wpAny_holding (wpAny_mono h₁ (fun it s₂ h₂ => seg_call h₂) fun _ _ e => e))
theorem seg_exec {st : Stmt} (h : wpAny M (A.over c fs) (exec st env) (fun f s' => Seg M A R Y n s₀ c (K f) fs s') (fun x s' => Seg M A R Y n s₀ c (H x) fs s') s) :
    Seg M A R Y n s₀ c ((exec st env).wrap K H gd lv) fs s := seg_wrap h
theorem seg_If {test : Expr} {body orelse : List Stmt} {pos : Pos}
    (h : wpAny M (A.over c fs) (isTrue test env (eval test env)) (fun b s' => Seg M A R Y n s₀ c ((execs (if b = true then body else orelse) env).wrap K H gd lv) fs s') (fun x s' => Seg M A R Y n s₀ c (H x) fs s') s) :
    Seg M A R Y n s₀ c ((exec (.If test body orelse pos) env).wrap K H gd lv) fs s := by
  rw [exec_If]
  refine seg_at ?_
  show Seg M A R Y n s₀ c ((isTrue test env (eval test env) >>= fun b => if b = true then execs body env else execs orelse env).wrap K H gd lv) fs s
  rw [Sem.bind_eq_wrap', Sem.wrap_wrap]
  refine seg_wrap (wpAny_mono h (fun b s' hb => ?_) fun _ _ e => e)
  cases b <;> exact hb
end
section
variable {prog : Program} {w : World} {A : Around} {R : GenEnd} {Y : Protocol} {n : Nat} {s₀ : Shared} {fs : List PySem.Frame} {s : Shared} {env : Env}
/-- a turn of a For within a generator -/
theorem seg_forLoop {x : Str} {px : Pos} {it : Value} {body : List Stmt}
    (h : wpAny (model prog w) (A.over (.forLoop (.Name x px) it body [] env) fs) (pyNext it) (fun r s₁ => match r with
      | none => Seg (model prog w) A R Y n s₀ (.block [] env) (.pure (.done .next)) fs s₁
      | some v => wpAny (model prog w) (A.over (.forLoop (.Name x px) it body [] env) fs) (storeName env x v) (fun _ s₂ =>
          Seg (model prog w) A R Y n s₀ (.forLoop (.Name x px) it body [] env) ((execs body env).wrap (fun f => match f with
            | .next | .cont => .pure (.again (.forLoop (.Name x px) it body [] env))
            | .brk => .pure (.done .next)
            | .ret v => .pure (.done (.ret v))) (fun e => (do noteFrame e env; theTreesLotGoes e : Sem Unit).wrap (fun _ => .raise e) .raise id id) id id) fs s₂)
          (fun x' s' => False) s₁)
      (fun _ _ => False) s) :
    Seg (model prog w) A R Y n s₀ (.forLoop (.Name x px) it body [] env) ((model prog w).den (.forLoop (.Name x px) it body [] env)) fs s := by
  show Seg _ A R Y n s₀ _ ((forTurn (.Name x px) it body [] env).onRaise (fun x => do noteFrame x env; theTreesLotGoes x)) fs s
  unfold forTurn
  rw [Sem.onRaise_eq_wrap]
  refine seg_at ?_
  show Seg _ A R Y n s₀ _ (Sem.wrap _ _ id id ((pyNext it).onRaise (fun _ => standAt _) >>= _)) fs s
  rw [Sem.bind_eq_wrap', Sem.wrap_wrap]
  refine seg_wrap (wpAny_onRaise (wpAny_mono h (fun r s₁ h₁ => ?_) fun _ _ e => e.elim))
  cases r with
  | none => exact seg_again rfl h₁
  | some v =>
    show Seg _ A R Y n s₀ _ (Sem.wrap _ _ id id (assign (.Name x px) env v >>= _)) fs s₁
    rw [Sem.bind_eq_wrap', Sem.wrap_wrap]
    refine seg_wrap (wpAny_assign_Name (wpAny_mono h₁ (fun _ s₂ h₂ => ?_) fun _ _ e => e.elim))
    show Seg _ A R Y n s₀ _ (Sem.wrap _ _ id id (execs body env >>= _)) fs s₂
    rw [Sem.bind_eq_wrap', Sem.wrap_wrap]
    rw [Sem.wrap_congr (execs body env) _ _ (K' := fun f => match f with
            | .next | .cont => .pure (.again (.forLoop (.Name x px) it body [] env))
            | .brk => .pure (.done .next)
            | .ret v => .pure (.done (.ret v))) (H' := (fun e => (do noteFrame e env; theTreesLotGoes e : Sem Unit).wrap (fun _ => .raise e) .raise id id))
        (fun f => by cases f <;> rfl)
        (fun e => by first | exact Sem.bind_eq_wrap _ _ | (show (do noteFrame e env; theTreesLotGoes e : Sem Unit).bind (fun _ => .raise e) = _; rw [Sem.bind_eq_wrap]))]
    exact h₂
end
end Mine
namespace Mine
/-- the generator's value number i -/
noncomputable def drawF (g : List Int) (i : Nat) : Option Int :=
  if i < firstEnd g then g[i]? else if (g.drop (firstEnd g)).take 1 = [0] then some (g.getD (firstEnd g - 1) 0) else none
/-- what the generator's steps are found to do, whatever stands around them -/
structure GEv (prog : Program) (w : World) (h₀ : Heap) (L : Addr) (env : Env) (xi xl : Str) (t1 t2 tw e1 e2 : Expr) (st3 stR stA : Stmt) : Prop where
  t1 : ∀ (A : Around) (s : Shared) (m : Str → Option Value) (v : Int) (t : Tok) (Q : Bool → Shared → Prop) (E : Value → Shared → Prop), A.handled = none → Fr h₀ L s.heap m → m xi = some (.int v t) → (∀ tk, Q (decide (v = 127)) { s with toks := tk }) → wpAny (model prog w) A (isTrue t1 env (eval t1 env)) Q E s
  t2 : ∀ (A : Around) (s : Shared) (m : Str → Option Value) (v : Int) (t : Tok) (Q : Bool → Shared → Prop) (E : Value → Shared → Prop), A.handled = none → Fr h₀ L s.heap m → m xi = some (.int v t) → (∀ tk, Q (decide (v = 0)) { s with toks := tk }) → wpAny (model prog w) A (isTrue t2 env (eval t2 env)) Q E s
  st3 : ∀ (A : Around) (s : Shared) (m : Str → Option Value) (v : Int) (t : Tok) (Q : Flow → Shared → Prop) (E : Value → Shared → Prop), A.handled = none → Fr h₀ L s.heap m → m xl = some (.int v t) → (∀ tk, Q .next { s with toks := tk }) → wpAny (model prog w) A (exec st3 env) Q E s
  tw : ∀ (A : Around) (s : Shared) (Q : Bool → Shared → Prop) (E : Value → Shared → Prop), A.handled = none → (∀ tk, Q true { s with toks := tk }) → wpAny (model prog w) A (isTrue tw env (eval tw env)) Q E s
  e1 : ∀ (A : Around) (s : Shared) (m : Str → Option Value) (v : Value) (Q : Value → Shared → Prop) (E : Value → Shared → Prop), A.handled = none → Fr h₀ L s.heap m → m xl = some v → (∀ tk, Q v { s with toks := tk }) → wpAny (model prog w) A (eval e1 env) Q E s
  e2 : ∀ (A : Around) (s : Shared) (m : Str → Option Value) (v : Value) (Q : Value → Shared → Prop) (E : Value → Shared → Prop), A.handled = none → Fr h₀ L s.heap m → m xi = some v → (∀ tk, Q v { s with toks := tk }) → wpAny (model prog w) A (eval e2 env) Q E s
  stR : ∀ (A : Around) (s : Shared) (Q : Flow → Shared → Prop) (E : Value → Shared → Prop), A.handled = none → (∀ tk, Q (.ret .none) { s with toks := tk }) → wpAny (model prog w) A (exec stR env) Q E s
  stA : ∀ (A : Around) (s : Shared) (m : Str → Option Value) (v : Value) (Q : Flow → Shared → Prop) (E : Value → Shared → Prop), A.handled = none → Fr h₀ L s.heap m → m xi = some v → (∀ h' tk, Fr h₀ L h' (fun y => if y = xl then some v else m y) → Heap.SameBut L s.heap h' → Q .next { s with heap := h', toks := tk }) → wpAny (model prog w) A (exec stA env) Q E s
  asg : ∀ (A : Around) (s : Shared) (m : Str → Option Value) (v : Value) (Q : Unit → Shared → Prop) (E : Value → Shared → Prop), A.handled = none → Fr h₀ L s.heap m → (∀ h' tk, Fr h₀ L h' (fun y => if y = xi then some v else m y) → Heap.SameBut L s.heap h' → Q () { s with heap := h', toks := tk }) → wpAny (model prog w) A (storeName env xi v) Q E s
/-- a word that asks for the base, the frame, the iterator and the list alone -/
noncomputable def Loc (h₀ : Heap) (S : List Addr) (W : Heap → Prop) : Prop := ∀ h h', W h → (∀ b ∈ S, ∀ o, h.get? b = some o → h'.get? b = some o) → (∀ b o, h₀.get? b = some o → h'.get? b = some o) → W h'
/-- all stands but two -/
noncomputable def Kp (L I : Addr) (h h' : Heap) : Prop := ∀ b o, b ≠ L → b ≠ I → h.get? b = some o → h'.get? b = some o
theorem Kp.refl {L I : Addr} {h : Heap} : Kp L I h h := fun _ _ _ _ e => e
theorem Kp.trans {L I : Addr} {a b c : Heap} (x : Kp L I a b) (y : Kp L I b c) : Kp L I a c := fun d o h1 h2 e => y d o h1 h2 (x d o h1 h2 e)
/-- the states that a stretch of the generator leads to -/
noncomputable def Led2 (L I : Addr) (s₀ s : Shared) : Prop := Kp L I s₀.heap s.heap ∧ ∃ h tk, s = { s₀ with heap := h, toks := tk }
theorem Led2.refl {L I : Addr} {s : Shared} : Led2 L I s s := ⟨Kp.refl, _, _, rfl⟩
theorem Led2.step {L I : Addr} {s₀ s : Shared} {h : Heap} {tk : Nat} (x : Led2 L I s₀ s) (k : Kp L I s.heap h) : Led2 L I s₀ { s with heap := h, toks := tk } := by
  (refine Mine.e0_2 x ?_; intro k1 z1r; (try clear x); (refine Mine.e2_1 z1r ?_; intro h1 t1 z1rx2; (try clear z1r); (rcases z1rx2 with rfl)))
  exact ⟨k1.trans k, _, _, rfl⟩
theorem Kp.same {L I : Addr} {h h' : Heap} (x : Heap.SameBut L h h') : Kp L I h h' := fun b o h1 _ e => x.extBut b o h1 e
theorem Kp.sameI {L I : Addr} {h h' : Heap} (x : Heap.SameBut I h h') : Kp L I h h' := fun b o _ h2 e => x.extBut b o h2 e
noncomputable def genY (h₀ : Heap) (L I l : Addr) (g : List Int) : Protocol := fun m s₀ v s κ => ∃ i x t, i + m = 12 ∧ drawF g i = some x ∧ v = .int x t ∧ Led2 L I s₀ s ∧
  ∃ W : Heap → Prop, Loc h₀ [L, I, l] W ∧ W s.heap ∧ (0 < m → ∀ s'', W s''.heap → κ (.send .none) s'')
noncomputable def genP (L I : Addr) (g : List Int) : Nat → Shared → Shared → Prop := fun n s₀ s => (∃ i, i + n = 13 ∧ drawF g i = none) ∧ Led2 L I s₀ s
noncomputable abbrev genR (L I : Addr) (g : List Int) : GenEnd := fun n s₀ r s => r = .ok (.ret .none) ∧ genP L I g n s₀ s
/-- the word between the turns of the generator's own loop -/
noncomputable def GWd (h₀ : Heap) (L I l : Addr) (items : Array Value) (g : List Int) (xi xl : Str) (i : Nat) (h : Heap) : Prop :=
  (∃ m, Fr h₀ L h m ∧ (i = 0 ∨ ∃ j x t, i = j + 1 ∧ g[j]? = some x ∧ m xl = some (.int x t))) ∧ h.IsListIter I l i ∧ h.IsList l items
section
variable {prog : Program} {w : World} {A : Around} {h₀ : Heap} {L I l : Addr} {items : Array Value} {g : List Int} {env : Env} {xi xl : Str} {px : Pos} {t1 t2 tw e1 e2 : Expr} {st3 stR stA : Stmt} {p1 p4 p5 y1 q1 y2 q2 : Pos} {fs : List PySem.Frame}
theorem fr_loc2 {h h' : Heap} {m : Nm} (F : Fr h₀ L h m) (k1 : ∀ o, h.get? L = some o → h'.get? L = some o) (k2 : ∀ b o, h₀.get? b = some o → h'.get? b = some o) : Fr h₀ L h' m :=
  ⟨F.ns.at' fun o e => k1 o e, k2, F.above⟩
theorem gen_while (ev : GEv prog w h₀ L env xi xl t1 t2 tw e1 e2 st3 stR stA) (hfs1 : splitAtGen fs = none) (hfs2 : fs.any PySem.Frame.guarded = false) (hA : ∀ c, (A.over c fs).handled = none)
    {z : Int} (hz : ∀ i, firstEnd g ≤ i → drawF g i = some z) (hco : env.scope.isCoroutine = false) (hi : interactive env = false) :
    ∀ m i (s₀ s : Shared), i + m = 12 → firstEnd g ≤ i → (∃ mm t, Fr h₀ L s.heap mm ∧ mm xl = some (.int z t)) → Led2 L I s₀ s →
      Seg (model prog w) A (genR L I g) (genY h₀ L I l g) (m + 1) s₀ (.whileLoop tw [.Expr (.Yield (some e1) y1) q1] [] env) ((model prog w).den (.whileLoop tw [.Expr (.Yield (some e1) y1) q1] [] env)) fs s := by
  intro m
  induction m with
  | zero =>
    intro i s₀ s him hei ⟨mm, t, F, hm⟩ hl
    refine PySem.seg_whileLoop (ev.tw _ _ _ _ (hA _) fun tk => ?_)
    rw [if_pos rfl]
    refine PySem.seg_execs_cons (PySem.seg_Expr_Yield hfs1 rfl hfs2 (ev.e1 _ _ mm _ _ _ (hA _) F hm fun tk2 kap hk => ?_) hco hi)
    exact ⟨i, z, t, him, hz i hei, rfl, (hl.step Kp.refl).step Kp.refl, fun _ => True, (fun _ _ _ _ _ => trivial), trivial, fun h => absurd h (Nat.lt_irrefl _)⟩
  | succ m ih =>
    intro i s₀ s him hei ⟨mm, t, F, hm⟩ hl
    refine PySem.seg_whileLoop (ev.tw _ _ _ _ (hA _) fun tk => ?_)
    rw [if_pos rfl]
    refine PySem.seg_execs_cons (PySem.seg_Expr_Yield hfs1 rfl hfs2 (ev.e1 _ _ mm _ _ _ (hA _) F hm fun tk2 kap hk => ?_) hco hi)
    refine ⟨i, z, t, him, hz i hei, rfl, (hl.step Kp.refl).step Kp.refl, fun h => Fr h₀ L h mm, (fun h h' x k1 k2 => fr_loc2 x (k1 L List.mem_cons_self) k2), F, fun _ s'' hw => hk .none s'' ?_⟩
    exact seg_again rfl (ih (i + 1) s'' s'' (by omega) (by omega) ⟨mm, t, hw, hm⟩ Led2.refl)
theorem end_of_none (h : g[i]? = none) (hi : i ≤ firstEnd g) : drawF g i = none := by
  have h1 : g.length ≤ i := List.getElem?_eq_none_iff.mp h
  have h2 : firstEnd g ≤ g.length := List.findIdx_le_length
  unfold drawF
  rw [if_neg (by omega), List.drop_eq_nil_of_le (by omega)]
  rfl
theorem end_is {i : Nat} {x : Int} (h : g[i]? = some x) (hi : i ≤ firstEnd g) (hx : x = 0 ∨ x = 127) : i = firstEnd g := by
  rcases Nat.lt_or_ge i (firstEnd g) with h1 | h1
  · have h2 := List.not_of_lt_findIdx h1
    obtain ⟨h3, h4⟩ := List.getElem?_eq_some_iff.mp h
    rw [h4] at h2
    rcases hx with rfl | rfl <;> exact absurd h2 (by decide)
  · omega
theorem drop_one {i : Nat} {x : Int} (h : g[i]? = some x) : (g.drop i).take 1 = [x] := by
  rw [List.take_one, List.head?_drop, h]; rfl
theorem end_of_max {i : Nat} (h : g[i]? = some 127) (hi : i ≤ firstEnd g) : drawF g i = none := by
  have e := end_is h hi (.inr rfl)
  unfold drawF
  rw [if_neg (by omega), ← e, drop_one h]
  rfl
theorem end_of_nought {i : Nat} (h : g[i]? = some 0) (hi : i ≤ firstEnd g) (j : Nat) (hj : firstEnd g ≤ j) : drawF g j = some (g.getD (i - 1) 0) := by
  have e := end_is h hi (.inl rfl)
  unfold drawF
  rw [if_neg (by omega), ← e, drop_one h]
  rfl
theorem draw_in {i : Nat} {x : Int} (h : g[i]? = some x) (hi : i ≤ firstEnd g) (h1 : x ≠ 0) (h2 : x ≠ 127) : i < firstEnd g ∧ drawF g i = some x := by
  have : i < firstEnd g := by
    rcases Nat.lt_or_ge i (firstEnd g) with h3 | h3
    · exact h3
    · have e : i = firstEnd g := by omega
      obtain ⟨h4, h5⟩ := List.getElem?_eq_some_iff.mp h
      have h6 := List.findIdx_getElem (xs := g) (p := isEnd) (w := by rw [show List.findIdx isEnd g = i from e.symm]; exact h4)
      have h7 : g[List.findIdx isEnd g]'(by rw [show List.findIdx isEnd g = i from e.symm]; exact h4) = x := by
        rw [← h5]; congr 1; exact e.symm
      rw [h7] at h6
      unfold isEnd at h6
      simp [h1, h2] at h6
  exact ⟨this, by unfold drawF; rw [if_pos this, h]⟩
theorem ints_get {vs : List Value} {ns : List Int} (hi : IntsAre vs ns) (i : Nat) : (vs[i]? = none ∧ ns[i]? = none) ∨ ∃ x t, vs[i]? = some (.int x t) ∧ ns[i]? = some x := by
  induction hi generalizing i with
  | nil => exact .inl ⟨rfl, rfl⟩
  | cons n t r ih =>
    cases i with
    | zero => exact .inr ⟨n, t, rfl, rfl⟩
    | succ i => exact ih i
theorem gen_for (ev : GEv prog w h₀ L env xi xl t1 t2 tw e1 e2 st3 stR stA) (hfs1 : splitAtGen fs = none) (hfs2 : fs.any PySem.Frame.guarded = false) (hA : ∀ c, (A.over c fs).handled = none)
    (hpop : ∀ n s₀ s c f, (f = .next ∨ f = .ret .none) → genR L I g n s₀ (.ok (.ret .none)) s → Seg (model prog w) A (genR L I g) (genY h₀ L I l g) n s₀ c (.pure (.done f)) fs s)
    (hIL : I ≠ L) (hI0 : h₀.get? I = none) (hlI : l ≠ I) (hlL : l ≠ L) (hxx : xi ≠ xl) (hg : IntsAre items.toList g) (h0 : 1 ≤ firstEnd g) (hco : env.scope.isCoroutine = false) (hi : interactive env = false) :
    ∀ m i (s₀ s : Shared), i + m = 12 → i ≤ firstEnd g → GWd h₀ L I l items g xi xl i s.heap → Led2 L I s₀ s →
      Seg (model prog w) A (genR L I g) (genY h₀ L I l g) (m + 1) s₀ (.forLoop (.Name xi px) (.ref I) [.If t1 [stR] [] p1, .If t2 [st3, .While tw [.Expr (.Yield (some e1) y1) q1] [] p4] [] p5, .Expr (.Yield (some e2) y2) q2, stA] [] env)
        ((model prog w).den (.forLoop (.Name xi px) (.ref I) [.If t1 [stR] [] p1, .If t2 [st3, .While tw [.Expr (.Yield (some e1) y1) q1] [] p4] [] p5, .Expr (.Yield (some e2) y2) q2, stA] [] env)) fs s := by
  have key : ∀ m i (s₀ s : Shared), i + m = 12 → i ≤ firstEnd g → GWd h₀ L I l items g xi xl i s.heap → Led2 L I s₀ s →
      (∀ s'' s6, 0 < m → i + 1 ≤ firstEnd g → GWd h₀ L I l items g xi xl (i + 1) s6.heap → Led2 L I s'' s6 → Seg (model prog w) A (genR L I g) (genY h₀ L I l g) m s'' (.forLoop (.Name xi px) (.ref I) [.If t1 [stR] [] p1, .If t2 [st3, .While tw [.Expr (.Yield (some e1) y1) q1] [] p4] [] p5, .Expr (.Yield (some e2) y2) q2, stA] [] env)
        ((model prog w).den (.forLoop (.Name xi px) (.ref I) [.If t1 [stR] [] p1, .If t2 [st3, .While tw [.Expr (.Yield (some e1) y1) q1] [] p4] [] p5, .Expr (.Yield (some e2) y2) q2, stA] [] env)) fs s6) →
      Seg (model prog w) A (genR L I g) (genY h₀ L I l g) (m + 1) s₀ (.forLoop (.Name xi px) (.ref I) [.If t1 [stR] [] p1, .If t2 [st3, .While tw [.Expr (.Yield (some e1) y1) q1] [] p4] [] p5, .Expr (.Yield (some e2) y2) q2, stA] [] env)
        ((model prog w).den (.forLoop (.Name xi px) (.ref I) [.If t1 [stR] [] p1, .If t2 [st3, .While tw [.Expr (.Yield (some e1) y1) q1] [] p4] [] p5, .Expr (.Yield (some e2) y2) q2, stA] [] env)) fs s := by
    (intro m i s₀ s him hie z2h; refine Mine.e0_3 z2h ?_; intro z2x0 hit hls; (try clear z2h); (refine Mine.e1_2 z2x0 ?_; intro mm F hprev; (try clear z2x0)); intro hl next)
    refine seg_forLoop ?_
    rcases ints_get hg i with ⟨hv, hgn⟩ | ⟨x, t, hv, hgx⟩
    · refine wpAny_pyNext_list_end (hA _) hit hls (by rw [← Array.getElem?_toList]; exact hv) fun h' hx => ?_
      refine hpop _ _ _ _ _ (.inl rfl) ⟨rfl, ⟨i, by omega, end_of_none hgn hie⟩, ?_⟩
      exact hl.step (tk := s.toks) fun b o _ h2 e => hx b o h2 e
    · refine wpAny_pyNext_list_item hit hls (x := .int x t) (by rw [← Array.getElem?_toList]; exact hv) fun h1 hit1 hs1 => ?_
      have F1 : Fr h₀ L h1 mm := ⟨F.ns.sameBut hs1 (Ne.symm hIL), fun b o e => hs1.extBut b o (fun q => by rw [q, hI0] at e; cases e) (F.keep b o e), F.above⟩
      have hls1 : h1.IsList l items := hls.extBut hs1.extBut hlI
      refine ev.asg _ _ mm _ _ _ (hA _) F1 fun h2 tk2 F2 hs2 => ?_
      have hit2 : h2.IsListIter I l (i + 1) := hit1.at fun o e => hs2.extBut _ o hIL e
      have hls2 : h2.IsList l items := hls1.extBut hs2.extBut hlL
      have hl2 : Led2 L I s₀ { s with heap := h2, toks := tk2 } := hl.step ((Kp.sameI hs1).trans (Kp.same hs2))
      have hxi : (fun y => if y = xi then some (Value.int x t) else mm y) xi = some (.int x t) := if_pos rfl
      have hxl : ∀ v, mm xl = some v → (fun y => if y = xi then some (Value.int x t) else mm y) xl = some v := fun v e => by
        show (if xl = xi then _ else _) = _
        rw [if_neg (Ne.symm hxx)]; exact e
      refine PySem.seg_execs_cons (seg_If (ev.t1 _ _ _ x t _ _ (hA _) F2 hxi fun tk3 => ?_))
      have hl3 : Led2 L I s₀ { s with heap := h2, toks := tk3 } := hl2.step Kp.refl
      by_cases h127 : x = 127
      · subst h127
        rw [if_pos (by decide)]
        refine PySem.seg_execs_cons (seg_exec (ev.stR _ _ _ _ (hA _) fun tk4 => ?_))
        exact hpop _ _ _ _ _ (.inr rfl) ⟨rfl, ⟨i, by omega, end_of_max hgx hie⟩, hl3.step Kp.refl⟩
      · rw [if_neg (by simpa using h127)]
        refine PySem.seg_execs_nil (PySem.seg_execs_cons (seg_If (ev.t2 _ _ _ x t _ _ (hA _) F2 hxi fun tk4 => ?_)))
        have hl4 : Led2 L I s₀ { s with heap := h2, toks := tk4 } := hl3.step Kp.refl
        by_cases h00 : x = 0
        · subst h00
          rw [if_pos (by decide)]
          obtain ⟨j, y, ty, rfl, hgj, hmj⟩ : ∃ j y t, i = j + 1 ∧ g[j]? = some y ∧ mm xl = some (.int y t) := by
            rcases hprev with rfl | h
            · have := end_is hgx hie (.inl rfl)
              omega
            · exact h
          refine PySem.seg_execs_cons (seg_exec (ev.st3 _ _ _ y ty _ _ (hA _) F2 (hxl _ hmj) fun tk5 => ?_))
          have hl5 : Led2 L I s₀ { s with heap := h2, toks := tk5 } := hl4.step Kp.refl
          refine PySem.seg_execs_cons (PySem.seg_While fun p => ?_)
          have hyz : g.getD (j + 1 - 1) 0 = y := by
            rw [List.getD_eq_getElem?_getD, Nat.add_sub_cancel, hgj]; rfl
          refine gen_while ev ?_ ?_ ?_ (fun q hq => end_of_nought hgx hie q hq) hco hi m (j + 1) s₀ _ him (by have := end_is hgx hie (.inl rfl); omega) ⟨_, ty, F2, by rw [hyz]; exact hxl _ hmj⟩ hl5
          · simp [splitAtGen, hfs1]
          · rw [List.any_cons, hfs2]; rfl
          · exact fun c => hA c
        · rw [if_neg (by simpa using h00)]
          obtain ⟨hlt, hdr⟩ := draw_in hgx hie h00 h127
          refine PySem.seg_execs_nil (PySem.seg_execs_cons (PySem.seg_Expr_Yield hfs1 rfl hfs2 (ev.e2 _ _ _ _ _ _ (hA _) F2 hxi fun tk5 kap hk => ?_) hco hi))
          refine ⟨i, x, t, him, hdr, rfl, hl4.step Kp.refl, fun h => Fr h₀ L h (fun y => if y = xi then some (Value.int x t) else mm y) ∧ h.IsListIter I l (i + 1) ∧ h.IsList l items, ?_, ⟨F2, hit2, hls2⟩, fun hm s'' hw => hk .none s'' ?_⟩
          · (intro h h' z3h; refine Mine.e0_3 z3h ?_; intro a1 a2 a3; (try clear z3h); intro k1 k2)
            exact ⟨fr_loc2 a1 (k1 L (by simp)) k2, a2.at fun o e => k1 I (by simp) o e, a3.at fun o e => k1 l (by simp) o e⟩
          · (refine Mine.e0_3 hw ?_; intro w1 w2 w3; (try clear hw))
            refine PySem.seg_execs_cons (seg_exec (ev.stA _ _ _ _ _ _ (hA _) w1 hxi fun h6 tk6 F6 hs6 => ?_))
            refine PySem.seg_execs_nil (seg_again rfl ?_)
            refine next s'' _ hm (by omega) ⟨⟨_, F6, .inr ⟨i, x, t, rfl, hgx, if_pos rfl⟩⟩, w2.at fun o e => hs6.extBut _ o hIL e, w3.at fun o e => hs6.extBut _ o hlL e⟩ (Led2.refl.step (Kp.same hs6))
  intro m
  induction m with
  | zero => exact fun i s₀ s h1 h2 h3 h4 => key 0 i s₀ s h1 h2 h3 h4 fun _ _ h => absurd h (Nat.lt_irrefl _)
  | succ m ih => exact fun i s₀ s h1 h2 h3 h4 => key (m + 1) i s₀ s h1 h2 h3 h4 fun s'' s6 _ h5 h6 h7 => ih (i + 1) s'' s6 (by omega) h5 h6 h7
end
end Mine
namespace Mine
section
variable {prog : Program} {w : World} {A : Around} {E : Value → Shared → Prop} {s : Shared}
theorem nextOf_gen {a : Addr} {g n : Nat} {gs : GenState} {P : Nat → Shared → Shared → Prop} {Y : Protocol} {Q : Value → Shared → Prop} (hh : A.handled = none)
    (hl : s.heap.NoLimit) (hroom : A.depth < recursionLimit)
    (hg : s.heap.IsGen a g) (hgs : s.gens[g]? = some gs)
    (hgo : gs.Goes (model prog w) A.in1 (fun n s₀ r s₁ => r = .ok (.ret .none) ∧ P n s₀ s₁) Y n (.send .none) (s.setGen g .running))
    (hY : ∀ v s₁ gs', gs'.bare = true → Y (n - 1) (s.setGen g .running) v s₁ (fun r' s'' => match n with
        | 0 => False
        | m + 1 => gs'.Goes (model prog w) A.in1 (fun n s₀ r s₁ => r = .ok (.ret .none) ∧ P n s₀ s₁) Y m r' s'') → Q v (s₁.setGen g gs'))
    (hP : ∀ s₁, P n (s.setGen g .running) s₁ → ∀ h' e, (∀ b o, s₁.heap.get? b = some o → h'.get? b = some o) → (∃ o, h'.get? e = some o ∧ o.cls = .type "StopIteration") → E (.ref e) { s₁.setGen g .finished with heap := h' }) :
    wpAny (model prog w) A (Builtin.SmallTypes.nextOf (.ref a)) Q E s := by
  unfold Builtin.SmallTypes.nextOf
  refine wpAny_bind (wpAny_callSpecial?_slot (name := Str.ofString "__next__") hg.typeIs slot_gen_next
    (wpAny_call_entry slot_gen_next hg.typeIs entry_gen_next ?_ (args_gen_next _)))
  show wpAny _ _ (Builtin.Generator.genWake (.ref a) (.send .none)) _ _ s
  unfold Builtin.Generator.genWake
  refine wpAny_bind (wpAny_holding (wpAny_genNumber hg (wpAny_bind (wpAny_genState hgs ?_))))
  cases gs with
  | running => exact hgo.elim
  | finished => exact hgo.elim
  | _ =>
    refine wpAny_bind (wpAny_roomToWake hl hroom ?_)
    show wpAny _ _ (.resume g (.send .none) [] _) _ _ s
    refine wpAny_resumeQ hgs hgo (fun x s₁ hx => ?_) (fun v s₁ gs' hb hv => ?_)
    · obtain ⟨rfl, hp⟩ := hx
      show wpAny _ _ (newExc (.type "StopIteration") [] >>= _) _ _ _
      refine wpAny_bind ?_
      simp only [newExc, newTuple]
      refine wpAny_bind (wpAny_newObj_type ?_ (by size_fits))
      refine wpAny_bind (m := firstArgMember _ _) (wpAny_of_eq (a := Value.none) (by first | rfl | (simp only [firstArgMember]; rfl)) ?_)
      refine wpAny_newObj_type ?_ (by size_fits)
      simp only [raiseNew]
      refine wpAny_bind (wpAny_bind (wpAny_handled ?_))
      rw [show A.in1.handled = none from hh]
      refine wpAny_throw ?_
      exact hP s₁ hp _ _ (fun b o hb => Heap.get?_push_of_some _ (Heap.get?_push_of_some _ hb)) ⟨_, Heap.get?_push_size _ rfl, rfl⟩
    · exact wpAny_pure ⟨v, rfl, wpAny_pure (hY v s₁ gs' hb hv)⟩
end
section
variable {prog : Program} {w : World} {A : Around} {h₀ : Heap} {L l : Addr} {items : Array Value} {g : List Int} {env : Env} {xi xl xg : Str} {px : Pos} {t1 t2 tw e1 e2 iter : Expr} {st3 stR stA stI : Stmt} {p1 p4 p5 y1 q1 y2 q2 pf : Pos}
theorem gen_fresh {s : Shared} {m : Nm} (ev : GEv prog w h₀ L env xi xl t1 t2 tw e1 e2 st3 stR stA) (hh : A.handled = none)
    (hstI : ∀ (A : Around) (s : Shared) (m : Str → Option Value) (Q : Flow → Shared → Prop) (E : Value → Shared → Prop), A.handled = none → Fr h₀ L s.heap m → (∀ h' tk, Fr h₀ L h' (fun y => if y = xl then some .none else m y) → Heap.SameBut L s.heap h' → Q .next { s with heap := h', toks := tk }) → wpAny (model prog w) A (exec stI env) Q E s)
    (hiter : ∀ (A : Around) (s : Shared) (m : Str → Option Value) (v : Value) (Q : Value → Shared → Prop) (E : Value → Shared → Prop), A.handled = none → Fr h₀ L s.heap m → m xg = some v → (∀ tk, Q v { s with toks := tk }) → wpAny (model prog w) A (eval iter env) Q E s)
    (hs : ∀ x, foldedSetIterable iter env x = pure x) (hxx : xi ≠ xl) (hxg : xg ≠ xl) (hg : IntsAre items.toList g) (h0 : 1 ≤ firstEnd g) (hco : env.scope.isCoroutine = false) (hi : interactive env = false)
    (F : Fr h₀ L s.heap m) (hm : m xg = some (.ref l)) (hls : s.heap.IsList l items) (hlL : l ≠ L) :
    Seg (model prog w) A (genR L s.heap.objs.size g) (genY h₀ L s.heap.objs.size l g) 13 s
      (.func [stI, .For (.Name xi px) iter [.If t1 [stR] [] p1, .If t2 [st3, .While tw [.Expr (.Yield (some e1) y1) q1] [] p4] [] p5, .Expr (.Yield (some e2) y2) q2, stA] [] pf] env)
      ((model prog w).den (.func [stI, .For (.Name xi px) iter [.If t1 [stR] [] p1, .If t2 [st3, .While tw [.Expr (.Yield (some e1) y1) q1] [] p4] [] p5, .Expr (.Yield (some e2) y2) q2, stA] [] pf] env)) [] s := by
  have hLs : L < s.heap.objs.size := F.ns.lt
  have hle : l < s.heap.objs.size := by (refine Mine.e1_2 hls ?_; intro o ho _; (try clear hls)); exact Heap.lt_size ho
  refine PySem.seg_func (PySem.seg_execs_cons (seg_exec (hstI _ _ m _ _ hh F fun h1 tk1 F1 hs1 => ?_)))
  refine PySem.seg_execs_cons (seg_For ?_ hs)
  refine hiter _ _ _ (.ref l) _ _ hh F1 (by show (if xg = xl then _ else _) = _; rw [if_neg hxg]; exact hm) fun tk2 => ?_
  have hl1 := hls.extBut hs1.extBut hlL
  refine wpAny_pyIter_list hl1 fun p => ?_
  rw [show ({ s with heap := h1, toks := tk2 } : Shared).heap.objs.size = s.heap.objs.size from hs1.1]
  have up : ∀ b o, h1.get? b = some o → (h1.push { cls := .type "list_iterator", data := .fields #[.ref l, .int 0 0] }).get? b = some o := fun b o e => Heap.get?_push_of_some _ e
  have hIt : (h1.push { cls := .type "list_iterator", data := .fields #[.ref l, .int 0 0] }).IsListIter s.heap.objs.size l 0 := ⟨{ cls := .type "list_iterator", data := .fields #[.ref l, .int 0 0] }, by rw [← hs1.1]; exact Heap.get?_push_size _ rfl, rfl, rfl⟩
  refine gen_for ev ?_ ?_ ?_ ?_ (Nat.ne_of_gt hLs) (Heap.get?_none_of_le (Nat.le_of_lt (Nat.lt_of_le_of_lt F.above hLs))) (Nat.ne_of_lt hle) hlL hxx hg h0 hco hi 12 0 s _ rfl (Nat.zero_le _) ⟨⟨_, F1.keeps up, .inl rfl⟩, hIt, hl1.at fun o e => up _ o e⟩ ?_
  · rfl
  · rfl
  · exact fun c => hh
  · intro n s₀ s' c f hf hR
    refine seg_leaf (.ok f) ?_
    rcases hf with rfl | rfl
    · exact seg_end (.ok (.ret .none)) hR
    · exact seg_end (.ok (.ret .none)) hR
  · refine ⟨fun b o hb _ e => up b o (hs1.extBut b o hb e), _, _, rfl⟩
/-- where the generator stands that has given i values; O: what it has made -/
noncomputable def GSt (prog : Program) (w : World) (A : Around) (h₀ : Heap) (L l : Addr) (g : List Int) (W0 : Heap → Prop) (c0 : Code) (O : Addr → Prop) (i : Nat) (h : Heap) (gs : GenState) : Prop :=
  (i = 0 ∧ (∀ b, ¬ O b) ∧ gs = .fresh c0 ∧ W0 h) ∨
  ∃ (I : Addr) (W : Heap → Prop), (∀ b, O b ↔ b = I) ∧ Loc h₀ [L, I, l] W ∧ W h ∧ (i < 12 → ∀ s : Shared, W s.heap → gs.Goes (model prog w) A (genR L I g) (genY h₀ L I l g) (13 - i) (.send .none) s)
theorem GSt.loc {W0 : Heap → Prop} {c0 : Code} {O : Addr → Prop} {i : Nat} {h h' : Heap} {gs : GenState} (S : GSt prog w A h₀ L l g W0 c0 O i h gs) (hW : Loc h₀ [L, l] W0)
    (k1 : ∀ b o, b = L ∨ b = l ∨ O b → h.get? b = some o → h'.get? b = some o) (k2 : ∀ b o, h₀.get? b = some o → h'.get? b = some o) : GSt prog w A h₀ L l g W0 c0 O i h' gs := by
  rcases S with ⟨a, b, c, d⟩ | ⟨I, W, a, b, c, d⟩
  · exact .inl ⟨a, b, c, hW _ _ d (fun x hx o e => k1 x o (by simp only [List.mem_cons, List.not_mem_nil, or_false] at hx; rcases hx with h | h <;> simp [h]) e) k2⟩
  · refine .inr ⟨I, W, a, b, b _ _ c (fun x hx o e => k1 x o ?_ e) k2, d⟩
    simp only [List.mem_cons, List.not_mem_nil, or_false] at hx
    rcases hx with h | h | h
    · exact .inl h
    · exact .inr (.inr ((a x).mpr h))
    · exact .inr (.inl h)
theorem bare_set {a : Array GenState} {i : Nat} {x : GenState} (h : AllBare a) (hx : x.bare = true) : AllBare (a.setIfInBounds i x) := fun y hy => by
  (have z2 := (Array.mem_iff_getElem.mp hy); refine Mine.e1_1 z2 ?_; intro j z2r; (try clear z2); (rcases z2r with ⟨hj, rfl⟩))
  rw [Array.size_setIfInBounds] at hj
  rw [Array.getElem_setIfInBounds (by simpa using hj)]
  split
  · exact hx
  · exact h _ (Array.getElem_mem hj)
theorem gdraw {s : Shared} {G : Addr} {gn : Nat} {gs : GenState} {W0 : Heap → Prop} {c0 : Code} {O : Addr → Prop} {i : Nat} {Q : Value → Shared → Prop} {E : Value → Shared → Prop} (hh : A.handled = none) (hl : s.heap.NoLimit) (hroom : A.depth < recursionLimit)
    (hG : s.heap.IsGen G gn) (hgs : s.gens[gn]? = some gs) (S : GSt prog w A.in1 h₀ L l g W0 c0 O i s.heap gs) (hi : i < 12) (hbr : AllBare s.gens)
    (hW0 : ∀ s : Shared, W0 s.heap → Seg (model prog w) A.in1 (genR L s.heap.objs.size g) (genY h₀ L s.heap.objs.size l g) 13 s c0 ((model prog w).den c0) [] s)
    (hQ : ∀ x t h' tk gens' gs' O', drawF g i = some x → AllBare gens' → gens'[gn]? = some gs' → GSt prog w A.in1 h₀ L l g W0 c0 O' (i + 1) h' gs' → (∀ b, O' b → O b ∨ s.heap.get? b = none) →
      (∀ b o, b ≠ L → ¬ O b → s.heap.get? b = some o → h'.get? b = some o) → Q (.int x t) { s with heap := h', toks := tk, gens := gens' })
    (hE : ∀ e h' tk gens', drawF g i = none → AllBare gens' → (∀ b o, b ≠ L → ¬ O b → s.heap.get? b = some o → h'.get? b = some o) → (∃ o, h'.get? e = some o ∧ o.cls = .type "StopIteration") → E (.ref e) { s with heap := h', toks := tk, gens := gens' }) :
    wpAny (model prog w) A (Builtin.SmallTypes.nextOf (.ref G)) Q E s := by
  have hgl : gn < s.gens.size := (Array.getElem?_eq_some_iff.mp hgs).1
  obtain ⟨I, hO1, hO2, hgo⟩ : ∃ I, (∀ b, O b → b = I) ∧ (O I ∨ s.heap.get? I = none) ∧ gs.Goes (model prog w) A.in1 (genR L I g) (genY h₀ L I l g) (13 - i) (.send .none) (s.setGen gn .running) := by
    rcases S with ⟨rfl, b, rfl, d⟩ | ⟨I, W, a, b, c, d⟩
    · exact ⟨s.heap.objs.size, fun x hx => absurd hx (b x), .inr (Heap.get?_none_of_le (Nat.le_refl _)), rfl, hW0 (s.setGen gn .running) d⟩
    · exact ⟨I, fun x hx => (a x).mp hx, .inl ((a I).mpr rfl), d hi (s.setGen gn .running) c⟩
  have keep : ∀ {h' : Heap}, Kp L I s.heap h' → ∀ b o, b ≠ L → ¬ O b → s.heap.get? b = some o → h'.get? b = some o := fun k b o h1 h2 e => by
    refine k b o h1 (fun q => ?_) e
    rcases hO2 with h | h
    · exact h2 (q ▸ h)
    · rw [q, h] at e; cases e
  refine nextOf_gen hh hl hroom hG hgs hgo (fun v s₁ gs' hb hv => ?_) (fun s₁ hp h' e hk he => ?_)
  · (refine Mine.e3_5 hv ?_; intro i' x t him hd z3x5 z3x6 z3r; (try clear hv); (rcases z3x5 with rfl); (refine Mine.e0_2 z3x6 ?_; intro k z3x6r; (try clear z3x6); (refine Mine.e2_1 z3x6r ?_; intro h' tk z3x6rx2; (try clear z3x6r); (rcases z3x6rx2 with rfl))); (refine Mine.e1_3 z3r ?_; intro W hW1 hW2 hW3; (try clear z3r)))
    have hii : i' = i := by omega
    subst hii
    refine hQ x t h' tk ((s.gens.setIfInBounds gn .running).setIfInBounds gn gs') gs' (fun b => b = I) hd (bare_set (bare_set hbr rfl) hb) ?_ (.inr ⟨I, W, fun _ => Iff.rfl, hW1, hW2, fun h12 s'' hs'' => ?_⟩) (fun b hb => ?_) (keep k)
    · rw [Array.getElem?_setIfInBounds_self, if_pos (by rw [Array.size_setIfInBounds]; exact hgl)]
    · have := hW3 (by omega) s'' hs''
      rw [show 13 - i' = (13 - (i' + 1)) + 1 by omega] at this
      exact this
    · rcases hO2 with h | h
      · exact .inl (hb ▸ h)
      · exact .inr (hb ▸ h)
  · (rcases hp with ⟨⟨i', him, hd⟩, ⟨k, h1, tk, rfl⟩⟩)
    have hii : i' = i := by omega
    subst hii
    exact hE e h' tk _ hd (bare_set (bare_set hbr rfl) rfl) (fun b o h1 h2 x => hk b o (keep k b o h1 h2 x)) he
end
end Mine
namespace Mine
section
variable {prog : Program} {w : World} {A : Around} {E : Value → Shared → Prop} {s : Shared}
theorem nextOf_range_item {it : Addr} {x left step : Int} {Q : Value → Shared → Prop} (hit : IsRangeIter s.heap it x left step) (hleft : 0 < left)
    (hQ : ∀ h', IsRangeIter h' it (x + step) (left - 1) step → Heap.SameBut it s.heap h' → Q (.int x s.toks) { s with heap := h', toks := s.toks + 1 }) :
    wpAny (model prog w) A (Builtin.SmallTypes.nextOf (.ref it)) Q E s := by
  have hT : s.TypeIs (.ref it) "range_iterator" := ⟨_, hit, rfl⟩
  unfold Builtin.SmallTypes.nextOf
  refine wpAny_bind (wpAny_callSpecial?_slot (name := Str.ofString "__next__") hT F.slot_range_iterator_next
    (call_meets F.slot_range_iterator_next hT F.entry_range_iterator_next (F.args_range_iterator_next_1 _) (AutoRange.range_iterator___next___range_iterator_1 it x left step (by omega)) ⟨hit, ?_⟩))
  exact wpAny_pure (hQ _ (Heap.get?_update_self _ (Heap.get?_update_self _ hit rfl) rfl) ((Heap.SameBut.update ..).trans (Heap.SameBut.update ..)))
theorem nextOf_range_end {it : Addr} {x left step : Int} {Q : Value → Shared → Prop} (hh : A.handled = none) (hit : IsRangeIter s.heap it x left step) (hleft : left ≤ 0)
    (hE : ∀ h' e, Heap.ExtBut it s.heap h' → (∃ o, h'.get? e = some o ∧ o.cls = .type "StopIteration") → E (.ref e) { s with heap := h' }) : wpAny (model prog w) A (Builtin.SmallTypes.nextOf (.ref it)) Q E s := by
  have hT : s.TypeIs (.ref it) "range_iterator" := ⟨_, hit, rfl⟩
  unfold Builtin.SmallTypes.nextOf
  refine wpAny_bind (wpAny_callSpecial?_slot (name := Str.ofString "__next__") hT F.slot_range_iterator_next
    (wpAny_call_entry F.slot_range_iterator_next hT F.entry_range_iterator_next ?_ (F.args_range_iterator_next_1 _)))
  show wpAny _ _ (field (.ref it) 0 >>= _) _ _ s
  refine wpAny_bind (wpAny_field hit rfl (x := rawInt x) rfl ?_)
  show wpAny _ _ (field (.ref it) 1 >>= _) _ _ s
  refine wpAny_bind (wpAny_field hit rfl (x := rawInt left) rfl ?_)
  show wpAny _ _ (field (.ref it) 2 >>= _) _ _ s
  refine wpAny_bind (wpAny_field hit rfl (x := rawInt step) rfl ?_)
  show wpAny _ _ (if left ≤ 0 then _ else _) _ _ s
  rw [if_pos hleft]
  refine wpAny_bind (wpAny_rule ?_)
  refine wpAny_bind ?_
  show wpAny _ _ (newExc (.type "StopIteration") [] >>= _) _ _ _
  refine wpAny_bind ?_
  simp only [newExc, newTuple]
  refine wpAny_bind (wpAny_newObj_type ?_ (by size_fits))
  refine wpAny_bind (m := firstArgMember _ _) (wpAny_of_eq (a := Value.none) (by first | rfl | (simp only [firstArgMember]; rfl)) ?_)
  refine wpAny_newObj_type ?_ (by size_fits)
  simp only [raiseNew]
  refine wpAny_bind (wpAny_handled ?_)
  first | rw [show A.in1.handled = none from hh] | rw [hh]
  refine wpAny_bind (wpAny_pure (wpAny_throw ?_))
  exact hE _ _ (((Heap.ExtBut.refl it s.heap).push _).push _) ⟨_, Heap.get?_push_size _ rfl, rfl⟩
structure ZX (z TI TO i1 L : Addr) (O : Addr → Prop) : Prop where
  TIz : TI ≠ z
  TOz : TO ≠ z
  i1z : i1 ≠ z
  TITO : TI ≠ TO
  TIi1 : TI ≠ i1
  TOi1 : TO ≠ i1
  zL : z ≠ L
  TIL : TI ≠ L
  TOL : TO ≠ L
  i1L : i1 ≠ L
  zO : ¬ O z
  TIO : ¬ O TI
  TOO : ¬ O TO
  i1O : ¬ O i1
noncomputable abbrev AllBut (z TO i1 L : Addr) (O : Addr → Prop) (h h' : Heap) : Prop := ∀ c o, c ≠ z → c ≠ TO → c ≠ i1 → c ≠ L → ¬ O c → h.get? c = some o → h'.get? c = some o
theorem zgen_body {z TI TO i1 i2 L : Addr} {O : Addr → Prop} {i left : Int} {X : Value → Heap → Array GenState → Prop} {Z : Array GenState → Prop} {Q : Value → Shared → Prop} (D : ZX z TI TO i1 L O)
    (hz : IsZip s.heap z TI TO .none) (hTI : IsPair s.heap TI (.ref i1) (.ref i2)) (hTO : ∃ a b, IsPair s.heap TO a b) (h1 : IsRangeIter s.heap i1 i left 1) (hleft : 0 < left)
    (h2 : ∀ (s' : Shared) (Q : Value → Shared → Prop) (E : Value → Shared → Prop), (∀ b o, b ≠ z → b ≠ TO → b ≠ i1 → s.heap.get? b = some o → s'.heap.get? b = some o) → (∀ b, (∃ o, s.heap.get? b = some o) → ∃ o, s'.heap.get? b = some o) → (∃ h tk, s' = { s with heap := h, toks := tk }) →
      (∀ y h' tk gens', X y h' gens' → (∀ b o, b ≠ L → ¬ O b → s'.heap.get? b = some o → h'.get? b = some o) → Q y { s' with heap := h', toks := tk, gens := gens' }) →
      (∀ e h' tk gens', Z gens' → (∀ b o, b ≠ L → ¬ O b → s'.heap.get? b = some o → h'.get? b = some o) → (∃ o, h'.get? e = some o ∧ o.cls = .type "StopIteration") → E (.ref e) { s' with heap := h', toks := tk, gens := gens' }) →
      wpAny (model prog w) A (Builtin.SmallTypes.nextOf (.ref i2)) Q E s')
    (hX : ∀ y h h' g, X y h g → (∀ b o, b ≠ z → b ≠ TO → h.get? b = some o → h'.get? b = some o) → X y h' g)
    (hQ : ∀ (x : Int) (y : Value) (T : Addr) h' tk gens', x = i → X y h' gens' → IsZip h' z TI TO (rawInt T) → IsPair h' TI (.ref i1) (.ref i2) → (∃ a b, IsPair h' TO a b) → IsRangeIter h' i1 (i + 1) (left - 1) 1 → (∃ t, IsPair h' T (.int x t) y) →
      AllBut z TO i1 L O s.heap h' → Q (.ref T) { s with heap := h', toks := tk, gens := gens' })
    (hE : ∀ e h' tk gens', Z gens' → AllBut z TO i1 L O s.heap h' → (∃ o, h'.get? e = some o ∧ o.cls = .type "StopIteration") → E (.ref e) { s with heap := h', toks := tk, gens := gens' }) :
    wpAny (model prog w) A (Builtin.«zip.__next__» ⟨[.ref z], []⟩) (fun fin s' => ∃ v, fin = .done (.ret v) ∧ Q v s') E s := by
  (have z1 := hTO; clear hTO; refine Mine.e2_1 z1 ?_; intro a b hTO; (try clear z1))
  show wpAny _ _ (field (.ref z) 2 >>= _) _ _ _
  refine wpAny_bind (wpAny_field hz rfl (x := .bool false) rfl ?_)
  show wpAny _ _ (field (.ref z) 3 >>= _) _ _ _
  refine wpAny_bind (wpAny_field hz rfl (x := .ref TI) rfl ?_)
  refine wpAny_bind (wpAny_seqItems hTI rfl ?_)
  show wpAny _ _ (Builtin.SmallTypes.ownedTupleIsFree (.ref z) >>= _) _ _ _
  refine wpAny_bind ?_
  unfold Builtin.SmallTypes.ownedTupleIsFree
  refine wpAny_bind (wpAny_field hz rfl (x := .none) rfl (wpAny_pure ?_))
  simp only [if_true]
  refine wpAny_bind (wpAny_rule ?_)
  refine wpAny_bind (wpAny_field hz rfl (x := .ref TO) rfl ?_)
  refine wpAny_bind (wpAny_setField_rec hz (by simp) fun h₁ hz₁ hs₁ => ?_)
  replace hz₁ : IsZip h₁ z TI TO .ellipsis := hz₁
  refine wpAny_bind ?_
  simp only [List.zipIdx_cons, List.zipIdx_nil, List.forIn_cons, List.forIn_nil]
  refine wpAny_bind (wpAny_bind (wpAny_onRaise ?_))
  show wpAny _ _ (Builtin.SmallTypes.nextOf (.ref i1) >>= _) _ _ _
  have h1₁ : IsRangeIter h₁ i1 i left 1 := hs₁.extBut _ _ D.i1z h1
  refine wpAny_bind (nextOf_range_item h1₁ hleft fun h₂ h1₂ hs₂ => wpAny_pure ?_)
  have hTO₂ : IsPair h₂ TO a b := hs₂.extBut _ _ D.TOi1 (hs₁.extBut _ _ D.TOz hTO)
  refine wpAny_bind (wpAny_seqItems hTO₂ rfl ?_)
  refine wpAny_bind (wpAny_updateSeq_pair hTO₂ fun h₃ hTO₃ hs₃ => ?_)
  replace hTO₃ : IsPair h₃ TO (.int i s.toks) b := hTO₃
  refine wpAny_bind (wpAny_letGo (wpAny_pure ?_))
  refine wpAny_bind (wpAny_bind (wpAny_onRaise ?_))
  show wpAny _ _ (Builtin.SmallTypes.nextOf (.ref i2) >>= _) _ _ _
  have k₃ : ∀ b o, b ≠ z → b ≠ TO → b ≠ i1 → s.heap.get? b = some o → h₃.get? b = some o := fun b o c1 c2 c3 e => hs₃.extBut _ _ c2 (hs₂.extBut _ _ c3 (hs₁.extBut _ _ c1 e))
  have hz₃ : IsZip h₃ z TI TO .ellipsis := hs₃.extBut _ _ D.TOz.symm (hs₂.extBut _ _ D.i1z.symm hz₁)
  have hr₃ : IsRangeIter h₃ i1 (i + 1) (left - 1) 1 := hs₃.extBut _ _ D.TOi1.symm h1₂
  have hTI₃ : IsPair h₃ TI (.ref i1) (.ref i2) := k₃ _ _ D.TIz D.TITO D.TIi1 hTI
  have lv₃ : ∀ b, (∃ o, s.heap.get? b = some o) → ∃ o, h₃.get? b = some o := fun b ⟨o, e⟩ => by
    by_cases b1 : b = z
    · exact ⟨_, b1 ▸ hz₃⟩
    · by_cases b2 : b = TO
      · exact ⟨_, b2 ▸ hTO₃⟩
      · by_cases b3 : b = i1
        · exact ⟨_, b3 ▸ hr₃⟩
        · exact ⟨o, k₃ b o b1 b2 b3 e⟩
  refine wpAny_bind (h2 _ _ _ k₃ lv₃ ⟨_, _, rfl⟩ (fun y h₄ tk₄ gens' hX₄ k₄ => wpAny_pure ?_) (fun e h₄ tk₄ gens' hZ k₄ he => ?_))
  · have hTO₄ := k₄ _ _ D.TOL D.TOO hTO₃
    refine wpAny_bind (wpAny_seqItems hTO₄ rfl ?_)
    refine wpAny_bind (wpAny_updateSeq_pair hTO₄ fun h₅ hTO₅ hs₅ => ?_)
    replace hTO₅ : IsPair h₅ TO (.int i s.toks) y := hTO₅
    refine wpAny_bind (wpAny_letGo (wpAny_pure (wpAny_pure ?_)))
    refine wpAny_bind (wpAny_seqItems hTO₅ rfl ?_)
    refine wpAny_bind (wpAny_newTuple ?_)
    have hz₅ : IsZip h₅ z TI TO .ellipsis := hs₅.extBut _ _ D.TOz.symm (k₄ _ _ D.zL D.zO hz₃)
    have hzlt : z < h₅.objs.size := Heap.lt_size hz₅
    show wpAny _ _ (Builtin.SmallTypes.ownedTupleHandOut (.ref z) (.ref h₅.objs.size) >>= _) _ _ _
    refine wpAny_bind ?_
    unfold Builtin.SmallTypes.ownedTupleHandOut
    have hz₆ : IsZip (h₅.push { cls := .type "tuple", data := .seq #[.int i s.toks, y] }) z TI TO .ellipsis := Heap.get?_push_of_some _ hz₅
    refine wpAny_bind (wpAny_setField_rec hz₆ (by simp) fun h₇ hz₇ hs₇ => ?_)
    replace hz₇ : IsZip h₇ z TI TO (rawInt h₅.objs.size) := hz₇
    refine wpAny_setField_rec hz₇ (by simp) fun h₈ hz₈ hs₈ => ?_
    replace hz₈ : IsZip h₈ z TI TO (rawInt h₅.objs.size) := hz₈
    have up : ∀ c o, c ≠ z → h₅.get? c = some o → h₈.get? c = some o := fun c o c1 e => hs₈.extBut _ _ c1 (hs₇.extBut _ _ c1 (Heap.get?_push_of_some _ e))
    have hT₈ : IsPair h₈ h₅.objs.size (.int i s.toks) y := hs₈.extBut _ _ (Nat.ne_of_gt hzlt) (hs₇.extBut _ _ (Nat.ne_of_gt hzlt) (Heap.get?_push_size _ rfl))
    refine wpAny_pure ⟨_, rfl, ?_⟩
    have up4 : ∀ c o, c ≠ z → c ≠ TO → h₄.get? c = some o → h₈.get? c = some o := fun c o c1 c2 e => up c o c1 (hs₅.extBut _ _ c2 e)
    exact hQ i y h₅.objs.size h₈ tk₄ gens' rfl (hX _ _ _ _ hX₄ up4) hz₈ (up4 _ _ D.TIz D.TITO (k₄ _ _ D.TIL D.TIO hTI₃)) ⟨_, _, up _ _ D.TOz hTO₅⟩ (up4 _ _ D.i1z D.TOi1.symm (k₄ _ _ D.i1L D.i1O hr₃)) ⟨_, hT₈⟩
      fun c o c1 c2 c3 c4 c5 e => up4 c o c1 c2 (k₄ c o c4 c5 (k₃ c o c1 c2 c3 e))
  · (refine Mine.e1_2 he ?_; intro oe hoe hce; (try clear he))
    have hz₄ : IsZip h₄ z TI TO .ellipsis := k₄ _ _ D.zL D.zO hz₃
    have hez : e ≠ z := fun x => by subst x; rw [hz₄] at hoe; cases hoe; simp at hce
    exact wpAny_setField_rec hz₄ (by simp) fun h₅ _ hs₅ => hE e h₅ _ _ hZ (fun c o c1 c2 c3 c4 c5 x => hs₅.extBut _ _ c1 (k₄ c o c4 c5 (k₃ c o c1 c2 c3 x))) ⟨oe, hs₅.extBut _ _ hez hoe, hce⟩
theorem zgen_stop {z TI TO i1 i2 L : Addr} {O : Addr → Prop} {i left : Int} {Q : Fin → Shared → Prop} (D : ZX z TI TO i1 L O) (hh : A.handled = none)
    (hz : IsZip s.heap z TI TO .none) (hTI : IsPair s.heap TI (.ref i1) (.ref i2)) (h1 : IsRangeIter s.heap i1 i left 1) (hleft : left ≤ 0)
    (hE : ∀ e h' tk, AllBut z TO i1 L O s.heap h' → (∃ o, h'.get? e = some o ∧ o.cls = .type "StopIteration") → E (.ref e) { s with heap := h', toks := tk }) :
    wpAny (model prog w) A (Builtin.«zip.__next__» ⟨[.ref z], []⟩) Q E s := by
  show wpAny _ _ (field (.ref z) 2 >>= _) _ _ _
  refine wpAny_bind (wpAny_field hz rfl (x := .bool false) rfl ?_)
  show wpAny _ _ (field (.ref z) 3 >>= _) _ _ _
  refine wpAny_bind (wpAny_field hz rfl (x := .ref TI) rfl ?_)
  refine wpAny_bind (wpAny_seqItems hTI rfl ?_)
  show wpAny _ _ (Builtin.SmallTypes.ownedTupleIsFree (.ref z) >>= _) _ _ _
  refine wpAny_bind ?_
  unfold Builtin.SmallTypes.ownedTupleIsFree
  refine wpAny_bind (wpAny_field hz rfl (x := .none) rfl (wpAny_pure ?_))
  simp only [if_true]
  refine wpAny_bind (wpAny_rule ?_)
  refine wpAny_bind (wpAny_field hz rfl (x := .ref TO) rfl ?_)
  refine wpAny_bind (wpAny_setField_rec hz (by simp) fun h₁ hz₁ hs₁ => ?_)
  replace hz₁ : IsZip h₁ z TI TO .ellipsis := hz₁
  refine wpAny_bind ?_
  simp only [List.zipIdx_cons, List.zipIdx_nil, List.forIn_cons, List.forIn_nil]
  refine wpAny_bind (wpAny_bind (wpAny_onRaise ?_))
  show wpAny _ _ (Builtin.SmallTypes.nextOf (.ref i1) >>= _) _ _ _
  have h1₁ : IsRangeIter h₁ i1 i left 1 := hs₁.extBut _ _ D.i1z h1
  refine wpAny_bind (nextOf_range_end hh h1₁ hleft fun h₂ e hs₂ he => ?_)
  (refine Mine.e1_2 he ?_; intro oe hoe hce; (try clear he))
  have hz₂ : IsZip h₂ z TI TO .ellipsis := hs₂ _ _ D.i1z.symm hz₁
  have hez : e ≠ z := fun x => by subst x; rw [hz₂] at hoe; cases hoe; simp at hce
  exact wpAny_setField_rec hz₂ (by simp) fun h₃ _ hs₃ => hE e h₃ _ (fun c o c1 c2 c3 _ _ x => hs₃.extBut _ _ c1 (hs₂ _ _ c3 (hs₁.extBut _ _ c1 x))) ⟨oe, hs₃.extBut _ _ hez hoe, hce⟩
end
section
variable {prog : Program} {w : World} {A : Around} {E : Value → Shared → Prop} {s : Shared}
theorem zgen_next {z TI TO i1 i2 L : Addr} {O : Addr → Prop} {i left : Int} {X : Value → Heap → Array GenState → Prop} {Z : Array GenState → Prop} {Q : Option Value → Shared → Prop} (D : ZX z TI TO i1 L O)
    (hz : IsZip s.heap z TI TO .none) (hTI : IsPair s.heap TI (.ref i1) (.ref i2)) (hTO : ∃ a b, IsPair s.heap TO a b) (h1 : IsRangeIter s.heap i1 i left 1) (hleft : 0 < left)
    (h2 : ∀ (s' : Shared) (Q : Value → Shared → Prop) (E : Value → Shared → Prop), (∀ b o, b ≠ z → b ≠ TO → b ≠ i1 → s.heap.get? b = some o → s'.heap.get? b = some o) → (∀ b, (∃ o, s.heap.get? b = some o) → ∃ o, s'.heap.get? b = some o) → (∃ h tk, s' = { s with heap := h, toks := tk }) →
      (∀ y h' tk gens', X y h' gens' → (∀ b o, b ≠ L → ¬ O b → s'.heap.get? b = some o → h'.get? b = some o) → Q y { s' with heap := h', toks := tk, gens := gens' }) →
      (∀ e h' tk gens', Z gens' → (∀ b o, b ≠ L → ¬ O b → s'.heap.get? b = some o → h'.get? b = some o) → (∃ o, h'.get? e = some o ∧ o.cls = .type "StopIteration") → E (.ref e) { s' with heap := h', toks := tk, gens := gens' }) →
      wpAny (model prog w) A.in1 (Builtin.SmallTypes.nextOf (.ref i2)) Q E s')
    (hX : ∀ y h h' g, X y h g → (∀ b o, b ≠ z → b ≠ TO → h.get? b = some o → h'.get? b = some o) → X y h' g)
    (hQ : ∀ (y : Value) (T : Addr) h' tk gens', X y h' gens' → IsZip h' z TI TO (rawInt T) → IsPair h' TI (.ref i1) (.ref i2) → (∃ a b, IsPair h' TO a b) → IsRangeIter h' i1 (i + 1) (left - 1) 1 → (∃ t, IsPair h' T (.int i t) y) →
      AllBut z TO i1 L O s.heap h' → Q (some (.ref T)) { s with heap := h', toks := tk, gens := gens' })
    (hN : ∀ h' tk gens', Z gens' → AllBut z TO i1 L O s.heap h' → Q none { s with heap := h', toks := tk, gens := gens' }) :
    wpAny (model prog w) A (pyNext (.ref z)) Q E s := by
  have hT : s.TypeIs (.ref z) "zip" := ⟨_, hz, rfl⟩
  unfold pyNext
  refine wpAny_bind (wpAny_attempt (wpAny_callSpecial?_slot (name := Str.ofString "__next__") hT PySem.F.slot_zip_next
    (wpAny_call_entry PySem.F.slot_zip_next hT PySem.F.entry_zip_next
      (zgen_body D hz hTI hTO h1 hleft h2 hX (fun x y T h' tk gens' e a1 a2 a3 a4 a5 a6 a7 => wpAny_pure (hQ y T h' tk gens' a1 a2 a3 a4 a5 (e ▸ a6) a7)) (fun e h' tk gens' hZ k he => ?_)) (PySem.F.args_zip_next_1 _))))
  (refine Mine.e1_2 he ?_; intro o ho hc; (try clear he))
  refine wpAny_bind (wpAny_isInstance (T := "StopIteration") (b := true) ⟨o, ho, hc⟩ isSubtype_stop ?_)
  exact wpAny_pure (hN _ _ _ hZ k)
theorem zgen_done {z TI TO i1 i2 L : Addr} {O : Addr → Prop} {i left : Int} {Q : Option Value → Shared → Prop} (D : ZX z TI TO i1 L O) (hh : A.handled = none)
    (hz : IsZip s.heap z TI TO .none) (hTI : IsPair s.heap TI (.ref i1) (.ref i2)) (h1 : IsRangeIter s.heap i1 i left 1) (hleft : left ≤ 0)
    (hN : ∀ h' tk, AllBut z TO i1 L O s.heap h' → Q none { s with heap := h', toks := tk }) :
    wpAny (model prog w) A (pyNext (.ref z)) Q E s := by
  have hT : s.TypeIs (.ref z) "zip" := ⟨_, hz, rfl⟩
  unfold pyNext
  refine wpAny_bind (wpAny_attempt (wpAny_callSpecial?_slot (name := Str.ofString "__next__") hT PySem.F.slot_zip_next
    (wpAny_call_entry PySem.F.slot_zip_next hT PySem.F.entry_zip_next
      (zgen_stop D hh hz hTI h1 hleft (fun e h' tk k he => ?_)) (PySem.F.args_zip_next_1 _))))
  (refine Mine.e1_2 he ?_; intro o ho hc; (try clear he))
  refine wpAny_bind (wpAny_isInstance (T := "StopIteration") (b := true) ⟨o, ho, hc⟩ isSubtype_stop ?_)
  exact wpAny_pure (hN _ _ k)
end
end Mine
namespace Mine
open LCg (NsObj lst lst_snoc ns_obj)
section
variable {prog : Program} {w : World} {A : Around} {E : Value → Shared → Prop} {s : Shared} {env : Env} {target elt iter : Expr} {scope : Scope} {pos : Pos}
/-- a comprehension's block behind its iterator, where generators may have moved -/
noncomputable def GBlock (prog : Program) (w : World) (A : Around) (env : Env) (target elt iter : Expr) (scope : Scope) (pos : Pos) (cl : List (Str × Addr)) (h₀ : Heap) (L : Addr) (m : Nm) (K : List Value → Led → Prop) (it : Value) (s : Shared) : Prop :=
  ∀ (E : Value → Shared → Prop) (RR : Value → Addr → Result → Shared → Prop),
    (∀ D C h tk g' m' ys nw, AllBare g' → Fr h₀ L h m → News h₀ L h ((D, lst ys) :: nw) → (∀ p ∈ nw, p.1 ≠ D) → h.Ns C m' → h₀.get? C = none → C ≠ L → D ≠ C → (∀ p ∈ nw, p.1 ≠ C) → K ys nw → RR (.ref D) C (.ok .next) { s with heap := h, toks := tk, gens := g' }) →
    ∃ I, it = .ref I ∧ wpAny (model prog w) A (newList []) (fun acc s₃ => wpAny (model prog w) A (newFunctionEnv scope env.globals cl [] env.qual none .none (some env)) (fun cenv s₄ =>
      codeAny (model prog w) A (.compStart (.ListComp elt [⟨target, iter, [], 0⟩] scope pos) 0 (.ref I) acc { cenv with scope := relabel scope env }) (RR acc cenv.locals) s₄) E s₃) E s
noncomputable def CompG (prog : Program) (w : World) (A : Around) (env : Env) (target elt iter : Expr) (scope : Scope) (pos : Pos) (cl : List (Str × Addr)) (Q : Value → Shared → Prop) (it : Value) (s : Shared) : Prop :=
  ∃ (h₀ : Heap) (L : Addr) (m : Nm) (K : List Value → Led → Prop), GBlock prog w A env target elt iter scope pos cl h₀ L m K it s ∧
    ∀ ys nw D h tk g', AllBare g' → K ys nw → Fr h₀ L h m → News h₀ L h ((D, lst ys) :: nw) → (∀ p ∈ nw, p.1 ≠ D) → Q (.ref D) { s with heap := h, toks := tk, gens := g' }
theorem ListComp_g {cl : List (Str × Addr)} {Q : Value → Shared → Prop}
    (hclos : closureFor scope env = pure cl) (hkind : scope.kind = .function) (hnames : ∀ y ∈ scope.names, y.2 = .local → scope.names.lookup y.1 = some .local)
    (h : wpAny (model prog w) A (eval iter env) (fun xv s₁ => wpAny (model prog w) A (pyIter xv) (CompG prog w A env target elt iter scope pos cl Q) E s₁) E s)
    (hs : ∀ x, foldedSetIterable iter env x = pure x := by intro _; rfl) :
    wpAny (model prog w) A (eval (.ListComp elt [⟨target, iter, [], 0⟩] scope pos) env) Q E s := by
  rw [eval_ListComp]
  refine wpAny_comprehension_free (use := none) rfl hs hclos hkind hnames (wpAny_mono h (fun xv s₁ h₁ => wpAny_mono h₁ (fun it s₂ h₂ => ?_) fun _ _ e => e) fun _ _ e => e)
  (refine Mine.e4_2 h₂ ?_; intro h₀ L m K b fin; (try clear h₂))
  have b' := b E (compPost (model prog w) A E none Q) ?_
  · (refine Mine.e1_2 b' ?_; intro I z2x1 hb; (try clear b'); (rcases z2x1 with rfl))
    exact hb
  · intro D C h tk g' m' ys nw hb F N ho hn hC₀ hCL hDC hoC k
    refine ⟨m', hn, fun h'' hs'' => fin ys nw D h'' tk g' hb k (F.change hs'' hCL hC₀) (fun p hp => ?_) ho⟩
    refine ⟨hs''.extBut _ _ ?_ (N p hp).1, (N p hp).2⟩
    rcases List.mem_cons.mp hp with rfl | hp
    · exact hDC
    · exact hoC p hp
theorem letgo_zip {elts : List Expr} {x1} {tpos : Pos} {z TI TO T : Addr} {Q : Unit → Shared → Prop} (hz : IsZip s.heap z TI TO (rawInt T))
    (hQ : ∀ h', IsZip h' z TI TO .none → Heap.SameBut z s.heap h' → Q () { s with heap := h' }) :
    wpAny (model prog w) A (letOwnedTupleGo (.Tuple elts x1 tpos) (.ref z) (.ref T)) Q E s := wpAny_letOwnedTupleGo_zip hz hQ
/-- the values that the first n draws give -/
noncomputable def drawsF (g : List Int) (n : Nat) : List Int := (List.range n).map fun k => (drawF g k).getD 0
theorem drawsF_succ {g : List Int} {n : Nat} {x : Int} (h : drawF g n = some x) : drawsF g (n + 1) = drawsF g n ++ [x] := by
  unfold drawsF; rw [List.range_succ, List.map_append, List.map_singleton, h]; rfl
theorem ne_cls {h : Heap} {a b : Addr} {o p : Obj} (ha : h.get? a = some o) (hb : h.get? b = some p) (hc : o.cls ≠ p.cls) : a ≠ b := fun e => by
  rw [e, hb] at ha; exact hc (congrArg Obj.cls (Option.some.inj ha)).symm
end
section
variable {prog : Program} {w : World} {A : Around} {E : Value → Shared → Prop} {s : Shared} {env : Env} {iter : Expr} {scope : Scope} {pos : Pos} {a b : Str} {pa pb pe tpos : Pos} {kt : Nat}
theorem gen_block {h₀ : Heap} {L : Addr} {m : Nm} {news : Led} {cl : List (Str × Addr)} {z TI TO i1 G LG l : Addr} {gn : Nat} {W0 : Heap → Prop} {c0 : Code} {g : List Int} {ol : Obj} (hh : A.handled = none) (hroom : A.in1.depth < recursionLimit) (hNL : h₀.NoLimit)
    (hcell : ∀ y ∈ scope.names, y.2 ≠ .cell) (hkind : scope.kind = .function) (ha : scope.names.lookup a = some .local) (hb : scope.names.lookup b = some .local) (hab : a ≠ b) (hbd : (b == ("__debug__" : Str)) = false)
    (F : Fr h₀ L s.heap m) (N : News h₀ L s.heap news) (hl : (l, ol) ∈ news)
    (hz : IsZip s.heap z TI TO .none) (hTI : IsPair s.heap TI (.ref i1) (.ref G)) (hTO : ∃ a b, IsPair s.heap TO a b) (h1 : IsRangeIter s.heap i1 0 12 1) (hG : s.heap.IsGen G gn) (hgs : s.gens[gn]? = some (.fresh c0)) (hbr : AllBare s.gens) (hW0 : W0 s.heap)
    (hloc : Loc h₀ [LG, l] W0) (hseg : ∀ s : Shared, W0 s.heap → Seg (model prog w) A.in1.in1 (genR LG s.heap.objs.size g) (genY h₀ LG s.heap.objs.size l g) 13 s c0 ((model prog w).den c0) [] s)
    (hnew : ∀ x, x = z ∨ x = TI ∨ x = TO ∨ x = i1 ∨ x = G ∨ x = LG → h₀.get? x = none ∧ x ≠ L ∧ (∀ p ∈ news, p.1 ≠ x) ∧ ∃ o, s.heap.get? x = some o)
    (D0 : ZX z TI TO i1 LG (fun _ => False)) (hGz : G ≠ z) (hGT : G ≠ TO) (hG1 : G ≠ i1) (hGL : G ≠ LG) :
    GBlock prog w A env (.Tuple [.Name a pa, .Name b pb] kt tpos) (.Name b pe) iter scope pos cl h₀ L m (fun ys nw => nw = news ∧ ∃ n, IntsAre ys (drawsF g n) ∧ n ≤ 12 ∧ (∀ k, k < n → drawF g k ≠ none) ∧ (n = 12 ∨ drawF g n = none)) (.ref z) s := by
  refine fun E RR hRR => ⟨z, rfl, ?_⟩
  refine wpAny_newObj_type (wpAny_newFunctionEnv hcell (by intro y hy; simp at hy) (fun h₁ hns₁ hsb₁ => ?_) hkind)
  dsimp only at hns₁ hsb₁ ⊢
  generalize hH : s.heap.push { cls := .type "list", dict := none, data := .seq ([] : List Value).toArray } = H at hns₁ hsb₁ ⊢
  have hD : H.get? s.heap.objs.size = some (lst []) := by rw [← hH]; exact Heap.get?_push_size _ rfl
  have hHs : H.objs.size = s.heap.objs.size + 1 := by rw [← hH, Heap.size_push]
  generalize hDe : s.heap.objs.size = D at *
  generalize hCe : H.objs.size = C at *
  have hlt : ∀ b o, s.heap.get? b = some o → b < D := fun b o e => hDe ▸ Heap.lt_size e
  have up : ∀ b o, s.heap.get? b = some o → h₁.get? b = some o := fun b o e =>
    hsb₁.extBut b o (n1 (hlt b o e) hHs) (Heap.get?_push_of_some _ (hH ▸ Heap.get?_push_of_some _ e))
  have hDC : D ≠ C := n2 hHs
  have hD₁ : h₁.get? D = some (lst []) := hsb₁.extBut _ _ hDC (Heap.get?_push_of_some _ hD)
  have free : ∀ a : Addr, D ≤ a → h₀.get? a = none := fun a ha => none_above F (by rw [hDe]; exact ha)
  have hC₀ : h₀.get? C = none := free C (n3 hHs)
  have hD₀ : h₀.get? D = none := free D (Nat.le_refl _)
  have hLlt : L < D := by rw [← hDe]; exact F.ns.lt
  have hCL : C ≠ L := n5 hLlt hHs
  have hDL : D ≠ L := n4 hLlt
  have hnD : ∀ p ∈ news, p.1 ≠ D ∧ p.1 ≠ C := fun p hp => ⟨n6 (hlt _ _ (N p hp).1), n1 (hlt _ _ (N p hp).1) hHs⟩
  have hxD : ∀ x, x = z ∨ x = TI ∨ x = TO ∨ x = i1 ∨ x = G ∨ x = LG → x ≠ D ∧ x ≠ C := fun x hx => by
    (have z3 := (hnew x hx); refine Mine.e0_4 z3 ?_; intro _ _ _ z3r; (try clear z3); (rcases z3r with ⟨o, ho⟩))
    exact ⟨n6 (hlt _ _ ho), n1 (hlt _ _ ho) hHs⟩
  have h1' : IsRangeIter s.heap i1 ((0 : Nat) : Int) (12 - ((0 : Nat) : Int)) 1 := h1
  have hnz := hnew z (by simp)
  have hnTI := hnew TI (by simp)
  have hnTO := hnew TO (by simp)
  have hni1 := hnew i1 (by simp)
  have hnG := hnew G (by simp)
  have LGL := hnew LG (by simp)
  have hDz := hxD z (by simp)
  have hDTI := hxD TI (by simp)
  have hDTO := hxD TO (by simp)
  have hDi1 := hxD i1 (by simp)
  have hDG := hxD G (by simp)
  have hDLG := hxD LG (by simp)
  obtain ⟨Oth, hOth⟩ : ∃ Oth : Addr → Prop, ∀ x, Oth x ↔ (x = z ∨ x = TI ∨ x = TO ∨ x = i1 ∨ x = G ∨ x = L ∨ x = D ∨ x = C ∨ (∃ p ∈ news, p.1 = x) ∨ ∃ o, h₀.get? x = some o) := ⟨_, fun _ => Iff.rfl⟩
  refine codeAny_compStart_list ?_ (wpAny_pyIter_zip (up _ _ hz) ?_)
  all_goals
    refine codeAny_loop rfl (fun k s' => ∃ h tk g' i ys gs O m', s' = { s with heap := h, toks := tk, gens := g' } ∧ k = 12 - i ∧ i ≤ 12 ∧ Fr h₀ L h m ∧ News h₀ L h ((D, lst ys) :: news) ∧ h.Ns C m' ∧ IsZip h z TI TO .none ∧ IsPair h TI (.ref i1) (.ref G) ∧ (∃ a b, IsPair h TO a b) ∧
      IsRangeIter h i1 (i : Int) (12 - (i : Int)) 1 ∧ h.IsGen G gn ∧ AllBare g' ∧ g'[gn]? = some gs ∧ GSt prog w A.in1.in1 h₀ LG l g W0 c0 O i h gs ∧ (∀ x, O x → ¬ Oth x) ∧ IntsAre ys (drawsF g i) ∧ ys.length ≤ i ∧ ∀ k, k < i → drawF g k ≠ none) ?_ 12
      ⟨h₁, _, s.gens, 0, [], _, fun _ => False, _, rfl, rfl, Nat.zero_le _, F.keeps up, ?_, hns₁, up _ _ hz, up _ _ hTI, (by (refine Mine.e2_1 hTO ?_; intro a b e; (try clear hTO)); exact ⟨a, b, up _ _ e⟩), up _ _ h1', (by (refine Mine.e3_2 hG ?_; intro o nm qn e r; (try clear hG)); exact ⟨o, nm, qn, up _ _ e, r⟩), hbr, hgs, .inl ⟨rfl, fun _ => id, rfl, hloc _ _ hW0 (fun b _ o e => up b o e) fun b o e => up b o (F.keep b o e)⟩, (fun _ h => h.elim), .nil, Nat.le_refl _, fun k h => absurd h (Nat.not_lt_zero k)⟩
    · (intro k _ z6h; refine Mine.e8_15 z6h ?_; intro h tk g' i ys gs O m' z6x8 z6x9 hi F N hn hz hTI hTO h1 hG hbg hgs S z6r; (try clear z6h); (rcases z6x8 with rfl); (rcases z6x9 with rfl); (refine Mine.e0_4 z6r ?_; intro hO hys hyl hdr; (try clear z6r)))
      have off : ∀ {O : Addr → Prop}, (∀ x, O x → ¬ Oth x) → ∀ x, Oth x → ¬ O x := fun hO x hx hq => hO x hq hx
      have oz : Oth z := (hOth z).mpr (by simp)
      have oTI : Oth TI := (hOth TI).mpr (by simp)
      have oTO : Oth TO := (hOth TO).mpr (by simp)
      have oi1 : Oth i1 := (hOth i1).mpr (by simp)
      have oG : Oth G := (hOth G).mpr (by simp)
      have oL : Oth L := (hOth L).mpr (by simp)
      have oD : Oth D := (hOth D).mpr (by simp)
      have oC : Oth C := (hOth C).mpr (by simp)
      have oN : ∀ p ∈ news, Oth p.1 := fun p hp => (hOth p.1).mpr (by simp only [or_true, true_or, exists_prop, show ∃ q ∈ news, q.1 = p.1 from ⟨p, hp, rfl⟩])
      have oB : ∀ x o, h₀.get? x = some o → Oth x := fun x o e => (hOth x).mpr (by simp only [or_true, show ∃ o, h₀.get? x = some o from ⟨o, e⟩])
      have ofO := off hO
      have Dx : ZX z TI TO i1 LG O := { D0 with zO := ofO _ oz, TIO := ofO _ oTI, TOO := ofO _ oTO, i1O := ofO _ oi1 }
      have bne : ∀ x o y, h₀.get? x = some o → h₀.get? y = none → x ≠ y := fun x o y e1 e2 q => by rw [q, e2] at e1; cases e1
      have liveO : ∀ x, Oth x → ∃ o, h.get? x = some o := fun x hx => by
        rcases (hOth x).mp hx with rfl | rfl | rfl | rfl | rfl | rfl | rfl | rfl | ⟨p, hp, rfl⟩ | ⟨o, e⟩
        · exact ⟨_, hz⟩
        · exact ⟨_, hTI⟩
        · (refine Mine.e2_1 hTO ?_; intro _ _ e; (try clear hTO)); exact ⟨_, e⟩
        · exact ⟨_, h1⟩
        · (refine Mine.e3_2 hG ?_; intro o _ _ e _; (try clear hG)); exact ⟨o, e⟩
        · (refine Mine.e3_2 F.ns ?_; intro o _ _ e _; (try clear F.ns)); exact ⟨o, e⟩
        · exact ⟨_, (N _ List.mem_cons_self).1⟩
        · (refine Mine.e3_2 hn ?_; intro o _ _ e _; (try clear hn)); exact ⟨o, e⟩
        · exact ⟨_, (N p (List.mem_cons_of_mem _ hp)).1⟩
        · exact ⟨o, F.keep _ _ e⟩
      show wpAny _ A ((compTurn (.ListComp (.Name b pe) [⟨.Tuple [.Name a pa, .Name b pb] kt tpos, iter, [], 0⟩] scope pos) 0 (.ref z) (.ref D) _).onRaise (fun x => do noteFrame x _; theTreesLotGoes x)) _ _ _
      refine wpAny_noted ?_
      rw [compTurn_list1]
      refine wpAny_bind (wpAny_standAt (wpAny_bind ?_))
      have base' : ∀ {h' : Heap}, AllBut z TO i1 LG O h h' → (∀ x o, h₀.get? x = some o → h'.get? x = some o) := fun k x o e =>
        k x o (bne x o _ e hnz.1) (bne x o _ e hnTO.1) (bne x o _ e hni1.1) (bne x o _ e LGL.1) (ofO x (oB x o e)) (F.keep x o e)
      have frm' : ∀ {h' : Heap}, AllBut z TO i1 LG O h h' → Fr h₀ L h' m := fun k => ⟨F.ns.at' fun o e => k L o hnz.2.1.symm hnTO.2.1.symm hni1.2.1.symm LGL.2.1.symm (ofO _ oL) e, base' k, F.above⟩
      have nws' : ∀ {h' : Heap}, AllBut z TO i1 LG O h h' → News h₀ L h' ((D, lst ys) :: news) := fun k p hp => by
        refine ⟨?_, (N p hp).2⟩
        rcases List.mem_cons.mp hp with rfl | hp
        · exact k _ _ hDz.1.symm hDTO.1.symm hDi1.1.symm hDLG.1.symm (ofO _ oD) (N _ List.mem_cons_self).1
        · exact k _ _ (hnz.2.2.1 p hp) (hnTO.2.2.1 p hp) (hni1.2.2.1 p hp) (LGL.2.2.1 p hp) (ofO _ (oN p hp)) (N p (List.mem_cons_of_mem _ hp)).1
      have nsC' : ∀ {h' : Heap}, AllBut z TO i1 LG O h h' → h'.Ns C m' := fun k => hn.at' fun o e => k C o hDz.2.symm hDTO.2.symm hDi1.2.symm hDLG.2.symm (ofO _ oC) e
      by_cases h12 : i = 12
      · refine zgen_done Dx hh hz hTI h1 (by omega) fun h2 tk2 k => wpAny_pure ?_
        exact hRR D C h2 tk2 g' m' ys news hbg (frm' k) (nws' k) (fun p hp => (hnD p hp).1) (nsC' k) hC₀ hCL hDC (fun p hp => (hnD p hp).2) ⟨rfl, i, hys, hi, hdr, .inl h12⟩
      · refine zgen_next (X := fun y h' g2 => ∃ x t gs' O', y = .int x t ∧ drawF g i = some x ∧ AllBare g2 ∧ g2[gn]? = some gs' ∧ GSt prog w A.in1.in1 h₀ LG l g W0 c0 O' (i + 1) h' gs' ∧ (∀ x, O' x → ¬ Oth x) ∧ h'.IsGen G gn ∧ ∀ x o, h₀.get? x = some o → h'.get? x = some o) (Z := fun g2 => drawF g i = none ∧ AllBare g2) Dx hz hTI hTO h1 (by omega) ?_ ?_ ?_ ?_
        · (intro s' Q' E' hk hlv z11h; refine Mine.e2_1 z11h ?_; intro h' tk' z11x2; (try clear z11h); (rcases z11x2 with rfl); intro hq he)
          have b2 : ∀ x o, h₀.get? x = some o → h'.get? x = some o := fun x o e => hk x o (bne x o _ e hnz.1) (bne x o _ e hnTO.1) (bne x o _ e hni1.1) (F.keep x o e)
          have hG' : h'.IsGen G gn := by (refine Mine.e3_2 hG ?_; intro o nm qn e r; (try clear hG)); exact ⟨o, nm, qn, hk _ _ hGz hGT hG1 e, r⟩
          have S' : GSt prog w A.in1.in1 h₀ LG l g W0 c0 O i h' gs := S.loc hloc (fun x o hx e => by
            rcases hx with rfl | rfl | hx
            · exact hk _ _ Dx.zL.symm Dx.TOL.symm Dx.i1L.symm e
            · exact hk _ _ (hnz.2.2.1 _ hl) (hnTO.2.2.1 _ hl) (hni1.2.2.1 _ hl) e
            · exact hk _ _ (fun q => Dx.zO (q ▸ hx)) (fun q => Dx.TOO (q ▸ hx)) (fun q => Dx.i1O (q ▸ hx)) e) b2
          refine gdraw (A := A.in1) hh (hNL.keeps b2) hroom hG' hgs S' (by omega) hbg hseg ?_ ?_
          · intro x t h2 tk2 g2 gs2 O2 hd hb2 hg2 S2 hO2 k2
            refine hq _ _ _ _ ⟨x, t, gs2, O2, rfl, hd, hb2, hg2, S2, fun y hy hoy => ?_, ?_, fun y o e => ?_⟩ k2
            · rcases hO2 y hy with q | q
              · exact hO y q hoy
              · obtain ⟨o, e⟩ := hlv y (liveO y hoy)
                rw [show h'.get? y = none from q] at e; cases e
            · (refine Mine.e3_2 hG' ?_; intro o nm qn e r; (try clear hG')); exact ⟨o, nm, qn, k2 _ _ hGL (ofO _ oG) e, r⟩
            · exact k2 y o (bne y o _ e LGL.1) (ofO y (oB y o e)) (b2 y o e)
          · intro e h2 tk2 g2 hd hb2 k2 hst
            exact he _ _ _ _ ⟨hd, hb2⟩ k2 hst
        · (intro y h2 h3 g2 z14h; refine Mine.e4_8 z14h ?_; intro x t gs2 O2 z14x4 hd hb2 hg2 S2 hO2 hG2 b2; (try clear z14h); (rcases z14x4 with rfl); intro k)
          have b3 : ∀ x o, h₀.get? x = some o → h3.get? x = some o := fun x o e => k x o (bne x o _ e hnz.1) (bne x o _ e hnTO.1) (b2 x o e)
          refine ⟨x, t, gs2, O2, rfl, hd, hb2, hg2, S2.loc hloc (fun x o hx e => ?_) b3, hO2, ?_, b3⟩
          · rcases hx with rfl | rfl | hx
            · exact k _ _ Dx.zL.symm Dx.TOL.symm e
            · exact k _ _ (hnz.2.2.1 _ hl) (hnTO.2.2.1 _ hl) e
            · exact k _ _ (fun q => hO2 _ (q ▸ hx) oz) (fun q => hO2 _ (q ▸ hx) oTO) e
          · (refine Mine.e3_2 hG2 ?_; intro o nm qn e r; (try clear hG2)); exact ⟨o, nm, qn, k _ _ hGz hGT e, r⟩
        · (intro y T h2 tk2 g2 z16h; refine Mine.e4_8 z16h ?_; intro x t gs2 O2 z16x4 hd hb2 hg2 S2 hO2 hG2 b2; (try clear z16h); (rcases z16x4 with rfl); intro hz2 hTI2 hTO2 hr2 z17h; rcases z17h with ⟨tt, hT2⟩; intro k)
          have of2 := off hO2
          have F2 := frm' k
          have N2 := nws' k
          have n2 := nsC' k
          refine wpAny_bind (letgo_zip hz2 fun h3 hz3 hs3 => ?_)
          have hTz : T ≠ z := ne_cls hT2 hz2 (by simp)
          have hT3 : IsPair h3 T (.int i tt) (.int x t) := hs3.extBut _ _ hTz hT2
          refine wpAny_bind (asg_pair hh hkind ha hb hab ⟨_, hT3, rfl, _, rfl⟩ (n2.sameBut hs3 hDz.2.symm) fun h4 tk4 m4 n4 hs4 hm4 => ?_)
          refine wpAny_bind (wpAny_bind (wpAny_Name (wpAny_loadName_local (by exact hkind) (lookup_relabel_local hb) n4 hm4.2 ?_) hbd))
          have u4 : ∀ c o, c ≠ z → c ≠ C → h2.get? c = some o → h4.get? c = some o := fun c o c1 c2 e => hs4 c o c2 (hs3.extBut c o c1 e)
          have hD4 : h4.get? D = some (lst ys) := u4 _ _ hDz.1.symm hDC (N2 _ List.mem_cons_self).1
          refine wpAny_bind (append_at (D := D) hD4 (fun h5 hs5 hD5 => ?_) (hsz := by rw [sizeLine_eq, List.size_toArray]; omega))
          refine wpAny_pure (wpAny_pure ⟨rfl, 12 - (i + 1), by omega, i8_4 h5 tk4 g2 (i + 1) (ys ++ [.int x t]) gs2 O2 m4 rfl rfl (by omega) ?_⟩)
          have u5 : ∀ c o, c ≠ z → c ≠ C → c ≠ D → h2.get? c = some o → h5.get? c = some o := fun c o c1 c2 c3 e => hs5.extBut c o c3 (u4 c o c1 c2 e)
          have b5 : ∀ x o, h₀.get? x = some o → h5.get? x = some o := fun x o e => u5 x o (bne x o _ e hnz.1) (bne x o _ e hC₀) (bne x o _ e hD₀) (F2.keep x o e)
          refine ⟨⟨F2.ns.at' fun o e => u5 L o hnz.2.1.symm hCL.symm hDL.symm e, b5, F.above⟩, fun p hp => ?_, n4.at' fun o e => hs5.extBut _ o (Ne.symm hDC) e, ?_, ?_, ?_, ?_, ?_, hb2, hg2, S2.loc hloc (fun y o hy e => ?_) b5, hO2, ?_, ?_, fun k hk => ?_⟩
          · rcases List.mem_cons.mp hp with rfl | hp
            · exact ⟨hD5.trans (congrArg some (lst_snoc ys _)), hDL, hD₀⟩
            · exact ⟨u5 _ _ (hnz.2.2.1 p hp) (hnD p hp).2 (hnD p hp).1 (N2 p (List.mem_cons_of_mem _ hp)).1, (N p (List.mem_cons_of_mem _ hp)).2⟩
          · exact hs5.extBut _ _ hDz.1 (hs4 _ _ hDz.2 hz3)
          · exact u5 _ _ Dx.TIz hDTI.2 hDTI.1 hTI2
          · (refine Mine.e2_1 hTO2 ?_; intro a b e; (try clear hTO2))
            exact ⟨a, b, u5 _ _ Dx.TOz hDTO.2 hDTO.1 e⟩
          · have := u5 _ _ Dx.i1z hDi1.2 hDi1.1 hr2
            show IsRangeIter h5 i1 ((i + 1 : Nat) : Int) (12 - ((i + 1 : Nat) : Int)) 1
            rw [show ((i + 1 : Nat) : Int) = (i : Int) + 1 from rfl, show (12 : Int) - ((i : Int) + 1) = 12 - (i : Int) - 1 by omega]
            exact this
          · (refine Mine.e3_2 hG2 ?_; intro o nm qn e r; (try clear hG2))
            exact ⟨o, nm, qn, u5 _ _ hGz hDG.2 hDG.1 e, r⟩
          · rcases hy with rfl | rfl | hy
            · exact u5 _ _ Dx.zL.symm hDLG.2 hDLG.1 e
            · exact u5 _ _ (hnz.2.2.1 _ hl) (hnD _ hl).2 (hnD _ hl).1 e
            · exact u5 _ _ (fun q => hO2 _ (q ▸ hy) oz) (fun q => hO2 _ (q ▸ hy) oC) (fun q => hO2 _ (q ▸ hy) oD) e
          · rw [drawsF_succ hd]
            exact ints_snoc hys
          · rw [List.length_append]; exact Nat.succ_le_succ hyl
          · by_cases hki : k < i
            · exact hdr k hki
            · rw [show k = i by omega, hd]; exact fun q => by cases q
        · rintro h2 tk2 g2 hd k
          refine wpAny_pure ?_
          exact hRR D C h2 tk2 g2 m' ys news hd.2 (frm' k) (nws' k) (fun p hp => (hnD p hp).1) (nsC' k) hC₀ hCL hDC (fun p hp => (hnD p hp).2) ⟨rfl, i, hys, hi, hdr, .inr hd.1⟩
    · intro p hp
      rcases List.mem_cons.mp hp with rfl | hp
      · exact ⟨hD₁, hDL, hD₀⟩
      · exact ⟨up _ _ (N p hp).1, (N p hp).2⟩
end
end Mine
namespace Mine
open LCg (NsObj lst lst_snoc ns_obj)
noncomputable abbrev zgH1 (h : Heap) : Heap := h.push { cls := .type "range_iterator", data := .fields #[rawInt 0, rawInt (Builtin.Range.rangeSize 0 12 1), rawInt 1] }
noncomputable abbrev zgH3 (h : Heap) (G : Addr) : Heap := (zgH1 h).push { cls := .type "tuple", data := .seq #[.ref h.objs.size, .ref G] }
noncomputable abbrev zgH4 (h : Heap) (G : Addr) : Heap := (zgH3 h G).push { cls := .type "tuple", data := .seq #[.none, .none] }
noncomputable abbrev zgH5 (h : Heap) (G : Addr) : Heap := (zgH4 h G).push { cls := .type "zip", data := .fields #[.none, .bool false, .bool false, .ref (zgH1 h).objs.size, .ref (zgH3 h G).objs.size] }
theorem meets_zip_rg (r G : Addr) (gn : Nat) (t u v : Tok) :
    Meets (Builtin.«zip.__new__» ⟨[.type "zip", .ref r, .ref G], []⟩) (fun _ R s => IsRange s.heap r 0 12 1 t u v ∧ s.heap.IsGen G gn ∧
      R (.ok (.ret (.ref (zgH4 s.heap G).objs.size))) { s with heap := zgH5 s.heap G }) :=
  .of_wp fun prog w A R s h => by
    (first | (refine Mine.hideP ?_; intro Gz kGz; rcases s with ⟨hp, g, d, tk, os⟩; all_goals (refine kGz ?_; clear kGz Gz)) | rcases s with ⟨hp, g, d, tk, os⟩); (have z2 := h; clear h; refine Mine.e0_3 z2 ?_; intro hl1 hl2 h; (try clear z2))
    have hsub := sub_zip
    have hL1 : IsRange (Shared.heap ⟨hp, g, d, tk, os⟩) r 0 12 1 t u v := hl1
    have hsm : Builtin.Range.small 0 12 1 = true := by decide +kernel
    have hL2 : Heap.IsGen (Shared.heap ⟨hp.push { cls := .type "range_iterator", data := .fields #[rawInt 0, rawInt (Builtin.Range.rangeSize 0 12 1), rawInt 1] }, g, d, tk, os⟩) G gn := Heap.IsGen.push hl2 _
    wp_walk using wpAny_pyIter_range hL1 hsm, wpAny_pyIter_gen hL2
    exact ⟨_, rfl, h⟩
section
variable {prog : Program} {w : World} {A : Around} {E : Value → Shared → Prop} {s : Shared}
theorem call_zip_rg {r G : Addr} {gn : Nat} {t u v : Tok} {Q : Value → Shared → Prop} (hl1 : IsRange s.heap r 0 12 1 t u v) (hl2 : s.heap.IsGen G gn)
    (h : ∀ h', IsZip h' (s.heap.objs.size + 3) (s.heap.objs.size + 1) (s.heap.objs.size + 2) .none → IsPair h' (s.heap.objs.size + 1) (.ref s.heap.objs.size) (.ref G) →
      IsPair h' (s.heap.objs.size + 2) .none .none → IsRangeIter h' s.heap.objs.size 0 12 1 →
      (∀ c o, s.heap.get? c = some o → h'.get? c = some o) → Q (.ref (s.heap.objs.size + 3)) { s with heap := h' }) :
    wpAny (model prog w) A (call (.type "zip") [.ref r, .ref G]) Q E s := by
  refine callType_new F.called_zip (by decide) (F.typeCall_zip_2 _ _) (F.newCall_zip_2 _ _) (fun obj => F.args_object_init_3 obj _ _) F.entry_zip_new
    (meets_zip_rg r G gn t u v) ⟨hl1, hl2, ?_⟩
  have z1 : (zgH1 s.heap).objs.size = s.heap.objs.size + 1 := Heap.size_push ..
  have z3 : (zgH3 s.heap G).objs.size = s.heap.objs.size + 2 := by rw [Heap.size_push, z1]
  have z4 : (zgH4 s.heap G).objs.size = s.heap.objs.size + 3 := by rw [Heap.size_push, z3]
  have g5 : (zgH5 s.heap G).get? (zgH4 s.heap G).objs.size = some _ := Heap.get?_push_size _ rfl
  have g4 : (zgH5 s.heap G).get? (zgH3 s.heap G).objs.size = some _ := Heap.get?_push_of_some _ (Heap.get?_push_size _ rfl)
  have g3 : (zgH5 s.heap G).get? (zgH1 s.heap).objs.size = some _ := Heap.get?_push_of_some _ (Heap.get?_push_of_some _ (Heap.get?_push_size _ rfl))
  have g1 : (zgH5 s.heap G).get? s.heap.objs.size = some _ := Heap.get?_push_of_some _ (Heap.get?_push_of_some _ (Heap.get?_push_of_some _ (Heap.get?_push_size _ rfl)))
  show _ ∧ _
  rw [z1, z3, z4] at g5
  rw [z3] at g4
  rw [z1] at g3
  rw [z4]
  exact ⟨⟨_, g5, rfl⟩, h _ g5 g3 g4 g1 fun c o x =>
    Heap.get?_push_of_some _ (Heap.get?_push_of_some _ (Heap.get?_push_of_some _ (Heap.get?_push_of_some _ x)))⟩
/-- a generator's def called -/
theorem call_genG {h₀ : Heap} {L : Addr} {m mg mb : Nm} {K : Frag} {p : Program} {loose : List Str} {mean : ExcName → Option Value} {Q : Value → Shared → Prop}
    {name qual : Str} {params : Arguments} {body : List Stmt} {scope : Scope} {dV kV doc pm cdv ct oc : Value} {an od : Option Addr} {osl : Array (Option Value)} {f : Addr} {vs : List Value} {binds : List (Str × Value)}
    (F : Fr h₀ L s.heap m) (X₀ : K.In h₀) (T : Top p loose mean mg mb h₀)
    (ho : K.lookup f = some ⟨oc, od, .func (fnOf name qual params body scope dV kV doc pm an cdv ct), osl⟩) (hcd : codeIn K cdv qual = true) (hroom : A.depth < recursionLimit)
    (hbind : BindsTo s (fnOf name qual params body scope dV kV doc pm an cdv ct) ⟨vs, []⟩ binds) (hloc : ∀ y ∈ binds, scope.names.lookup y.1 = some .local)
    (hco : scope.isCoroutine = false) (hgen : scope.isGenerator = true) (hk : scope.kind = .function)
    (hcell : ∀ x ∈ scope.names, x.2 ≠ .cell)
    (h : ∀ G LG h' tk, (∀ b o, s.heap.get? b = some o → h'.get? b = some o) → s.heap.objs.size ≤ LG → s.heap.objs.size ≤ G → G ≠ LG → h'.IsGen G s.gens.size → Fr h₀ LG h' (fun y => binds.reverse.lookup y) →
      Q (.ref G) { s with heap := h', toks := tk, gens := s.gens.push (.fresh (.func body (envOf qual scope LG f cdv))) }) :
    wpAny (model prog w) A (call (.ref f) vs) Q E s := by
  refine wpAny_call ?_
  have X := X₀.keeps F.keep
  refine codeAny_call_generator (fd := fnOf name qual params body scope dV kV doc pm an cdv ct) hroom (X _ _ ho) rfl hco hgen rfl (codeRec_of X hcd) (hbind _ _ _ _ ?_)
  refine wpAny_newFunctionEnv hcell hloc (fun h₁ hns₁ hsb₁ => ⟨(T.nolimit.keeps F.keep).fresh _ hsb₁, ?_⟩) hk
  have up : ∀ b o, s.heap.get? b = some o → h₁.get? b = some o := fun b o e => hsb₁.extBut b o (Nat.ne_of_lt (Heap.lt_size e)) (Heap.get?_push_of_some _ e)
  have hle : s.heap.objs.size < h₁.objs.size := hns₁.lt
  have up2 : ∀ (o₂ : Obj) b o, h₁.get? b = some o → (h₁.push o₂).get? b = some o := fun o₂ b o e => Heap.get?_push_of_some _ e
  exact h h₁.objs.size s.heap.objs.size _ _ (fun b o e => up2 _ _ _ (up b o e)) (Nat.le_refl _) (Nat.le_of_lt hle) (Nat.ne_of_gt hle) ⟨_, _, _, Heap.get?_push_size _ rfl, rfl, rfl, rfl⟩
    ⟨hns₁.keeps (up2 _), fun b o e => up2 _ _ _ (up b o (F.keep b o e)), Nat.le_trans F.above (Nat.le_of_lt F.ns.lt)⟩
end
/-- what the draws give is what _law_sizes says -/
theorem draws_sizes {g : List Int} {n : Nat} (h1 : 1 ≤ firstEnd g) (h12 : firstEnd g ≤ 12) (hn : n ≤ 12) (hs : ∀ k, k < n → drawF g k ≠ none) (he : n = 12 ∨ drawF g n = none) : drawsF g n = sizesF g := by
  have hle : firstEnd g ≤ g.length := List.findIdx_le_length
  unfold drawsF sizesF
  by_cases hz : (g.drop (firstEnd g)).take 1 = [0]
  · rw [if_pos hz]
    have hd : ∀ k, drawF g k = some ((g.take (firstEnd g)).getD (min k ((g.take (firstEnd g)).length - 1)) 0) := fun k => by
      rw [List.length_take, Nat.min_eq_left hle, List.getD_eq_getElem?_getD]
      unfold drawF
      by_cases hk : k < firstEnd g
      · rw [if_pos hk, List.getElem?_take_of_lt (by omega (splitDisjunctions := true)), Nat.min_eq_left (by omega (splitDisjunctions := true)), List.getElem?_eq_getElem (by omega (splitDisjunctions := true))]; rfl
      · rw [if_neg hk, if_pos hz, List.getElem?_take_of_lt (by omega (splitDisjunctions := true)), Nat.min_eq_right (by omega (splitDisjunctions := true)), List.getD_eq_getElem?_getD]
    have : n = 12 := by
      rcases he with h | h
      · exact h
      · rw [hd] at h; cases h
    subst this
    unfold repF
    exact List.map_congr_left fun k _ => by rw [hd]; rfl
  · rw [if_neg hz]
    have hd : ∀ k, drawF g k = if k < firstEnd g then g[k]? else none := fun k => by
      unfold drawF; rw [if_neg hz]
    have hn2 : n = firstEnd g := by
      have a : n ≤ firstEnd g := by
        rcases Nat.lt_or_ge (firstEnd g) n with h | h
        · have := hs _ h
          rw [hd, if_neg (Nat.lt_irrefl _)] at this
          exact absurd rfl this
        · exact h
      rcases he with h | h
      · omega (splitDisjunctions := true)
      · rw [hd] at h
        by_cases hlt : n < firstEnd g
        · rw [if_pos hlt, List.getElem?_eq_getElem (by omega (splitDisjunctions := true))] at h; cases h
        · omega (splitDisjunctions := true)
    subst hn2
    refine List.ext_getElem (by rw [List.length_map, List.length_range, List.length_take, Nat.min_eq_left hle]) fun k a b => ?_
    rw [List.length_map, List.length_range] at a
    rw [List.getElem_map, List.getElem_range, List.getElem_take, hd, if_pos a, List.getElem?_eq_getElem (by omega (splitDisjunctions := true))]
    rfl
end Mine
theorem Mine.off62 : True := by (w_top off); trivial
namespace Mine
open LCg (NsObj lst lst_snoc ns_obj)
set_option maxHeartbeats 4000000
theorem c_gen (w : World) (l : Addr) (items : Array Value) (g : List Int) (hg : IntsAre items.toList g) (h0 : 1 ≤ firstEnd g)
    (mean : ExcName → Option Value) (mg mb : Nm) (A : Around) (h₀ : Heap) (L : Addr) (m : Nm) (s : Shared) (Q E : Value → Shared → Prop)
    (F : Fr h₀ L s.heap m) (X : (hd.heap_1 w.params).In h₀) (T : Top hd.view_1 Lo mean mg mb h₀) (hroom : A.depth < recursionLimit)
    (h : ∀ G LG h' tk c0, (∀ b o, s.heap.get? b = some o → h'.get? b = some o) → s.heap.objs.size ≤ LG → s.heap.objs.size ≤ G → G ≠ LG → h'.IsGen G s.gens.size → Fr h₀ LG h' (fun y => if y = Str.ofString "grouping" then some (.ref l) else none) →
      (∀ (A : Around) (s' : Shared), A.handled = none → l ≠ LG → Fr h₀ LG s'.heap (fun y => if y = Str.ofString "grouping" then some (.ref l) else none) → s'.heap.IsList l items → Seg (model Pg w) A (genR LG s'.heap.objs.size g) (genY h₀ LG s'.heap.objs.size l g) 13 s' c0 ((model Pg w).den c0) [] s') →
      Q (.ref G) { s with heap := h', toks := tk, gens := s.gens.push (.fresh c0) }) :
    wpAny (model Pg w) A (call (.ref 28) [.ref l]) Q E s := by
  refine' call_genG F X T ?k6 ?k7 hroom ?k9 ?kB ?c2 ?c3 ?c4 ?c5 ?_
  case k6 => k_is
  case k7 => k_is
  case k9 => exact BindsTo.of_eq rfl
  case kB => exact locs rfl
  case c2 => exact rfl
  case c3 => exact rfl
  case c4 => exact rfl
  case c5 => decide
  intro G LG h' tk k1 k2 k3 k4 k5 k6
  have em : (fun y : Str => ([((Str.ofString "grouping"), Value.ref l)] : List (Str × Value)).reverse.lookup y) = fun y => if y = Str.ofString "grouping" then some (.ref l) else none := by
    funext y
    by_cases hy : y = Str.ofString "grouping"
    · subst hy; simp
    · have : (y == Str.ofString "grouping") = false := by simpa using hy
      simp [List.lookup, this, hy]
  refine h G LG h' tk _ k1 k2 k3 k4 k5 (em ▸ k6) fun A s' hh hlL F' hls => ?_
  refine' gen_fresh (xg := Str.ofString "grouping") (xl := Str.ofString "last_interval") ?ev hh ?stI ?iter ?fold ?xx ?xgx hg h0 ?co ?int F' (if_pos rfl) hls hlL
  case fold => exact fun _ => rfl
  case xx => decide
  case xgx => decide
  case co => exact rfl
  case int => exact rfl
  case ev =>
    constructor
    case t1 =>
      intro A s m v t Q E hh F hm hq
      have F2 := fr_pin (Str.ofString "interval") F hm
      clear F
      iterate 5 one_sign
      exact hq _
    case t2 =>
      intro A s m v t Q E hh F hm hq
      have F2 := fr_pin (Str.ofString "interval") F hm
      clear F
      iterate 5 one_sign
      exact hq _
    case st3 =>
      intro A s m v t Q E hh F hm hq
      have F2 := fr_pin (Str.ofString "last_interval") F hm
      clear F
      iterate 8 one_sign
      exact hq _
    case tw =>
      intro A s Q E hh hq
      iterate 3 one_sign
      exact hq _
    case e1 =>
      intro A s m v Q E hh F hm hq
      have F2 := fr_pin (Str.ofString "last_interval") F hm
      clear F
      iterate 1 one_sign
      exact hq _
    case e2 =>
      intro A s m v Q E hh F hm hq
      have F2 := fr_pin (Str.ofString "interval") F hm
      clear F
      iterate 1 one_sign
      exact hq _
    case stR =>
      intro A s Q E hh hq
      iterate 1 one_sign
      exact hq _
    case stA =>
      intro A s m v Q E hh F hm hq
      have F2 := fr_pin (Str.ofString "interval") F hm
      clear F
      iterate 2 one_sign
      refine wpAny_storeName_local rfl F2.ns (fun h' hn' hs' => ?_) rfl
      have F3 := F2.set hn' hs'
      have em : (fun y : Str => if y = Str.ofString "last_interval" then some v else if y = Str.ofString "interval" then some v else m y) = fun y => if y = Str.ofString "last_interval" then some v else m y := by
        funext y
        by_cases h1 : y = Str.ofString "last_interval"
        · simp only [h1, if_true]
        · by_cases h2 : y = Str.ofString "interval"
          · rw [h2]
            simp only [if_true]
            rw [hm]
          · simp only [h1, h2, if_false]
      exact hq h' _ (em ▸ F3) hs'
    case asg =>
      intro A s m v Q E hh F hq
      refine wpAny_storeName_local rfl F.ns (fun h' hn' hs' => ?_) rfl
      exact hq h' _ (F.set hn' hs') hs'
  case stI =>
    intro A s m Q E hh F hq
    iterate 2 one_sign
    refine wpAny_storeName_local rfl F.ns (fun h' hn' hs' => ?_) rfl
    exact hq h' _ (F.set hn' hs') hs'
  case iter =>
    intro A s m v Q E hh F hm hq
    have F2 := fr_pin (Str.ofString "grouping") F hm
    clear F
    iterate 1 one_sign
    exact hq _
end Mine
namespace Mine
open LCg (NsObj lst lst_snoc ns_obj)
noncomputable abbrev gNm (l : Addr) : Nm := fun y => if y = Str.ofString "grouping" then some (.ref l) else none
theorem zip_gen {w : World} {A : Around} {E : Value → Shared → Prop} {s : Shared} {env : Env} {iter : Expr} {scope : Scope} {pos : Pos} {a b : Str} {pa pb pe tpos : Pos} {kt : Nat}
    {h₀ : Heap} {L : Addr} {m : Nm} {news : Led} {cl : List (Str × Addr)} {r G LG l : Addr} {gn nl : Nat} {c0 : Code} {g : List Int} {items : Array Value} {t u v : Tok} {Q : Value → Shared → Prop}
    (hh : A.handled = none) (hroom : A.in1.depth < recursionLimit) (hNL : h₀.NoLimit)
    (hcell : ∀ y ∈ scope.names, y.2 ≠ .cell) (hkind : scope.kind = .function) (ha : scope.names.lookup a = some .local) (hb : scope.names.lookup b = some .local) (hab : a ≠ b) (hbd : (b == ("__debug__" : Str)) = false)
    (F : Fr h₀ L s.heap m) (N : News h₀ L s.heap news) (hl : (l, W.listOf items nl) ∈ news) (hr : IsRange s.heap r 0 12 1 t u v)
    (hG : s.heap.IsGen G gn) (hgs : s.gens[gn]? = some (.fresh c0)) (hbr : AllBare s.gens) (hGn : h₀.get? G = none ∧ G ≠ L ∧ ∀ p ∈ news, p.1 ≠ G) (hLn : h₀.get? LG = none ∧ LG ≠ L ∧ ∀ p ∈ news, p.1 ≠ LG) (hGL : G ≠ LG) (FG : Fr h₀ LG s.heap (gNm l))
    (hseg : ∀ (A : Around) (s' : Shared), A.handled = none → l ≠ LG → Fr h₀ LG s'.heap (gNm l) → s'.heap.IsList l items → Seg (model Pg w) A (genR LG s'.heap.objs.size g) (genY h₀ LG s'.heap.objs.size l g) 13 s' c0 ((model Pg w).den c0) [] s')
    (h1 : 1 ≤ firstEnd g) (h12 : firstEnd g ≤ 12)
    (fin : ∀ ys D h tk g', AllBare g' → IntsAre ys (sizesF g) → Fr h₀ L h m → News h₀ L h ((D, lst ys) :: news) → (∀ p ∈ news, p.1 ≠ D) → Q (.ref D) { s with heap := h, toks := tk, gens := g' }) :
    wpAny (model Pg w) A (call (.type "zip") [.ref r, .ref G]) (fun xv s₁ => wpAny (model Pg w) A (pyIter xv) (CompG Pg w A env (.Tuple [.Name a pa, .Name b pb] kt tpos) (.Name b pe) iter scope pos cl Q) E s₁) E s := by
  refine call_zip_rg hr hG fun h' hz hTI hTO hi1 hk => ?_
  have hls : s.heap.IsList l items := ⟨_, (N _ hl).1, rfl, nl, rfl⟩
  have hlL : l ≠ LG := hLn.2.2 _ hl
  have hGlt : G < s.heap.objs.size := by (refine Mine.e3_2 hG ?_; intro o _ _ e _; (try clear hG)); exact Heap.lt_size e
  have hLGlt : LG < s.heap.objs.size := FG.ns.lt
  have hLlt : L < s.heap.objs.size := F.ns.lt
  have free : ∀ a : Addr, s.heap.objs.size ≤ a → h₀.get? a = none := fun a ha => none_above F ha
  refine wpAny_pyIter_zip hz ⟨h₀, L, m, _, gen_block (W0 := fun h => Fr h₀ LG h (gNm l) ∧ h.IsList l items) (l := l) (g := g) hh hroom hNL hcell hkind ha hb hab hbd (F.keeps hk) (N.grown hk) hl hz hTI ⟨_, _, hTO⟩ hi1 (hG.keeps hk) hgs hbr ⟨FG.keeps hk, hls.at fun o e => hk _ _ e⟩ ?_ ?_ ?_ ?_ ?_ ?_ ?_ hGL, ?_⟩
  · rintro h h' ⟨f, il⟩ k1 k2
    exact ⟨⟨f.ns.at' fun o e => k1 LG (by simp) o e, k2, f.above⟩, il.at fun o e => k1 l (by simp) o e⟩
  · rintro s' ⟨f, il⟩
    exact hseg _ s' hh hlL f il
  · have up : ∀ a : Addr, s.heap.objs.size ≤ a → (∃ o, h'.get? a = some o) → h₀.get? a = none ∧ a ≠ L ∧ (∀ p ∈ news, p.1 ≠ a) ∧ ∃ o, h'.get? a = some o := fun a ha ho =>
      ⟨free a ha, fun q => by rw [q] at ha; exact absurd hLlt (Nat.not_lt.mpr ha), fun p hp q => by have := Heap.lt_size (N p hp).1; rw [q] at this; exact absurd this (Nat.not_lt.mpr ha), ho⟩
    have live : ∀ x : Addr, (∃ o, s.heap.get? x = some o) → ∃ o, h'.get? x = some o := fun x ⟨o, e⟩ => ⟨o, hk _ _ e⟩
    rintro x (rfl | rfl | rfl | rfl | rfl | rfl)
    · exact up _ (Nat.le_add_right _ 3) ⟨_, hz⟩
    · exact up _ (Nat.le_add_right _ 1) ⟨_, hTI⟩
    · exact up _ (Nat.le_add_right _ 2) ⟨_, hTO⟩
    · exact up _ (Nat.le_refl _) ⟨_, hi1⟩
    · exact ⟨hGn.1, hGn.2.1, hGn.2.2, live _ (by (refine Mine.e3_2 hG ?_; intro o _ _ e _; (try clear hG)); exact ⟨o, e⟩)⟩
    · exact ⟨hLn.1, hLn.2.1, hLn.2.2, live _ (by (refine Mine.e3_2 FG.ns ?_; intro o _ _ e _; (try clear FG.ns)); exact ⟨o, e⟩)⟩
  · generalize s.heap.objs.size = k at *
    replace hLGlt : @LT.lt Nat _ LG k := hLGlt
    constructor
    case zO => exact id
    case TIO => exact id
    case TOO => exact id
    case i1O => exact id
    all_goals exact fun (e : @Eq Nat _ _) => by omega
  · intro e
    have h1 : @LT.lt Nat _ G s.heap.objs.size := hGlt
    have h2 : @Eq Nat G (s.heap.objs.size + 3) := e
    omega
  · intro e
    have h1 : @LT.lt Nat _ G s.heap.objs.size := hGlt
    have h2 : @Eq Nat G (s.heap.objs.size + 2) := e
    omega
  · exact Nat.ne_of_lt hGlt
  · (intro ys nw D h tk g' hb z4h; refine Mine.e0_2 z4h ?_; intro z4x0 z4r; (try clear z4h); (rcases z4x0 with rfl); (refine Mine.e1_4 z4r ?_; intro n hys hn hd he; (try clear z4r)); intro F' N' o)
    rw [draws_sizes h1 h12 hn hd he] at hys
    exact fin ys D h tk g' hb hys F' N' o
end Mine
namespace Mine
section
variable {prog : Program} {w : World} {A : Around} {E : Value → Shared → Prop} {s : Shared} {Q : Value → Shared → Prop} {a b : Addr}
theorem strs_eqAt {xs ys : Array Value} {gs : List Str} (hx : StrsAre xs.toList gs) (hy : StrsAre ys.toList gs) (B : Around) (s : Shared) : ∀ j (h1 : j < xs.size) (h2 : j < ys.size), SeqAt.EqAt B s xs[j] ys[j] ((fun _ => true) j) := fun j h1 h2 => by
  (have z1 := (strs_at hx (show xs.toList[j]? = some xs[j] from by rw [Array.getElem?_toList, Array.getElem?_eq_getElem h1])); refine Mine.e2_2 z1 ?_; intro x t e1 g1; (try clear z1))
  (have z2 := (strs_at hy (show ys.toList[j]? = some ys[j] from by rw [Array.getElem?_toList, Array.getElem?_eq_getElem h2])); refine Mine.e2_2 z2 ?_; intro y u e2 g2; (try clear z2))
  rw [g1] at g2
  obtain rfl := Option.some.inj g2
  rw [e1, e2]
  have := SeqAt.EqAt.str_str (A := B) (s := s) x t x u
  simpa using this
theorem all_true {n : Nat} : (List.range n).all (fun _ => true) = true := by simp
theorem strs_size {xs ys : Array Value} {gs : List Str} (hx : StrsAre xs.toList gs) (hy : StrsAre ys.toList gs) : xs.size = ys.size := by
  rw [← Array.length_toList, ← Array.length_toList, hx.length, hy.length]
theorem ne_strs {xs ys : Array Value} {gs : List Str} (ha : s.heap.IsList a xs) (hb : s.heap.IsList b ys) (hx : StrsAre xs.toList gs) (hy : StrsAre ys.toList gs) (hu : A.units < cLine) (h : Q (.bool false) s) :
    wpAny (model prog w) A (compareOp .NotEq (.ref a) (.ref b)) Q E s := by
  refine SeqAt.RcNeAt.lists ha hb (strs_size hx hy) hu (e := fun _ => true) (strs_eqAt hx hy _ s) prog w E Q ?_
  rw [all_true]; exact h
theorem rows_eq {h₀ : Heap} {L : Addr} {news RA RB : Led} {ra rb : List Value} {da db : List (List Str)} (N : News h₀ L s.heap news) (Ra : RowsAt RA ra da) (Rb : RowsAt RB rb db) (sa : ∀ p ∈ RA, p ∈ news) (sb : ∀ p ∈ RB, p ∈ news)
    (hl : da.length = db.length) (hp : ∀ (i : Nat) (p q : List Str), da[i]? = some p → db[i]? = some q → p.Perm q) (ha : s.heap.IsList a ra.toArray) (hb : s.heap.IsList b rb.toArray) (hu : A.units + 1 < cLine) (h : Q (.bool true) s) :
    wpAny (model prog w) A (compareOp .Eq (.ref a) (.ref b)) Q E s := by
  refine SeqAt.eq_listAt (e := fun _ => true) ha hb (by rw [List.size_toArray, List.size_toArray, Ra.1, Rb.1, hl]) (by omega) (fun j h1 h2 => ?_) (by rw [all_true]; exact h)
  (have z3 := (Ra.2 j ra.toArray[j] (by rw [← List.getElem?_toArray, Array.getElem?_eq_getElem h1])); refine Mine.e5_6 z3 ?_; intro x vs c ps ss e1 m1 g1 d1 q1 o1; (try clear z3))
  (have z4 := (Rb.2 j rb.toArray[j] (by rw [← List.getElem?_toArray, Array.getElem?_eq_getElem h2])); refine Mine.e5_6 z4 ?_; intro y us d pt st e2 m2 g2 d2 q2 o2; (try clear z4))
  have hs : ss = st := sorted_same ((q1.trans (hp j ps pt d1 d2)).trans q2.symm) o1 o2
  subst hs
  rw [e1, e2]
  by_cases hxy : x = y
  · subst hxy
    exact SeqAt.EqAt.same _
  · have hX : s.heap.IsList x vs := ⟨_, (N _ (sa _ m1)).1, rfl, _, rfl⟩
    have hY : s.heap.IsList y us := ⟨_, (N _ (sb _ m2)).1, rfl, _, rfl⟩
    have := SeqAt.RcAt.lists (A := A.in1) hX hY (strs_size g1 g2) (e := fun _ => true) (show A.units + 1 < cLine from hu) (strs_eqAt g1 g2 _ s)
    rw [all_true] at this
    exact SeqAt.EqAt.of_refs hxy this
end
end Mine
namespace Mine
section
variable {gs : List Str} {ns : List (List Int)} {rho : Nat → Nat}
theorem Told.len8 (T : Told gs ns rho) (h8 : gs.length ≤ 8) : (esF gs ns gs.length).length ≤ 8 := by
  have h1 := nodup_le (a := (esF gs ns gs.length).map (·.key)) (b := gs) (esF_ok _).nd fun x hx => by
    (have z1 := ((T.keys x).mp hx); refine Mine.e1_2 z1 ?_; intro i hi z1x2; (try clear z1); (rcases z1x2 with rfl))
    exact getD_mem hi
  rw [List.length_map] at h1
  omega
theorem lev_at (T : Told gs ns rho) {i : Nat} (hi : i < gs.length) : (levF ns gs.length)[i]? = some (levS gs ns (gs.getD i Str.empty) : Int) := by
  have hl : (levF ns gs.length).length = gs.length := by rw [levF_len, T.hl]
  unfold levS
  rw [idx_at T.hg hi, List.getElem?_eq_getElem (by omega)]
  unfold levN
  rw [T.hl, List.getD_eq_getElem?_getD, List.getElem?_eq_getElem (by omega)]
  have := (levF_bound gs.length _ (List.getElem_mem (l := levF ns gs.length) (by omega : i < _))).1
  simp only [Option.getD_some]
  rw [Int.toNat_of_nonneg this]
theorem plain_end (T : Told gs ns rho) (h0 : 0 < gs.length) (h8 : gs.length ≤ 8) : ∃ rs, RoundsF (esF gs ns gs.length) (readyF (esF gs ns gs.length)) rs ∧ rs.length ≤ 100 ∧ rs.length = (levelsF gs ns).length ∧
    ∀ (i : Nat) (p q : List Str), rs[i]? = some p → (levelsF gs ns)[i]? = some q → p.Perm q := by
  (have z2 := (T.rounds (T.len8 h8)); refine Mine.e1_3 z2 ?_; intro rs hR hrow hall; (try clear z2))
  have hl : (levF ns gs.length).length = gs.length := by rw [levF_len, T.hl]
  (have z3 := (maxF_le (l := levF ns gs.length) (b := 0)); refine Mine.e0_3 z3 ?_; intro g1 g2 g3; (try clear z3))
  have key : ∀ i, i < gs.length → gs.getD i Str.empty ∈ (esF gs ns gs.length).map (·.key) := fun i hi => (T.keys _).mpr ⟨i, hi, rfl⟩
  have lv_le : ∀ i, i < gs.length → (levS gs ns (gs.getD i Str.empty) : Int) ≤ maxF (levF ns gs.length) := fun i hi => g2 _ (List.mem_of_getElem? (lev_at T hi))
  have hM : (maxF (levF ns gs.length)).toNat < rs.length := by
    have g3' : maxF (levF ns gs.length) = 0 ∨ maxF (levF ns gs.length) ∈ levF ns gs.length := g3
    rcases g3' with g | g
    · have := hall _ (key 0 h0)
      rw [g]; exact Nat.lt_of_le_of_lt (Nat.zero_le _) this
    · obtain ⟨i, hi⟩ := List.getElem?_of_mem g
      have hil : i < gs.length := by have := (List.getElem?_eq_some_iff.mp hi).1; omega
      have h1 := lev_at T hil
      rw [hi] at h1
      have h2 := hall _ (key i hil)
      have h3 := Option.some.inj h1
      omega
  have hM2 : rs.length ≤ (maxF (levF ns gs.length)).toNat + 1 := by
    cases hr : rs.length with
    | zero => omega
    | succ k =>
      have hk : k < rs.length := by omega
      (have z4 := (hrow k rs[k] (List.getElem?_eq_getElem hk)); refine Mine.e0_3 z4 ?_; intro hne _ hmem; (try clear z4))
      obtain ⟨x, hx⟩ := List.exists_mem_of_ne_nil _ hne
      obtain ⟨hxk, hxl⟩ := (hmem x).mp hx
      (have z5 := ((T.keys x).mp hxk); refine Mine.e1_2 z5 ?_; intro i hi z5x2; (try clear z5); (rcases z5x2 with rfl))
      have := lv_le i hi
      omega
  have hlen : (levelsF gs ns).length = (maxF (levF ns gs.length)).toNat + 1 := by unfold levelsF; rw [List.length_map, List.length_range]
  have hMle : (maxF (levF ns gs.length)).toNat ≤ 8 := by
    have g3' : maxF (levF ns gs.length) = 0 ∨ maxF (levF ns gs.length) ∈ levF ns gs.length := g3
    rcases g3' with g | g
    · rw [g]; decide
    · have := (levF_bound gs.length _ g).2
      omega
  refine ⟨rs, hR, by omega, by omega, fun i p q hp hq => ?_⟩
  (have z6 := (hrow i p hp); refine Mine.e0_3 z6 ?_; intro _ hnd hmem; (try clear z6))
  unfold levelsF at hq
  rw [List.getElem?_map] at hq
  cases hi : (List.range ((maxF (levF ns gs.length)).toNat + 1))[i]? with
  | none => rw [hi] at hq; cases hq
  | some j =>
    rw [hi] at hq
    obtain ⟨h1, h2⟩ := List.getElem?_eq_some_iff.mp hi
    rw [List.getElem_range] at h2
    subst h2
    obtain rfl := Option.some.inj hq
    refine (List.perm_ext_iff_of_nodup hnd (rowOf_nd T.hg (by omega))).mpr fun x => ?_
    rw [hmem x, rowOf_mem]
    constructor
    · rintro ⟨hk, hlv⟩
      (have z7 := ((T.keys x).mp hk); refine Mine.e1_2 z7 ?_; intro j hj z7x2; (try clear z7); (rcases z7x2 with rfl))
      refine ⟨j, ?_, ?_⟩
      · rw [List.getD_eq_getElem?_getD, List.getElem?_eq_getElem hj]; rfl
      · rw [lev_at T hj, hlv]
    · (intro z8h; refine Mine.e1_2 z8h ?_; intro j hj hlv; (try clear z8h))
      have hjl := (List.getElem?_eq_some_iff.mp hj).1
      have hx : gs.getD j Str.empty = x := by rw [List.getD_eq_getElem?_getD, hj]; rfl
      have h3 := lev_at T hjl
      rw [hlv, hx] at h3
      refine ⟨hx ▸ key j hjl, ?_⟩
      have := Option.some.inj h3
      omega
theorem plain_su (T : Told gs ns rho) : (∀ e ∈ esF gs ns gs.length, ∀ s ∈ e.su, s ∈ (esF gs ns gs.length).map (·.key)) ∧ ∀ e ∈ esF gs ns gs.length, ∀ s ∈ e.su, levS gs ns e.key < levS gs ns s := by
  have H := T.lv
  refine ⟨fun e he s hs => ?_, fun e he s hs => ?_⟩
  · have := (H.sn e.key (List.mem_map.mpr ⟨e, he, rfl⟩)).2 s (by rw [suOf_eq H.hn he]; exact hs)
    exact this.1
  · have := (H.sn e.key (List.mem_map.mpr ⟨e, he, rfl⟩)).2 s (by rw [suOf_eq H.hn he]; exact hs)
    exact this.2
end
end Mine
namespace Mine
theorem fm_len {x y : Str} (h : x.cps.size = y.cps.size) (is : List Nat) : (is.filterMap (x.cps[·]?)).length = (is.filterMap (y.cps[·]?)).length := by
  rw [List.length_filterMap_eq_countP, List.length_filterMap_eq_countP]
  congr 1
  funext i
  by_cases hi : i < x.cps.size
  · have hj : i < y.cps.size := by omega
    simp [hi, hj]
  · have hj : ¬ i < y.cps.size := by omega
    simp [hi, hj]
theorem slice_len {x y : Str} (h : x.cps.size = y.cps.size) (l u : Option Int) : (Txt.slice x l u).cps.size = (Txt.slice y l u).cps.size := by
  have hl : x.length = y.length := h
  unfold Txt.slice
  rw [hl]
  split
  · exact h
  · rw [List.size_toArray, List.size_toArray]; exact fm_len h _
noncomputable abbrev szs (l : List Str) : List Nat := l.map fun z => z.cps.size
theorem cuts_len : ∀ {sz : List Int} {p q : List Str × Str}, szs p.1 = szs q.1 → p.2.cps.size = q.2.cps.size → szs (sz.foldl cut1 p).1 = szs (sz.foldl cut1 q).1 ∧ (sz.foldl cut1 p).2.cps.size = (sz.foldl cut1 q).2.cps.size
  | [], _, _, h1, h2 => ⟨h1, h2⟩
  | z :: r, p, q, h1, h2 => by
    have hc : szs (cut1 p z).1 = szs (cut1 q z).1 ∧ (cut1 p z).2.cps.size = (cut1 q z).2.cps.size := by
      have h3 : p.2.length = q.2.length := h2
      unfold cut1
      by_cases h0 : p.2.length = 0
      · rw [if_pos h0, if_pos (h3 ▸ h0)]; exact ⟨h1, h2⟩
      · rw [if_neg h0, if_neg (h3 ▸ h0)]
        refine ⟨?_, slice_len h2 _ _⟩
        show szs (p.1 ++ _) = szs (q.1 ++ _)
        unfold szs at h1 ⊢
        rw [List.map_append, List.map_append, h1, List.map_singleton, List.map_singleton, slice_len h2]
    exact cuts_len (sz := r) hc.1 hc.2
theorem groups_len {x y : Str} (h : x.cps.size = y.cps.size) (sz : List Int) : szs (groupsF x sz) = szs (groupsF y sz) := by
  have hc := cuts_len (sz := sz) (p := ([], x)) (q := ([], y)) rfl h
  have h3 : (cutF x sz).2.length = (cutF y sz).2.length := hc.2
  unfold groupsF
  by_cases h0 : (cutF x sz).2.length = 0
  · rw [if_pos h0, if_pos (h3 ▸ h0)]; exact hc.1
  · rw [if_neg h0, if_neg (h3 ▸ h0)]
    unfold szs
    rw [List.map_append, List.map_append, List.map_singleton, List.map_singleton]
    have : (cutF x sz).2.cps.size = (cutF y sz).2.cps.size := hc.2
    rw [this]
    congr 1
    exact hc.1
theorem group_len {x y : Str} (h : x.cps.size = y.cps.size) (sz : List Int) (place : Int) : (groupF x sz place).cps.size = (groupF y sz place).cps.size := by
  have hg := groups_len h sz
  have hl : (groupsF x sz).length = (groupsF y sz).length := by
    have := congrArg List.length hg
    simpa [szs] using this
  unfold groupF
  rw [hl]
  have := congrArg (fun l => l.getD (place.fmod ((groupsF y sz).length : Int)).toNat 0) hg
  simp only [szs, List.getD_eq_getElem?_getD, List.getElem?_map] at this
  rw [List.getD_eq_getElem?_getD, List.getD_eq_getElem?_getD]
  cases e1 : (groupsF x sz)[(place.fmod ((groupsF y sz).length : Int)).toNat]? with
  | none =>
    cases e2 : (groupsF y sz)[(place.fmod ((groupsF y sz).length : Int)).toNat]? with
    | none => rfl
    | some b =>
      have h1 := List.getElem?_eq_none_iff.mp e1
      have h2 := (List.getElem?_eq_some_iff.mp e2).1
      omega
  | some a =>
    cases e2 : (groupsF y sz)[(place.fmod ((groupsF y sz).length : Int)).toNat]? with
    | none =>
      have h1 := List.getElem?_eq_none_iff.mp e2
      have h2 := (List.getElem?_eq_some_iff.mp e1).1
      omega
    | some b =>
      rw [e1, e2] at this
      simpa using this
end Mine
namespace Mine
theorem size_app (x y : Str) : (x ++ y).cps.size = x.cps.size + y.cps.size := by
  show (x.cps ++ y.cps).size = _
  exact Array.size_append
theorem str_assoc (x y z : Str) : x ++ (y ++ z) = x ++ y ++ z := by
  show (⟨x.cps ++ (y.cps ++ z.cps)⟩ : Str) = ⟨x.cps ++ y.cps ++ z.cps⟩
  rw [Array.append_assoc]
theorem str_nil (x : Str) : x ++ Str.ofString "" = x := by
  have he : (Str.ofString "").cps = #[] := by decide
  show (⟨x.cps ++ (Str.ofString "").cps⟩ : Str) = x
  rw [he, Array.append_empty]
theorem i1 : ∀ u : Fin 8, (Txt.item (Str.ofString "-r") ((u.val / 4 : Nat) : Int)).cps.size = 1 := by decide +kernel
theorem i2 : ∀ u : Fin 8, (Txt.item (Str.ofString "-w") ((u.val / 2 % 2 : Nat) : Int)).cps.size = 1 := by decide +kernel
theorem i3 : ∀ u : Fin 8, ∀ v : Fin 2, (Txt.item (Str.ofString "-xSs") ((v.val * 2 + u.val % 2 : Nat) : Int)).cps.size = 1 := by decide +kernel
theorem i4 : ∀ u : Fin 8, ∀ v : Fin 2, (Txt.item (Str.ofString "-xTt") ((v.val * 2 + u.val % 2 : Nat) : Int)).cps.size = 1 := by decide +kernel
theorem i5 : ∀ u : Fin 16, (pickS ((u.val : Nat) : Int) kindD (Str.ofString "?")).cps.size = 1 := by decide +kernel
theorem signs_size {n : Nat} (hn : n < 65536) : (signsF (n : Int)).cps.size = 10 := by
  have hu1 : n / 64 % 8 < 8 := Nat.mod_lt _ (by decide)
  have hu2 : n / 8 % 8 < 8 := Nat.mod_lt _ (by decide)
  have hu3 : n % 8 < 8 := Nat.mod_lt _ (by decide)
  have hv1 : n / 2048 % 2 < 2 := Nat.mod_lt _ (by decide)
  have hv2 : n / 1024 % 2 < 2 := Nat.mod_lt _ (by decide)
  have hv3 : n / 512 % 2 < 2 := Nat.mod_lt _ (by decide)
  have e1 : (n : Int).fdiv 1 = ((n : Nat) : Int) := by have := fdiv_nat n 1; rwa [Nat.div_one] at this
  have f8 : ∀ k : Nat, (k : Int).fmod 8 = ((k % 8 : Nat) : Int) := fun k => fmod_nat k 8
  have f2 : ∀ k : Nat, (k : Int).fmod 2 = ((k % 2 : Nat) : Int) := fun k => fmod_nat k 2
  have d4 : ∀ k : Nat, (k : Int).fdiv 4 = ((k / 4 : Nat) : Int) := fun k => fdiv_nat k 4
  have d2 : ∀ k : Nat, (k : Int).fdiv 2 = ((k / 2 : Nat) : Int) := fun k => fdiv_nat k 2
  have p64 : (n : Int).fdiv 64 = ((n / 64 : Nat) : Int) := fdiv_nat n 64
  have p8 : (n : Int).fdiv 8 = ((n / 8 : Nat) : Int) := fdiv_nat n 8
  have p512 : (n : Int).fdiv 512 = ((n / 512 : Nat) : Int) := fdiv_nat n 512
  have p1024 : (n : Int).fdiv 1024 = ((n / 1024 : Nat) : Int) := fdiv_nat n 1024
  have p2048 : (n : Int).fdiv 2048 = ((n / 2048 : Nat) : Int) := fdiv_nat n 2048
  have p4096 : (n : Int).fdiv 4096 = ((n / 4096 : Nat) : Int) := fdiv_nat n 4096
  have j3 : ∀ (u : Fin 8) (v : Fin 2), (Txt.item (Str.ofString "-xSs") ((v.val : Int) * 2 + ((u.val % 2 : Nat) : Int))).cps.size = 1 := fun u v => i3 u v
  have j4 : ∀ (u : Fin 8) (v : Fin 2), (Txt.item (Str.ofString "-xTt") ((v.val : Int) * 2 + ((u.val % 2 : Nat) : Int))).cps.size = 1 := fun u v => i4 u v
  unfold signsF tripF
  simp only [e1, p64, p8, p512, p1024, p2048, p4096, f8, f2, d4, d2, size_app]
  rw [i1 ⟨_, hu1⟩, i1 ⟨_, hu2⟩, i1 ⟨_, hu3⟩, i2 ⟨_, hu1⟩, i2 ⟨_, hu2⟩, i2 ⟨_, hu3⟩, j3 ⟨_, hu1⟩ ⟨_, hv1⟩, j3 ⟨_, hu2⟩ ⟨_, hv2⟩, j4 ⟨_, hu3⟩ ⟨_, hv3⟩, i5 ⟨n / 4096, by omega⟩]
theorem cuts_le {B : Nat} : ∀ {sz : List Int} {p : List Str × Str}, (∀ z ∈ p.1, z.cps.size ≤ B) → p.2.cps.size ≤ B → (∀ z ∈ (sz.foldl cut1 p).1, z.cps.size ≤ B) ∧ (sz.foldl cut1 p).2.cps.size ≤ B
  | [], _, h1, h2 => ⟨h1, h2⟩
  | z :: r, p, h1, h2 => by
    have hs : ∀ l u, (Txt.slice p.2 l u).cps.size ≤ B := fun l u => Nat.le_trans (PyProof.Txt.length_slice_le p.2 l u) h2
    refine cuts_le (sz := r) (p := cut1 p z) ?_ ?_
    · unfold cut1; split
      · exact h1
      · intro y hy
        rcases List.mem_append.mp hy with hy | hy
        · exact h1 y hy
        · rw [List.mem_singleton.mp hy]; exact hs _ _
    · unfold cut1; split
      · exact h2
      · exact hs _ _
theorem group_le {x : Str} {sz : List Int} {place : Int} : (groupF x sz place).cps.size ≤ x.cps.size := by
  have hc := cuts_le (B := x.cps.size) (sz := sz) (p := ([], x)) (fun z hz => nomatch hz) (Nat.le_refl _)
  have hall : ∀ z ∈ groupsF x sz, z.cps.size ≤ x.cps.size := fun z hz => by
    unfold groupsF at hz
    split at hz
    · exact hc.1 z hz
    · rcases List.mem_append.mp hz with hz | hz
      · exact hc.1 z hz
      · rw [List.mem_singleton.mp hz]; exact hc.2
  unfold groupF
  rw [List.getD_eq_getElem?_getD]
  cases e : (groupsF x sz)[(place.fmod ((groupsF x sz).length : Int)).toNat]? with
  | none => exact Nat.zero_le _
  | some z => exact hall z (List.mem_of_getElem? e)
/-- a file's name -/
noncomputable def nameF (x : Str) (k : Nat) : Str := if k = 0 then x else x ++ Str.ofString "." ++ Txt.item (Str.ofString "abcdefg") (k : Int)
noncomputable def namesF (ss : List Str) : List Str := (List.range ss.length).map fun k => nameF (ss.getD k Str.empty) k
theorem abc_size : ∀ k : Fin 7, (Txt.item (Str.ofString "abcdefg") ((k.val : Nat) : Int)).cps = #[97 + k.val] := by decide +kernel
theorem name_size {x : Str} {k : Nat} (hx : x.cps.size = 10) (hk : k < 7) : (nameF x k).cps.size = if k = 0 then 10 else 12 := by
  unfold nameF
  split
  · exact hx
  · rw [size_app, size_app, abc_size ⟨k, hk⟩, hx]; rfl
theorem name_last {x : Str} {k : Nat} (hx : x.cps.size = 10) (h0 : k ≠ 0) (hk : k < 7) : (nameF x k).cps[11]? = some (97 + k) := by
  unfold nameF
  rw [if_neg h0]
  show ((x.cps ++ (Str.ofString ".").cps) ++ (Txt.item (Str.ofString "abcdefg") (k : Int)).cps)[11]? = _
  have hd : (Str.ofString ".").cps = #[46] := by decide
  rw [abc_size ⟨k, hk⟩, hd, Array.getElem?_append_right (by rw [Array.size_append, hx]; decide)]
  rw [Array.size_append, hx]
  rfl
theorem names_nd {ss : List Str} (h7 : ss.length ≤ 7) (hs : ∀ x ∈ ss, x.cps.size = 10) : (namesF ss).Nodup := by
  unfold namesF
  rw [List.nodup_iff_pairwise_ne, List.pairwise_map]
  refine List.Pairwise.imp_of_mem (R := fun a b => a ≠ b) ?_ (List.nodup_iff_pairwise_ne.mp List.nodup_range)
  intro a b ha hb hab e
  have ha' := List.mem_range.mp ha
  have hb' := List.mem_range.mp hb
  have sz : ∀ k, k < ss.length → (ss.getD k Str.empty).cps.size = 10 := fun k hk => by
    rw [List.getD_eq_getElem?_getD, List.getElem?_eq_getElem hk]
    exact hs _ (List.getElem_mem hk)
  have h1 := name_size (sz a ha') (k := a) (by omega)
  have h2 := name_size (sz b hb') (k := b) (by omega)
  rw [e] at h1
  rw [h1] at h2
  by_cases a0 : a = 0
  · rw [if_pos a0, if_neg (by omega)] at h2; omega
  · by_cases b0 : b = 0
    · rw [if_neg a0, if_pos b0] at h2; omega
    · have h3 := name_last (sz a ha') a0 (by omega)
      have h4 := name_last (sz b hb') b0 (by omega)
      rw [e] at h3
      rw [h3] at h4
      have := Option.some.inj h4
      omega
/-- the grouping that the law builds -/
noncomputable def gtailF (r : Int) : List Int := if r = 0 then [0, 2] else if r = 1 then [127, 2] else []
noncomputable def groupingF (ns : List Int) : List Int := [3] ++ ns.map (fun x => 1 + (x.fdiv 65536).fmod 4) ++ gtailF (ns.sum.fmod 3)
noncomputable def wordsF (ns : List Int) : List Int := [33184, 33188, 33190, 16877] ++ ns.map fun x => x.fmod 65536
theorem words_ok {ns : List Int} : ∀ x ∈ wordsF ns, 0 ≤ x ∧ x < 65536 := by
  intro x hx
  rcases List.mem_append.mp hx with hx | hx
  · simp only [List.mem_cons, List.not_mem_nil, or_false] at hx
    rcases hx with rfl | rfl | rfl | rfl <;> decide
  · (have z1 := (List.mem_map.mp hx); refine Mine.e1_2 z1 ?_; intro y _ z1x2; (try clear z1); (rcases z1x2 with rfl))
    exact ⟨Int.fmod_nonneg_of_pos y (by decide), Int.fmod_lt_of_pos y (by decide)⟩
theorem grouping_low {ns : List Int} : ∀ i, i < ns.length + 1 → ∃ x, (groupingF ns)[i]? = some x ∧ 1 ≤ x ∧ x ≤ 4 := by
  intro i hi
  unfold groupingF
  have hl : ([3] ++ ns.map (fun x => 1 + (x.fdiv 65536).fmod 4) : List Int).length = ns.length + 1 := by simp
  rw [List.getElem?_append_left (by omega)]
  have hm : ∀ x ∈ ([3] ++ ns.map (fun x => 1 + (x.fdiv 65536).fmod 4) : List Int), 1 ≤ x ∧ x ≤ 4 := by
    intro x hx
    rcases List.mem_append.mp hx with hx | hx
    · rw [List.mem_singleton.mp hx]; decide
    · (have z2 := (List.mem_map.mp hx); refine Mine.e1_2 z2 ?_; intro y _ z2x2; (try clear z2); (rcases z2x2 with rfl))
      have := Int.fmod_nonneg_of_pos (y.fdiv 65536) (show (0 : Int) < 4 by decide)
      have := Int.fmod_lt_of_pos (y.fdiv 65536) (show (0 : Int) < 4 by decide)
      exact ⟨by omega, by omega⟩
  rw [List.getElem?_eq_getElem (by omega)]
  exact ⟨_, rfl, hm _ (List.getElem_mem (by omega))⟩
theorem gtail_len {r : Int} : (gtailF r).length ≤ 2 := by
  unfold gtailF; split
  · decide
  · split <;> decide
theorem grouping_len {ns : List Int} (h : ns.length ≤ 3) : (groupingF ns).length ≤ 6 := by
  unfold groupingF
  have := gtail_len (r := ns.sum.fmod 3)
  simp only [List.length_append, List.length_map, List.length_cons, List.length_nil]
  omega
theorem grouping_first {ns : List Int} : ns.length + 1 ≤ firstEnd (groupingF ns) ∧ firstEnd (groupingF ns) ≤ (groupingF ns).length ∧ ∀ i x, i < firstEnd (groupingF ns) → (groupingF ns)[i]? = some x → 1 ≤ x ∧ x ≤ 4 := by
  have hle : firstEnd (groupingF ns) ≤ (groupingF ns).length := List.findIdx_le_length
  have hge : ns.length + 1 ≤ firstEnd (groupingF ns) := by
    refine Nat.le_of_not_lt fun h => ?_
    (have z3 := (grouping_low (ns := ns) _ h); refine Mine.e1_3 z3 ?_; intro x hx h1 h4; (try clear z3))
    obtain ⟨hl, hx⟩ := List.getElem?_eq_some_iff.mp hx
    have := List.findIdx_getElem (p := isEnd) (xs := groupingF ns) (w := hl)
    have this : isEnd ((groupingF ns)[firstEnd (groupingF ns)]) = true := this
    rw [hx] at this
    unfold isEnd at this
    simp only [Bool.or_eq_true, beq_iff_eq] at this
    omega
  refine ⟨hge, hle, fun i x hi hx => ?_⟩
  by_cases h : i < ns.length + 1
  · (have z4 := (grouping_low (ns := ns) i h); refine Mine.e1_2 z4 ?_; intro y hy h1; (try clear z4))
    rw [hx] at hy
    rw [Option.some.inj hy]; exact h1
  · exfalso
    have hn := List.not_of_lt_findIdx (p := isEnd) (xs := groupingF ns) hi
    obtain ⟨hl, hx⟩ := List.getElem?_eq_some_iff.mp hx
    unfold groupingF at hx hl hi
    have hl2 : ([3] ++ ns.map (fun x => 1 + (x.fdiv 65536).fmod 4) : List Int).length = ns.length + 1 := by simp
    rw [List.getElem_append_right (by omega)] at hx
    have hne : firstEnd (groupingF ns) ≤ ns.length + 1 ∨ (groupingF ns).length = ns.length + 1 := by
      unfold groupingF gtailF
      by_cases r0 : ns.sum.fmod 3 = 0
      · left
        rw [if_pos r0]
        refine Nat.le_of_not_lt fun h => ?_
        have := List.not_of_lt_findIdx (p := isEnd) (xs := [3] ++ ns.map (fun x => 1 + (x.fdiv 65536).fmod 4) ++ [0, 2]) h
        rw [List.getElem_append_right (by omega)] at this
        simp [hl2, isEnd] at this
      · rw [if_neg r0]
        by_cases r1 : ns.sum.fmod 3 = 1
        · left
          rw [if_pos r1]
          refine Nat.le_of_not_lt fun h => ?_
          have := List.not_of_lt_findIdx (p := isEnd) (xs := [3] ++ ns.map (fun x => 1 + (x.fdiv 65536).fmod 4) ++ [127, 2]) h
          rw [List.getElem_append_right (by omega)] at this
          simp [hl2, isEnd] at this
        · right
          rw [if_neg r1, List.append_nil, hl2]
    rcases hne with h9 | h9
    · unfold groupingF at h9; omega
    · unfold groupingF at h9; omega
theorem sizes_ok {ns : List Int} (h : ns.length ≤ 3) : (sizesF (groupingF ns)).length ≤ 12 ∧ ∀ z ∈ sizesF (groupingF ns), 1 ≤ z ∧ z ≤ 1000 := by
  (have z5 := (grouping_first (ns := ns)); refine Mine.e0_3 z5 ?_; intro h1 h2 h3; (try clear z5))
  have h4 := grouping_len h
  have htk : ∀ z ∈ (groupingF ns).take (firstEnd (groupingF ns)), 1 ≤ z ∧ z ≤ 1000 := fun z hz => by
    obtain ⟨i, hi⟩ := List.getElem?_of_mem hz
    have hlt : i < firstEnd (groupingF ns) := by
      have := (List.getElem?_eq_some_iff.mp hi).1
      rw [List.length_take] at this
      omega
    rw [List.getElem?_take_of_lt hlt] at hi
    have := h3 i z hlt hi
    omega
  unfold sizesF
  split
  · refine ⟨by unfold repF; rw [List.length_map, List.length_range]; exact Nat.le_refl _, fun z hz => ?_⟩
    unfold repF at hz
    (have z6 := (List.mem_map.mp hz); refine Mine.e1_2 z6 ?_; intro k _ z6x2; (try clear z6); (rcases z6x2 with rfl))
    rw [List.getD_eq_getElem?_getD]
    have hl : ((groupingF ns).take (firstEnd (groupingF ns))).length = firstEnd (groupingF ns) := by rw [List.length_take]; omega
    rw [List.getElem?_eq_getElem (by omega)]
    exact htk _ (List.getElem_mem _)
  · exact ⟨by rw [List.length_take]; omega, htk⟩
end Mine
namespace Mine
/-- a ledger's first entries, some let go -/
noncomputable def keepL : List Bool → Led → Led
  | [], r => r
  | _, [] => []
  | true :: bs, x :: r => x :: keepL bs r
  | false :: bs, _ :: r => keepL bs r
theorem keepL_mem : ∀ {bs : List Bool} {r : Led}, ∀ q ∈ keepL bs r, q ∈ r
  | [], r, q, h => h
  | _ :: _, [], q, h => nomatch h
  | true :: bs, x :: r, q, h => by
    rcases List.mem_cons.mp (show q ∈ x :: keepL bs r from h) with h | h
    · exact h ▸ List.mem_cons_self
    · exact List.mem_cons_of_mem _ (keepL_mem q h)
  | false :: bs, x :: r, q, h => List.mem_cons_of_mem _ (keepL_mem q (show q ∈ keepL bs r from h))
theorem news_keep {h₀ h : Heap} {L : Addr} {nw : Led} (N : News h₀ L h nw) (bs : List Bool) : News h₀ L h (keepL bs nw) := news_sub N keepL_mem
/-- the law's own statements from the k-th on, and its frame -/
noncomputable def lawRest (w : World) (k : Nat) : List Stmt := match (hd.heap_1 w.params).lookup 241 with
  | some ⟨_, _, .func fd, _⟩ => (match fd.body with | .stmts b => b.drop k | _ => [])
  | _ => []
noncomputable def lawEnv (w : World) (L fa : Addr) (cdv : Value) : Env := match (hd.heap_1 w.params).lookup 241 with
  | some ⟨_, _, .func fd, _⟩ => envOfC fd.name fd.scope L fa cdv
  | _ => default
theorem law_open {w : World} {L fa : Addr} {cdv : Value} (k : Nat) {P : List Stmt → Env → Prop} {name qual : Str} {params : Arguments} {body : List Stmt} {scope : Scope} {dV kV doc pm cd ct oc : Value} {an od : Option Addr} {osl : Array (Option Value)}
    (ho : (hd.heap_1 w.params).lookup 241 = some ⟨oc, od, .func (fnOf name qual params body scope dV kV doc pm an cd ct), osl⟩) (h : P (body.drop k) (envOfC name scope L fa cdv)) : P (lawRest w k) (lawEnv w L fa cdv) := by
  unfold lawRest lawEnv
  rw [ho]
  exact h
theorem law_shut {w : World} {L fa : Addr} {cdv : Value} (k : Nat) {P : List Stmt → Env → Prop} {name qual : Str} {params : Arguments} {body : List Stmt} {scope : Scope} {dV kV doc pm cd ct oc : Value} {an od : Option Addr} {osl : Array (Option Value)}
    (h : P (lawRest w k) (lawEnv w L fa cdv))
    (ho : (hd.heap_1 w.params).lookup 241 = some ⟨oc, od, .func (fnOf name qual params body scope dV kV doc pm an cd ct), osl⟩) : P (body.drop k) (envOfC name scope L fa cdv) := by
  unfold lawRest lawEnv at h
  rw [ho] at h
  exact h
/-- the law's statements from the k-th on lead to Q -/
noncomputable abbrev LawGo (w : World) (k : Nat) (L fa : Addr) (cdv : Value) (Q : Flow → Shared → Prop) (E : Value → Shared → Prop) (s : Shared) : Prop :=
  wpAny (model Pg w) (callerA.deeper (lawEnv w L fa cdv)) (execs (lawRest w k) (lawEnv w L fa cdv)) Q E s
theorem go_shut {w : World} {L fa : Addr} {cdv : Value} {Q : Flow → Shared → Prop} {E : Value → Shared → Prop} {s : Shared} {rest : List Stmt} {env : Env} (k : Nat) {name qual : Str} {params : Arguments} {body : List Stmt} {scope : Scope} {dV kV doc pm cd ct oc : Value} {an od : Option Addr} {osl : Array (Option Value)}
    (h : LawGo w k L fa cdv Q E s) (ho : (hd.heap_1 w.params).lookup 241 = some ⟨oc, od, .func (fnOf name qual params body scope dV kV doc pm an cd ct), osl⟩) (hb : body.drop k = rest) (he : envOfC name scope L fa cdv = env) :
    wpAny (model Pg w) (callerA.deeper env) (execs rest env) Q E s := by
  subst hb he
  exact law_shut k (P := fun b env => wpAny (model Pg w) (callerA.deeper env) (execs b env) Q E s) h ho
theorem go_open {w : World} {L fa : Addr} {cdv : Value} {Q : Flow → Shared → Prop} {E : Value → Shared → Prop} {s : Shared} (k : Nat) {name qual : Str} {params : Arguments} {body : List Stmt} {scope : Scope} {dV kV doc pm cd ct oc : Value} {an od : Option Addr} {osl : Array (Option Value)}
    (ho : (hd.heap_1 w.params).lookup 241 = some ⟨oc, od, .func (fnOf name qual params body scope dV kV doc pm an cd ct), osl⟩)
    (h : wpAny (model Pg w) (callerA.deeper (envOfC name scope L fa cdv)) (execs (body.drop k) (envOfC name scope L fa cdv)) Q E s) : LawGo w k L fa cdv Q E s :=
  law_open k (P := fun b env => wpAny (model Pg w) (callerA.deeper env) (execs b env) Q E s) ho h
theorem words_len {ns : List Int} (h : ns.length ≤ 3) : (wordsF ns).length ≤ 7 ∧ 4 ≤ (wordsF ns).length := by
  unfold wordsF; rw [List.length_append, List.length_map]; simp only [List.length_cons, List.length_nil]; omega
/-- the law's end -/
noncomputable def LawFin (h₀ : Heap) (s : Shared) (Q : Flow → Shared → Prop) : Prop := ∀ h tk g, AllBare g → (∀ b o, h₀.get? b = some o → h.get? b = some o) → Q (.ret (.bool true)) { s with heap := h, toks := tk, gens := g }
noncomputable def sigsF (ns : List Int) : List Str := (wordsF ns).map signsF
noncomputable def grpF (ns : List Int) : List Str := (sigsF ns).map fun x => groupF x (sizesF (groupingF ns)) (ns.sum.fdiv 3)
theorem sigs_len {ns : List Int} : (sigsF ns).length = (wordsF ns).length := by unfold sigsF; rw [List.length_map]
theorem sigs_size {ns : List Int} : ∀ x ∈ sigsF ns, x.cps.size = 10 := fun x hx => by
  (have z1 := (List.mem_map.mp hx); refine Mine.e1_2 z1 ?_; intro y hy z1x2; (try clear z1); (rcases z1x2 with rfl))
  obtain ⟨y0, y1⟩ := words_ok y hy
  obtain ⟨n, rfl⟩ : ∃ n : Nat, y = (n : Int) := ⟨y.toNat, by omega⟩
  exact signs_size (by omega)
structure LawCx (w : World) (mean : ExcName → Option Value) (mg mb : Nm) (h₀ : Heap) (s : Shared) (ns : List Int) (Q : Flow → Shared → Prop) : Prop where
  B : Below callerA h₀ [] h₀
  X : (hd.heap_1 w.params).In h₀
  T : Top hd.view_1 Lo mean mg mb h₀
  n3 : ns.length ≤ 3
  bare : AllBare s.gens
  fin : LawFin h₀ s Q
theorem LawCx.to {w : World} {mean : ExcName → Option Value} {mg mb : Nm} {h₀ : Heap} {s : Shared} {ns : List Int} {Q : Flow → Shared → Prop} (c : LawCx w mean mg mb h₀ s ns Q) {h : Heap} {tk : Nat} {g : Array GenState} (hb : AllBare g) :
    LawCx w mean mg mb h₀ { s with heap := h, toks := tk, gens := g } ns Q := ⟨c.B, c.X, c.T, c.n3, hb, c.fin⟩
theorem LawCx.to2 {w : World} {mean : ExcName → Option Value} {mg mb : Nm} {h₀ : Heap} {s : Shared} {ns : List Int} {Q : Flow → Shared → Prop} (c : LawCx w mean mg mb h₀ s ns Q) {h : Heap} {tk : Nat} :
    LawCx w mean mg mb h₀ { s with heap := h, toks := tk } ns Q := ⟨c.B, c.X, c.T, c.n3, c.bare, c.fin⟩
/-- an object that is none of the law's cells -/
noncomputable def OffC (L x : Addr) : Prop := @Ne Nat x (L + 1) ∧ @Ne Nat x (L + 1 + 1) ∧ @Ne Nat x (L + 1 + 1 + 1) ∧ @Ne Nat x (L + 1 + 1 + 1 + 1)
theorem offC_lt {L x : Addr} (h : @LT.lt Nat _ (L + 1 + 1 + 1 + 1) x) : OffC L x := ⟨Nat.ne_of_gt (by omega), Nat.ne_of_gt (by omega), Nat.ne_of_gt (by omega), Nat.ne_of_gt (by omega)⟩
theorem offC {h₀ h : Heap} {L x : Addr} {o1 o2 o3 o4 : Obj} {news : Led} (N : News h₀ L h (news ++ [(L + 1 + 1 + 1 + 1, o4), (L + 1 + 1 + 1, o3), (L + 1 + 1, o2), (L + 1, o1)])) (hx : h.get? x = none) : OffC L x := by
  have k : ∀ (c : Addr) (o : Obj), (c, o) ∈ news ++ [(L + 1 + 1 + 1 + 1, o4), (L + 1 + 1 + 1, o3), (L + 1 + 1, o2), (L + 1, o1)] → @Ne Nat x c := fun c o hc e => by
    have h1 := (N _ hc).1
    rw [← (show x = c from e), hx] at h1; cases h1
  exact ⟨k _ o1 (by simp), k _ o2 (by simp), k _ o3 (by simp), k _ o4 (by simp)⟩
/-- behind the grouping -/
noncomputable def StB (w : World) : Prop := ∀ (mean : ExcName → Option Value) (mg mb : Nm) (h₀ : Heap) (L fa : Addr) (cdv : Value) (m : Nm) (s : Shared) (Q : Flow → Shared → Prop) (E : Value → Shared → Prop) (ns : List Int) (lg lw ln : Addr) (gv wv vn : List Value) (oN o2 o3 o4 : Obj),
  LawCx w mean mg mb h₀ s ns Q → Fr h₀ L s.heap m → m (Str.ofString "words") = some (.ref lw) → m (Str.ofString "grouping") = some (.ref lg) → IntsAre vn ns → IntsAre wv (wordsF ns) → IntsAre gv (groupingF ns) → OffC L lg → OffC L lw → OffC L ln →
  News h₀ L s.heap [(lg, W.listOf gv.toArray 0), (lw, W.listOf wv.toArray 0), (ln, W.listOf vn.toArray 0), (L + 1 + 1 + 1 + 1, o4), (L + 1 + 1 + 1, o3), (L + 1 + 1, o2), (L + 1, oN)] →
  oN.data = .cell (some (.ref ln)) → o2.data = .cell none → o3.data = .cell none → o4.data = .cell none → LawGo w 3 L fa cdv Q E s
/-- behind the signs -/
noncomputable def StC (w : World) : Prop := ∀ (mean : ExcName → Option Value) (mg mb : Nm) (h₀ : Heap) (L fa : Addr) (cdv : Value) (m : Nm) (s : Shared) (Q : Flow → Shared → Prop) (E : Value → Shared → Prop) (ns : List Int) (lsg lz lg lw ln : Addr) (sv zv gv wv vn : List Value) (cs cz : Nat) (oN o2 o3 o4 : Obj),
  LawCx w mean mg mb h₀ s ns Q → Fr h₀ L s.heap m → m (Str.ofString "words") = some (.ref lw) → m (Str.ofString "grouping") = some (.ref lg) → IntsAre vn ns → IntsAre wv (wordsF ns) → IntsAre gv (groupingF ns) → IntsAre zv (sizesF (groupingF ns)) → StrsAre sv (sigsF ns) → OffC L lsg → OffC L lz → OffC L lg → OffC L lw → OffC L ln →
  News h₀ L s.heap [(lsg, W.listOf sv.toArray cs), (lz, W.listOf zv.toArray cz), (lg, W.listOf gv.toArray 0), (lw, W.listOf wv.toArray 0), (ln, W.listOf vn.toArray 0), (L + 1 + 1 + 1 + 1, o4), (L + 1 + 1 + 1, o3), (L + 1 + 1, o2), (L + 1, oN)] →
  oN.data = .cell (some (.ref ln)) → o2.data = .cell (some (.ref lz)) → o3.data = .cell (some (.ref lsg)) → o4.data = .cell none → LawGo w 5 L fa cdv Q E s
/-- behind the comparison with the generator and with filemode -/
noncomputable def StD (w : World) : Prop := ∀ (mean : ExcName → Option Value) (mg mb : Nm) (h₀ : Heap) (L fa : Addr) (cdv : Value) (m : Nm) (s : Shared) (Q : Flow → Shared → Prop) (E : Value → Shared → Prop) (ns : List Int) (lsg lz lw ln : Addr) (sv zv wv vn : List Value) (cs cz : Nat) (oN o2 o3 o4 : Obj),
  LawCx w mean mg mb h₀ s ns Q → Fr h₀ L s.heap m → m (Str.ofString "words") = some (.ref lw) → IntsAre vn ns → IntsAre wv (wordsF ns) → IntsAre zv (sizesF (groupingF ns)) → StrsAre sv (sigsF ns) → OffC L lsg → OffC L lz → OffC L lw → OffC L ln →
  News h₀ L s.heap [(lsg, W.listOf sv.toArray cs), (lz, W.listOf zv.toArray cz), (lw, W.listOf wv.toArray 0), (ln, W.listOf vn.toArray 0), (L + 1 + 1 + 1 + 1, o4), (L + 1 + 1 + 1, o3), (L + 1 + 1, o2), (L + 1, oN)] →
  oN.data = .cell (some (.ref ln)) → o2.data = .cell (some (.ref lz)) → o3.data = .cell (some (.ref lsg)) → o4.data = .cell none → LawGo w 6 L fa cdv Q E s
/-- behind the names -/
noncomputable def StE (w : World) : Prop := ∀ (mean : ExcName → Option Value) (mg mb : Nm) (h₀ : Heap) (L fa : Addr) (cdv : Value) (m : Nm) (s : Shared) (Q : Flow → Shared → Prop) (E : Value → Shared → Prop) (ns : List Int) (lt lm lsg lz lw ln : Addr) (tv nv sv zv wv vn : List Value) (ct cm cs cz : Nat) (oN o2 o3 o4 : Obj),
  LawCx w mean mg mb h₀ s ns Q → Fr h₀ L s.heap m → m (Str.ofString "words") = some (.ref lw) → m (Str.ofString "names") = some (.ref lm) → m (Str.ofString "told") = some (.ref lt) → IntsAre vn ns → IntsAre wv (wordsF ns) → IntsAre zv (sizesF (groupingF ns)) → StrsAre sv (sigsF ns) → StrsAre nv (namesF (sigsF ns)) → StrsAre tv (namesF (sigsF ns)) → @Ne Nat lt lm → OffC L lt → OffC L lm → OffC L lsg → OffC L lz → OffC L lw → OffC L ln →
  News h₀ L s.heap [(lt, W.listOf tv.toArray ct), (lm, W.listOf nv.toArray cm), (lsg, W.listOf sv.toArray cs), (lz, W.listOf zv.toArray cz), (lw, W.listOf wv.toArray 0), (ln, W.listOf vn.toArray 0), (L + 1 + 1 + 1 + 1, o4), (L + 1 + 1 + 1, o3), (L + 1 + 1, o2), (L + 1, oN)] →
  oN.data = .cell (some (.ref ln)) → o2.data = .cell (some (.ref lz)) → o3.data = .cell (some (.ref lsg)) → o4.data = .cell none → LawGo w 8 L fa cdv Q E s
/-- behind the comparison of the names -/
noncomputable def StF (w : World) : Prop := ∀ (mean : ExcName → Option Value) (mg mb : Nm) (h₀ : Heap) (L fa : Addr) (cdv : Value) (m : Nm) (s : Shared) (Q : Flow → Shared → Prop) (E : Value → Shared → Prop) (ns : List Int) (lt lm lsg lz lw ln : Addr) (tv nv sv zv wv vn : List Value) (ct cm cs cz : Nat) (oN o2 o3 o4 : Obj),
  LawCx w mean mg mb h₀ s ns Q → Fr h₀ L s.heap m → m (Str.ofString "words") = some (.ref lw) → m (Str.ofString "names") = some (.ref lm) → m (Str.ofString "told") = some (.ref lt) → IntsAre vn ns → IntsAre wv (wordsF ns) → IntsAre zv (sizesF (groupingF ns)) → StrsAre sv (sigsF ns) → StrsAre nv (namesF (sigsF ns)) → StrsAre tv (namesF (sigsF ns)) → @Ne Nat lt lm → OffC L lt → OffC L lm → OffC L lsg → OffC L lz → OffC L lw → OffC L ln →
  News h₀ L s.heap [(lt, W.listOf tv.toArray ct), (lm, W.listOf nv.toArray cm), (lsg, W.listOf sv.toArray cs), (lz, W.listOf zv.toArray cz), (lw, W.listOf wv.toArray 0), (ln, W.listOf vn.toArray 0), (L + 1 + 1 + 1 + 1, o4), (L + 1 + 1 + 1, o3), (L + 1 + 1, o2), (L + 1, oN)] →
  oN.data = .cell (some (.ref ln)) → o2.data = .cell (some (.ref lz)) → o3.data = .cell (some (.ref lsg)) → o4.data = .cell none → LawGo w 9 L fa cdv Q E s
/-- a list of rows of ints within a ledger -/
noncomputable def IRows (RL : Led) (rvs : List Value) (rs : List (List Int)) : Prop := rvs.length = rs.length ∧ ∀ (i : Nat) (r : List Int), rs[i]? = some r → ∃ (a : Addr) (zs : Array Value) (c : Nat), rvs[i]? = some (Value.ref a) ∧ (a, W.listOf zs c) ∈ RL ∧ IntsAre zs.toList r
/-- before the last comparison -/
noncomputable def StG (w : World) : Prop := ∀ (mean : ExcName → Option Value) (mg mb : Nm) (h₀ : Heap) (L fa : Addr) (cdv : Value) (m : Nm) (s : Shared) (Q : Flow → Shared → Prop) (E : Value → Shared → Prop) (ns : List Int) (ld lt lm : Addr) (dv tv nv : List Value) (RL : Led) (cd ct cm : Nat),
  LawCx w mean mg mb h₀ s ns Q → Fr h₀ L s.heap m → m (Str.ofString "needs") = some (.ref ld) → m (Str.ofString "names") = some (.ref lm) → m (Str.ofString "told") = some (.ref lt) → StrsAre nv (namesF (sigsF ns)) → StrsAre tv (namesF (sigsF ns)) →
  IRows RL dv (needF (grpF ns) (wordsF ns).length) →
  News h₀ L s.heap ((ld, W.listOf dv.toArray cd) :: (lt, W.listOf tv.toArray ct) :: (lm, W.listOf nv.toArray cm) :: RL) → Nd ((ld, W.listOf dv.toArray cd) :: (lt, W.listOf tv.toArray ct) :: (lm, W.listOf nv.toArray cm) :: RL) → LawGo w 11 L fa cdv Q E s
end Mine
theorem Mine.kw63 : True := by
  (k_with "L:execs cons" => (refine wpAny_execs_cons ?_))
  (k_with "L:isplit" => (repeat' ((fail_if_success (with_reducible show wpAny _ _ (pyIter _) (CompIn _ _ _ _ _ _ _ _ _ _ _ _) _ _)); (fail_if_success (with_reducible show wpAny _ _ (pyIter _) (CompInA _ _ _ _ _ _ _ _ _ _ _ _ _) _ _)); (fail_if_success (with_reducible show wpAny _ _ (pyIter _) (fun it s₂ => LoopIn _ _ _ _ _ _ _ _ it s₂) _ _)); (fail_if_success (with_reducible show CE _ _ _ _ _ _ _ _)); (fail_if_success (with_reducible show TL _ _ _ _ _ _ Flow.next _)); (fail_if_success (with_reducible show TL _ _ _ _ _ _ Flow.cont _)); (first | (k_unfold; (try dsimp only)) | (k_end; wrow_close) | walk1 | (dsimp only; walk1) | (leave1; try dsimp only) | fail "no step"))))
  (k_with "L:one_sign" => (first | (k_unfold; (try dsimp only)) | (k_end; wrow_close) | walk1 | (dsimp only; walk1) | (leave1; try dsimp only) | fail "no step"))
  trivial
section
local macro_rules | `(tactic| walk_at $s:str) => `(tactic| k_extra $(Lean.Syntax.mkStrLit ("L:" ++ s.getString)))
local macro_rules | `(tactic| isplit) => `(tactic| k_extra "L:isplit")
local macro_rules | `(tactic| one_sign) => `(tactic| k_extra "L:one_sign")
theorem Mine.off64 : True := by (w_top off); trivial
section
local macro_rules | `(tactic| walk_at $s:str) => `(tactic| k_extra $(Lean.Syntax.mkStrLit ("LawA:" ++ s.getString)))
namespace Mine
open LCg (NsObj lst lst_snoc ns_obj)
set_option maxHeartbeats 4000000
theorem Mine.kw65 : True := by
  (k_with "LawA:eval ListComp BinOp cons" => ((k_here; refine' ListComp_b (cl := _) ?kc ?kk ?kn ?_; (case kc => with_unfolding_all rfl); (case kk => with_unfolding_all rfl); (case kn => decide))))
  trivial
theorem law_a (w : World) (HB : StB w) (mean : ExcName → Option Value) (mg mb : Nm) (h₀ : Heap) (L fa : Addr) (cdv : Value) (m : Nm) (s : Shared) (Q : Flow → Shared → Prop) (E : Value → Shared → Prop) (l : Addr) (vs : List Value) (ns : List Int)
    (CX : LawCx w mean mg mb h₀ s (ns.take 3) Q) (F : Fr h₀ L s.heap m) (hm : m (Str.ofString "script") = some (.ref l)) (hl : h₀.IsList l vs.toArray) (hI : IntsAre vs ns) (h63 : ns.length ≤ 63)
    (o1 o2 o3 o4 : Obj) (N : News h₀ L s.heap [(L + 1 + 1 + 1 + 1, o4), (L + 1 + 1 + 1, o3), (L + 1 + 1, o2), (L + 1, o1)])
    (c1 : o1.data = .cell none) (c2 : o2.data = .cell none) (c3 : o3.data = .cell none) (c4 : o4.data = .cell none) : LawGo w 0 L fa cdv Q E s := by
  refine' go_open 0 ?ho ?_
  case ho => k_is
  simp only [List.drop_zero]
  have B := CX.B
  have X := CX.X
  have T := CX.T
  have F2 := fr_pin (Str.ofString "script") F hm
  clear F
  isplit
  (rename News _ _ _ _ => N3)
  (rename Fr _ _ _ _ => F3)
  (rename IntsAre _ (List.take 3 ns) => hn3)
  rename_i ln vn _ _ _ lt1 _ oN dN l0 _ lt2
  have hlen3 : (ns.take 3).length ≤ 3 := by rw [List.length_take]; omega (splitDisjunctions := true)
  generalize hn : ns.take 3 = n3 at *
  have hvn : vn.toArray.size = n3.length := by rw [List.size_toArray, hn3.length]
  k_dflt (refine comp_of (blk_list (items := vn.toArray) (fun k ys nw => nw = _ ∧ IntsAre ys ((n3.take k).map fun x => x.fmod 65536) ∧ ys.length ≤ k) rfl (by decide) rfl rfl (by omega (splitDisjunctions := true)) F3 N3 ⟨W.listOf vn.toArray 0, rfl, ⟨_, rfl⟩, Or.inr fun k _ nw ⟨ys, h⟩ => by rw [h.1]; k_mem⟩ ⟨rfl, .nil, Nat.le_refl _⟩ (fun i ys nw h => h.2.2) ?ct1 fun _ => ⟨_, rfl⟩) ?fin1)
  case ct1 =>
    (intro k v ys nw It oI C oC D9 m₂ h tk E' hv hm₂ hC z1h; refine Mine.e0_3 z1h ?_; intro z1x0 hys hyl; (try clear z1h); (rcases z1x0 with rfl); intro ho F4 N4)
    (have z2 := (ints_at hn3 (show vn[k]? = some v from by simpa using hv)); refine Mine.e2_2 z2 ?_; intro x tx z2x2 hxr; (try clear z2); (rcases z2x2 with rfl))
    isplit
    ktr_rel
    refine CE.mk F4 N4 (fun p hp => hp) (fun p hp => by simpa [not_or] using ho p hp) ⟨rfl, ?_, by (rw [List.length_append]; exact Nat.succ_le_succ hyl)⟩
    rw [List.take_add_one, hxr, List.map_append]
    exact ints_snoc hys
  case fin1 =>
    (intro ys nw D9 h tk z3h; refine Mine.e0_3 z3h ?_; intro z3x0 hys hyl; (try clear z3h); (rcases z3x0 with rfl); intro F4 N4 ho)
    rw [hvn, List.take_length] at hys
    clear F3 N3
    iterate 3 one_sign
    (rename News _ _ _ _ => N5)
    (rename Fr _ _ _ _ => F5)
    (rename IntsAre _ (_ ++ _) => hwv)
    rename_i lw lt3 _
    have N6 := news_keep N5 [true, false, false]
    dsimp only [keepL] at N6
    clear N5
    generalize hwv2 : ([_, _, _, _] ++ ys : List Value) = wv at N6 hwv
    have hwv3 : IntsAre wv (wordsF n3) := hwv
    clear hwv hwv2 hys hyl
    isplit
    (rename News _ _ _ _ => N7)
    (rename Fr _ _ _ _ => F7)
    rename_i l3 _ lt4
    k_dflt (refine comp_of (blk_list (items := vn.toArray) (fun k ys nw => nw = _ ∧ IntsAre ys ((n3.take k).map fun x => 1 + (x.fdiv 65536).fmod 4) ∧ ys.length ≤ k) rfl (by decide) rfl rfl (by omega (splitDisjunctions := true)) F7 N7 ⟨W.listOf vn.toArray 0, rfl, ⟨_, rfl⟩, Or.inr fun k _ nw ⟨ys, h⟩ => by rw [h.1]; k_mem⟩ ⟨rfl, .nil, Nat.le_refl _⟩ (fun i ys nw h => h.2.2) ?ct2 fun _ => ⟨_, rfl⟩) ?fin2)
    case ct2 =>
      (intro k v ys nw It oI C oC D9 m₂ h tk E' hv hm₂ hC z4h; refine Mine.e0_3 z4h ?_; intro z4x0 hys hyl; (try clear z4h); (rcases z4x0 with rfl); intro ho F8 N8)
      (have z5 := (ints_at hn3 (show vn[k]? = some v from by simpa using hv)); refine Mine.e2_2 z5 ?_; intro x tx z5x2 hxr; (try clear z5); (rcases z5x2 with rfl))
      isplit
      ktr_rel
      refine CE.mk F8 N8 (fun p hp => hp) (fun p hp => by simpa [not_or] using ho p hp) ⟨rfl, ?_, by (rw [List.length_append]; exact Nat.succ_le_succ hyl)⟩
      rw [List.take_add_one, hxr, List.map_append]
      exact ints_snoc hys
    case fin2 =>
      (intro ys nw D9 h tk z6h; refine Mine.e0_3 z6h ?_; intro z6x0 hys hyl; (try clear z6h); (rcases z6x0 with rfl); intro F8 N8 ho)
      rw [hvn, List.take_length] at hys
      clear F7 N7
      iterate 37 one_sign
      all_goals
        iterate 3 one_sign
        (rename News _ _ _ _ => N9)
        (rename Fr _ _ _ _ => F9)
        (rename IntsAre (_ ++ _) (_ ++ _) => hgv)
        (rename Tw _ (Int.fmod _ 3) => eT)
        rename_i qM _ _ qe _ _ lg lt5 _
        have of1 : OffC L lg := offC_lt (by omega (splitDisjunctions := true))
        have of2 : OffC L lw := offC_lt (by omega (splitDisjunctions := true))
        have of3 : OffC L ln := offC_lt (by omega (splitDisjunctions := true))
        have N10 := news_keep N9 [true, false, false, false, false, false, false, false]
        dsimp only [keepL] at N10
        have hg : groupingF n3 = [3] ++ n3.map (fun x => 1 + (x.fdiv 65536).fmod 4) ++ gtailF qM := by rw [eT.e]; rfl
        rw [qe] at hg
        refine' go_shut 3 (HB mean mg mb h₀ L fa cdv _ _ Q E n3 lg lw ln _ wv vn oN o2 o3 o4 CX.to2 F9 rfl rfl hn3 hwv3 (by rw [hg]; exact hgv) of1 of2 of3 N10 dN c2 c3 c4) ?ho ?hb ?he
        case ho => k_is
        case hb => rfl
        case he => rfl
end Mine
end
theorem Mine.off66 : True := by (w_top off); trivial
section
local macro_rules | `(tactic| walk_at $s:str) => `(tactic| k_extra $(Lean.Syntax.mkStrLit ("LawB:" ++ s.getString)))
local macro_rules | `(tactic| walk_at "no such") => `(tactic| skip)
namespace Mine
open LCg (NsObj lst lst_snoc ns_obj)
set_option maxHeartbeats 4000000
theorem fill241b : PySem.Challenge.rw_oy0323_01 = PySem.Challenge.rw_oy0323_01 ∧ hd.heap_1 = hd.heap_1 := by (k_fill; exact ⟨rfl, rfl⟩)
theorem Mine.kw67 : True := by
  (k_with "LawB:eval ListComp Call cons" => ((k_here; refine' ListComp_b (cl := _) ?kc ?kk ?kn ?_; (case kc => with_unfolding_all rfl); (case kk => with_unfolding_all rfl); (case kn => decide))))
  trivial
theorem law_b (w : World) (HC : StC w) : StB w := by
  intro mean mg mb h₀ L fa cdv m s Q E ns lg lw ln gv wv vn oN o2 o3 o4 CX F mw mgr hn hwv hgv ⟨a1, a2, a3, a4⟩ ⟨b1, b2, b3, b4⟩ ⟨d1, d2, d3, d4⟩ N dN c2 c3 c4
  refine' go_open 3 ?ho ?_
  case ho => k_is
  simp only [List.drop_succ_cons, List.drop_zero]
  have B := CX.B
  have X := CX.X
  have T := CX.T
  have hn3 := CX.n3
  have F2 := fr_pin (Str.ofString "grouping") (fr_pin (Str.ofString "words") F mw) mgr
  clear F
  iterate 9 one_sign
  have gf := grouping_first (ns := ns)
  have gl := grouping_len hn3
  refine' pcall (c_sizes w lg gv (groupingF ns) hgv (by omega (splitDisjunctions := true)) (by omega (splitDisjunctions := true))) ?k1 ?k2 ?k3 ?k4 ?k5 ?k6 ?k7 ?k8 ?k9 ?_
  case k1 => k_asm
  case k2 => k_asm
  case k3 => k_asm
  case k4 => k_asm
  case k5 => k_asm
  case k6 => exact rfl
  case k7 => ktr_room
  case k8 => ktr_units
  case k9 => exact ⟨_, (N _ List.mem_cons_self).1, rfl, _, rfl⟩
  (intro v1 h1 tk1 nw1 F3 N3 K1 fr1 z1h; refine Mine.e3_3 z1h ?_; intro lz zv cz z1x3 mz hz; (try clear z1h); (rcases z1x3 with rfl))
  have N4 := news_sub N3 (nw' := (lz, W.listOf zv.toArray cz) :: _) fun q hq => by
    rcases List.mem_cons.mp hq with h | h
    · exact h ▸ List.mem_append_left _ mz
    · exact List.mem_append_right _ h
  (have z2 := (offC (news := [_, _, _]) N (fr1 _ mz)); refine Mine.e0_4 z2 ?_; intro e1 e2 e3 e4; (try clear z2))
  clear N3 F2 N
  isplit
  (rename News _ _ _ _ => N5)
  (rename Fr _ _ _ _ => F5)
  rename_i _ oz dz
  have hwl : wv.toArray.size = (wordsF ns).length := by rw [List.size_toArray, hwv.length]
  have hw7 : (wordsF ns).length ≤ 7 := by unfold wordsF; rw [List.length_append, List.length_map]; simp only [List.length_cons, List.length_nil]; omega (splitDisjunctions := true)
  k_dflt (refine comp_of (blk_list (items := wv.toArray) (fun k ys nw => nw = _ ∧ StrsAre ys (((wordsF ns).take k).map signsF) ∧ ys.length ≤ k) rfl (by decide) rfl rfl (by omega (splitDisjunctions := true)) F5 N5 ⟨W.listOf wv.toArray 0, rfl, ⟨_, rfl⟩, Or.inr fun k _ nw ⟨ys, h⟩ => by rw [h.1]; k_mem⟩ ⟨rfl, .nil, Nat.le_refl _⟩ (fun i ys nw h => h.2.2) ?ct1 fun _ => ⟨_, rfl⟩) ?fin1)
  case ct1 =>
    (intro k v ys nw It oI C oC D9 m₂ h tk E' hv hm₂ hC z3h; refine Mine.e0_3 z3h ?_; intro z3x0 hys hyl; (try clear z3h); (rcases z3x0 with rfl); intro ho F6 N6)
    (have z4 := (ints_at hwv (show wv[k]? = some v from by simpa using hv)); refine Mine.e2_2 z4 ?_; intro x tx z4x2 hxr; (try clear z4); (rcases z4x2 with rfl))
    obtain ⟨x0, x1⟩ := words_ok x (List.mem_of_getElem? hxr)
    iterate 10 one_sign
    refine' pcall (c_signs w x tx x0 x1) ?k1 ?k2 ?k3 ?k4 ?k5 ?k6 ?k7 ?k8 ?k9 ?_
    case k1 => k_asm
    case k2 => k_asm
    case k3 => k_asm
    case k4 => k_asm
    case k5 => k_asm
    case k6 => exact rfl
    case k7 => ktr_room
    case k8 => ktr_units
    case k9 => exact trivial
    rintro v2 h2 tk2 nw2 F7 N7 K2 fr2 ⟨t2, rfl⟩
    refine CE.mk F7 N7 (fun p hp => List.mem_append_right _ hp) (fun p hp => by simpa [not_or] using ho p hp) ⟨rfl, ?_, by (rw [List.length_append]; exact Nat.succ_le_succ hyl)⟩
    rw [List.take_add_one, hxr, List.map_append]
    exact strs_snoc hys
  case fin1 =>
    (intro ys nw D9 h tk z5h; refine Mine.e0_3 z5h ?_; intro z5x0 hys hyl; (try clear z5h); (rcases z5x0 with rfl); intro F6 N6 ho)
    rw [hwl, List.take_length] at hys
    clear F5 N5
    obtain ⟨f1, f2, f3, f4⟩ : OffC L D9 := ⟨Ne.symm (natNe (ho (L + 1, oN) (by simp))), Ne.symm (natNe (ho (L + 1 + 1, oz) (by simp))), Ne.symm (natNe (ho (L + 1 + 1 + 1, o3) (by simp))), Ne.symm (natNe (ho (L + 1 + 1 + 1 + 1, o4) (by simp)))⟩
    iterate 1 one_sign
    (rename News _ _ _ _ => N9)
    (rename Fr _ _ _ _ => F9)
    try dsimp only
    rename_i _ os ds
    refine' go_shut 5 (HC mean mg mb h₀ L fa cdv _ _ Q E ns D9 lz lg lw ln ys zv gv wv vn _ cz oN oz os o4 CX.to2 F9 rfl rfl hn hwv hgv hz hys ⟨f1, f2, f3, f4⟩ ⟨e1, e2, e3, e4⟩ ⟨a1, a2, a3, a4⟩ ⟨b1, b2, b3, b4⟩ ⟨d1, d2, d3, d4⟩ N9 dN dz ds c4) ?ho ?hb ?he
    case ho => k_is
    case hb => rfl
    case he => rfl
end Mine
end
theorem Mine.off68 : True := by (w_top off); trivial
section
local macro_rules | `(tactic| walk_at $s:str) => `(tactic| k_extra $(Lean.Syntax.mkStrLit ("LawC:" ++ s.getString)))
namespace Mine
open LCg (NsObj lst lst_snoc ns_obj)
set_option maxHeartbeats 4000000
theorem fill241c : PySem.Challenge.rw_oy0323_01 = PySem.Challenge.rw_oy0323_01 ∧ hd.heap_1 = hd.heap_1 := by (k_fill; exact ⟨rfl, rfl⟩)
theorem Mine.kw69 : True := by
  (k_with "LawC:eval ListComp Call cons" => ((k_here; refine' ListComp_b (cl := _) ?kc ?kk ?kn ?_; (case kc => with_unfolding_all rfl); (case kk => with_unfolding_all rfl); (case kn => decide))))
  trivial
theorem Mine.kw70 : True := by
  (k_with "LawC:eval ListComp Name cons" => ((k_here; refine' ListComp_g (cl := _) ?kc ?kk ?kn ?_; (case kc => with_unfolding_all rfl); (case kk => with_unfolding_all rfl); (case kn => decide))))
  trivial
theorem fresh_all {h₀ h : Heap} {L : Addr} {m : Nm} {news : Led} (F : Fr h₀ L h m) (N : News h₀ L h news) {x : Addr} (hx : h.objs.size ≤ x) : h₀.get? x = none ∧ x ≠ L ∧ ∀ p ∈ news, p.1 ≠ x :=
  ⟨none_above F hx, fun e => by
    have h1 := F.ns.lt
    rw [← e] at h1; exact absurd h1 (Nat.not_lt.mpr hx), fun p hp e => by
    have h1 := Heap.lt_size (N p hp).1
    rw [e] at h1; exact absurd h1 (Nat.not_lt.mpr hx)⟩
theorem law_c (w : World) (HD : StD w) : StC w := by
  intro mean mg mb h₀ L fa cdv m s Q E ns lsg lz lg lw ln sv zv gv wv vn cs cz oN o2 o3 o4 CX F mw mgr hn hwv hgv hz hsv ⟨f1, f2, f3, f4⟩ ⟨e1, e2, e3, e4⟩ ⟨a1, a2, a3, a4⟩ ⟨b1, b2, b3, b4⟩ ⟨d1, d2, d3, d4⟩ N dN c2 c3 c4
  refine' go_open 5 ?ho ?_
  case ho => k_is
  simp only [List.drop_succ_cons, List.drop_zero]
  have B := CX.B
  have X := CX.X
  have T := CX.T
  have hn3 := CX.n3
  have gf := grouping_first (ns := ns)
  have gl := grouping_len hn3
  have F2 := fr_pin (Str.ofString "grouping") (fr_pin (Str.ofString "words") F mw) mgr
  clear F
  iterate 24 one_sign
  (rename IsRange _ _ _ _ _ _ _ _ => R1)
  (rename Fr _ _ _ _ => F3)
  (rename News _ _ _ _ => N3)
  rename_i N0 F0 _ _ _ _ _ _
  clear N0 F0
  refine' c_gen w lg gv.toArray (groupingF ns) hgv (by omega (splitDisjunctions := true)) mean mg mb _ h₀ L _ _ _ _ F3 X T ?room ?_
  case room => ktr_room
  intro G LG h4 tk4 c0 k1 k2 k3 k4 k5 k6 hseg
  have F5 := F3.keeps k1
  have N5 := N3.grown k1
  have R5 := k1 _ _ R1
  have nG := fresh_all F3 N3 k3
  have nL := fresh_all F3 N3 k2
  have gs0 : (s.gens.push (.fresh c0))[s.gens.size]? = some (.fresh c0) := Array.getElem?_push_size
  clear F3 N3 R1
  iterate 1 one_sign
  refine' zip_gen (w := w) (l := lg) (nl := 0) (gn := s.gens.size) (c0 := c0) (LG := LG) (g := groupingF ns) (items := gv.toArray) (L := L) (h₀ := h₀) ?hh ?room ?nl ?hcell ?hkind ?ha ?hb ?hab ?hbd ?f5 ?n5 ?hl ?r5 ?k5 ?gs0 ?bare ?nG ?nL ?k4 ?k6 ?hseg (by omega (splitDisjunctions := true)) (by omega (splitDisjunctions := true)) ?fin
  case hh => exact rfl
  case f5 => exact F5
  case n5 => exact N5
  case r5 => exact R5
  case k5 => exact k5
  case gs0 => exact gs0
  case nG => exact nG
  case nL => exact nL
  case k4 => exact k4
  case k6 => exact k6
  case hseg => exact hseg
  case room =>
    show (302 : Nat) < recursionLimit
    decide
  case nl => exact T.nolimit
  case hcell => decide
  case hkind => exact rfl
  case ha => exact rfl
  case hb => exact rfl
  case hab => decide
  case hbd => decide
  case hl => simp
  case bare => exact AllBare.push CX.bare rfl
  case fin =>
    intro ys D9 h9 tk9 g9 hb9 hys F9 N9 ho9
    clear F5 N5 R5 k6 hseg gs0 k5 k1 k2 k3 k4 nG nL
    iterate 2 one_sign
    rw [decide_eq_true (rfl : sizesF (groupingF ns) = sizesF (groupingF ns)), Bool.not_true]
    have N10 := news_keep N9 [false]
    dsimp only [keepL] at N10
    clear N9 ho9 hys
    isplit
    (rename Fr _ _ _ _ => F11)
    (rename News _ _ _ _ => N11)
    have hwl : wv.toArray.size = (wordsF ns).length := by rw [List.size_toArray, hwv.length]
    have hw7 : (wordsF ns).length ≤ 7 := by unfold wordsF; rw [List.length_append, List.length_map]; simp only [List.length_cons, List.length_nil]; omega (splitDisjunctions := true)
    k_dflt (refine comp_of (blk_list (items := wv.toArray) (fun k ys nw => nw = _ ∧ StrsAre ys (((wordsF ns).take k).map fmodeF) ∧ ys.length ≤ k) rfl (by decide) rfl rfl (by omega (splitDisjunctions := true)) F11 N11 ⟨W.listOf wv.toArray 0, rfl, ⟨_, rfl⟩, Or.inr fun k _ nw ⟨ys, h⟩ => by rw [h.1]; k_mem⟩ ⟨rfl, .nil, Nat.le_refl _⟩ (fun i ys nw h => h.2.2) ?ct1 fun _ => ⟨_, rfl⟩) ?fin1)
    case ct1 =>
      (intro k v ys nw It oI C oC D9 m₂ h tk E' hv hm₂ hC z1h; refine Mine.e0_3 z1h ?_; intro z1x0 hys hyl; (try clear z1h); (rcases z1x0 with rfl); intro ho F6 N6)
      (have z2 := (ints_at hwv (show wv[k]? = some v from by simpa using hv)); refine Mine.e2_2 z2 ?_; intro x tx z2x2 hxr; (try clear z2); (rcases z2x2 with rfl))
      iterate 10 one_sign
      refine' pcall (c_fm w x tx) ?q1 ?q2 ?q3 ?q4 ?q5 ?q6 ?q7 ?q8 ?q9 ?_
      case q1 => k_asm
      case q2 => k_asm
      case q3 => k_asm
      case q4 => k_asm
      case q5 => k_asm
      case q6 => exact rfl
      case q7 => ktr_room
      case q8 => ktr_units
      case q9 => exact trivial
      rintro v2 h2 tk2 nw2 F7 N7 K2 fr2 ⟨t2, rfl⟩
      refine CE.mk F7 N7 (fun p hp => List.mem_append_right _ hp) (fun p hp => by simpa [not_or] using ho p hp) ⟨rfl, ?_, by (rw [List.length_append]; exact Nat.succ_le_succ hyl)⟩
      rw [List.take_add_one, hxr, List.map_append]
      exact strs_snoc hys
    case fin1 =>
      (intro ys nw D8 h tk z3h; refine Mine.e0_3 z3h ?_; intro z3x0 hys hyl; (try clear z3h); (rcases z3x0 with rfl); intro F6 N6 ho)
      rw [hwl, List.take_length] at hys
      have hfs : (wordsF ns).map fmodeF = sigsF ns := List.map_congr_left fun x hx => by
        obtain ⟨x0, x1⟩ := words_ok x hx
        obtain ⟨n, rfl⟩ : ∃ n : Nat, x = (n : Int) := ⟨x.toNat, by omega (splitDisjunctions := true)⟩
        exact mode_signs (by omega (splitDisjunctions := true))
      rw [hfs] at hys
      clear F11 N11
      iterate 1 one_sign
      refine' ne_strs (gs := sigsF ns) ?r1 ?r2 ?r3 ?r4 ?r5 ?_
      case r1 => exact ⟨_, (N6 _ List.mem_cons_self).1, rfl, _, rfl⟩
      case r2 => exact ⟨_, (N6 _ (List.mem_cons_of_mem _ List.mem_cons_self)).1, rfl, _, rfl⟩
      case r3 => exact hys
      case r4 => exact hsv
      case r5 => ktr_units
      iterate 5 one_sign
      dsimp only
      have N7 := news_keep N6 [false, true, true, false]
      dsimp only [keepL] at N7
      refine' go_shut 6 (HD mean mg mb h₀ L fa cdv _ _ Q E ns lsg lz lw ln sv zv wv vn cs cz oN o2 o3 o4 (CX.to hb9) F6 rfl hn hwv hz hsv ⟨f1, f2, f3, f4⟩ ⟨e1, e2, e3, e4⟩ ⟨b1, b2, b3, b4⟩ ⟨d1, d2, d3, d4⟩ N7 dN c2 c3 c4) ?ho ?hb ?he
      case ho => k_is
      case hb => rfl
      case he => rfl
end Mine
end
theorem Mine.off71 : True := by (w_top off); trivial
section
local macro_rules | `(tactic| walk_at $s:str) => `(tactic| k_extra $(Lean.Syntax.mkStrLit ("LawD:" ++ s.getString)))
local macro_rules | `(tactic| walk_at "no such") => `(tactic| skip)
namespace Mine
open LCg (NsObj lst lst_snoc ns_obj)
set_option maxHeartbeats 4000000
theorem fill241d : PySem.Challenge.rw_oy0323_01 = PySem.Challenge.rw_oy0323_01 ∧ hd.heap_1 = hd.heap_1 := by (k_fill; exact ⟨rfl, rfl⟩)
theorem Mine.kw72 : True := by
  (k_with "LawD:subscriptTail Name Name ref int" => ((k_here; k_dflt (refine' item_strsN ?kl ?ki ?k1 ?k2 ?_ ?ks; (case ks => with_unfolding_all rfl); (case kl => got_up); (case ki => assumption); (case k1 => omega); (case k2 => omega)); intro _)))
  trivial
theorem Mine.kw73 : True := by
  (k_with "LawD:exec Assign cons ListComp" => ((k_here; refine' Assign_ListComp_b (cl := _) ?ks ?kc ?kk ?kn ?ky ?kp ?_; (case ks => with_unfolding_all rfl); (case kc => with_unfolding_all rfl); (case kk => with_unfolding_all rfl); (case kn => decide); (case ky => with_unfolding_all rfl); (case kp => with_unfolding_all rfl))))
  trivial
theorem law_d (w : World) (HE : StE w) : StD w := by
  intro mean mg mb h₀ L fa cdv m s Q E ns lsg lz lw ln sv zv wv vn cs cz oN o2 o3 o4 CX F mw hn hwv hz hsv ⟨f1, f2, f3, f4⟩ ⟨e1, e2, e3, e4⟩ ⟨b1, b2, b3, b4⟩ ⟨d1, d2, d3, d4⟩ N dN c2 c3 c4
  refine' go_open 6 ?ho ?_
  case ho => k_is
  simp only [List.drop_succ_cons, List.drop_zero]
  have B := CX.B
  have X := CX.X
  have T := CX.T
  have hn3 := CX.n3
  obtain ⟨hw7, hw4⟩ := words_len hn3
  have F2 := fr_pin (Str.ofString "words") F mw
  clear F
  iterate 1 one_sign
  refine' Assign_ListComp_b (cl := _) ?ks ?kc ?kk ?kn ?ky ?kp ?_
  case ks => with_unfolding_all rfl
  case kc => with_unfolding_all rfl
  case kk => with_unfolding_all rfl
  case kn => decide
  case ky => with_unfolding_all rfl
  case kp => with_unfolding_all rfl
  have hsl := sigs_len (ns := ns)
  isplit
  (rename Fr _ _ _ _ => F3)
  (rename News _ _ _ _ => N3)
  (rename IsRange _ _ _ _ _ _ _ _ => R1)
  rename_i N0 F0 _ _ _ _ _ _ _ _
  clear N0 F0
  have hgd : ∀ k, k < (wordsF ns).length → ((sigsF ns).getD k Str.empty).length = 10 := fun k hk => by
    rw [List.getD_eq_getElem?_getD, List.getElem?_eq_getElem (by omega (splitDisjunctions := true))]
    exact sigs_size _ (List.getElem_mem _)
  k_dflt (refine compA_of (blk_range (n := (wordsF ns).length) (news := _) (fun i ys nw => nw = _ ∧ StrsAre ys ((List.range i).map fun k => nameF ((sigsF ns).getD k Str.empty) k) ∧ ys.length ≤ i) rfl (by decide) rfl rfl (by omega (splitDisjunctions := true)) F3 N3 R1 ⟨rfl, .nil, Nat.le_refl _⟩ (fun i ys nw h => h.2.2) ?ct1 fun _ => ⟨_, rfl⟩) ?fin1)
  case ct1 =>
    (intro i tk0 ys nw It oI C oC D9 m₂ h tk E' hik hm₂ hC z1h; refine Mine.e0_3 z1h ?_; intro z1x0 hys hyl; (try clear z1h); (rcases z1x0 with rfl); intro ho F4 N4)
    have hx10 := hgd i hik
    isplit
    · refine CE.mk (by k_asm) (by k_asm) (fun p hp => hp) (fun p hp => by simpa [not_or] using ho p hp) ⟨rfl, ?_, by (rw [List.length_append]; exact Nat.succ_le_succ hyl)⟩
      (rename (0 : Int) < (i : Int) => hi0)
      rw [List.range_succ, List.map_append, List.map_singleton, show nameF ((sigsF ns).getD i Str.empty) i = (sigsF ns).getD i Str.empty ++ (Str.ofString "." ++ Txt.item (Str.ofString "abcdefg") (i : Int)) from by unfold nameF; rw [if_neg (by omega (splitDisjunctions := true)), str_assoc]]
      exact strs_snoc hys
    · refine CE.mk (by k_asm) (by k_asm) (fun p hp => hp) (fun p hp => by simpa [not_or] using ho p hp) ⟨rfl, ?_, by (rw [List.length_append]; exact Nat.succ_le_succ hyl)⟩
      (rename ¬ (0 : Int) < (i : Int) => hi0)
      rw [List.range_succ, List.map_append, List.map_singleton, show nameF ((sigsF ns).getD i Str.empty) i = (sigsF ns).getD i Str.empty ++ Str.ofString "" from by unfold nameF; rw [if_pos (by omega (splitDisjunctions := true)), str_nil]]
      exact strs_snoc hys
  case fin1 =>
    (intro ys nw D9 h tk z2h; refine Mine.e0_3 z2h ?_; intro z2x0 hys hyl; (try clear z2h); (rcases z2x0 with rfl); intro F4 N4 ho)
    have F5 : Fr h₀ L h _ := F4
    have N5 : News h₀ L h _ := N4
    clear F4 N4 F3 N3 R1
    have hys2 : StrsAre ys (namesF (sigsF ns)) := by unfold namesF; rw [hsl]; exact hys
    clear hys hyl
    obtain ⟨g1, g2, g3, g4⟩ : OffC L D9 := ⟨Ne.symm (natNe (ho (L + 1, oN) (by simp))), Ne.symm (natNe (ho (L + 1 + 1, o2) (by simp))), Ne.symm (natNe (ho (L + 1 + 1 + 1, o3) (by simp))), Ne.symm (natNe (ho (L + 1 + 1 + 1 + 1, o4) (by simp)))⟩
    clear ho
    iterate 1 one_sign
    refine' Assign_ListComp_b (cl := _) ?ks ?kc ?kk ?kn ?ky ?kp ?_
    case ks => with_unfolding_all rfl
    case kc => with_unfolding_all rfl
    case kk => with_unfolding_all rfl
    case kn => decide
    case ky => with_unfolding_all rfl
    case kp => with_unfolding_all rfl
    isplit
    (rename Fr _ _ _ _ => F3)
    (rename News _ _ _ _ => N3)
    (rename IsRange _ _ _ _ _ _ _ _ => R1)
    rename_i N0 F0 _ _ _ _ _ _ _ _
    try clear N0
    try clear F0
    k_dflt (refine compA_of (blk_range (n := (wordsF ns).length) (news := _) (fun i ys nw => nw = _ ∧ StrsAre ys ((List.range i).map fun k => nameF ((sigsF ns).getD k Str.empty) k) ∧ ys.length ≤ i) rfl (by decide) rfl rfl (by omega (splitDisjunctions := true)) F3 N3 R1 ⟨rfl, .nil, Nat.le_refl _⟩ (fun i ys nw h => h.2.2) ?ct2 fun _ => ⟨_, rfl⟩) ?fin2)
    case ct2 =>
      (intro i tk0 zs nw It oI C oC D8 m₂ h tk E' hik hm₂ hC z3h; refine Mine.e0_3 z3h ?_; intro z3x0 hzs hzl; (try clear z3h); (rcases z3x0 with rfl); intro ho F4 N4)
      have hx10 := hgd i hik
      iterate 21 one_sign
      · iterate 8 one_sign
        (rename News _ _ _ _ => N5)
        (rename Fr _ _ _ _ => F5)
        obtain ⟨T5, eT5⟩ := name_head N5
        dsimp only at eT5
        subst eT5
        obtain ⟨t5, u5, hT5⟩ : ∃ t5 u5, Heap.IsTuple _ T5 #[.str ((sigsF ns).getD i Str.empty) t5, .str (Txt.item (Str.ofString "abcdefg") (i : Int)) u5] := ⟨_, _, _, (N5 _ List.mem_cons_self).1, rfl, _, rfl⟩
        refine' pcall (c_build w T5 ((sigsF ns).getD i Str.empty) (Txt.item (Str.ofString "abcdefg") (i : Int)) t5 u5 (by omega (splitDisjunctions := true)) (by omega (splitDisjunctions := true))) ?q1 ?q2 ?q3 ?q4 ?q5 ?q6 ?q7 ?q8 ?q9 ?_
        case q1 => k_asm
        case q2 => exact F5
        case q3 => k_asm
        case q4 => exact N5
        case q5 => k_asm
        case q6 => exact rfl
        case q7 => ktr_room
        case q8 => ktr_units
        case q9 => exact hT5
        (intro v2 h2 tk2 nw2 F7 N7 K2 fr2 z4h; refine Mine.e0_2 z4h ?_; intro z4x0 z4r; (try clear z4h); (rcases z4x0 with rfl); (rcases z4r with ⟨t2, rfl⟩))
        refine CE.mk F7 N7 (fun p hp => List.mem_cons_of_mem _ hp) (fun p hp => by simpa [not_or] using ho p hp) ⟨rfl, ?_, by (rw [List.length_append]; exact Nat.succ_le_succ hzl)⟩
        (rename (0 : Int) < (i : Int) => hi0)
        rw [List.range_succ, List.map_append, List.map_singleton, show nameF ((sigsF ns).getD i Str.empty) i = (sigsF ns).getD i Str.empty ++ Str.ofString "." ++ Txt.item (Str.ofString "abcdefg") (i : Int) from by unfold nameF; rw [if_neg (by omega (splitDisjunctions := true))]]
        exact strs_snoc hzs
      · iterate 5 one_sign
        (rename News _ _ _ _ => N5)
        (rename Fr _ _ _ _ => F5)
        obtain ⟨T5, eT5⟩ := name_head N5
        dsimp only at eT5
        subst eT5
        obtain ⟨t5, hT5⟩ : ∃ t5, Heap.IsTuple _ T5 #[.str ((sigsF ns).getD i Str.empty) t5, .none] := ⟨_, _, (N5 _ List.mem_cons_self).1, rfl, _, rfl⟩
        refine' pcall (c_build1 w T5 ((sigsF ns).getD i Str.empty) t5 (by omega (splitDisjunctions := true))) ?q1 ?q2 ?q3 ?q4 ?q5 ?q6 ?q7 ?q8 ?q9 ?_
        case q1 => k_asm
        case q2 => exact F5
        case q3 => k_asm
        case q4 => exact N5
        case q5 => k_asm
        case q6 => exact rfl
        case q7 => ktr_room
        case q8 => ktr_units
        case q9 => exact hT5
        (intro v2 h2 tk2 nw2 F7 N7 K2 fr2 z5h; refine Mine.e0_2 z5h ?_; intro z5x0 z5r; (try clear z5h); (rcases z5x0 with rfl); (rcases z5r with ⟨t2, rfl⟩))
        refine CE.mk F7 N7 (fun p hp => List.mem_cons_of_mem _ hp) (fun p hp => by simpa [not_or] using ho p hp) ⟨rfl, ?_, by (rw [List.length_append]; exact Nat.succ_le_succ hzl)⟩
        (rename ¬ (0 : Int) < (i : Int) => hi0)
        rw [List.range_succ, List.map_append, List.map_singleton, show nameF ((sigsF ns).getD i Str.empty) i = (sigsF ns).getD i Str.empty from by unfold nameF; rw [if_pos (by omega (splitDisjunctions := true))]]
        exact strs_snoc hzs
    case fin2 =>
      (intro zs nw D8 h tk z6h; refine Mine.e0_3 z6h ?_; intro z6x0 hzs hzl; (try clear z6h); (rcases z6x0 with rfl); intro F4 N4 ho)
      have F5 : Fr h₀ L h _ := F4
      have N5 : News h₀ L h _ := N4
      clear F4 N4 F3 N3 R1
      have hzs2 : StrsAre zs (namesF (sigsF ns)) := by unfold namesF; rw [hsl]; exact hzs
      have hne : @Ne Nat D8 D9 := Ne.symm (natNe (ho (D9, lst ys) (by simp)))
      have of9 : OffC L D8 := ⟨Ne.symm (natNe (ho (L + 1, oN) (by simp))), Ne.symm (natNe (ho (L + 1 + 1, o2) (by simp))), Ne.symm (natNe (ho (L + 1 + 1 + 1, o3) (by simp))), Ne.symm (natNe (ho (L + 1 + 1 + 1 + 1, o4) (by simp)))⟩
      dsimp only
      refine' go_shut 8 (HE mean mg mb h₀ L fa cdv _ _ Q E ns D8 D9 lsg lz lw ln zs ys sv zv wv vn _ _ cs cz oN o2 o3 o4 CX.to2 F5 rfl rfl rfl hn hwv hz hsv hys2 hzs2 hne of9 ⟨g1, g2, g3, g4⟩ ⟨f1, f2, f3, f4⟩ ⟨e1, e2, e3, e4⟩ ⟨b1, b2, b3, b4⟩ ⟨d1, d2, d3, d4⟩ N5 dN c2 c3 c4) ?ho ?hb ?he
      case ho => k_is
      case hb => rfl
      case he => rfl
end Mine
end
theorem Mine.off74 : True := by (w_top off); trivial
namespace Mine
open LCg (NsObj lst lst_snoc ns_obj)
set_option maxHeartbeats 4000000
theorem fill241e : PySem.Challenge.rw_oy0323_01 = PySem.Challenge.rw_oy0323_01 ∧ hd.heap_1 = hd.heap_1 := by (k_fill; exact ⟨rfl, rfl⟩)
theorem strs_app : ∀ {vs ws : List Value} {ns ms : List Str}, StrsAre vs ns → StrsAre ws ms → StrsAre (vs ++ ws) (ns ++ ms)
  | _, _, _, _, .nil, h => h
  | _, _, _, _, .cons z u r, h => .cons z u (strs_app r h)
theorem law_e (w : World) (HF : StF w) : StE w := by
  intro mean mg mb h₀ L fa cdv m s Q E ns lt lm lsg lz lw ln tv nv sv zv wv vn ct cm cs cz oN o2 o3 o4 CX F mw mn mt hn hwv hz hsv hnv htv hne ⟨i1, i2, i3, i4⟩ ⟨g1, g2, g3, g4⟩ ⟨f1, f2, f3, f4⟩ ⟨e1, e2, e3, e4⟩ ⟨b1, b2, b3, b4⟩ ⟨d1, d2, d3, d4⟩ N dN c2 c3 c4
  refine' go_open 8 ?ho ?_
  case ho => k_is
  simp only [List.drop_succ_cons, List.drop_zero]
  have B := CX.B
  have X := CX.X
  have T := CX.T
  have hn3 := CX.n3
  obtain ⟨hw7, hw4⟩ := words_len hn3
  have hsl := sigs_len (ns := ns)
  have hnl : (namesF (sigsF ns)).length = (wordsF ns).length := by unfold namesF; rw [List.length_map, List.length_range, hsl]
  have htl : tv.length ≤ 7 := by rw [htv.length, hnl]; exact hw7
  have hml : nv.length ≤ 7 := by rw [hnv.length, hnl]; exact hw7
  have F2 := fr_pin (Str.ofString "told") (fr_pin (Str.ofString "names") (fr_pin (Str.ofString "words") F mw) mn) mt
  clear F
  iterate 20 one_sign
  (rename News _ _ _ _ => N3)
  (rename Fr _ _ _ _ => F3)
  obtain ⟨T5, eT5⟩ := name_head N3
  dsimp only at eT5
  subst eT5
  obtain ⟨u5, hT5⟩ : ∃ u5, Heap.IsTuple _ T5 #[.none, .str (Str.ofString "h") u5] := ⟨_, _, (N3 _ List.mem_cons_self).1, rfl, _, rfl⟩
  refine' pcall (c_build2 w T5 (Str.ofString "h") u5 (by decide)) ?q1 ?q2 ?q3 ?q4 ?q5 ?q6 ?q7 ?q8 ?q9 ?_
  case q1 => k_asm
  case q2 => exact F3
  case q3 => k_asm
  case q4 => exact N3
  case q5 => k_asm
  case q6 => exact rfl
  case q7 => ktr_room
  case q8 => ktr_units
  case q9 => exact hT5
  (intro v4 h4 tk4 nw4 F4 N4 K4 fr4 z1h; refine Mine.e0_2 z1h ?_; intro z1x0 z1r; (try clear z1h); (rcases z1x0 with rfl); (rcases z1r with ⟨t4, rfl⟩))
  have N5 := news_keep N4 [false]
  simp only [List.nil_append, keepL] at N5
  clear N4 N3 F3 hT5
  iterate 14 one_sign
  (rename News _ _ _ _ => N6)
  (rename Fr _ _ _ _ => F6)
  obtain ⟨T6, eT6⟩ := name_head N6
  dsimp only at eT6
  subst eT6
  have hT6 : Heap.IsTuple _ T6 #[.none, .none] := ⟨_, (N6 _ List.mem_cons_self).1, rfl, _, rfl⟩
  refine' pcall (c_build3 w T6) ?q1 ?q2 ?q3 ?q4 ?q5 ?q6 ?q7 ?q8 ?q9 ?_
  case q1 => k_asm
  case q2 => exact F6
  case q3 => k_asm
  case q4 => exact N6
  case q5 => k_asm
  case q6 => exact rfl
  case q7 => ktr_room
  case q8 => ktr_units
  case q9 => exact hT6
  (intro v7 h7 tk7 nw7 F7 N7 K7 fr7 z2h; refine Mine.e0_2 z2h ?_; intro z2x0 z2r; (try clear z2h); (rcases z2x0 with rfl); (rcases z2r with ⟨t7, rfl⟩))
  have N8 := news_keep N7 [false]
  simp only [List.nil_append, keepL] at N8
  clear N7 N6 F6 hT6
  iterate 14 one_sign
  (rename News _ _ _ _ => N11)
  (rename Fr _ _ _ _ => F11)
  refine' ne_strs (gs := namesF (sigsF ns) ++ [Str.ofString "C" ++ Str.ofString "." ++ Str.ofString "h", Str.ofString "C"]) ?r1 ?r2 ?r3 ?r4 ?r5 ?_
  case r1 => exact ⟨_, (N11 _ (List.mem_cons_of_mem _ (List.mem_cons_of_mem _ List.mem_cons_self))).1, rfl, _, rfl⟩
  case r2 => exact ⟨_, (N11 _ List.mem_cons_self).1, rfl, _, rfl⟩
  case r3 => exact strs_app htv (.cons _ _ (.cons _ _ .nil))
  case r4 =>
    have e : Str.ofString "C" ++ Str.ofString "." ++ Str.ofString "h" = Str.ofString "C.h" := by decide
    rw [e]
    exact strs_app hnv (.cons _ _ (.cons _ _ .nil))
  case r5 => ktr_units
  have N12 := news_keep N11 [false, false, false, false]
  dsimp only [keepL] at N12
  clear N11
  iterate 4 one_sign
  dsimp only
  refine' go_shut 9 (HF mean mg mb h₀ L fa cdv _ _ Q E ns lt lm lsg lz lw ln tv nv sv zv wv vn ct cm cs cz oN o2 o3 o4 CX.to2 F11 rfl rfl rfl hn hwv hz hsv hnv htv hne ⟨i1, i2, i3, i4⟩ ⟨g1, g2, g3, g4⟩ ⟨f1, f2, f3, f4⟩ ⟨e1, e2, e3, e4⟩ ⟨b1, b2, b3, b4⟩ ⟨d1, d2, d3, d4⟩ N12 dN c2 c3 c4) ?ho ?hb ?he
  case ho => k_is
  case hb => rfl
  case he => rfl
end Mine
theorem Mine.off75 : True := by (w_top off); trivial
section
local macro_rules | `(tactic| walk_at $s:str) => `(tactic| k_extra $(Lean.Syntax.mkStrLit ("LawF:" ++ s.getString)))
namespace Mine
open LCg (NsObj lst lst_snoc ns_obj)
set_option maxHeartbeats 4000000
theorem fill241f : PySem.Challenge.rw_oy0323_01 = PySem.Challenge.rw_oy0323_01 ∧ hd.heap_1 = hd.heap_1 := by (k_fill; exact ⟨rfl, rfl⟩)
theorem Mine.kw76 : True := by
  (k_with "LawF:eval ListComp Call cons" => ((k_here; refine' ListComp_b (cl := _) ?kc ?kk ?kn ?_; (case kc => with_unfolding_all rfl); (case kk => with_unfolding_all rfl); (case kn => decide))))
  trivial
/-- behind the groups -/
noncomputable def StF2 (w : World) : Prop := ∀ (mean : ExcName → Option Value) (mg mb : Nm) (h₀ : Heap) (L fa : Addr) (cdv : Value) (m : Nm) (s : Shared) (Q : Flow → Shared → Prop) (E : Value → Shared → Prop) (ns : List Int) (lq lt lm lw : Addr) (qv tv nv wv : List Value) (cq ct cm : Nat) (o4 : Obj),
  LawCx w mean mg mb h₀ s ns Q → Fr h₀ L s.heap m → m (Str.ofString "words") = some (.ref lw) → m (Str.ofString "names") = some (.ref lm) → m (Str.ofString "told") = some (.ref lt) → IntsAre wv (wordsF ns) → StrsAre nv (namesF (sigsF ns)) → StrsAre tv (namesF (sigsF ns)) → StrsAre qv (grpF ns) → @Ne Nat lt lm →
  News h₀ L s.heap [(lq, W.listOf qv.toArray cq), (lt, W.listOf tv.toArray ct), (lm, W.listOf nv.toArray cm), (lw, W.listOf wv.toArray 0), (L + 1 + 1 + 1 + 1, o4)] →
  o4.data = .cell (some (.ref lq)) → LawGo w 10 L fa cdv Q E s
theorem law_f1 (w : World) (HG : StF2 w) : StF w := by
  intro mean mg mb h₀ L fa cdv m s Q E ns lt lm lsg lz lw ln tv nv sv zv wv vn ct cm cs cz oN o2 o3 o4 CX F mw mn mt hn hwv hz hsv hnv htv hne ⟨i1, i2, i3, i4⟩ ⟨g1, g2, g3, g4⟩ ⟨f1, f2, f3, f4⟩ ⟨e1, e2, e3, e4⟩ ⟨b1, b2, b3, b4⟩ ⟨d1, d2, d3, d4⟩ N dN c2 c3 c4
  refine' go_open 9 ?ho ?_
  case ho => k_is
  simp only [List.drop_succ_cons, List.drop_zero]
  have B := CX.B
  have X := CX.X
  have T := CX.T
  have hn3 := CX.n3
  obtain ⟨hw7, hw4⟩ := words_len hn3
  have hsl := sigs_len (ns := ns)
  obtain ⟨hz12, hzp⟩ := sizes_ok hn3
  have F2 := fr_pin (Str.ofString "told") (fr_pin (Str.ofString "names") (fr_pin (Str.ofString "words") F mw) mn) mt
  clear F
  isplit
  (rename Fr _ _ _ _ => F3)
  (rename News _ _ _ _ => N3)
  have hsvl : sv.toArray.size = (sigsF ns).length := by rw [List.size_toArray, hsv.length]
  k_dflt (refine comp_of (blk_list (items := sv.toArray) (fun k ys nw => nw = _ ∧ StrsAre ys (((sigsF ns).take k).map fun x => groupF x (sizesF (groupingF ns)) (ns.sum.fdiv 3)) ∧ ys.length ≤ k) rfl (by decide) rfl rfl (by omega (splitDisjunctions := true)) F3 N3 ⟨W.listOf sv.toArray cs, rfl, ⟨_, rfl⟩, Or.inr fun k _ nw ⟨ys, h⟩ => by rw [h.1]; k_mem⟩ ⟨rfl, .nil, Nat.le_refl _⟩ (fun i ys nw h => h.2.2) ?ct1 fun _ => ⟨_, rfl⟩) ?fin1)
  case ct1 =>
    (intro k v ys nw It oI C oC D9 m₂ h tk E' hv hm₂ hC z1h; refine Mine.e0_3 z1h ?_; intro z1x0 hys hyl; (try clear z1h); (rcases z1x0 with rfl); intro ho F4 N4)
    (have z2 := (strs_at hsv (show sv[k]? = some v from by simpa using hv)); refine Mine.e2_2 z2 ?_; intro x tx z2x2 hxr; (try clear z2); (rcases z2x2 with rfl))
    have hx10 := sigs_size x (List.mem_of_getElem? hxr)
    iterate 23 one_sign
    (rename News _ _ _ _ => N5)
    (rename Fr _ _ _ _ => F5)
    (rename Tw _ (Int.fdiv _ 3) => eT)
    rename_i qD _ _
    have hX1 : 1 ≤ x.length := by have : x.length = 10 := hx10; omega (splitDisjunctions := true)
    have hX2 : x.length ≤ 1000 := by have : x.length = 10 := hx10; omega (splitDisjunctions := true)
    have hLz : Heap.IsList _ lz zv.toArray := ⟨_, (N5 (lz, W.listOf zv.toArray cz) (by simp)).1, rfl, _, rfl⟩
    refine' pcall (c_group w x tx lz zv (sizesF (groupingF ns)) qD _ hz hz12 hzp hX1 hX2) ?q1 ?q2 ?q3 ?q4 ?q5 ?q6 ?q7 ?q8 ?q9 ?_
    case q1 => k_asm
    case q2 => exact F5
    case q3 => k_asm
    case q4 => exact N5
    case q5 => k_asm
    case q6 => exact rfl
    case q7 => ktr_room
    case q8 => ktr_units
    case q9 => exact hLz
    rintro v2 h2 tk2 nw2 F7 N7 K2 fr2 ⟨t2, rfl⟩
    refine CE.mk F7 N7 (fun p hp => List.mem_append_right _ hp) (fun p hp => by simpa [not_or] using ho p hp) ⟨rfl, ?_, by (rw [List.length_append]; exact Nat.succ_le_succ hyl)⟩
    rw [List.take_add_one, hxr, List.map_append, eT.e]
    exact strs_snoc hys
  case fin1 =>
    (intro ys nw D9 h tk z3h; refine Mine.e0_3 z3h ?_; intro z3x0 hys hyl; (try clear z3h); (rcases z3x0 with rfl); intro F4 N4 ho)
    rw [hsvl, List.take_length] at hys
    have hys2 : StrsAre ys (grpF ns) := hys
    obtain ⟨j1, j2, j3, j4⟩ : OffC L D9 := ⟨Ne.symm (natNe (ho (L + 1, oN) (by simp))), Ne.symm (natNe (ho (L + 1 + 1, o2) (by simp))), Ne.symm (natNe (ho (L + 1 + 1 + 1, o3) (by simp))), Ne.symm (natNe (ho (L + 1 + 1 + 1 + 1, o4) (by simp)))⟩
    clear F3 N3 hys ho
    iterate 1 one_sign
    try dsimp only
    (rename Fr _ _ _ _ => F6)
    (rename News _ _ _ _ => N6)
    rename_i _ og dg
    have N7 := news_keep N6 [true, true, true, false, false, true, false, true, false, false, false]
    dsimp only [keepL] at N7
    refine' go_shut 10 (HG mean mg mb h₀ L fa cdv _ _ Q E ns D9 lt lm lw ys tv nv wv _ ct cm og CX.to2 F6 rfl rfl rfl hwv hnv htv hys2 hne N7 dg) ?ho ?hb ?he
    case ho => k_is
    case hb => rfl
    case he => rfl
end Mine
end
theorem Mine.off77 : True := by (w_top off); trivial
section
namespace Mine
open LCg (NsObj lst lst_snoc ns_obj)
set_option maxHeartbeats 4000000
theorem fill241g : PySem.Challenge.rw_oy0323_01 = PySem.Challenge.rw_oy0323_01 ∧ hd.heap_1 = hd.heap_1 := by (k_fill; exact ⟨rfl, rfl⟩)
theorem Mine.kw78 : True := by
  (k_with "LawG:k_mem" => (first | assumption | exact List.mem_cons_self | (refine' List.mem_append_right _ ?_; assumption) | (refine' List.Mem.tail _ ?_; k_mem)))
  trivial
local macro_rules | `(tactic| k_mem) => `(tactic| k_extra "LawG:k_mem")
theorem IRows.snoc {RL : Led} {rvs : List Value} {rs : List (List Int)} (h : IRows RL rvs rs) {RL' : Led} (hs : ∀ p ∈ RL, p ∈ RL') {a : Addr} {zs : Array Value} {c : Nat} {r : List Int} (hm : (a, W.listOf zs c) ∈ RL') (hz : IntsAre zs.toList r) : IRows RL' (rvs ++ [.ref a]) (rs ++ [r]) := by
  refine ⟨by rw [List.length_append, List.length_append, h.1]; rfl, fun i q hq => ?_⟩
  by_cases hi : i < rs.length
  · rw [List.getElem?_append_left hi] at hq
    (have z1 := (h.2 i q hq); refine Mine.e3_3 z1 ?_; intro b ys d h1 h2 h3; (try clear z1))
    exact ⟨b, ys, d, by rw [List.getElem?_append_left (by rw [h.1]; exact hi)]; exact h1, hs _ h2, h3⟩
  · rw [List.getElem?_append_right (by omega (splitDisjunctions := true))] at hq
    have h0 : i - rs.length = 0 := by
      have := (List.getElem?_eq_some_iff.mp hq).1
      simp only [List.length_singleton] at this
      omega (splitDisjunctions := true)
    rw [h0] at hq
    obtain rfl := Option.some.inj hq
    refine ⟨a, zs, c, ?_, hm, hz⟩
    rw [List.getElem?_append_right (by rw [h.1]; omega (splitDisjunctions := true)), h.1, h0]
    rfl
theorem need_take {qs : List Str} {n i : Nat} (h : i < n) : (needF qs n).take (i + 1) = (needF qs n).take i ++ [aboveF qs i n] := by
  have : (needF qs n)[i]? = some (aboveF qs i n) := by
    unfold needF
    rw [List.getElem?_map, List.getElem?_range h]
    rfl
  rw [List.take_add_one, this]
  rfl
theorem law_f2 (w : World) (HG : StG w) : StF2 w := by
  intro mean mg mb h₀ L fa cdv m s Q E ns lq lt lm lw qv tv nv wv cq ct cm og CX F mw mn mt hwv hnv htv hqv hne N dg
  refine' go_open 10 ?ho ?_
  case ho => k_is
  simp only [List.drop_succ_cons, List.drop_zero]
  have B := CX.B
  have X := CX.X
  have T := CX.T
  have hn3 := CX.n3
  obtain ⟨hw7, hw4⟩ := words_len hn3
  have hsl := sigs_len (ns := ns)
  have hgl : (grpF ns).length = (wordsF ns).length := by unfold grpF; rw [List.length_map, hsl]
  have hg10 : ∀ g ∈ grpF ns, g.length ≤ 10 := fun g hg => by
    (have z2 := (List.mem_map.mp hg); refine Mine.e1_2 z2 ?_; intro x hx z2x2; (try clear z2); (rcases z2x2 with rfl))
    have h1 := group_le (x := x) (sz := sizesF (groupingF ns)) (place := ns.sum.fdiv 3)
    have h2 := sigs_size x hx
    exact Nat.le_trans h1 (Nat.le_of_eq h2)
  have F2 := fr_pin (Str.ofString "told") (fr_pin (Str.ofString "names") (fr_pin (Str.ofString "words") F mw) mn) mt
  clear F
  iterate 1 one_sign
  refine' Assign_ListComp_b (cl := _) ?ks ?kc ?kk ?kn ?ky ?kp ?_
  case ks => with_unfolding_all rfl
  case kc => with_unfolding_all rfl
  case kk => with_unfolding_all rfl
  case kn => decide
  case ky => with_unfolding_all rfl
  case kp => with_unfolding_all rfl
  isplit
  (rename Fr _ _ _ _ => F6)
  (rename News _ _ _ _ => N6)
  (rename IsRange _ _ _ _ _ _ _ _ => R1)
  obtain ⟨BB, N9, gD, gG, gT, gM⟩ : ∃ BB, News _ _ _ BB ∧ (lq, W.listOf qv.toArray cq) ∈ BB ∧ (L + 1 + 1 + 1 + 1, og) ∈ BB ∧ (lt, W.listOf tv.toArray ct) ∈ BB ∧ (lm, W.listOf nv.toArray cm) ∈ BB := ⟨_, N6, by simp, by simp, by simp, by simp⟩
  k_dflt (refine compA_of (blk_range (n := (wordsF ns).length) (news := BB) (fun i zs nw => ∃ RL, nw = RL ++ BB ∧ IRows RL zs ((needF (grpF ns) (wordsF ns).length).take i) ∧ Nd (RL ++ [(lt, W.listOf tv.toArray ct), (lm, W.listOf nv.toArray cm)]) ∧ zs.length ≤ i) rfl (by decide) rfl rfl (by omega (splitDisjunctions := true)) F6 N9 R1 ⟨[], rfl, ⟨rfl, fun i r hr => by simp at hr⟩, ?nd0, Nat.le_refl _⟩ (fun i zs nw h => by (have z3 := h; clear h; refine Mine.e1_4 z3 ?_; intro _ _ _ _ h; (try clear z3)); exact h) ?ct2 fun _ => ⟨_, rfl⟩) ?fin2)
  case nd0 => exact Nd.cons Nd.sing fun q hq => (List.mem_singleton.mp hq) ▸ Ne.symm hne
  case ct2 =>
    (intro i tk0 zs nw It oI C oC D8 m₂ h tk E' hik hm₂ hC z4h; refine Mine.e1_4 z4h ?_; intro RL z4x1 hrw hnd hzl; (try clear z4h); (rcases z4x1 with rfl); intro ho F4 N4)
    have gG2 := List.mem_append_right RL gG
    have gD2 := List.mem_append_right RL gD
    clear F6 N9 N6 R1
    iterate 12 one_sign
    have hLq : Heap.IsList _ lq qv.toArray := ⟨_, (N4 (lq, W.listOf qv.toArray cq) (List.mem_cons_of_mem _ (List.mem_cons_of_mem _ (List.mem_cons_of_mem _ gD2)))).1, rfl, _, rfl⟩
    refine' pcall (c_above w lq qv (grpF ns) i tk0 hqv (by omega (splitDisjunctions := true)) (by omega (splitDisjunctions := true)) hg10) ?q1 ?q2 ?q3 ?q4 ?q5 ?q6 ?q7 ?q8 ?q9 ?_
    case q1 => k_asm
    case q2 => exact F4
    case q3 => k_asm
    case q4 => exact N4
    case q5 => k_asm
    case q6 => exact rfl
    case q7 => ktr_room
    case q8 => ktr_units
    case q9 => exact hLq
    (intro v2 h2 tk2 nw2 F7 N7 K2 fr2 z5h; refine Mine.e3_3 z5h ?_; intro d ys2 c2 z5x3 md hz2; (try clear z5h); (rcases z5x3 with rfl))
    have dn : ∀ q ∈ (It, oI) :: (C, oC) :: (D8, lst zs) :: (RL ++ BB), q.1 ≠ d := fun q hq e => by
      have h1 := fr2 _ md
      rw [← e, (N4 q hq).1] at h1
      cases h1
    refine CE.mk (nw := (d, W.listOf ys2 c2) :: (RL ++ BB)) F7 N7 (fun p hp => ?_) (fun p hp => ?_) ⟨(d, W.listOf ys2 c2) :: RL, rfl, ?_, ?_, by (rw [List.length_append]; exact Nat.succ_le_succ hzl)⟩
    · simp only [List.cons_append, List.nil_append, List.mem_cons] at hp
      rcases hp with hp | hp | hp | hp | hp
      · exact List.mem_append_right _ (hp ▸ List.mem_cons_self)
      · exact List.mem_append_right _ (List.mem_cons_of_mem _ (hp ▸ List.mem_cons_self))
      · exact List.mem_append_right _ (List.mem_cons_of_mem _ (List.mem_cons_of_mem _ (hp ▸ List.mem_cons_self)))
      · exact hp ▸ List.mem_append_left _ md
      · exact List.mem_append_right _ (List.mem_cons_of_mem _ (List.mem_cons_of_mem _ (List.mem_cons_of_mem _ hp)))
    · simp only [List.map_cons, List.map_nil, List.mem_cons, List.not_mem_nil, or_false, not_or]
      rcases List.mem_cons.mp hp with rfl | hp
      · exact ⟨Ne.symm (dn (It, oI) (by simp)), Ne.symm (dn (C, oC) (by simp)), Ne.symm (dn (D8, lst zs) (by simp))⟩
      · exact ho p hp
    · rw [need_take hik]
      refine hrw.snoc (fun p hp => List.mem_cons_of_mem _ hp) List.mem_cons_self ?_
      rw [hgl] at hz2
      exact hz2
    · refine Nd.cons hnd fun q hq => ?_
      rcases List.mem_append.mp hq with hq | hq
      · exact dn q (List.mem_cons_of_mem _ (List.mem_cons_of_mem _ (List.mem_cons_of_mem _ (List.mem_append_left _ hq))))
      · refine dn q (List.mem_cons_of_mem _ (List.mem_cons_of_mem _ (List.mem_cons_of_mem _ (List.mem_append_right _ ?_))))
        simp only [List.mem_cons, List.not_mem_nil, or_false] at hq
        rcases hq with h | h
        · exact h ▸ gT
        · exact h ▸ gM
  case fin2 =>
    (intro zs nw D8 h tk z6h; refine Mine.e1_4 z6h ?_; intro RL z6x1 hrw hnd hzl; (try clear z6h); (rcases z6x1 with rfl); intro F4 N4 ho)
    have F5 : Fr h₀ L h _ := F4
    have N5 : News h₀ L h _ := N4
    clear F4 N4 F6 N9 N6 R1
    have hnl : (needF (grpF ns) (wordsF ns).length).length = (wordsF ns).length := by unfold needF; rw [List.length_map, List.length_range]
    rw [List.take_of_length_le (by omega (splitDisjunctions := true))] at hrw
    have N7 : News h₀ L h ((D8, W.listOf zs.toArray zs.length) :: (lt, W.listOf tv.toArray ct) :: (lm, W.listOf nv.toArray cm) :: RL) := news_sub N5 fun q hq => by
      simp only [List.mem_cons] at hq
      rcases hq with h | h | h | h
      · exact h ▸ List.mem_cons_self
      · exact h ▸ List.mem_cons_of_mem _ (List.mem_append_right _ gT)
      · exact h ▸ List.mem_cons_of_mem _ (List.mem_append_right _ gM)
      · exact List.mem_cons_of_mem _ (List.mem_append_left _ h)
    have nd7 : Nd ((D8, W.listOf zs.toArray zs.length) :: (lt, W.listOf tv.toArray ct) :: (lm, W.listOf nv.toArray cm) :: RL) := by
      refine Nd.cons (hnd.perm List.perm_append_comm) fun q hq => ?_
      simp only [List.mem_cons] at hq
      rcases hq with h | h | h
      · exact ho q (List.mem_append_right _ (h ▸ gT))
      · exact ho q (List.mem_append_right _ (h ▸ gM))
      · exact ho q (List.mem_append_left _ h)
    dsimp only
    refine' go_shut 11 (HG mean mg mb h₀ L fa cdv _ _ Q E ns D8 lt lm zs tv nv RL _ ct cm CX.to2 F5 rfl rfl rfl hnv htv hrw N7 nd7) ?ho ?hb ?he
    case ho => k_is
    case hb => rfl
    case he => rfl
end Mine
end
theorem Mine.off79 : True := by (w_top off); trivial
section
namespace Mine
open LCg (NsObj lst lst_snoc ns_obj)
open PyProof.Rows.TI (Frs SameUp)
set_option maxHeartbeats 4000000
theorem names_len {ns : List Int} : (namesF (sigsF ns)).length = (wordsF ns).length := by unfold namesF; rw [List.length_map, List.length_range, sigs_len]
theorem grp_len {ns : List Int} : (grpF ns).length = (wordsF ns).length := by unfold grpF; rw [List.length_map, sigs_len]
theorem grp_at {ns : List Int} {i : Nat} (h : i < (wordsF ns).length) : ∃ x, x.cps.size = 10 ∧ gAt (grpF ns) i = groupF x (sizesF (groupingF ns)) (ns.sum.fdiv 3) := by
  have hl : i < (sigsF ns).length := by rw [sigs_len]; exact h
  refine ⟨(sigsF ns)[i], sigs_size _ (List.getElem_mem hl), ?_⟩
  unfold gAt grpF
  rw [List.getD_eq_getElem?_getD, List.getElem?_map, List.getElem?_eq_getElem hl]
  rfl
theorem law_told {ns : List Int} (h3 : ns.length ≤ 3) : Told (namesF (sigsF ns)) (needF (grpF ns) (wordsF ns).length) (rhoF (grpF ns) (wordsF ns).length) := by
  obtain ⟨hw7, hw4⟩ := words_len h3
  refine told (n := (wordsF ns).length) (fun i j hi hj => ?_) (names_nd (by rw [sigs_len]; exact hw7) sigs_size) names_len
  (have z1 := (grp_at hi); refine Mine.e1_2 z1 ?_; intro x hx e1; (try clear z1))
  (have z2 := (grp_at hj); refine Mine.e1_2 z2 ?_; intro y hy e2; (try clear z2))
  rw [e1, e2]
  exact group_len (hx.trans hy.symm) _ _
theorem need_ok {ns : List Int} (h3 : ns.length ≤ 3) {i : Nat} {r : List Int} (h : (needF (grpF ns) (wordsF ns).length)[i]? = some r) : r.length ≤ 8 ∧ ∀ x ∈ r, 0 ≤ x ∧ x.toNat < (namesF (sigsF ns)).length := by
  obtain ⟨hw7, hw4⟩ := words_len h3
  have T := law_told h3
  have hs : ∀ i j, i < (wordsF ns).length → j < (wordsF ns).length → (gAt (grpF ns) i).cps.size = (gAt (grpF ns) j).cps.size := fun i j hi hj => by
    (have z3 := (grp_at hi); refine Mine.e1_2 z3 ?_; intro x hx e1; (try clear z3))
    (have z4 := (grp_at hj); refine Mine.e1_2 z4 ?_; intro y hy e2; (try clear z4))
    rw [e1, e2]
    exact group_len (hx.trans hy.symm) _ _
  refine ⟨?_, fun x hx => ?_⟩
  · obtain ⟨_, rfl⟩ := needF_at hs h
    rw [List.length_map]
    have := List.length_filter_le (relF (grpF ns) i) (List.range (wordsF ns).length)
    rw [List.length_range] at this
    omega (splitDisjunctions := true)
  · (have z5 := (T.hr i r h x hx); refine Mine.e0_3 z5 ?_; intro h1 h2 _; (try clear z5))
    rw [T.hl] at h2
    exact ⟨h1, h2⟩
theorem fill241h : PySem.Challenge.rw_oy0323_01 = PySem.Challenge.rw_oy0323_01 ∧ hd.heap_1 = hd.heap_1 := by (k_fill; exact ⟨rfl, rfl⟩)
theorem Mine.kw80 : True := by
  (k_with "LawH:k_mem" => (first | assumption | exact List.mem_cons_self | (refine' List.Mem.tail _ ?_; k_mem)))
  trivial
local macro_rules | `(tactic| k_mem) => `(tactic| k_extra "LawH:k_mem")
theorem law_h (w : World) : StG w := by
  intro mean mg mb h₀ L fa cdv m s Q E ns ld lt lm dv tv nv RL cd ct cm CX F md mn mt hnv htv hrw N nd
  refine' go_open 11 ?ho ?_
  case ho => k_is
  simp only [List.drop_succ_cons, List.drop_zero]
  have B := CX.B
  have X := CX.X
  have T := CX.T
  have hn3 := CX.n3
  obtain ⟨hw7, hw4⟩ := words_len hn3
  have TT := law_told hn3
  (have z6 := (plain_end TT (by rw [names_len]; omega (splitDisjunctions := true)) (by rw [names_len]; omega (splitDisjunctions := true))); refine Mine.e1_4 z6 ?_; intro rs0 hR hR8 hRl hRp; (try clear z6))
  obtain ⟨hss, hrk⟩ := plain_su TT
  have hnl : (needF (grpF ns) (wordsF ns).length).length = (namesF (sigsF ns)).length := TT.hl
  have hdl : dv.length = (namesF (sigsF ns)).length := by rw [hrw.1]; exact hnl
  have F2 := fr_pin (Str.ofString "told") (fr_pin (Str.ofString "names") (fr_pin (Str.ofString "needs") F md) mn) mt
  clear F
  iterate 12 one_sign
  have NI : News h₀ L s.heap (((ld, W.listOf dv.toArray cd) :: (lt, W.listOf tv.toArray ct) :: RL) ++ ([(lm, W.listOf nv.toArray cm)] ++ [])) := news_sub N fun q hq => by
    simp only [List.append_nil, List.cons_append, List.mem_cons, List.mem_append, List.not_mem_nil, or_false] at hq ⊢
    rcases hq with h | h | h | h <;> simp only [h, true_or, or_true]
  have ndI : Nd (((ld, W.listOf dv.toArray cd) :: (lt, W.listOf tv.toArray ct) :: RL) ++ ([(lm, W.listOf nv.toArray cm)] ++ [])) := by
    refine nd.perm ?_
    rw [List.append_nil]
    refine List.Perm.cons _ (List.Perm.cons _ ?_)
    exact (List.perm_append_singleton _ _).symm
  refine' c_rounds w lt ld tv dv (namesF (sigsF ns)) ct cd ((ld, W.listOf dv.toArray cd) :: (lt, W.listOf tv.toArray ct) :: RL) htv (List.mem_cons_of_mem _ List.mem_cons_self) List.mem_cons_self (by rw [names_len]; omega (splitDisjunctions := true)) hdl (needF (grpF ns) (wordsF ns).length) hnl ?hrows (levS (namesF (sigsF ns)) (needF (grpF ns) (wordsF ns).length)) _ rfl hss hrk rs0 hR hR8
    mean mg mb _ _ _ _ _ _ _ _ [] h₀ L _ _ _ _ [(lm, W.listOf nv.toArray cm)] [] trivial (fun p hp => nomatch hp) ?p1 ?p2 NI ndI ?p5 ?p6 ?p7 ?p8 trivial ?p9
  case hrows =>
    intro i r hr
    (have z7 := (hrw.2 i r hr); refine Mine.e3_3 z7 ?_; intro a zs c h1 h2 h3; (try clear z7))
    obtain ⟨h4, h5⟩ := need_ok hn3 hr
    exact ⟨a, zs, c, h1, List.mem_cons_of_mem _ (List.mem_cons_of_mem _ h2), h3, h4, h5⟩
  case p1 => k_asm
  case p2 => k_asm
  case p5 => k_asm
  case p6 => exact rfl
  case p7 => ktr_room
  case p8 => ktr_units
  (intro v1 h1 tk1 nw1 frs1 F3 N3 nd3 SU z8h; refine Mine.e4_3 z8h ?_; intro Rn rvs rc RL1 z8x4 z8x5 hra; (try clear z8h); (rcases z8x4 with rfl); (rcases z8x5 with rfl))
  have hfr : frs1 = [] := by
    cases frs1 with
    | nil => rfl
    | cons p r => exact SU.elim
  subst hfr
  have N4 : News h₀ L h1 ((Rn, W.listOf rvs.toArray rc) :: (lm, W.listOf nv.toArray cm) :: (ld, W.listOf dv.toArray cd) :: (RL1 ++ RL)) := news_sub N3 fun q hq => by
    simp only [List.append_nil, List.cons_append, List.mem_cons, List.mem_append, List.not_mem_nil, or_false] at hq ⊢
    rcases hq with h | h | h | h | h <;> simp only [h, true_or, or_true]
  clear N3 nd3 NI ndI N nd F2
  iterate 9 one_sign
  refine' pcall (c_levels w lm ld nv dv (namesF (sigsF ns)) (needF (grpF ns) (wordsF ns).length) hnv (by rw [names_len]; omega (splitDisjunctions := true)) (by rw [names_len]; omega (splitDisjunctions := true)) hdl hnl) ?q1 ?q2 ?q3 ?q4 ?q5 ?q6 ?q7 ?q8 ?q9 ?_
  case q1 => k_asm
  case q2 => exact F3
  case q3 => k_asm
  case q4 => exact N4
  case q5 => k_asm
  case q6 => exact rfl
  case q7 => ktr_room
  case q8 => ktr_units
  case q9 =>
    refine ⟨⟨_, (N4 (lm, W.listOf nv.toArray cm) (by simp)).1, rfl, _, rfl⟩, ⟨_, (N4 (ld, W.listOf dv.toArray cd) (by simp)).1, rfl, _, rfl⟩, fun i r hr => ?_⟩
    (have z9 := (hrw.2 i r hr); refine Mine.e3_3 z9 ?_; intro a zs c h1 h2 h3; (try clear z9))
    obtain ⟨h4, h5⟩ := need_ok hn3 hr
    exact ⟨a, zs, h1, ⟨_, (N4 (a, W.listOf zs c) (by simp [h2])).1, rfl, _, rfl⟩, h3, h4, h5⟩
  (intro v5 h5 tk5 nw5 F5 N5 K5 fr5 z10h; refine Mine.e3_3 z10h ?_; intro Rm rws rd z10x3 mR hrb; (try clear z10h); (rcases z10x3 with rfl))
  refine' rows_eq N5 hra hrb ?s1 ?s2 hRl hRp ?s3 ?s4 ?s5 ?_
  case s1 => exact fun p hp => List.mem_append_right _ (by simp [hp])
  case s2 => exact fun p hp => List.mem_append_left _ hp
  case s3 => exact ⟨_, (N5 (Rn, W.listOf rvs.toArray rc) (by simp)).1, rfl, _, rfl⟩
  case s4 => exact ⟨_, (N5 (Rm, W.listOf rws.toArray rd) (List.mem_append_left _ mR)).1, rfl, _, rfl⟩
  case s5 => ktr_units
  exact CX.fin h5 tk5 s.gens CX.bare F5.keep
end Mine
end
end
end
namespace Mine
set_option maxHeartbeats 4000000
theorem law_body (w : World) (mean : ExcName → Option Value) (mg mb : Nm) (h₀ : Heap) (L fa : Addr) (cdv : Value) (m : Nm) (s : Shared) (Q : Flow → Shared → Prop) (E : Value → Shared → Prop) (l : Addr) (vs : List Value) (ns : List Int)
    (CX : LawCx w mean mg mb h₀ s (ns.take 3) Q) (F : Fr h₀ L s.heap m) (hm : m (Str.ofString "script") = some (.ref l)) (hl : h₀.IsList l vs.toArray) (hI : IntsAre vs ns) (h63 : ns.length ≤ 63)
    (o1 o2 o3 o4 : Obj) (N : News h₀ L s.heap [(L + 1 + 1 + 1 + 1, o4), (L + 1 + 1 + 1, o3), (L + 1 + 1, o2), (L + 1, o1)])
    (c1 : o1.data = .cell none) (c2 : o2.data = .cell none) (c3 : o3.data = .cell none) (c4 : o4.data = .cell none) : LawGo w 0 L fa cdv Q E s :=
  law_a w (law_b w (law_c w (law_d w (law_e w (law_f1 w (law_f2 w (law_h w))))))) mean mg mb h₀ L fa cdv m s Q E l vs ns CX F hm hl hI h63 o1 o2 o3 o4 N c1 c2 c3 c4
end Mine
namespace Mine
theorem fin1 : PySem.Challenge.rw_oy0323_01.Holds := hd (by
  k_fill
  intro w s₀ s₁ mg mb G Y fa o pm cd doc dV kV ho hd hcd hD hmg hg args vals as hpre hlay hrd hwl hlo
  have KX := kIn_of Y
  have X := (Ground.X G).1
  have V := (Ground.X G).2
  refine Ground.open G ?_
  intro T B D TE TW
  try (refine guard_noD D (by decide +kernel) ?_; clear D)
  (have z1 := (bmod_of_top T); first | (refine Mine.hideP ?_; intro Gz kGz; rcases z1 with ⟨_, _, M⟩; all_goals (refine kGz ?_; clear kGz Gz)) | rcases z1 with ⟨_, _, M⟩)
  have TA := at_of_top T
  try ((have z2 := (based_of_top T rfl hmg ho hd); first | (refine Mine.hideP ?_; intro Gz kGz; rcases z2 with ⟨_, _, he, B0⟩; all_goals (refine kGz ?_; clear kGz Gz)) | rcases z2 with ⟨_, _, he, B0⟩); have he' : cd = _ := he; subst he'; clear he)
  clear hmg
  wrow_args hpre hlay hrd hwl hlo
  all_goals (
    first | refine callC_kw (enter_call ?_) | refine enter_call ?_
    w_top on
    have K0 := below_caller (Top.heap T)
    w_call any ho hd hcd hD T F
    clear hd TA
    k_drop
    skip)
  rename_i _ _ cdA _ li _ _ _ _ _ _ _ la lv _ hLa _ _ _ hIv _ h63 _ h1 tk1 o4 o3 o2 o1 c4 c3 c2 c1 N0 X0
  have hfin : ∀ (h : Heap) (tk : Nat) (g : Array GenState), AllBare g → (∀ b o, s₁.heap.get? b = some o → h.get? b = some o) →
      GoodWG PySem.Challenge.rw_oy0323_01.row.toRowW.claim (classAt s₀.heap) (ExcName.means s₀.heap) [ofPy (PyData.list (li.map PyData.int))] s₁ (.ok (.ret (.bool true))) { heap := h, gens := g, drawn := s₁.drawn, toks := tk, os := s₁.os } := fun h tk g hb hk =>
    ⟨.inl ⟨.bool true, .bool true, [], rfl, raisesW_false (by wrow_none_raised), ReadsW.bool _, by with_unfolding_all rfl, unshared_nil⟩, .of_keep hk, rfl, hb⟩
  have CX : LawCx w (ExcName.means s₀.heap) mg mb s₁.heap { heap := h1, gens := s₁.gens, drawn := s₁.drawn, toks := tk1, os := s₁.os } (li.take 3) (fun f s' => GoodWG PySem.Challenge.rw_oy0323_01.row.toRowW.claim (classAt s₀.heap) (ExcName.means s₀.heap) [ofPy (PyData.list (li.map PyData.int))] s₁ (.ok (.ret (match f with | .ret v => v | _ => .none))) s') :=
    ⟨K0, KX, T, by rw [List.length_take]; omega (splitDisjunctions := true), AllBare.of_eq hg, fun h tk g hb hk => hfin h tk g hb hk⟩
  refine' go_shut 0 (law_body w (ExcName.means s₀.heap) mg mb s₁.heap s₁.heap.objs.size fa (.ref cdA) _ _ _ _ la lv li CX F ?hm hLa hIv ?h63 o1 o2 o3 o4 N0 c1 c2 c3 c4) ?ho ?hb ?he
  case ho => k_is
  case hb => rfl
  case he => rfl
  case hm => with_unfolding_all rfl
  case h63 => omega (splitDisjunctions := true))
end Mine
theorem PySem.Challenge.cw_oy0323_01_holds : PySem.Challenge.rw_oy0323_01.Holds := by
  exact Mine.fin1
