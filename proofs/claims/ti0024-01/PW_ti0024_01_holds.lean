import PyProof.Rows.All
import Wide.All
import OpenK.AllK
import Wide.FinOn
import Lean
import PySem.Challenge.RW_ti0024_01
open PySem PySem.W PyProof.Rows
set_option Elab.async false
set_option maxRecDepth 100000
set_option maxHeartbeats 8000000
set_option rowWalk.seconds 0
set_option linter.unusedVariables false
set_option linter.unusedSimpArgs false
set_option compiler.extract_closed false
namespace Mine
/-! the head: the top is run once for each answer to the one row that it asks, behind the library's boot -/
theorem left_of_run {p q : Program} {loose : List Str} {Xt : Shared → Bool} {α : Type} {Yf : Shared → α} {Ya : World → α} {N : Nat} {H₀ : Params → Heap} {gs₀ : Array GenState} {d₀ : Drawn} {k₀ m₀ : Nat} {ann : Option Value}
    (open_ : ∀ w : World, (fencedOpening treeTable p w N).map (fun s => (s.heap, s.gens, s.drawn, s.toks)) = some (H₀ w.params, gs₀, d₀, k₀))
    (size : ∀ w : World, ((H₀ w.params).isNs mainGlobals && gs₀.size == 0, (H₀ w.params).objs.size, (H₀ w.params).nsMap mainGlobals "__annotations__") = (true, m₀, ann))
    (run : ∀ (w : World) (os : OsState), (topRun treeTable p w m₀ ann N ⟨H₀ w.params, gs₀, d₀, k₀, os⟩ (topStub p)).map (fun s => (staticsOk (importedModules p.main.body) (H₀ w.params) s.heap && namesBound p s.heap && gensDone s && laidKept (H₀ w.params) s.heap,
      openSeen q loose (importedModules p.main.body) Xt true s, Yf s)) = some (true, openGood q loose, Ya w)) : LeftO p q loose Xt Yf Ya N := fun w => by
  obtain ⟨⟨h, gs, d, k, os⟩, e, e'⟩ := Option.map_eq_some_iff.mp (open_ w)
  obtain ⟨rfl, rfl, rfl, rfl⟩ : h = H₀ w.params ∧ gs = gs₀ ∧ d = d₀ ∧ k = k₀ := by simpa using e'
  obtain ⟨z1, z2, z3⟩ : _ ∧ _ ∧ _ := by simpa only [Prod.mk.injEq] using size w
  obtain ⟨s, r, l⟩ := Option.map_eq_some_iff.mp (run w os)
  obtain ⟨l1, l2, l3⟩ : _ ∧ _ ∧ _ := by simpa only [Prod.mk.injEq] using l
  have t : topFrom treeTable p w N ⟨H₀ w.params, gs, d, k, os⟩ = some s := by
    unfold topFrom
    dsimp only
    rw [z1, z2, z3, r]
    show (match staticsOk (importedModules p.main.body) (H₀ w.params) s.heap && namesBound p s.heap && gensDone s && laidKept (H₀ w.params) s.heap with | true => _ | false => _) = _
    rw [l1]
  unfold openEnds
  rw [e]
  show (topFrom treeTable p w N _).map _ = _
  rw [t]
  exact congrArg some (Prod.ext l2 l3)
noncomputable def lawView : Program := PySem.W.view PySem.Challenge.pw_ti0024_01 [1, 2, 3, 4, 5, 7, 8, 9, 10, 11, 13, 14, 15, 16, 17, 18, 19, 20, 21, 22, 23, 24, 25, 26, 27, 28, 29, 30, 31, 32, 33, 34, 35, 36, 37, 38, 39, 40, 41, 42, 43, 44, 45, 46, 47, 48, 49, 50, 51, 52, 53, 54, 55, 56, 57, 58, 59, 60, 61, 62, 63, 64, 65, 66, 68, 69, 70, 71, 72, 73, 74, 75, 76, 77]
noncomputable abbrev lawLoose : List Str := [PySem.Str.ofString "EXACT_TOKEN_TYPES"]
noncomputable abbrev lawXt : Shared → Bool := fun s => xlAt lawView [] s && recOk (RowW.records (OpenRow.toRowW PySem.Challenge.rw_ti0024_01.row)) s
/-- what the top's run shows, for one world -/
noncomputable def RunOk (H : Hook) (w : World) (os : OsState) : Prop :=
  (topRun treeTable PySem.Challenge.pw_ti0024_01 w 11 (some (.ref 6)) 4306 ⟨boot_heap w.params, Array.mk [], boot_drawn, boot_toks, os⟩ (topStub PySem.Challenge.pw_ti0024_01)).map (fun s => (staticsOk (importedModules PySem.Challenge.pw_ti0024_01.main.body) (boot_heap w.params) s.heap && namesBound PySem.Challenge.pw_ti0024_01 s.heap && gensDone s && laidKept (boot_heap w.params) s.heap,
      openSeen lawView lawLoose (importedModules PySem.Challenge.pw_ti0024_01.main.body) lawXt true s, H.obs s)) = some (true, openGood lawView lawLoose, H.val w)
noncomputable def RunOkT (H : Hook) (w : World) (os : OsState) : Prop :=
  (PySem.W.Fast.tw14082659384304107361 PySem.W.Fast.tw14364793385576792824 PySem.Challenge.pw_ti0024_01 w 11 (some (.ref 6)) 4306 ⟨boot_heap w.params, Array.mk [], boot_drawn, boot_toks, os⟩ (topStub PySem.Challenge.pw_ti0024_01)).map (fun s => (staticsOk (importedModules PySem.Challenge.pw_ti0024_01.main.body) (boot_heap w.params) s.heap && namesBound PySem.Challenge.pw_ti0024_01 s.heap && gensDone s && laidKept (boot_heap w.params) s.heap,
      PySem.W.Fast.tw4187177175401517315 lawView lawLoose (importedModules PySem.Challenge.pw_ti0024_01.main.body) lawXt true s, H.obs s)) = some (true, openGood lawView lawLoose, H.val w)
theorem runOk_of {H : Hook} {w : World} {os : OsState} (h : RunOkT H w os) : RunOk H w os := by
  unfold RunOkT at h
  unfold RunOk
  rw [← PySem.W.Fast.te14082659384304107361, ← PySem.W.Fast.te14364793385576792824, ← PySem.W.Fast.te4187177175401517315] at h
  exact h
theorem left_law (H : Hook) (r0 : ∀ (w : World) os, RunOk H (w.withFollow "special-get-raises" false) os) (r1 : ∀ (w : World) os, RunOk H (w.withFollow "special-get-raises" true) os) : LeftO PySem.Challenge.pw_ti0024_01 lawView lawLoose lawXt H.obs H.val 4306 := by
  have e1 : opening PySem.Challenge.pw_ti0024_01 = plainProg PySem.Challenge.pw_ti0024_01.main.scope.names := by kernel_rfl
  have e2 : ∀ s, fenceModules? PySem.Challenge.pw_ti0024_01 s = some s := fun s => by kernel_rfl
  have e3 : ∀ w : World, ((boot_heap w.params).isNs mainGlobals && (Array.mk [] : Array GenState).size == 0, (boot_heap w.params).objs.size, (boot_heap w.params).nsMap mainGlobals "__annotations__") = (true, 11, some (.ref 6)) := fun w => by kernel_rfl
  have e4 : ∀ (w : World) (os : OsState), RunOk H w os := fun w os => byRow2 "special-get-raises" (P := fun w => RunOk H w os) (fun w => r0 w os) (fun w => r1 w os) w
  unfold RunOk at e4
  have e0 := boot_open (p := PySem.Challenge.pw_ti0024_01) (N := 4306) e1 (by decide) e2
  exact left_of_run (p := PySem.Challenge.pw_ti0024_01) (q := lawView) (loose := lawLoose) (Xt := lawXt) (Yf := H.obs) (Ya := H.val) (N := 4306) (H₀ := boot_heap) (gs₀ := Array.mk []) (d₀ := boot_drawn) (k₀ := boot_toks) (m₀ := 11) (ann := some (.ref 6)) e0 e3 e4
theorem law_said : OpenLaw.wellSaid PySem.Challenge.rw_ti0024_01 = true := by
  rw [PySem.W.Fast.te9446332074065402090]
  delta PySem.W.Fast.tw9446332074065402090
  repeat' with_reducible refine look_both ?_ ?_
  all_goals try (delta PySem.W.Fast.tw17960256430627541270; repeat' with_reducible refine look_both ?_ ?_)
  all_goals try (delta PySem.W.Fast.tw2436336058641802641; repeat' with_reducible refine look_both ?_ ?_)
  all_goals try (delta PySem.W.Fast.tw12908688711261696721; repeat' with_reducible refine look_both ?_ ?_)
  all_goals as_aux_lemma => kernel_rfl
theorem head_law (H : Hook) {d : DefRec} {kwd : List (Str × Expr)} (r0 : ∀ (w : World) os, RunOkT H (w.withFollow "special-get-raises" false) os) (r1 : ∀ (w : World) os, RunOkT H (w.withFollow "special-get-raises" true) os)
    (said : (OpenLaw.row PySem.Challenge.rw_ti0024_01).wellSaid = true)
    (hdef : defOf lawView (OpenLaw.row PySem.Challenge.rw_ti0024_01).name = some (d, kwd)) (hp : (OpenLaw.row PySem.Challenge.rw_ti0024_01).prog.theDef (OpenLaw.row PySem.Challenge.rw_ti0024_01).name = some (d.params, d.body, d.scope)) (hk : kwWritten? d.params.kwonlyargs d.params.kw_defaults = some kwd)
    (hw : (OpenLaw.row PySem.Challenge.rw_ti0024_01).toRowW.promised) (call : WalkO lawView lawLoose (XL lawView []) H.says (OpenLaw.row PySem.Challenge.rw_ti0024_01).toRowW d kwd fun f vs => PySem.call f vs) : (OpenLaw.row PySem.Challenge.rw_ti0024_01).Holds := by
  have e1 : ((!(OpenLaw.row PySem.Challenge.rw_ti0024_01).writes) || (OpenLaw.row PySem.Challenge.rw_ti0024_01).records.isEmpty) = true := by kernel_rfl
  have e2 : (chainsOk lawView && opensWell (OpenLaw.row PySem.Challenge.rw_ti0024_01).prog && (frees (OpenLaw.row PySem.Challenge.rw_ti0024_01).toRowW && (OpenLaw.row PySem.Challenge.rw_ti0024_01).within.isEmpty)) = true := by kernel_rfl
  have e3 : (OpenLaw.row PySem.Challenge.rw_ti0024_01).prog.bare := ⟨rfl, rfl, rfl, rfl, rfl, by decide +kernel⟩
  exact holds_open (r := OpenLaw.row PySem.Challenge.rw_ti0024_01) (q := lawView) (loose := lawLoose) (Xt := lawXt) (XP := XL lawView []) (Yf := Hook.obs H) (Ya := Hook.val H) (YP := Hook.says H) (N := 4306)
    (left_law H (fun w os => runOk_of (r0 w os)) (fun w os => runOk_of (r1 w os))) (Hook.of H) (Hook.keeps H) (fun s e => xl_of s (Bool.and_eq_true_iff.mp e).1) XL.keeps hdef hp hk (fun s e => recFacts_of (Bool.and_eq_true_iff.mp e).2) e1 said e2 e3 hw call
theorem head_law2 (H : Hook) {d : DefRec} {kwd : List (Str × Expr)} (said : (OpenLaw.row PySem.Challenge.rw_ti0024_01).wellSaid = true)
    (hdef : defOf lawView (OpenLaw.row PySem.Challenge.rw_ti0024_01).name = some (d, kwd)) (hp : (OpenLaw.row PySem.Challenge.rw_ti0024_01).prog.theDef (OpenLaw.row PySem.Challenge.rw_ti0024_01).name = some (d.params, d.body, d.scope)) (hk : kwWritten? d.params.kwonlyargs d.params.kw_defaults = some kwd)
    (hw : (OpenLaw.row PySem.Challenge.rw_ti0024_01).toRowW.promised) (call : (∀ (w : World) os, RunOkT H (w.withFollow "special-get-raises" false) os) ∧ (∀ (w : World) os, RunOkT H (w.withFollow "special-get-raises" true) os) ∧ WalkO lawView lawLoose (XL lawView []) H.says (OpenLaw.row PySem.Challenge.rw_ti0024_01).toRowW d kwd fun f vs => PySem.call f vs) : (OpenLaw.row PySem.Challenge.rw_ti0024_01).Holds :=
  head_law H call.1 call.2.1 said hdef hp hk hw call.2.2
local macro_rules | `(tactic| o_law) => `(tactic| refine holds_law law_said fun said => ?_)
local macro_rules | `(tactic| o_head $H) => `(tactic| refine head_law2 $H (by assumption) (by rfl) (by rfl) (by rfl) ?hw ?hc)
open_top hd for PySem.Challenge.rw_ti0024_01
noncomputable abbrev lawHook : Hook := kHook hd.heap_1 [2, 3, 15, 17, 18, 20, 21, 22, 24, 25, 27, 28, 29, 31, 32, 34, 35, 36, 38, 39, 41, 42, 43, 45, 46, 48, 49, 50, 52, 53, 55, 56, 57, 59, 60, 62, 63, 64, 67, 69, 70, 72, 73, 74, 76, 77, 79, 80, 81, 83, 84, 86, 87, 88, 91, 92, 93, 96, 97, 98, 101, 102, 103, 106, 107, 108, 111, 112, 113, 115, 116, 118, 119, 120, 123, 124, 125, 127, 128, 130, 131, 132, 134, 135, 137, 138, 139, 142, 143] (fun _ => by kernel_rfl)
/-! where the top ends: each object is one that the head's table names, one of the boot's, a def of the text, or one of those written here; the looks are at this state, each by itself -/
noncomputable def endK (P : Params) (a : Nat) : Obj := ((hd.heap_1 P).lookup a).getD default
noncomputable def endFn (i : Nat) : Obj := match PySem.Challenge.pw_ti0024_01.main.body.drop i with
  | .FunctionDef n ps b _ _ _ sc _ _ _ :: _ => { cls := .none, data := .func { name := n, qualname := n, params := ps, body := .stmts b, scope := sc, globals := 0, closure := [], defaults := .none, kwdefaults := .none } }
  | _ => default
noncomputable def endE : Obj := { cls := .none, data := .fields #[] }
noncomputable def endEnt (P : Params) (s : String) (k : Nat) (v : Int) (t : Nat) : DictEntry := { hash := PyData.keyHash P (Str.ofString s), key := .str (Str.ofString s) k, val := .int v t }
noncomputable def end11 : Obj := { cls := .type "tuple", data := .seq #[] }
noncomputable def end12 : Obj := { cls := .none, data := .fields ([(5, 20), (11, 27), (50, 34), (52, 41), (54, 48), (56, 55), (61, 62), (119, 72), (121, 79), (123, 86), (126, 91), (129, 96), (134, 101), (147, 106), (151, 111), (163, 118), (168, 123), (182, 130), (192, 137), (198, 142)].flatMap fun x : Int × Nat => [.int x.1 0, .int 0 0, .ref x.2]).toArray }
noncomputable def end13 : Obj := { cls := .type "code", data := .fields #[.str (Str.ofString "<module>") 182, .str (Str.ofString "<module>") 183, .str (Str.ofString "/claim/cut.py") 184, .int 1 0, .int 0 0, .int 0 0, .int 0 0, .int 0 0, .ref 11, .bool false, .int 181 0, .ref 12, .none, .none, .none, .none, .int 185 0, .int 1 0, .str (Str.ofString "/claim/cut.py") 186] }
noncomputable def end14 : Obj := { cls := .type "frame", slots := #[some (.ref 13), some (.ref 3), some (.ref 3), none, some (.str (Str.ofString "__main__") 164), none, some (.ref 0)] }
noncomputable def end65 (P : Params) : Obj := { cls := .type "dict", data := .dict ([endEnt P "->" 403 51 359, endEnt P "." 405 23 303, endEnt P "..." 407 52 361, endEnt P "/" 409 17 291, endEnt P "//" 411 47 351, endEnt P "//=" 413 48 353, endEnt P "/=" 415 39 335, endEnt P ":" 417 11 279, endEnt P ":=" 419 53 363, endEnt P ";" 421 13 283, endEnt P "<" 423 20 297, endEnt P "<<" 425 33 323, endEnt P "<<=" 427 44 345, endEnt P "<=" 429 29 315, endEnt P "=" 431 22 301, endEnt P "==" 433 27 311, endEnt P ">" 435 21 299]).toArray 17 }
noncomputable def end66 (P : Params) : Obj := { cls := .type "dict", data := .dict ([endEnt P ">=" 437 30 317, endEnt P ">>" 438 34 325, endEnt P ">>=" 439 45 347, endEnt P "@" 440 49 355, endEnt P "@=" 441 50 357, endEnt P "[" 442 9 275, endEnt P "]" 443 10 277, endEnt P "^" 444 32 321, endEnt P "^=" 445 43 343, endEnt P "{" 446 25 307, endEnt P "|" 447 18 293, endEnt P "|=" 448 42 341, endEnt P "}" 449 26 309, endEnt P "~" 450 31 319]).toArray 14 }
noncomputable def endObjs (P : Params) : List Obj := [
  boot_o_0 P, boot_o_1 P, endK P 2, endK P 3, boot_o_4 P, boot_o_5 P, boot_o_6 P, boot_o_7 P, boot_o_8 P, boot_o_9 P, boot_o_10 P, end11, end12, end13, end14, endK P 15,
  endE, endK P 17, endK P 18, endFn 4, endK P 20, endK P 21, endK P 22, endE, endK P 24, endK P 25, endFn 5, endK P 27, endK P 28, endK P 29, endE, endK P 31,
  endK P 32, endFn 7, endK P 34, endK P 35, endK P 36, endE, endK P 38, endK P 39, endFn 8, endK P 41, endK P 42, endK P 43, endE, endK P 45, endK P 46, endFn 9,
  endK P 48, endK P 49, endK P 50, endE, endK P 52, endK P 53, endFn 10, endK P 55, endK P 56, endK P 57, endE, endK P 59, endK P 60, endFn 11, endK P 62, endK P 63,
  endK P 64, end65 P, end66 P, endK P 67, endE, endK P 69, endK P 70, endFn 64, endK P 72, endK P 73, endK P 74, endE, endK P 76, endK P 77, endFn 65, endK P 79,
  endK P 80, endK P 81, endE, endK P 83, endK P 84, endFn 66, endK P 86, endK P 87, endK P 88, endE, endFn 68, endK P 91, endK P 92, endK P 93, endE, endFn 69,
  endK P 96, endK P 97, endK P 98, endE, endFn 70, endK P 101, endK P 102, endK P 103, endE, endFn 71, endK P 106, endK P 107, endK P 108, endE, endFn 72, endK P 111,
  endK P 112, endK P 113, endE, endK P 115, endK P 116, endFn 73, endK P 118, endK P 119, endK P 120, endE, endFn 74, endK P 123, endK P 124, endK P 125, endE, endK P 127,
  endK P 128, endFn 75, endK P 130, endK P 131, endK P 132, endE, endK P 134, endK P 135, endFn 76, endK P 137, endK P 138, endK P 139, endE, endFn 77, endK P 142, endK P 143]
noncomputable def endState (P : Params) (os : OsState) : Shared := ⟨⟨(endObjs P).toArray, {}⟩, Array.mk [], {}, 571, os⟩
noncomputable def endSee (s : Shared) : List (Option Obj) × Nat × Life × Array GenState × Drawn × Nat × OsState := ((List.range 144).map s.heap.get?, s.heap.objs.size, s.heap.life, s.gens, s.drawn, s.toks, s.os)
noncomputable def RunTo (w : World) (os : OsState) : Prop :=
  (PySem.W.Fast.tw14082659384304107361 PySem.W.Fast.tw14364793385576792824 PySem.Challenge.pw_ti0024_01 w 11 (some (.ref 6)) 4306 ⟨boot_heap w.params, Array.mk [], boot_drawn, boot_toks, os⟩ (topStub PySem.Challenge.pw_ti0024_01)).map endSee = some ((endObjs w.params).map some, 144, {}, Array.mk [], {}, 571, os)
theorem map_range_get {l : List Obj} {n : Nat} (h : l.length = n) : (List.range n).map (fun i => l[i]?) = l.map some := by
  subst h
  apply List.ext_getElem (by simp)
  intro i h1 h2
  simp at h1
  simp [h1]
theorem end_of {s : Shared} {P : Params} {os : OsState} (e : endSee s = ((endObjs P).map some, 144, {}, Array.mk [], {}, 571, os)) : s = endState P os := by
  obtain ⟨⟨⟨objs⟩, life⟩, gens, drawn, toks, os'⟩ := s
  unfold endSee at e
  simp only [Prod.mk.injEq] at e
  obtain ⟨h1, h2, rfl, rfl, rfl, rfl, rfl⟩ := e
  have h3 : objs = endObjs P := by
    refine List.map_inj_right (fun _ _ h => Option.some.inj h) |>.mp (Eq.trans ?_ h1)
    rw [← map_range_get (l := objs) (n := 144) h2]
    refine List.map_congr_left fun i hi => ?_
    obtain ⟨o, ho⟩ : ∃ o, Heap.get? ⟨⟨objs⟩, {}⟩ i = some o := by
      have : Heap.get? ⟨⟨objs⟩, {}⟩ i ∈ (endObjs P).map some := h1 ▸ List.mem_map_of_mem hi
      obtain ⟨o, _, e⟩ := List.mem_map.mp this
      exact ⟨o, e.symm⟩
    rw [ho]
    unfold Heap.get? at ho
    simp only [List.getElem?_toArray] at ho
    split at ho
    · cases ho
    · exact ho
  subst h3
  rfl
theorem end0 : ∀ (w : World) os, RunTo (w.withFollow "special-get-raises" false) os := by
  intro w os
  delta RunTo
  kernel_rfl
theorem end1 : ∀ (w : World) os, RunTo (w.withFollow "special-get-raises" true) os := by
  intro w os
  delta RunTo
  kernel_rfl
theorem look_statics : ∀ (w : World) os, (staticsOk (importedModules PySem.Challenge.pw_ti0024_01.main.body) (boot_heap w.params) (endState w.params os).heap && namesBound PySem.Challenge.pw_ti0024_01 (endState w.params os).heap && gensDone (endState w.params os) && laidKept (boot_heap w.params) (endState w.params os).heap) = true := by
  intro w os
  kernel_rfl
theorem look_seen : ∀ (w : World) os, PySem.W.Fast.tw5160383126252970620 (R.mapR (fun x => x.name) (PySem.W.Fast.tw3399658132070893891 lawView)) (PySem.W.Fast.tw5991557255702980513 lawView) [] { (endState w.params os) with gens := #[] } = expectedOf lawView := by
  intro w os
  kernel_rfl
theorem look_blt : ∀ (w : World) os, (endState w.params os).heap.bltView = bltViewBooted := by
  intro w os
  kernel_rfl
theorem look_keys : ∀ (w : World) os, PySem.W.Fast.tw10880121769531294198 (endState w.params os).heap (PySem.W.Fast.tw821141287760084731 lawView lawLoose) (R.mapR (fun x => x.name) (PySem.W.Fast.tw3399658132070893891 lawView)) (R.mapR (fun x => x.fst) (PySem.W.Fast.tw7409074990110511671 lawView)) (R.mapR (fun x => x.name) (PySem.W.Fast.tw13664370479719496447 lawView (PySem.W.Fast.tw821141287760084731 lawView lawLoose))) = true := by
  intro w os
  kernel_rfl
theorem look_account : ∀ (w : World) os, PySem.W.Fast.tw14722251495701143533 (endState w.params os).heap (importedModules PySem.Challenge.pw_ti0024_01.main.body) = true := by
  intro w os
  kernel_rfl
theorem look_ns1 : ∀ (w : World) os, (endState w.params os).heap.isNs mainGlobals = true := by
  intro w os
  kernel_rfl
theorem look_ns2 : ∀ (w : World) os, (endState w.params os).heap.isNs builtinsNs = true := by
  intro w os
  kernel_rfl
theorem look_tables : ∀ (w : World) os, PySem.W.Fast.tw10994771534591457954 lawView (endState w.params os).heap = true := by
  intro w os
  kernel_rfl
theorem look_xt : ∀ (w : World) os, lawXt (endState w.params os) = true := by
  intro w os
  kernel_rfl
theorem look_gens : ∀ (w : World) os, (if true = true then (endState w.params os).gens.size == 0 else !leftWithCleanup (endState w.params os).gens) = true := by
  intro w os
  kernel_rfl
theorem look_tabs : ∀ (w : World) os, PySem.W.Fast.tw479339242167458305 lawView (endState w.params os) = true := by
  intro w os
  kernel_rfl
theorem look_pin : ∀ (w : World) os, PySem.W.Fast.tw16090120013241838585 lawView (PySem.W.Fast.tw3247288618530077131 lawView) (endState w.params os) = pinGoodD (drecsOf lawView) := by
  intro w os
  kernel_rfl
theorem look_plainE : ∀ (w : World) os, PySem.W.Fast.tw2386780881361962483 lawView (PySem.W.Fast.tw821141287760084731 lawView lawLoose) (endState w.params os) = plainGoodE lawView (looseW lawView lawLoose) := by
  intro w os
  kernel_rfl
theorem look_plainD : ∀ (w : World) os, PySem.W.Fast.tw11698064438423848299 lawView lawLoose (endState w.params os) = plainGoodD lawView lawLoose := by
  intro w os
  kernel_rfl
theorem look_wide : ∀ (w : World) os, PySem.W.Fast.tw7317090234206586261 lawView (endState w.params os) = wideGood lawView := by
  intro w os
  kernel_rfl
theorem look_cls : ∀ (w : World) os, PySem.W.Fast.tw7369524293546568484 lawView lawLoose (endState w.params os) = clsGoodW lawView lawLoose := by
  intro w os
  kernel_rfl
theorem look_obs : ∀ (w : World) os, lawHook.obs (endState w.params os) = lawHook.val w := by
  intro w os
  kernel_rfl
theorem nine {A B C D E F G H I : Type} {a a' : A} {b b' : B} {c c' : C} {d d' : D} {e e' : E} {f f' : F} {g g' : G} {h h' : H} {i i' : I} (ha : a = a') (hb : b = b') (hc : c = c') (hd : d = d') (he : e = e') (hf : f = f') (hg : g = g') (hh : h = h') (hi : i = i') :
    (a, b, c, d, e, f, g, h, i) = (a', b', c', d', e', f', g', h', i') := by rw [ha, hb, hc, hd, he, hf, hg, hh, hi]
theorem look_open (w : World) (os : OsState) : PySem.W.Fast.tw4187177175401517315 lawView lawLoose (importedModules PySem.Challenge.pw_ti0024_01.main.body) lawXt true (endState w.params os) = openGood lawView lawLoose := by
  delta PySem.W.Fast.tw4187177175401517315 openGood
  exact nine (look_seen w os) (look_blt w os) (look_both (look_both (look_both (look_both (look_both (look_both (look_keys w os) (look_account w os)) (look_ns1 w os)) (look_ns2 w os)) (look_tables w os)) (look_xt w os)) (look_gens w os))
    (look_tabs w os) (look_pin w os) (look_plainE w os) (look_plainD w os) (look_wide w os) (look_cls w os)
theorem run_of {w : World} {os : OsState} (h : RunTo w os) : RunOkT lawHook w os := by
  unfold RunTo at h
  obtain ⟨s, e, e'⟩ := Option.map_eq_some_iff.mp h
  obtain rfl := end_of e'
  unfold RunOkT
  rw [e]
  exact congrArg some (Prod.ext (look_statics w os) (Prod.ext (look_open w os) (look_obs w os)))
noncomputable def hd2 := fun walk => hd ⟨fun w os => run_of (end0 w os), fun w os => run_of (end1 w os), walk⟩

section
section
open PySem.Builtin.Str
/-- a text of its signs' numbers -/
noncomputable abbrev tx (l : List Nat) : Str := ⟨l.toArray⟩

theorem fm_range (l : List Nat) (i n : Nat) (h : i + n ≤ l.length) : ((List.range n).map fun (k : Nat) => ((i : Int) + 1 * (k : Int)).toNat).filterMap (l.toArray[·]?) = (l.drop i).take n := by
  induction n generalizing i with
  | zero => simp
  | succ n ih =>
    rw [List.range_succ_eq_map, List.map_cons, List.filterMap_cons]
    have hi : i < l.length := by omega
    have e0 : l.toArray[((i : Int) + 1 * ((0 : Nat) : Int)).toNat]? = some l[i] := by
      have : ((i : Int) + 1 * ((0 : Nat) : Int)).toNat = i := by omega
      rw [this]; simp [hi]
    rw [e0]
    simp only [List.map_map]
    have := ih (i + 1) (by omega)
    rw [List.drop_eq_getElem_cons hi, List.take_succ_cons, ← this]
    congr 3
    funext k
    simp only [Function.comp]
    omega

theorem slice_any (l : List Nat) (lo hi : Option Int) (i j : Nat) (hij : i ≤ j) (hj : j ≤ l.length)
   (hlo : (match lo with | none => (0 : Int) | some q => max 0 (min (if q < 0 then q + (l.length : Int) else q) (l.length : Int)) : Int) = (i : Int))
   (hhi : (match hi with | none => (l.length : Int) | some q => max 0 (min (if q < 0 then q + (l.length : Int) else q) (l.length : Int)) : Int) = (j : Int)) :
   Txt.slice (tx l) lo hi = tx ((l.drop i).take (j - i)) := by
  have e : strSliceIndices lo hi 1 (tx l).length = (List.range (j - i)).map fun (k : Nat) => ((i : Int) + 1 * (k : Int)).toNat := by
    have hn : (tx l).length = l.length := by simp [tx, Str.length]
    rw [hn]
    unfold strSliceIndices
    have h1 : (1 : Int) > 0 := by decide
    simp only [h1, if_true]
    have a3 : sliceRange (i : Int) (j : Int) 1 = (List.range (j - i)).map fun (k : Nat) => ((i : Int) + 1 * (k : Int)).toNat := by
      unfold sliceRange
      simp only [h1, if_true]
      congr 2
      split <;> omega
    cases lo <;> cases hi <;> simp only at hlo hhi ⊢ <;> first | rw [hlo, hhi]; exact a3 | (rw [hhi, hlo]; exact a3)
  unfold Txt.slice
  rw [e]
  split
  · rename_i h
    simp [tx, Str.length] at h ⊢
    have : i = 0 := by omega
    subst this
    simp
    rw [List.take_of_length_le (by omega)]
  · show Str.mk _ = Str.mk _
    rw [fm_range l i (j - i) (by omega)]

theorem slice_from (l : List Nat) (k : Nat) : Txt.slice (tx l) (some (k : Int)) none = tx (l.drop k) := by
  by_cases h : k ≤ l.length
  · rw [slice_any l _ _ k l.length h (Nat.le_refl _) (by simp; omega) rfl]
    rw [List.take_of_length_le (by simp)]
  · rw [slice_any l _ _ l.length l.length (Nat.le_refl _) (Nat.le_refl _) (by simp; omega) rfl]
    simp; omega
theorem slice_all (l : List Nat) : Txt.slice (tx l) none none = tx l := by
  rw [slice_any l _ _ 0 l.length (Nat.zero_le _) (Nat.le_refl _) rfl rfl]; simp
theorem slice_mid (l : List Nat) (i j : Nat) (hij : i ≤ j) : Txt.slice (tx l) (some (i : Int)) (some (j : Int)) = tx ((l.drop i).take (j - i)) := by
  by_cases h : i ≤ l.length
  · by_cases h2 : j ≤ l.length
    · rw [slice_any l _ _ i j hij h2 (by simp; omega) (by simp; omega)]
    · rw [slice_any l _ _ i l.length h (Nat.le_refl _) (by simp; omega) (by simp; omega)]
      rw [List.take_of_length_le (by simp), List.take_of_length_le (by simp; omega)]
  · rw [slice_any l _ _ l.length l.length (Nat.le_refl _) (Nat.le_refl _) (by simp; omega) (by simp; omega)]
    simp only [Nat.sub_self, List.take_zero]
    rw [List.drop_of_length_le (by omega)]
    simp
theorem slice_to (l : List Nat) (j : Nat) : Txt.slice (tx l) none (some (j : Int)) = tx (l.take j) := by
  by_cases h2 : j ≤ l.length
  · rw [slice_any l _ _ 0 j (Nat.zero_le _) h2 rfl (by simp; omega)]; simp
  · rw [slice_any l _ _ 0 l.length (Nat.zero_le _) (Nat.le_refl _) rfl (by simp; omega)]
    simp
    rw [List.take_of_length_le (by omega)]
theorem slice_to_neg (l : List Nat) (k : Nat) (hk : 0 < k) (h : k ≤ l.length) : Txt.slice (tx l) none (some (-(k : Int))) = tx (l.take (l.length - k)) := by
  rw [slice_any l _ _ 0 (l.length - k) (Nat.zero_le _) (by omega) rfl (by simp; omega)]; simp
theorem item_at (l : List Nat) (k : Nat) (h : k < l.length) : Txt.item (tx l) (k : Int) = tx [l[k]] := by
  unfold Txt.item Txt.charAt seqIndex?
  have h1 : ¬ ((k : Int) < 0) := by omega
  have hn : (tx l).length = l.length := by simp [Str.length]
  have h4 : (0 : Int) ≤ (k : Int) ∧ (k : Int) < (l.length : Int) := by omega
  simp [h1, h4, hn, h]
theorem item_neg (l : List Nat) (k : Nat) (h : k < l.length) : Txt.item (tx l) (-((k : Int) + 1)) = tx [l[l.length - 1 - k]] := by
  unfold Txt.item Txt.charAt seqIndex?
  have h1 : (-((k : Int) + 1) < 0) := by omega
  have hn : (tx l).length = l.length := by simp [tx, Str.length]
  have h2 : 0 ≤ -((k : Int) + 1) + (l.length : Int) ∧ -((k : Int) + 1) + (l.length : Int) < l.length := by omega
  have h3 : (-((k : Int) + 1) + (l.length : Int)).toNat = l.length - 1 - k := by omega
  have h5 : l.length - 1 - k < l.length := by omega
  simp [h1, hn, h2, h3, h5]
theorem len_tx (l : List Nat) : (tx l).length = l.length := by simp [tx, Str.length]
theorem tx_inj {l k : List Nat} : tx l = tx k ↔ l = k := by simp [tx]
theorem tx_beq (l k : List Nat) : (tx l == tx k) = decide (l = k) := by
  by_cases h : l = k
  · subst h; simp
  · have : tx l ≠ tx k := fun e => h (tx_inj.mp e)
    simp [h, this]
end
end

local macro_rules | `(tactic| walk_at $s:str) => `(tactic| k_extra $s)
noncomputable abbrev LS : List Str := looseW lawView ["EXACT_TOKEN_TYPES"]

/-- everything that stood stands -/
noncomputable abbrev Ext (h h' : Heap) : Prop := ∀ b o, h.get? b = some o → h'.get? b = some o

structure Mark (P : Prop) : Prop where
  out : P

/-- what every walk leans on -/
structure Base (w : World) (h : Heap) : Prop where
  X : (hd.heap_1 w.params).In h
  T : ∃ mean mg mb, Top lawView LS mean mg mb h
theorem Base.keeps {w : World} {h h' : Heap} (B : Base w h) (k : Ext h h') : Base w h' := ⟨B.X.keeps k, let ⟨a, b, c, T⟩ := B.T; ⟨a, b, c, T.keeps k⟩⟩
theorem Base.of {w : World} {h h' : Heap} {L : Addr} {m mg mb : Str → Option Value} {mean : ExcName → Option Value} (X : (hd.heap_1 w.params).In h) (T : Top lawView LS mean mg mb h) (F : Fr h L h' m) : Base w h' := ⟨X.keeps F.keep, _, _, _, T.keeps F.keep⟩

section
variable {prog : Program} {w : World} {A : Around} {E : Value → Shared → Prop} {s : Shared} {Q : Value → Shared → Prop}
theorem enter
    {name qual : Str} {params : Arguments} {body : List Stmt} {scope : Scope} {dV kV doc pm cdv ct oc : Value} {an od : Option Addr} {osl : Array (Option Value)} {f : Addr} {vs : List Value} {binds : List (Str × Value)}
    (B : Base w s.heap)
    (ho : (hd.heap_1 w.params).lookup f = some ⟨oc, od, .func (fnOf name qual params body scope dV kV doc pm an cdv ct), osl⟩) (hcd : codeIn (hd.heap_1 w.params) cdv qual = true) (hroom : A.depth < recursionLimit)
    (hbind : BindsTo s (fnOf name qual params body scope dV kV doc pm an cdv ct) ⟨vs, []⟩ binds) (hloc : ∀ y ∈ binds, scope.names.lookup y.1 = some .local)
    (h : ∀ mean mg mb L h₁ tk, (hd.heap_1 w.params).In s.heap → Top lawView LS mean mg mb s.heap → Fr s.heap L h₁ (fun y => binds.reverse.lookup y) → News s.heap L h₁ [] →
      wpAny (model prog w) (A.deeper (envOf qual scope L f cdv)) (execs body (envOf qual scope L f cdv))
        (fun fl s' => Q (match fl with | .ret v => v | _ => .none) s') (fun _ _ => False)
        { s with heap := h₁, toks := tk })
    (hco : scope.isCoroutine = false) (hgen : scope.isGenerator = false) (hk : scope.kind = .function)
    (hcell : ∀ x ∈ scope.names, x.2 ≠ .cell) : wpAny (model prog w) A (call (.ref f) vs) Q E s := by
  refine wpAny_call ?_
  obtain ⟨X, mean, mg, mb, T⟩ := B
  refine codeAny_call_def (fd := fnOf name qual params body scope dV kV doc pm an cdv ct) (body := body) (binds := binds) hroom (X _ _ ho) rfl T.nolimit (codeRec_of X hcd) rfl hbind hcell hloc (fun h₁ hns hk₁ => ?_) hco hgen hk
  exact wpAny_mono (h _ _ _ _ h₁ _ X T ⟨hns, hk₁, Nat.le_refl _⟩ News.nil) (fun _ _ x => x) fun _ _ x => x.elim
end

section
variable {α : Type} {M : Model} {A : Around} {E : Value → Shared → Prop} {s : Shared} {h₀ : Heap} {L : Addr} {m : Str → Option Value} {news : List (Addr × Obj)}
/-- where a tree that stores nothing ends: its value, and a ground as before -/
noncomputable def CutPost (h₀ : Heap) (L : Addr) (m : Str → Option Value) (news : List (Addr × Obj)) (s : Shared) (R : α → Prop) (v : α) (s₂ : Shared) : Prop :=
  R v ∧ ∃ h' tk', s₂ = { s with heap := h', toks := tk' } ∧ Fr h₀ L h' m ∧ News h₀ L h' news
theorem cut {t : Sem α} {Q : α → Shared → Prop} (R : α → Prop) (F : Fr h₀ L s.heap m) (N : News h₀ L s.heap news)
    (h1 : Fr h₀ L s.heap m → News h₀ L s.heap news → wpAny M A t (fun v s₂ => Mark (CutPost h₀ L m news s R v s₂)) E s)
    (h2 : ∀ v h' tk', R v → Fr h₀ L h' m → News h₀ L h' news → Q v { s with heap := h', toks := tk' }) : wpAny M A t Q E s := by
  refine wpAny_mono (h1 F N) (fun v s₂ x => ?_) fun _ _ x => x
  obtain ⟨hR, h', tk', rfl, F', N'⟩ := x.out
  exact h2 v h' tk' hR F' N'
theorem cut_end {R : α → Prop} {v : α} {h' : Heap} {tk' : Nat} (F : Fr h₀ L h' m) (N : News h₀ L h' news) (h : R v) : Mark (CutPost h₀ L m news s R v { s with heap := h', toks := tk' }) :=
  ⟨h, h', tk', rfl, F, N⟩
end
/-- what a frame says of some names -/
noncomputable def Has (m : Str → Option Value) (ps : List (Str × Value)) : Prop := ∀ p ∈ ps, m p.1 = some p.2
theorem Has.nil {m : Str → Option Value} : Has m [] := fun _ hp => nomatch hp
theorem Has.cons {m : Str → Option Value} {x : Str} {v : Value} {ps : List (Str × Value)} (h : m x = some v) (t : Has m ps) : Has m ((x, v) :: ps) := fun p hp => by
  cases hp with
  | head => exact h
  | tail _ hp => exact t p hp
/-- the names that count, ahead of all else -/
theorem canon {h₀ h : Heap} {L : Addr} {m : Str → Option Value} (F : Fr h₀ L h m) (ps : List (Str × Value)) (hk : Has m ps) : ∃ u, Fr h₀ L h (kstB u ps) := by
  refine ⟨m, ?_⟩
  have e : kstB m ps = m := by
    funext z
    exact kstB_eq hk fun _ => rfl
  rw [e]
  exact F

/-- a statement that binds one name and does no more -/
theorem cutA {M : Model} {A : Around} {E : Value → Shared → Prop} {s : Shared} {h₀ : Heap} {L : Addr} {m : Str → Option Value} {news : List (Addr × Obj)} {st : Stmt} {env : Env} {Q : Flow → Shared → Prop} (x : Str) (val : Tok → Value) (F : Fr h₀ L s.heap m) (N : News h₀ L s.heap news)
    (h1 : wpAny M A (exec st env) (fun f s₂ => Mark (f = .next ∧ ∃ h' tk' t', s₂ = { s with heap := h', toks := tk' } ∧ Fr h₀ L h' (fun y => if y = x then some (val t') else m y) ∧ News h₀ L h' news)) E s)
    (h2 : ∀ h' tk' t', Fr h₀ L h' (fun y => if y = x then some (val t') else m y) → News h₀ L h' news → Q .next { s with heap := h', toks := tk' }) : wpAny M A (exec st env) Q E s := by
  refine wpAny_mono h1 (fun v s₂ x => ?_) fun _ _ x => x
  obtain ⟨rfl, h', tk', t', rfl, F', N'⟩ := x.out
  exact h2 h' tk' t' F' N'
theorem cutA_end {s : Shared} {h₀ : Heap} {L : Addr} {m : Str → Option Value} {news : List (Addr × Obj)} {x : Str} {val : Tok → Value} {h' : Heap} {tk' : Nat} {t' : Tok} {v : Value} (e : v = val t') (F : Fr h₀ L h' (fun y => if y = x then some v else m y)) (N : News h₀ L h' news) :
   Mark (Flow.next = .next ∧ ∃ h'' tk'' t', { s with heap := h', toks := tk' } = { s with heap := h'', toks := tk'' } ∧ Fr h₀ L h'' (fun y => if y = x then some (val t') else m y) ∧ News h₀ L h'' news) := by
  subst e
  exact ⟨rfl, h', tk', t', rfl, F, N⟩
/-- a statement that stores names alone: what is said of the frame behind it -/
noncomputable def CutS (h₀ : Heap) (L : Addr) (news : List (Addr × Obj)) (s : Shared) (K : (Str → Option Value) → Prop) (f : Flow) (s₂ : Shared) : Prop :=
  f = .next ∧ ∃ h' tk' m', s₂ = { s with heap := h', toks := tk' } ∧ Fr h₀ L h' m' ∧ News h₀ L h' news ∧ K m'
theorem cutS {M : Model} {A : Around} {E : Value → Shared → Prop} {s : Shared} {h₀ : Heap} {L : Addr} {news : List (Addr × Obj)} {st : Stmt} {env : Env} {Q : Flow → Shared → Prop} (K : (Str → Option Value) → Prop)
    (h1 : wpAny M A (exec st env) (fun f s₂ => Mark (CutS h₀ L news s K f s₂)) E s)
    (h2 : ∀ h' tk' m', K m' → Fr h₀ L h' m' → News h₀ L h' news → Q .next { s with heap := h', toks := tk' }) : wpAny M A (exec st env) Q E s := by
  refine wpAny_mono h1 (fun v s₂ x => ?_) fun _ _ x => x
  obtain ⟨rfl, h', tk', m', rfl, F', N', k⟩ := x.out
  exact h2 h' tk' m' k F' N'
theorem cutS_end {s : Shared} {h₀ : Heap} {L : Addr} {m' : Str → Option Value} {news : List (Addr × Obj)} {K : (Str → Option Value) → Prop} {h' : Heap} {tk' : Nat} (F : Fr h₀ L h' m') (N : News h₀ L h' news) (k : K m') :
   Mark (CutS h₀ L news s K .next { s with heap := h', toks := tk' }) := ⟨rfl, h', tk', m', rfl, F, N, k⟩
theorem news_sub {h₀ h : Heap} {L : Addr} {news news' : List (Addr × Obj)} (N : News h₀ L h news) (hs : ∀ p ∈ news', p ∈ news) : News h₀ L h news' := fun p hp => N p (hs p hp)
/-- what stands around a call: nothing handled -/
noncomputable abbrev top0 (dp un : Nat) (fr : Option (List Env)) (gd : Option (List Code)) : Around := { handled := none, depth := dp, frames := fr, guards := gd, units := un }
theorem ints_of {f : Nat → Int} : ∀ (vs : List Value) (n : Nat), vs.length = n → (∀ (j : Nat) (v : Value), vs[j]? = some v → ∃ t, v = Value.int (f j) t) → IntsAre vs ((List.range n).map f)
  | [], n, e, _ => by subst e; exact IntsAre.nil
  | v :: r, n, e, h => by
    subst e
    obtain ⟨t, rfl⟩ := h 0 v rfl
    rw [List.length_cons, List.range_succ_eq_map, List.map_cons, List.map_map]
    exact IntsAre.cons _ _ (ints_of (f := fun k => f (k + 1)) r r.length rfl fun j v hj => h (j + 1) v hj)
theorem list_range_N {prog : Program} {w : World} {A : Around} {E : Value → Shared → Prop} {s : Shared} {h₀ : Heap} {L r : Addr} {m : Str → Option Value} {news : List (Addr × Obj)} {a b c : Int} {t₀ u₀ v₀ : Tok} {Q : Value → Shared → Prop} (n : Nat)
    (hh : A.handled = none) (F : Fr h₀ L s.heap m) (N : News h₀ L s.heap news) (hr : IsRange s.heap r a b c t₀ u₀ v₀) (hsmall : Builtin.Range.small a b c = true) (hn : Builtin.Range.rangeSize a b c = (n : Int)) (hz : n ≤ 2 ^ 24)
    (h : ∀ D us k h' tk, Fr h₀ L h' m → News h₀ L h' ((D, listOf (List.toArray us) k) :: news) → (∀ p ∈ news, p.1 < D) → IntsAre us ((List.range n).map fun (j : Nat) => a + (j : Int) * c) → Q (.ref D) { s with heap := h', toks := tk }) :
    wpAny (model prog w) A (call (.type "list") [.ref r]) Q E s := by
  refine call_list_range hh hr hsmall hn hz fun h' tk acc k hk hD hI => ?_
  have hD' : h'.get? s.heap.objs.size = some (listOf (List.toArray acc.toList) k) := by
    rw [Array.toArray_toList]
    exact hD
  exact h _ acc.toList k h' tk (F.keeps hk) (news_pushed F N hk hD' rfl) (fun p hp => Heap.lt_size (N p hp).1) (ints_of _ _ (by rw [Array.length_toList]; exact hI.1) fun j v hj => hI.2 j v (by rw [← hj, Array.getElem?_toList]))
/-- a word that lets the walk go on at a row where it is to wait -/
structure Go (n : Nat) : Prop where
  go : True
noncomputable abbrev mapOf {h₀ h : Heap} {L : Addr} {m : Str → Option Value} (_ : Fr h₀ L h m) : Str → Option Value := m
/-- a def of the text: its statements, its scope -/
noncomputable def defOf (n : Str) : List Stmt × Scope := (PySem.Challenge.pw_ti0024_01.main.body.findSome? fun st => match st with
  | .FunctionDef m _ b _ _ _ sc _ _ _ => if m == n then some (b, sc) else none
  | _ => none).getD ([], default)
noncomputable def bodyOf (n : Str) : List Stmt := (defOf n).1
noncomputable def scopeOf (n : Str) : Scope := (defOf n).2
section
variable {prog : Program} {w : World} {A : Around} {E : Value → Shared → Prop} {s : Shared} {env : Env} {h₀ : Heap} {x : Str} {body : List Stmt} {Q : Flow → Shared → Prop} {σ : Type}
/-- what a loop keeps: the letters' ledger, the names that count, a word of the turn's number -/
noncomputable def KsS (Led : σ → List (Addr × Obj)) (ps : σ → List (Str × Value)) (P : Nat → σ → Prop) (i : Nat) (m : Str → Option Value) (nx : List (Addr × Obj)) : Prop :=
  ∃ c : σ, nx = Led c ∧ (∀ p ∈ ps c, m p.1 = some p.2) ∧ P i c
theorem ks_fr {L : Addr} {h : Heap} {ps : List (Str × Value)} {m : Str → Option Value} {v : Value} (h1 : ∀ p ∈ ps, m p.1 = some p.2) (F : Fr h₀ L h (fun y => if y = x then some v else m y)) :
    Fr h₀ L h (fun y => if y = x then some v else kstB m ps y) := by
  have e : kstB m ps = m := by
    funext z
    exact kstB_eq h1 fun _ => rfl
  rw [e]
  exact F
theorem ks_walk {I : Addr} {fp wr : List Addr} {n : Nat} {PI : Nat → Value → Prop} {St : Nat → Heap → Prop} {m₀ : Str → Option Value} (Led : σ → List (Addr × Obj)) (ps : σ → List (Str × Value)) (P : Nat → σ → Prop) (c₀ : σ)
    (W : Walks prog w A I fp wr n PI St) (hLf : env.locals ∉ fp) (hwr : ∀ b ∈ wr, h₀.get? b = none) (hnw : ∀ p ∈ Led c₀, p.1 ∉ wr) (hfp : ∀ q ∈ Led c₀, q.1 ∉ fp) (hst : St 0 s.heap) (F : Fr h₀ env.locals s.heap m₀) (N : News h₀ env.locals s.heap (Led c₀))
    (hk : Has m₀ (ps c₀)) (hp : P 0 c₀)
    (turn : ∀ (c : σ) i v (u : Str → Option Value) h tk own, i < n → PI i v → OwnOff own ((Led c₀).map (·.1)) → P i c →
      Fr h₀ env.locals h (fun y => if y = x then some v else kstB u (ps c) y) → News h₀ env.locals h (Led c ++ own) →
      wpAny (model prog w) A (execs body env) (InvPostN h₀ env.locals (KsS Led ps P (i + 1)) own ((Led c₀).map (·.1)) { s with heap := h, toks := tk } Q) E { s with heap := h, toks := tk })
    (done : ∀ (c : σ) (u : Str → Option Value) h tk, P n c → Fr h₀ env.locals h (kstB u (ps c)) → News h₀ env.locals h (Led c) → Q .next { s with heap := h, toks := tk }) :
    LoopAtV prog w A h₀ env x body Q E (.ref I) s := by
  refine loop_invN (fun i m nx => KsS Led ps P i m nx) W hLf hwr hnw hfp hst F N ⟨c₀, rfl, hk, hp⟩ ?_ ?_
  · rintro i v m₁ nx h tk own hi hv _ hoff ⟨c, rfl, h1, hp'⟩ F₁ N₁
    exact turn c i v m₁ h tk own hi hv hoff hp' (ks_fr h1 F₁) N₁
  · rintro m₁ nx h tk ⟨c, rfl, h1, hp'⟩ F₁ N₁
    obtain ⟨u, F₂⟩ := canon F₁ (ps c) h1
    exact done c u h tk hp' F₂ N₁
theorem ks_range {r : Addr} {b₀ : Int} {t₀ u₀ v₀ : Tok} {n : Nat} {m₀ : Str → Option Value} (Led : σ → List (Addr × Obj)) (ps : σ → List (Str × Value)) (P : Nat → σ → Prop) (c₀ : σ)
    (hh : A.handled = none) (hr : IsRange s.heap r 0 b₀ 1 t₀ u₀ v₀) (hb : b₀ = (n : Int)) (hz : n ≤ 1000) (F : Fr h₀ env.locals s.heap m₀) (N : News h₀ env.locals s.heap (Led c₀)) (hk : Has m₀ (ps c₀)) (hp : P 0 c₀)
    (turn : ∀ (c : σ) (i : Nat) t (u : Str → Option Value) h tk own, i < n → OwnOff own ((Led c₀).map (·.1)) → P i c →
      Fr h₀ env.locals h (fun y => if y = x then some (.int (i : Int) t) else kstB u (ps c) y) → News h₀ env.locals h (Led c ++ own) →
      wpAny (model prog w) A (execs body env) (InvPostN h₀ env.locals (KsS Led ps P (i + 1)) own ((Led c₀).map (·.1)) { s with heap := h, toks := tk } Q) E { s with heap := h, toks := tk })
    (done : ∀ (c : σ) (u : Str → Option Value) h tk, P n c → Fr h₀ env.locals h (kstB u (ps c)) → News h₀ env.locals h (Led c) → Q .next { s with heap := h, toks := tk }) :
    wpAny (model prog w) A (pyIter (.ref r)) (fun it s₂ => LoopAtV prog w A h₀ env x body Q E it s₂) E s := by
  subst hb
  have hn : Builtin.Range.rangeSize 0 (n : Int) 1 = (n : Int) := by rw [rangeSize_one]; split <;> omega
  refine wpAny_pyIter_range hr (small_one (by omega) (by omega) (by omega) (by omega)) ?_
  have W : Walks prog w A s.heap.objs.size [s.heap.objs.size] [s.heap.objs.size] n (fun i v => i < n ∧ ∃ t, v = .int (0 + i * 1) t)
      (fun i h => IsRangeIter h s.heap.objs.size (0 + (i : Nat) * 1) ((n : Int) - (i : Nat)) 1) := (Walks.range hh _ 0 1 n).bound
  refine ks_walk Led ps P c₀ W ?_ ?_ ?_ ?_ (by show IsRangeIter _ _ _ _ _; rw [hn]; simpa using Heap.get?_push_size _ rfl) (F.push _) (fun p hp => ⟨Heap.get?_push_of_some _ (N p hp).1, (N p hp).2⟩) hk hp ?_ ?_
  · intro hm
    exact absurd F.ns.lt ((List.mem_singleton.mp hm) ▸ Nat.lt_irrefl _)
  · intro b hb
    rw [List.mem_singleton.mp hb]
    exact next_is_new F
  · intro p hp hI
    exact absurd (Heap.lt_size (N p hp).1) ((List.mem_singleton.mp hI) ▸ Nat.lt_irrefl _)
  · intro p hp hI
    exact absurd (Heap.lt_size (N p hp).1) ((List.mem_singleton.mp hI) ▸ Nat.lt_irrefl _)
  · rintro c i v u h tk own hi ⟨_, t, rfl⟩ hoff hP F₁ N₁
    have e1 : (0 : Int) + (i : Int) * 1 = (i : Int) := by omega
    rw [e1] at F₁
    exact turn c i t u h tk own hi hoff hP F₁ N₁
  · exact done
theorem ks_end {Led : σ → List (Addr × Obj)} {ps : σ → List (Str × Value)} {P : Nat → σ → Prop} {i : Nat} (c : σ) {L : Addr} {m' : Str → Option Value} {own news' : List (Addr × Obj)} {adr : List Addr} {s₁ : Shared} {h' : Heap} {tk : Nat}
    (F : Fr h₀ L h' m') (N : News h₀ L h' news') (hn : ∀ p ∈ Led c, p ∈ news') (ho : ∀ p ∈ own, p ∈ news') (ha : (Led c).map (·.1) = adr) (hk : Has m' (ps c)) (hp : P i c) :
    InvEndN h₀ L (KsS Led ps P i) own adr s₁ { s₁ with heap := h', toks := tk } :=
  InvEndN.intro F N ⟨c, rfl, hk, hp⟩ ha hn ho
end
section
variable {prog : Program} {w : World} {A : Around} {E : Value → Shared → Prop} {s : Shared} {env : Env} {h₀ : Heap} {L : Addr} {Q : Flow → Shared → Prop} {σ : Type}
noncomputable def KwEnd (h₀ : Heap) (L : Addr) (s : Shared) (Led : σ → List (Addr × Obj)) (ps : σ → List (Str × Value)) (P : σ → Prop) (μ : σ → Nat) (c : σ) (s₂ : Shared) : Prop :=
  ∃ (c' : σ) (h' : Heap) (tk : Nat) (m' : Str → Option Value) (news' : List (Addr × Obj)), s₂ = { s with heap := h', toks := tk } ∧ Fr h₀ L h' m' ∧ News h₀ L h' news' ∧ (∀ p ∈ Led c', p ∈ news') ∧ (∀ p ∈ ps c', m' p.1 = some p.2) ∧ P c' ∧ μ c' < μ c
noncomputable def KwPost (h₀ : Heap) (L : Addr) (s : Shared) (Led : σ → List (Addr × Obj)) (ps : σ → List (Str × Value)) (P : σ → Prop) (μ : σ → Nat) (Q : Flow → Shared → Prop) (c : σ) (f : Flow) (s₂ : Shared) : Prop :=
  match f with
  | .ret v => Q (.ret v) s₂
  | .brk => Q .next s₂
  | _ => Mark (KwEnd h₀ L s Led ps P μ c s₂)
theorem kw_end {Led : σ → List (Addr × Obj)} {ps : σ → List (Str × Value)} {m' : Str → Option Value} {P : σ → Prop} {μ : σ → Nat} {c : σ} {h' : Heap} {tk : Nat} {news' : List (Addr × Obj)} (c' : σ)
    (F : Fr h₀ L h' m') (N : News h₀ L h' news') (hn : ∀ p ∈ Led c', p ∈ news') (hk : Has m' (ps c')) (hp : P c') (hm : μ c' < μ c) :
    Mark (KwEnd h₀ L s Led ps P μ c { s with heap := h', toks := tk }) := ⟨c', h', tk, m', news', rfl, F, N, hn, hk, hp, hm⟩
theorem ks_while {test : Expr} {body : List Stmt} {pos : Pos} {m₀ : Str → Option Value} (Led : σ → List (Addr × Obj)) (ps : σ → List (Str × Value)) (P : σ → Prop) (μ : σ → Nat) (c₀ : σ)
    (F : Fr h₀ L s.heap m₀) (N : News h₀ L s.heap (Led c₀)) (hk : Has m₀ (ps c₀)) (hp : P c₀)
    (turn : ∀ (c : σ) (u : Str → Option Value) h tk, P c → Fr h₀ L h (kstB u (ps c)) → News h₀ L h (Led c) →
      wpAny (model prog w) A (isTrue test env (eval test env)) (fun b s₂ =>
        if b = true then wpAny (model prog w) A (execs body env) (KwPost h₀ L s Led ps P μ Q c) E s₂ else Q .next s₂) E { s with heap := h, toks := tk })
    (hE : PassesOwn (model prog w) A env E) :
    wpAny (model prog w) A (exec (.While test body [] pos) env) Q E s := by
  refine While_inv2 (fun n m nx => ∃ c : σ, nx = Led c ∧ μ c = n ∧ (∀ p ∈ ps c, m p.1 = some p.2) ∧ P c) F N ⟨c₀, rfl, rfl, hk, hp⟩ ?_ hE
  rintro n m₁ nx h tk F₁ N₁ ⟨c, hnx, hsz, h1, hp'⟩
  rw [hnx] at N₁
  rw [← hsz]
  obtain ⟨u, F₂⟩ := canon F₁ (ps c) h1
  refine wpAny_mono (turn c u h tk hp' F₂ N₁) (fun b s₂ p => ?_) fun _ _ x => x
  cases b with
  | false => simpa using p
  | true =>
    simp only [if_true] at p ⊢
    refine wpAny_mono p (fun f s₃ q => ?_) fun _ _ x => x
    cases f with
    | ret v => exact q
    | brk => exact q
    | next =>
      obtain ⟨c', h', tk', m', news', rfl, F', N', hn, hk9, hp9, hm9⟩ := q.out
      exact ⟨h', tk', m', Led c', μ c', rfl, F', fun p hp => N' p (hn p hp), hm9, c', rfl, rfl, hk9, hp9⟩
    | cont =>
      obtain ⟨c', h', tk', m', news', rfl, F', N', hn, hk9, hp9, hm9⟩ := q.out
      exact ⟨h', tk', m', Led c', μ c', rfl, F', fun p hp => N' p (hn p hp), hm9, c', rfl, rfl, hk9, hp9⟩
end
theorem passes_none {M : Model} {A : Around} {env : Env} : PassesOwn M A env (fun _ _ => False) := by passes_own

local macro_rules | `(tactic| k_all) => `(tactic| assumption)
example : True := by
  (k_with "ENTER" => (
  k_dflt ((case k6 => k_is); (case k7 => k_is); (case k8 => walk_at "DEPTH"); (case k9 => exact BindsTo.of_eq rfl); (case c5 => decide); (case kB => exact locs rfl); (case c2 => exact rfl); (case c3 => exact rfl); (case c4 => exact rfl))))
  (k_with "exec While" => (refine Mark.out ?_))
  (k_with "exec For" => (refine Mark.out ?_))
  (k_with "pyIter ref" => (refine Mark.out ?_))
  (k_with "KwPost" => (dsimp only [KwPost]))
  (k_with "KswEnd" => (refine Mark.out ?_))
  (k_with "InvEndN" => (refine Mark.out ?_))
  (k_with "DONE" => ((try dsimp only); (try k_unfold); (try dsimp only)))
  (k_with "KEPT" => (
  intro _ _ _ K'
  (with_reducible rename Fr _ _ _ _ => kF)
  (with_reducible rename News _ _ _ _ => kN)
  replace kF := Fr.keeps kF K'
  replace kN := News.grown kN K'
  clear K'
  (try dsimp only)
  (try k_fold)
  (try (revert kF; intro _))
  (try (revert kN; intro _))))
  (k_with "DEPTH" => (dsimp only [top0, Around.deeper, Around.in1]; omega))
  (k_with "HAS" => (repeat' (first | exact Has.nil | refine Has.cons (Eq.refl (some _)) ?_ | refine Has.cons (by assumption) ?_ | refine Has.cons (congrArg (fun i => some (Value.int i _)) (by dsimp only; omega)) ?_)))
  (k_with "HK" => (first
  | ((with_reducible show Has _ _); walk_at "HAS"; done)
  | ((with_reducible rename Fr _ _ _ _ => kF); (show Has (mapOf kF) _); walk_at "HAS"; done)
  | (intro _ hp; (repeat' (first | (cases hp with | head => (first | rfl | assumption | (refine congrArg (fun i => some (Value.int i _)) ?_; dsimp only; omega)) | tail _ hp => ?_) | (cases hp)))); (try (revert hp; intro _)); (try (revert kF; intro _))))
  (k_with "HR" => (
  intro _ hz hz2
  (simp only [List.forall_mem_cons, List.not_mem_nil, false_implies, implies_true, and_true, List.contains_cons, List.contains_nil, Bool.or_false, Bool.or_eq_false_iff, beq_eq_false_iff_ne, ne_eq] at hz hz2)
  (simp [kstB, hz, hz2])
  (try (revert hz; intro _))
  (try (revert hz2; intro _))))
  trivial

example : True := by
  w_top off
  first
    | (have h : PySem.Challenge.rw_ti0024_01.Holds := hd (by
        k_fill
        fail)
       trivial)
    | trivial
section
variable {prog : Program} {w : World} {dp un : Nat} {fr : Option (List Env)} {gd : Option (List Code)} {E : Value → Shared → Prop} {s : Shared} {Q : Value → Shared → Prop}

theorem add_ints (B : Base w s.heap) (hdp : dp + 3 < recursionLimit)
   (a b : Int) (ta tb : Tok)
   (hQ : ∀ h' tk t, Ext s.heap h' → Q (.int (a + b) t) { s with heap := h', toks := tk }) :
   wpAny (model prog w) (top0 dp un fr gd) (call (.ref 35) [.int a ta, .int b tb]) Q E s := by
  refine' enter (binds := [("a", .int a ta), ("b", .int b tb)]) B ?k6 ?k7 ?k8 ?k9 ?kB ?_ ?c2 ?c3 ?c4 ?c5
  walk_at "ENTER"
  intro mean mg mb L h₁ tk X T F N; k_fold
  k_steps
  walk_at "DONE"
  exact hQ _ _ _ F.keep
theorem sub_ints (B : Base w s.heap) (hdp : dp + 3 < recursionLimit)
   (a b : Int) (ta tb : Tok)
   (hQ : ∀ h' tk t, Ext s.heap h' → Q (.int (a - b) t) { s with heap := h', toks := tk }) :
   wpAny (model prog w) (top0 dp un fr gd) (call (.ref 49) [.int a ta, .int b tb]) Q E s := by
  refine' enter (binds := [("a", .int a ta), ("b", .int b tb)]) B ?k6 ?k7 ?k8 ?k9 ?kB ?_ ?c2 ?c3 ?c4 ?c5
  walk_at "ENTER"
  intro mean mg mb L h₁ tk X T F N; k_fold
  k_steps
  walk_at "DONE"
  exact hQ _ _ _ F.keep
theorem mul_ints (B : Base w s.heap) (hdp : dp + 3 < recursionLimit)
   (a b : Int) (ta tb : Tok) (hm : IntMulOk a b)
   (hQ : ∀ h' tk t, Ext s.heap h' → Q (.int (a * b) t) { s with heap := h', toks := tk }) :
   wpAny (model prog w) (top0 dp un fr gd) (call (.ref 42) [.int a ta, .int b tb]) Q E s := by
  refine' enter (binds := [("a", .int a ta), ("b", .int b tb)]) B ?k6 ?k7 ?k8 ?k9 ?kB ?_ ?c2 ?c3 ?c4 ?c5
  walk_at "ENTER"
  intro mean mg mb L h₁ tk X T F N; k_fold
  k_steps
  walk_at "DONE"
  exact hQ _ _ _ F.keep
theorem isterm_int (B : Base w s.heap) (hdp : dp + 3 < recursionLimit)
   (a : Int) (ta : Tok)
   (hQ : ∀ h' tk, Ext s.heap h' → Q (.bool (decide (a < 256))) { s with heap := h', toks := tk }) :
   wpAny (model prog w) (top0 dp un fr gd) (call (.ref 73) [.int a ta]) Q E s := by
  refine' enter (binds := [("x", .int a ta)]) B ?k6 ?k7 ?k8 ?k9 ?kB ?_ ?c2 ?c3 ?c4 ?c5
  walk_at "ENTER"
  intro mean mg mb L h₁ tk X T F N; k_fold
  k_steps
  walk_at "DONE"
  exact hQ _ _ F.keep
theorem isnon_int (B : Base w s.heap) (hdp : dp + 3 < recursionLimit)
   (a : Int) (ta : Tok)
   (hQ : ∀ h' tk, Ext s.heap h' → Q (.bool (decide (a ≥ 256))) { s with heap := h', toks := tk }) :
   wpAny (model prog w) (top0 dp un fr gd) (call (.ref 80) [.int a ta]) Q E s := by
  refine' enter (binds := [("x", .int a ta)]) B ?k6 ?k7 ?k8 ?k9 ?kB ?_ ?c2 ?c3 ?c4 ?c5
  walk_at "ENTER"
  intro mean mg mb L h₁ tk X T F N; k_fold
  k_steps
  walk_at "DONE"
  exact hQ _ _ F.keep
theorem iseof_int (B : Base w s.heap) (hdp : dp + 3 < recursionLimit)
   (a : Int) (ta : Tok)
   (hQ : ∀ h' tk, Ext s.heap h' → Q (.bool (decide (a = 0))) { s with heap := h', toks := tk }) :
   wpAny (model prog w) (top0 dp un fr gd) (call (.ref 87) [.int a ta]) Q E s := by
  refine' enter (binds := [("x", .int a ta)]) B ?k6 ?k7 ?k8 ?k9 ?kB ?_ ?c2 ?c3 ?c4 ?c5
  walk_at "ENTER"
  intro mean mg mb L h₁ tk X T F N; k_fold
  k_steps
  walk_at "DONE"
  exact hQ _ _ F.keep

/-- what it costs to turn one sign into another -/
noncomputable def cost (a b : Nat) : Int := if a = b then 0 else if lo1 a = lo1 b then 1 else 2
theorem lower_one (a : Nat) (ha : a < 128) : Txt.lower (tx [a]) = tx [lo1 a] := by
  revert a
  decide +kernel
theorem subst_chars (B : Base w s.heap) (hdp : dp + 3 < recursionLimit)
   (a b : Nat) (ta tb : Tok) (ha : a < 128) (hb : b < 128)
   (hQ : ∀ h' tk t, Ext s.heap h' → Q (.int (cost a b) t) { s with heap := h', toks := tk }) :
   wpAny (model prog w) (top0 dp un fr gd) (call (.ref 21) [.str (tx [a]) ta, .str (tx [b]) tb]) Q E s := by
  refine' enter (binds := [("ch_a", .str (tx [a]) ta), ("ch_b", .str (tx [b]) tb)]) B ?k6 ?k7 ?k8 ?k9 ?kB ?_ ?c2 ?c3 ?c4 ?c5
  walk_at "ENTER"
  intro mean mg mb L h₁ tk X T F N; k_fold
  have l1 : Str.length (tx [a]) ≤ 1 := Nat.le_refl 1
  have l2 : Str.length (tx [b]) ≤ 1 := Nat.le_refl 1
  k_steps
  all_goals walk_at "DONE"
  · rename_i h; rw [tx_beq] at h
    have e : cost a b = 0 := by unfold cost; rw [if_pos (by simpa using h)]
    exact e ▸ hQ _ _ _ F.keep
  · rename_i h1 _ _ h2; rw [tx_beq] at h1; rw [lower_one a ha, lower_one b hb, tx_beq] at h2
    have e : cost a b = 1 := by unfold cost; rw [if_neg (by simpa using h1), if_pos (by simpa using h2)]
    exact e ▸ hQ _ _ _ F.keep
  · rename_i h1 _ _ h2; rw [tx_beq] at h1; rw [lower_one a ha, lower_one b hb, tx_beq] at h2
    have e : cost a b = 2 := by unfold cost; rw [if_neg (by simpa using h1), if_neg (by simpa using h2)]
    exact e ▸ hQ _ _ _ F.keep
end
example : True := by
  (k_with "MULOK" => first | assumption | exact mulOk_of_bits (by assumption) (by assumption) (by omega))
  (k_with "call ref" => (k_here; (try dsimp only); first
  | ((with_reducible show wpAny _ _ (call (Value.ref 21) [Value.str _ _, Value.str _ _]) _ _ _); (refine' subst_chars (s := ⟨_, _, _, _, _⟩) (Base.of (by k_asm) (by k_asm) (by k_asm)) (by walk_at "DEPTH") _ _ _ _ (by first | assumption | omega) (by first | assumption | omega) ?_); walk_at "KEPT")
  | ((with_reducible show wpAny _ _ (call (Value.ref 35) [Value.int _ _, Value.int _ _]) _ _ _); (refine' add_ints (s := ⟨_, _, _, _, _⟩) (Base.of (by k_asm) (by k_asm) (by k_asm)) (by walk_at "DEPTH") _ _ _ _ ?_); walk_at "KEPT")
  | ((with_reducible show wpAny _ _ (call (Value.ref 49) [Value.int _ _, Value.int _ _]) _ _ _); (refine' sub_ints (s := ⟨_, _, _, _, _⟩) (Base.of (by k_asm) (by k_asm) (by k_asm)) (by walk_at "DEPTH") _ _ _ _ ?_); walk_at "KEPT")
  | ((with_reducible show wpAny _ _ (call (Value.ref 42) [Value.int _ _, Value.int _ _]) _ _ _); (refine' mul_ints (s := ⟨_, _, _, _, _⟩) (Base.of (by k_asm) (by k_asm) (by k_asm)) (by walk_at "DEPTH") _ _ _ _ (by walk_at "MULOK") ?_); walk_at "KEPT")))
  trivial

section
variable {prog : Program} {w : World} {A : Around} {E : Value → Shared → Prop} {s : Shared} {value slice : Expr} {l : List Nat} {t : Tok} {h₀ : Heap} {L : Addr} {m : Str → Option Value} {news : List (Addr × Obj)} {Q : Value → Shared → Prop}
theorem txt_from {i : Int} {ui : Tok} {k : Nat} (hF : Fr h₀ L s.heap m) (hN : News h₀ L s.heap news) (hi : i = (k : Int)) (hz : l.length ≤ 1000)
    (h : ∀ h' t' tk, Fr h₀ L h' m → News h₀ L h' news → Q (.str (tx (l.drop k)) t') { s with heap := h', toks := tk })
    (hs : subscripted slice false (.str (tx l) t) (.ref s.heap.objs.size) = operate [.ref s.heap.objs.size, .str (tx l) t] (getItem (.str (tx l) t) (.ref s.heap.objs.size)) := by with_unfolding_all rfl)
    (ht : ∀ r, letTemporaryGo value (.str (tx l) t) r = pure () := by intro _; with_unfolding_all rfl) :
    wpAny (model prog w) A (subscriptTail value slice (.str (tx l) t) (.ref s.heap.objs.size)) Q E { s with heap := s.heap.push { cls := .type "slice", data := .fields #[.int i ui, .none, .none] } } := by
  subst hi
  refine slice_strN_sn hF hN (fun h' t' tk a b => ?_) hs ht (by rw [len_tx, sizeLine_eq]; omega)
  rw [slice_from]; exact h h' t' tk a b
theorem txt_mid {i j : Int} {ui uj : Tok} {a b : Nat} (hF : Fr h₀ L s.heap m) (hN : News h₀ L s.heap news) (hi : i = (a : Int)) (hj : j = (b : Int)) (hab : a ≤ b) (hz : l.length ≤ 1000)
    (h : ∀ h' t' tk, Fr h₀ L h' m → News h₀ L h' news → Q (.str (tx ((l.drop a).take (b - a))) t') { s with heap := h', toks := tk })
    (hs : subscripted slice false (.str (tx l) t) (.ref s.heap.objs.size) = operate [.ref s.heap.objs.size, .str (tx l) t] (getItem (.str (tx l) t) (.ref s.heap.objs.size)) := by with_unfolding_all rfl)
    (ht : ∀ r, letTemporaryGo value (.str (tx l) t) r = pure () := by intro _; with_unfolding_all rfl) :
    wpAny (model prog w) A (subscriptTail value slice (.str (tx l) t) (.ref s.heap.objs.size)) Q E { s with heap := s.heap.push { cls := .type "slice", data := .fields #[.int i ui, .int j uj, .none] } } := by
  subst hi hj
  refine slice_strN_ss hF hN (fun h' t' tk a b => ?_) hs ht (by rw [len_tx, sizeLine_eq]; omega)
  rw [slice_mid _ _ _ hab]; exact h h' t' tk a b
/-- x[:k or None], k the negative of a number that is no more than x is long -/
theorem txt_upto_none (hF : Fr h₀ L s.heap m) (hN : News h₀ L s.heap news) (hz : l.length ≤ 1000)
    (h : ∀ h' t' tk, Fr h₀ L h' m → News h₀ L h' news → Q (.str (tx l) t') { s with heap := h', toks := tk })
    (hs : subscripted slice false (.str (tx l) t) (.ref s.heap.objs.size) = operate [.ref s.heap.objs.size, .str (tx l) t] (getItem (.str (tx l) t) (.ref s.heap.objs.size)) := by with_unfolding_all rfl)
    (ht : ∀ r, letTemporaryGo value (.str (tx l) t) r = pure () := by intro _; with_unfolding_all rfl) :
    wpAny (model prog w) A (subscriptTail value slice (.str (tx l) t) (.ref s.heap.objs.size)) Q E { s with heap := s.heap.push { cls := .type "slice", data := .fields #[.none, .none, .none] } } := by
  refine slice_strN_nn hF hN (fun h' t' tk a b => ?_) hs ht (by rw [len_tx, sizeLine_eq]; omega)
  rw [slice_all]; exact h h' t' tk a b
theorem txt_upto_neg {i : Int} {ui : Tok} {k : Nat} (hF : Fr h₀ L s.heap m) (hN : News h₀ L s.heap news) (hi : i = -(k : Int)) (h0 : 0 < k) (hk : k ≤ l.length) (hz : l.length ≤ 1000)
    (h : ∀ h' t' tk, Fr h₀ L h' m → News h₀ L h' news → Q (.str (tx (l.take (l.length - k))) t') { s with heap := h', toks := tk })
    (hs : subscripted slice false (.str (tx l) t) (.ref s.heap.objs.size) = operate [.ref s.heap.objs.size, .str (tx l) t] (getItem (.str (tx l) t) (.ref s.heap.objs.size)) := by with_unfolding_all rfl)
    (ht : ∀ r, letTemporaryGo value (.str (tx l) t) r = pure () := by intro _; with_unfolding_all rfl) :
    wpAny (model prog w) A (subscriptTail value slice (.str (tx l) t) (.ref s.heap.objs.size)) Q E { s with heap := s.heap.push { cls := .type "slice", data := .fields #[.none, .int i ui, .none] } } := by
  subst hi
  refine slice_strN_ns hF hN (fun h' t' tk a b => ?_) hs ht (by rw [len_tx, sizeLine_eq]; omega)
  rw [slice_to_neg _ _ h0 hk]; exact h h' t' tk a b
theorem txt_upto {i : Int} {ui : Tok} {k : Nat} (hF : Fr h₀ L s.heap m) (hN : News h₀ L s.heap news) (hi : i = (k : Int)) (hz : l.length ≤ 1000)
    (h : ∀ h' t' tk, Fr h₀ L h' m → News h₀ L h' news → Q (.str (tx (l.take k)) t') { s with heap := h', toks := tk })
    (hs : subscripted slice false (.str (tx l) t) (.ref s.heap.objs.size) = operate [.ref s.heap.objs.size, .str (tx l) t] (getItem (.str (tx l) t) (.ref s.heap.objs.size)) := by with_unfolding_all rfl)
    (ht : ∀ r, letTemporaryGo value (.str (tx l) t) r = pure () := by intro _; with_unfolding_all rfl) :
    wpAny (model prog w) A (subscriptTail value slice (.str (tx l) t) (.ref s.heap.objs.size)) Q E { s with heap := s.heap.push { cls := .type "slice", data := .fields #[.none, .int i ui, .none] } } := by
  subst hi
  refine slice_strN_ns hF hN (fun h' t' tk a b => ?_) hs ht (by rw [len_tx, sizeLine_eq]; omega)
  rw [slice_to]; exact h h' t' tk a b
theorem txt_item {i : Int} {ui : Tok} {k : Nat} (hi : i = (k : Int)) (hk : k < l.length) (hz : l.length ≤ 1000)
    (h : ∀ t' tk, Q (.str (tx [l.getD k 0]) t') { s with toks := tk })
    (hs : subscripted slice false (.str (tx l) t) (.int i ui) = operate [.str (tx l) t, .int i ui] (getItem (.str (tx l) t) (.int i ui)) := by with_unfolding_all rfl)
    (ht : ∀ r, letTemporaryGo value (.str (tx l) t) r = pure () := by intro _; with_unfolding_all rfl) :
    wpAny (model prog w) A (subscriptTail value slice (.str (tx l) t) (.int i ui)) Q E s := by
  subst hi
  refine item_str (fitsSsize_of (N := 1000) (by omega) (by omega) (by decide)) (by rw [len_tx]; omega) (by rw [len_tx]; omega) (fun _ => ?_) hs ht
  have e0 : l.getD k 0 = l[k] := by simp [List.getD_eq_getElem?_getD, hk]
  rw [item_at _ _ hk, ← e0]; exact h _ _
theorem txt_item_neg {i : Int} {ui : Tok} {k : Nat} (hi : i = -(k : Int) - 1) (hk : k < l.length) (hz : l.length ≤ 1000)
    (h : ∀ t' tk, Q (.str (tx [l.getD (l.length - 1 - k) 0]) t') { s with toks := tk })
    (hs : subscripted slice false (.str (tx l) t) (.int i ui) = operate [.str (tx l) t, .int i ui] (getItem (.str (tx l) t) (.int i ui)) := by with_unfolding_all rfl)
    (ht : ∀ r, letTemporaryGo value (.str (tx l) t) r = pure () := by intro _; with_unfolding_all rfl) :
    wpAny (model prog w) A (subscriptTail value slice (.str (tx l) t) (.int i ui)) Q E s := by
  subst hi
  refine item_str (fitsSsize_of (N := 1001) (by omega) (by omega) (by decide)) (by rw [len_tx]; omega) (by rw [len_tx]; omega) (fun _ => ?_) hs ht
  have e : -(k : Int) - 1 = -((k : Int) + 1) := by omega
  have hk2 : l.length - 1 - k < l.length := by omega
  have e0 : l.getD (l.length - 1 - k) 0 = l[l.length - 1 - k] := by simp [List.getD_eq_getElem?_getD, hk2]
  rw [e, item_neg _ _ hk, ← e0]; exact h _ _
theorem txt_truthy {Q : Bool → Shared → Prop} (hz : l.length ≤ 1000) (h1 : 0 < l.length → ∀ tk, Q true { s with toks := tk }) (h0 : l.length = 0 → ∀ tk, Q false { s with toks := tk }) :
    wpAny (model prog w) A (PySem.truthy (.str (tx l) t)) Q E s := by
  refine P.truthy_str (by rw [len_tx]; omega) ?_
  rw [len_tx]
  cases l with
  | nil => exact h0 rfl _
  | cons a r => 
    have : (((a :: r).length : Int) != 0) = true := by simp; omega
    rw [this]
    exact h1 (by simp) _
theorem txt_len (hz : l.length ≤ 1000) (h : ∀ t' tk, Q (.int (l.length : Int) t') { s with toks := tk }) : wpAny (model prog w) A (call (.builtin "len") [.str (tx l) t]) Q E s := by
  refine P.len_str (by rw [len_tx]; omega) ?_
  rw [len_tx]
  exact h _ _
end
example : True := by
  (k_with "TXLEN" => first | assumption | omega | ((simp only [List.length_drop, List.length_take, List.length_cons, List.length_nil, List.length_append] at *); omega))
  (k_with "subscriptTail Name Slice str ref" => (
  k_here
  (with_reducible show wpAny _ _ (subscriptTail _ (Expr.Slice (some _) none none _) (Value.str (tx _) _) _) _ _ _)
  (with_reducible rename Fr _ _ _ _ => kF)
  (with_reducible rename News _ _ _ _ => kN)
  (refine' txt_from (s := ⟨_, _, _, _, _⟩) kF kN (by first | rfl | omega) (by walk_at "TXLEN") ?_)
  clear kF kN
  intro _ _ _ _ _
  (try dsimp only)))
  (k_with "subscriptTail Name Name str int" => (
  k_here
  (with_reducible show wpAny _ _ (subscriptTail _ _ (Value.str (tx _) _) (Value.int _ _)) _ _ _)
  (refine' txt_item (s := ⟨_, _, _, _, _⟩) (by first | rfl | omega) (by walk_at "TXLEN") (by walk_at "TXLEN") ?_)
  intro _ _
  (try dsimp only)))
  (k_with "truthy str" => (
  k_here
  (with_reducible show wpAny _ _ (PySem.truthy (Value.str (tx _) _)) _ _ _)
  (refine' txt_truthy (s := ⟨_, _, _, _, _⟩) (by walk_at "TXLEN") ?_ ?_) <;> (intro _ _; (try dsimp only))))
  (k_with "subscriptTail Name Slice str ref" => (
  k_here
  (with_reducible show wpAny _ _ (subscriptTail _ (Expr.Slice none (some _) none _) (Value.str (tx _) _) _) _ _ _)
  (with_reducible rename Fr _ _ _ _ => kF)
  (with_reducible rename News _ _ _ _ => kN)
  (first
    | (refine' txt_upto_none (s := ⟨_, _, _, _, _⟩) kF kN (by walk_at "TXLEN") ?_)
    | (refine' txt_upto_neg (s := ⟨_, _, _, _, _⟩) kF kN (by first | rfl | omega) (by walk_at "TXLEN") (by walk_at "TXLEN") (by walk_at "TXLEN") ?_)
    | (refine' txt_upto (s := ⟨_, _, _, _, _⟩) kF kN (by first | rfl | omega) (by walk_at "TXLEN") ?_))
  clear kF kN
  intro _ _ _ _ _
  (try dsimp only)))
  (k_with "subscriptTail Name BinOp str int" => (
  k_here
  (with_reducible show wpAny _ _ (subscriptTail _ _ (Value.str (tx _) _) (Value.int _ _)) _ _ _)
  (refine' txt_item_neg (s := ⟨_, _, _, _, _⟩) (by first | rfl | omega) (by walk_at "TXLEN") (by walk_at "TXLEN") ?_)
  intro _ _
  (try dsimp only)))
  (k_with "call builtin:len" => (
  k_here
  (with_reducible show wpAny _ _ (call (Value.builtin "len") [Value.str (tx _) _]) _ _ _)
  (refine' txt_len (s := ⟨_, _, _, _, _⟩) (by walk_at "TXLEN") ?_)
  intro _ _
  (try dsimp only)))
  trivial

/-- how many signs two texts have alike at their heads -/
noncomputable def cp : List Nat → List Nat → Nat
  | x :: xs, y :: ys => if x = y then cp xs ys + 1 else 0
  | _, _ => 0
theorem cp_le_left : ∀ a b : List Nat, cp a b ≤ a.length
  | [], b => by simp [cp]
  | x :: xs, [] => by simp [cp]
  | x :: xs, y :: ys => by
    unfold cp; split
    · have := cp_le_left xs ys; simp; omega
    · simp
theorem cp_comm : ∀ a b : List Nat, cp a b = cp b a
  | [], b => by cases b <;> simp [cp]
  | x :: xs, [] => by simp [cp]
  | x :: xs, y :: ys => by
    unfold cp
    by_cases h : x = y
    · subst h; simp [cp_comm xs ys]
    · have : ¬ y = x := fun e => h e.symm
      simp [h, this]
theorem cp_le_right (a b : List Nat) : cp a b ≤ b.length := cp_comm a b ▸ cp_le_left b a
theorem cp_lt_iff : ∀ {a b : List Nat} {k : Nat}, k ≤ cp a b → (k < cp a b ↔ k < a.length ∧ k < b.length ∧ a.getD k 0 = b.getD k 0)
  | [], b, k, h => by simp [cp] at h ⊢
  | x :: xs, [], k, h => by simp [cp] at h ⊢
  | x :: xs, y :: ys, k, h => by
    unfold cp at h ⊢
    by_cases e : x = y
    · simp only [e, if_true] at h ⊢
      cases k with
      | zero => simp
      | succ k =>
        have := cp_lt_iff (a := xs) (b := ys) (k := k) (by omega)
        simp only [List.length_cons, List.getD_cons_succ, Nat.add_lt_add_iff_right]
        exact this
    · simp only [e, if_false] at h ⊢
      have : k = 0 := by omega
      subst this
      simp [e]
theorem cp_take : ∀ (a b : List Nat), a.take (cp a b) = b.take (cp a b)
  | [], b => by simp [cp]
  | x :: xs, [] => by simp [cp]
  | x :: xs, y :: ys => by
    unfold cp
    by_cases e : x = y
    · subst e; simp [cp_take xs ys]
    · simp [e]
/-- behind the heads that are alike -/
noncomputable def tails (a b : List Nat) : List Nat × List Nat := (a.drop (cp a b), b.drop (cp a b))
/-- ahead of the ends that are alike -/
noncomputable def fronts (a b : List Nat) : List Nat × List Nat := (a.take (a.length - cp a.reverse b.reverse), b.take (b.length - cp a.reverse b.reverse))
/-- the while of the ends: one turn -/
theorem getD_rev (a : List Nat) (k : Nat) (h : k < a.length) : a.reverse.getD k 0 = a.getD (a.length - 1 - k) 0 := by
  have h2 : a.length - 1 - k < a.length := by omega
  simp [List.getD_eq_getElem?_getD, h, h2]
theorem cpr_lt_iff {a b : List Nat} {k : Nat} (h : k ≤ cp a.reverse b.reverse) : (k < cp a.reverse b.reverse ↔ k < a.length ∧ k < b.length ∧ a.getD (a.length - 1 - k) 0 = b.getD (b.length - 1 - k) 0) := by
  rw [cp_lt_iff h, List.length_reverse, List.length_reverse]
  constructor
  · rintro ⟨ha, hb, e⟩
    rw [getD_rev a k ha, getD_rev b k hb] at e
    exact ⟨ha, hb, e⟩
  · rintro ⟨ha, hb, e⟩
    rw [getD_rev a k ha, getD_rev b k hb]
    exact ⟨ha, hb, e⟩
theorem cpf_true {a b : List Nat} {k : Nat} (h : k ≤ cp a b) (ha : k < a.length) (hb : k < b.length) (e : (tx [a.getD k 0] == tx [b.getD k 0]) = true) : true = decide (k < cp a b) := by
  rw [tx_beq] at e
  exact (decide_eq_true ((cp_lt_iff h).mpr ⟨ha, hb, by simpa using e⟩)).symm
theorem cpf_false {a b : List Nat} {k : Nat} (h : k ≤ cp a b) (e : (tx [a.getD k 0] == tx [b.getD k 0]) = false) : false = decide (k < cp a b) := by
  rw [tx_beq] at e
  exact (decide_eq_false fun q => of_decide_eq_false e (congrArg (fun x => [x]) ((cp_lt_iff h).mp q).2.2)).symm
theorem cpf_left {a b : List Nat} {k : Nat} (ha : a.length ≤ k) : false = decide (k < cp a b) := by
  have := cp_le_left a b
  exact (decide_eq_false (by omega)).symm
theorem cpf_right {a b : List Nat} {k : Nat} (hb : b.length ≤ k) : false = decide (k < cp a b) := by
  have := cp_le_right a b
  exact (decide_eq_false (by omega)).symm
theorem cpr_true {a b : List Nat} {k : Nat} (h : k ≤ cp a.reverse b.reverse) (ha : k < a.length) (hb : k < b.length) (e : (tx [a.getD (a.length - 1 - k) 0] == tx [b.getD (b.length - 1 - k) 0]) = true) : true = decide (k < cp a.reverse b.reverse) := by
  rw [tx_beq] at e
  exact (decide_eq_true ((cpr_lt_iff h).mpr ⟨ha, hb, by simpa using e⟩)).symm
theorem cpr_false {a b : List Nat} {k : Nat} (h : k ≤ cp a.reverse b.reverse) (e : (tx [a.getD (a.length - 1 - k) 0] == tx [b.getD (b.length - 1 - k) 0]) = false) : false = decide (k < cp a.reverse b.reverse) := by
  rw [tx_beq] at e
  exact (decide_eq_false fun q => of_decide_eq_false e (congrArg (fun x => [x]) ((cpr_lt_iff h).mp q).2.2)).symm
theorem cpr_left {a b : List Nat} {k : Nat} (ha : a.length ≤ k) : false = decide (k < cp a.reverse b.reverse) := by
  have := cp_le_left a.reverse b.reverse
  rw [List.length_reverse] at this
  exact (decide_eq_false (by omega)).symm
theorem cpr_right {a b : List Nat} {k : Nat} (hb : b.length ≤ k) : false = decide (k < cp a.reverse b.reverse) := by
  have := cp_le_right a.reverse b.reverse
  rw [List.length_reverse] at this
  exact (decide_eq_false (by omega)).symm

/-- one place: from the place up and left, the place left, the place up, what it costs to turn the one sign into the other -/
noncomputable def stepv (d r o c : Int) : Int := if d + c < (if o < r then o else r) + 2 then d + c else (if o < r then o else r) + 2
/-- the next row: from the row above, the sign, the place up and left, the place left -/
noncomputable def nextRow (c : Nat) : List Nat → List Int → Int → Int → List Int
  | x :: xs, o :: os, d, r => stepv d r o (cost c x) :: nextRow c xs os o (stepv d r o (cost c x))
  | _, _, _, _ => []
noncomputable def big : Int := 9223372036854775807
noncomputable def minf (a b : Int) : Int := if b < a then b else a
noncomputable def least (l : List Int) : Int := l.foldl minf big
/-- row by row, with an early way out -/
noncomputable def levLoop (m : Int) (a : List Nat) : Nat → List Nat → List Int → Int → Int
  | i, c :: cs, row, _ =>
    if m < least (nextRow c a row ((i : Int) * 2) ((i : Int) * 2)) then m + 1
    else levLoop m a (i + 1) cs (nextRow c a row ((i : Int) * 2) ((i : Int) * 2)) ((nextRow c a row ((i : Int) * 2) ((i : Int) * 2)).getLastD ((i : Int) * 2))
  | _, [], _, res => res
noncomputable def firstRow (n : Nat) : List Int := (List.range n).map fun (k : Nat) => 2 + (k : Int) * 2
noncomputable def levCore (m : Int) (a b : List Nat) : Int := if m < ((b.length : Int) - (a.length : Int)) * 2 then m + 1 else levLoop m a 0 b (firstRow a.length) 0
noncomputable def lev3 (m : Int) (A B : List Nat) : Int :=
  if A = [] ∨ B = [] then 2 * ((A.length : Int) + (B.length : Int))
  else if 40 < A.length ∨ 40 < B.length then m + 1
  else if B.length < A.length then levCore m B A else levCore m A B
noncomputable def lev (a b : List Nat) (m : Int) : Int := if a = b then 0 else lev3 m (fronts (tails a b).1 (tails a b).2).1 (fronts (tails a b).1 (tails a b).2).2
theorem nextRow_length (c : Nat) : ∀ (a : List Nat) (o : List Int) (d r : Int), a.length = o.length → (nextRow c a o d r).length = a.length
  | [], [], _, _, _ => rfl
  | x :: xs, o :: os, d, r, h => by
    unfold nextRow
    simp only [List.length_cons] at h ⊢
    rw [nextRow_length c xs os _ _ (by omega)]

theorem range_two_size {n : Nat} (h : 0 < n) : PySem.Builtin.Range.rangeSize 2 (2 * ((n : Int) + 1)) 2 = (n : Int) := by
  unfold PySem.Builtin.Range.rangeSize
  simp only [show (2 : Int) > 0 by decide, if_true]
  rw [if_pos (by omega)]
  omega
theorem fits_long {i : Int} (h : -1000000 ≤ i) (h2 : i ≤ 1000000) : PySem.Builtin.Range.rangeFitsLong i = true := by
  unfold PySem.Builtin.Range.rangeFitsLong
  rw [Bool.and_eq_true]
  exact ⟨decide_eq_true (by omega), decide_eq_true (by omega)⟩
theorem range_two_small {n : Nat} (h : 0 < n) (h2 : n ≤ 1000) : PySem.Builtin.Range.small 2 (2 * ((n : Int) + 1)) 2 = true := by
  unfold PySem.Builtin.Range.small
  rw [range_two_size h]
  have e (i : Int) (h : -1000000 ≤ i) (h2 : i ≤ 1000000) : PySem.Builtin.Range.rangeFitsLong i = true := fits_long h h2
  rw [if_pos (by decide), e 2 (by omega) (by omega), e (2 * ((n : Int) + 1)) (by omega) (by omega), e n (by omega) (by omega), e _ (by omega) (by omega)]
  simp

/-- what the loop over b's signs turns -/
structure RowS where
  us : List Value
  row : List Int
  ep : Nat
  res : Int
  t : Tok
/-- what the loop over a's signs turns -/
structure ColS where
  us : List Value
  row : List Int
  ep : Nat
  d : Int
  res : Int
  mn : Int
  t1 : Tok
  t2 : Tok
  t3 : Tok
noncomputable def RowP (m : Int) (P R : List Nat) (V : Int) (i : Nat) (c : RowS) : Prop := IntsAre c.us c.row ∧ c.row.length = P.length ∧ levLoop m P i (R.drop i) c.row c.res = V
noncomputable def ColP (ch : Nat) (P : List Nat) (old : List Int) (d0 : Int) (j : Nat) (c : ColS) : Prop :=
  IntsAre c.us c.row ∧ c.row.length = P.length ∧ ∃ done : List Int, done.length = j ∧ c.row = done ++ old.drop j ∧ nextRow ch P old d0 d0 = done ++ nextRow ch (P.drop j) (old.drop j) c.d c.res ∧
    c.mn = done.foldl minf big ∧ c.res = done.getLastD d0

theorem getD_lt {l : List Nat} (h : ∀ c ∈ l, c < 128) (i : Nat) : l.getD i 0 < 128 := by
  rw [List.getD_eq_getElem?_getD]
  cases e : l[i]? with
  | none => simp
  | some c => simpa using h c (List.mem_of_getElem? e)

theorem col_step {ch : Nat} {P : List Nat} {old : List Int} {d0 : Int} {j : Nat} {us us' : List Value} {row : List Int} {ep ep' : Nat} {d res mn : Int} {t1 t2 t3 t1' t2' t3' : Tok} (hold : old.length = P.length) (hj : j < P.length)
    (h : ColP ch P old d0 j ⟨us, row, ep, d, res, mn, t1, t2, t3⟩) (hI : IntsAre us' (row.set (j : Int).toNat (stepv d res (row.getD (j : Int).toNat 0) (cost ch (P.getD j 0))))) :
    ColP ch P old d0 (j + 1) ⟨us', row.set (j : Int).toNat (stepv d res (row.getD (j : Int).toNat 0) (cost ch (P.getD j 0))), ep', row.getD (j : Int).toNat 0, stepv d res (row.getD (j : Int).toNat 0) (cost ch (P.getD j 0)), minf mn (stepv d res (row.getD (j : Int).toNat 0) (cost ch (P.getD j 0))), t1', t2', t3'⟩ := by
  obtain ⟨hI2, hlen, done, h1, h2, h3, h4, h5⟩ := h
  dsimp only at hI2 hlen h2 h3 h4 h5
  have ej : (j : Int).toNat = j := by omega
  rw [ej] at hI ⊢
  have hjo : j < old.length := by omega
  have e1 : old.drop j = old[j] :: old.drop (j + 1) := List.drop_eq_getElem_cons hjo
  have e2 : P.drop j = P[j] :: P.drop (j + 1) := List.drop_eq_getElem_cons hj
  have e3 : P.getD j 0 = P[j] := by simp [List.getD_eq_getElem?_getD, hj]
  have e4 : row.getD j 0 = old[j] := by
    rw [h2, List.getD_eq_getElem?_getD, List.getElem?_append_right (by omega), h1]
    simp [hjo]
  rw [e3, e4] at hI ⊢
  have e5 : row.set j (stepv d res old[j] (cost ch P[j])) = (done ++ [stepv d res old[j] (cost ch P[j])]) ++ old.drop (j + 1) := by
    rw [h2, List.set_append_right _ _ (by omega), h1, Nat.sub_self, e1, List.set_cons_zero]
    simp
  refine ⟨hI, by simpa using hlen, done ++ [stepv d res old[j] (cost ch P[j])], by simp [h1], e5, ?_, ?_, ?_⟩
  · rw [h3, e2, e1]
    simp [nextRow]
  · simp [h4, List.foldl_append]
  · simp
theorem row_out {m : Int} {P R : List Nat} {V : Int} {i : Nat} {old : List Int} {r0 : Int} {us : List Value} {row : List Int} {ep : Nat} {d res mn : Int} {t1 t2 t3 : Tok} (hi : i < R.length) (hold : old.length = P.length)
    (hV : levLoop m P i (R.drop i) old r0 = V) (h : ColP (R.getD i 0) P old ((i : Int) * 2) P.length ⟨us, row, ep, d, res, mn, t1, t2, t3⟩) :
    (m < mn → V = m + 1) ∧ (¬ m < mn → ∀ us' ep' t, us' = us → RowP m P R V (i + 1) ⟨us', row, ep', res, t⟩) := by
  obtain ⟨hI2, hlen, done, h1, h2, h3, h4, h5⟩ := h
  dsimp only at hI2 hlen h2 h3 h4 h5
  have e1 : old.drop P.length = [] := List.drop_of_length_le (by omega)
  have e2 : nextRow (R.getD i 0) P old ((i : Int) * 2) ((i : Int) * 2) = done := by rw [h3, List.drop_length]; simp [nextRow]
  have e3 : row = done := by rw [h2, e1]; simp
  have e4 : R.drop i = R[i] :: R.drop (i + 1) := List.drop_eq_getElem_cons hi
  have e5 : R.getD i 0 = R[i] := by simp [List.getD_eq_getElem?_getD, hi]
  rw [e4] at hV
  unfold levLoop at hV
  rw [← e5, e2] at hV
  have e6 : least done = mn := h4.symm
  rw [e6] at hV
  constructor
  · intro hm
    rw [if_pos hm] at hV
    exact hV.symm
  · intro hm us' ep' t eu
    subst eu
    rw [if_neg hm, ← h5] at hV
    exact ⟨hI2, hlen, by rw [e3]; exact hV⟩

noncomputable def levRest : List Stmt := (bodyOf "_levenshtein_distance").drop 15
noncomputable def levScope : Scope := scopeOf "_levenshtein_distance"
section
variable {prog : Program} {w : World} {dp un : Nat} {fr : Option (List Env)} {gd : Option (List Code)} {s : Shared} {Q : Flow → Shared → Prop}
theorem lev_loops {h₀ : Heap} {L D : Addr} {u0 mg mb : Str → Option Value} {mean : ExcName → Option Value} {us : List Value} {kk : Nat} {P R : List Nat} {m : Int} {t1 t2 tm tr : Tok}
    (X : (hd.heap_1 w.params).In h₀) (T : Top lawView LS mean mg mb h₀) (hdp : dp + 10 < recursionLimit)
    (F : Fr h₀ L s.heap (kstB u0 [(Str.ofString "result", .int 0 tr), (Str.ofString "row", .ref D), (Str.ofString "a", .str (tx P) t1), (Str.ofString "b", .str (tx R) t2), (Str.ofString "max_cost", .int m tm)]))
    (N : News h₀ L s.heap [(D, listOf us.toArray kk)]) (hI : IntsAre us (firstRow P.length)) (l1 : 0 < P.length) (l2 : P.length ≤ R.length) (l3 : R.length ≤ 40) (cP : ∀ c ∈ P, c < 128) (cR : ∀ c ∈ R, c < 128)
    (hQ : ∀ h' tk t, Ext h₀ h' → Q (.ret (.int (levLoop m P 0 R (firstRow P.length) 0) t)) { s with heap := h', toks := tk }) :
    wpAny (model prog w) ((top0 dp un fr gd).deeper (envOf "_levenshtein_distance" levScope L 28 (.ref 27))) (execs levRest (envOf "_levenshtein_distance" levScope L 28 (.ref 27))) Q (fun _ _ => False) s := by
  obtain ⟨heap, gens, drawn, toks, os⟩ := s
  dsimp only [kstB] at F N hQ ⊢
  conv in (levRest) => whnf
  conv in (occs := *) levScope => all_goals whnf
  k_steps
  refine Mark.mk ?_
  (with_reducible rename Fr _ _ _ _ => F); (with_reducible rename News _ _ _ _ => N)
  try dsimp only at F N
  refine ks_range (n := R.length) (σ := RowS) (fun c => [(D, W.listOf c.us.toArray c.ep)])
    (fun c => [(Str.ofString "result", .int c.res c.t), (Str.ofString "row", .ref D), (Str.ofString "a", .str (tx P) t1), (Str.ofString "b", .str (tx R) t2), (Str.ofString "max_cost", .int m tm)])
    (RowP m P R (levLoop m P 0 R (firstRow P.length) 0)) ⟨us, firstRow P.length, kk, 0, tr⟩ rfl (by assumption) rfl (by omega) F N ?_ ?_ ?_ ?_
  · walk_at "HK"
  · exact ⟨hI, by simp [firstRow], rfl⟩
  · clear F N
    intro c i t u h tk own hlt hoff ⟨hI, hlen, hV⟩ F1 N1
    dsimp only [kstB] at F1 N1
    (try k_unmd)
    (try k_fold)
    k_steps
    refine Mark.mk ?_
    (with_reducible rename Fr _ _ _ _ => F); (with_reducible rename News _ _ _ _ => N)
    try dsimp only at F N
    clear F1 N1
    obtain ⟨tres, htres⟩ : ∃ t, mapOf F (Str.ofString "result") = some (.int ((i : Int) * 2) t) := ⟨_, rfl⟩
    obtain ⟨tdis, htdis⟩ : ∃ t, mapOf F (Str.ofString "distance") = some (.int ((i : Int) * 2) t) := ⟨_, rfl⟩
    obtain ⟨tmin, htmin⟩ : ∃ t, mapOf F (Str.ofString "minimum") = some (.int big t) := ⟨_, rfl⟩
    obtain ⟨tch, htch⟩ : ∃ t, mapOf F (Str.ofString "bchar") = some (.str (tx [R.getD i 0]) t) := ⟨_, rfl⟩
    refine ks_range (n := P.length) (σ := ColS) (fun c => (D, W.listOf c.us.toArray c.ep) :: own)
      (fun c => [(Str.ofString "distance", .int c.d c.t1), (Str.ofString "result", .int c.res c.t2), (Str.ofString "minimum", .int c.mn c.t3), (Str.ofString "bchar", .str (tx [R.getD i 0]) tch), (Str.ofString "row", .ref D), (Str.ofString "a", .str (tx P) t1), (Str.ofString "b", .str (tx R) t2), (Str.ofString "max_cost", .int m tm)])
      (ColP (R.getD i 0) P c.row ((i : Int) * 2)) ⟨c.us, c.row, c.ep, (i : Int) * 2, (i : Int) * 2, big, tdis, tres, tmin⟩ rfl (by assumption) rfl (by omega) F N ?_ ?_ ?_ ?_
    · intro p hp
      rcases List.mem_cons.mp hp with rfl | hp; exact htdis
      rcases List.mem_cons.mp hp with rfl | hp; exact htres
      rcases List.mem_cons.mp hp with rfl | hp; exact htmin
      rcases List.mem_cons.mp hp with rfl | hp; exact htch
      rcases List.mem_cons.mp hp with rfl | hp; rfl
      rcases List.mem_cons.mp hp with rfl | hp; rfl
      rcases List.mem_cons.mp hp with rfl | hp; rfl
      rcases List.mem_cons.mp hp with rfl | hp; rfl
      cases hp
    · exact ⟨hI, hlen, [], rfl, rfl, rfl, rfl, rfl⟩
    · clear htdis htres htmin htch F N
      intro c2 j t u h tk own2 hlt2 hoff2 ⟨hI2, hlen2, done, hd1, hd2, hd3, hd4, hd5⟩ F1 N1
      dsimp only [kstB] at F1 N1
      (try k_unmd)
      (try k_fold)
      have cRi := getD_lt cR i
      have cPj := getD_lt cP j
      have hoffD : ∀ p ∈ own ++ own2, p.1 ≠ D := by
        intro p hp
        rcases List.mem_append.mp hp with hp | hp
        · exact hoff p hp D (.head _)
        · exact hoff2 p hp D (.head _)
      rw [List.cons_append] at N1
      have hC : ColP (R.getD i 0) P c.row ((i : Int) * 2) j c2 := ⟨hI2, hlen2, done, hd1, hd2, hd3, hd4, hd5⟩
      k_steps
      all_goals refine Mark.mk ?_
      all_goals (with_reducible rename Fr _ _ _ _ => F); (with_reducible rename News _ _ _ _ => N); (with_reducible rename IntsAre _ _ => hIn)
      all_goals have hc := fun ep' t1' t2' t3' => col_step (ep' := ep') (t1' := t1') (t2' := t2') (t3' := t3') hlen hlt2 hC hIn
      · (rename _ < c2.mn => hmin)
        have em : minf c2.mn (stepv c2.d c2.res (c2.row.getD (j : Int).toNat 0) (cost (R.getD i 0) (P.getD j 0))) = stepv c2.d c2.res (c2.row.getD (j : Int).toNat 0) (cost (R.getD i 0) (P.getD j 0)) := if_pos hmin
        rw [em] at hc
        exact ks_end ⟨_, _, c2.ep, _, _, _, _, _, _⟩ F N (by
            intro p hp
            rcases List.mem_cons.mp hp with rfl | hp
            · exact .head _
            · exact .tail _ (List.mem_append_left _ hp)) (fun p hp => .tail _ (List.mem_append_right _ hp)) rfl (by walk_at "HK") (hc _ _ _ _)
      · (rename ¬ (_ < c2.mn) => hmin)
        have em : minf c2.mn (stepv c2.d c2.res (c2.row.getD (j : Int).toNat 0) (cost (R.getD i 0) (P.getD j 0))) = c2.mn := if_neg hmin
        rw [em] at hc
        exact ks_end ⟨_, _, c2.ep, _, _, _, _, _, _⟩ F N (by
            intro p hp
            rcases List.mem_cons.mp hp with rfl | hp
            · exact .head _
            · exact .tail _ (List.mem_append_left _ hp)) (fun p hp => .tail _ (List.mem_append_right _ hp)) rfl (by walk_at "HK") (hc _ _ _ _)
    · clear htdis htres htmin htch F N
      intro c2 u h tk hC F1 N1
      obtain ⟨hm1, hm2⟩ := row_out hlt hlen hV hC
      dsimp only [kstB] at F1 N1 hm1 hm2
      (try k_unmd)
      (try k_fold)
      k_steps
      · walk_at "DONE"
        exact (hm1 (by assumption)) ▸ hQ _ _ _ F1.keep
      · refine Mark.mk ?_
        exact ks_end ⟨c2.us, c2.row, c2.ep, c2.res, c2.t2⟩ F1 N1 (by
            intro p hp
            rcases List.mem_cons.mp hp with rfl | hp
            · exact .head _
            · cases hp) (fun p hp => .tail _ hp) rfl (by walk_at "HK") (hm2 (by assumption) _ _ _ rfl)
  · clear F N
    intro c u h tk ⟨_, _, e⟩ F1 N1
    dsimp only [kstB] at F1 N1
    k_steps
    walk_at "DONE"
    rw [List.drop_length] at e
    have e' : c.res = levLoop m P 0 R (firstRow P.length) 0 := by rw [← e]; unfold levLoop; rfl
    exact e' ▸ hQ _ _ _ F1.keep
end

section
example : True := by
  (k_with "CPR" => ((guard_hyp stopq1 : True); (first
  | exact cpr_true (by assumption) (by walk_at "TXLEN") (by walk_at "TXLEN") (by assumption)
  | exact cpr_false (by assumption) (by assumption)
  | exact cpf_true (by assumption) (by walk_at "TXLEN") (by walk_at "TXLEN") (by assumption)
  | exact cpf_false (by assumption) (by assumption)
  | exact cpf_left (by walk_at "TXLEN")
  | exact cpf_right (by walk_at "TXLEN")
  | exact cpr_left (by walk_at "TXLEN")
  | exact cpr_right (by walk_at "TXLEN")
  | (exfalso; omega))))
  trivial
example : True := by
  (k_with "exec If" => ((guard_hyp stopq2 : True); ((
  (fail_if_success (have hgo : Go 28 := by assumption))
  (with_reducible show wpAny _ _ (exec (Stmt.If _ _ _ { line := 28, col := _, endLine := _, endCol := _ }) _) _ _ _)
  refine Mark.out ?_))))
  trivial
example : True := by
  (k_with "execs cons" => ((guard_hyp stopq3 : True); ((
  (with_reducible show wpAny _ _ (execs (List.cons (Stmt.For _ _ _ _ { line := 34, col := _, endLine := _, endCol := _ }) _) _) _ _ _)
  refine Mark.out ?_))))
  trivial
section
variable {prog : Program} {w : World} {dp un : Nat} {fr : Option (List Env)} {gd : Option (List Code)} {E : Value → Shared → Prop} {s : Shared} {Q : Value → Shared → Prop}

theorem lev_spec (B : Base w s.heap) (hdp : dp + 10 < recursionLimit) (hu : un + 100 < cLine)
   (a b : List Nat) (m : Int) (ta tb tm : Tok) (la : a.length ≤ 1000) (lb : b.length ≤ 1000) (ca : ∀ c ∈ a, c < 128) (cb : ∀ c ∈ b, c < 128)
   (hQ : ∀ h' tk t, Ext s.heap h' → Q (.int (lev a b m) t) { s with heap := h', toks := tk }) :
   wpAny (model prog w) (top0 dp un fr gd) (call (.ref 28) [.str (tx a) ta, .str (tx b) tb, .int m tm]) Q E s := by
  have stopq1 := True.intro
  have stopq2 := True.intro
  have stopq3 := True.intro
  refine' enter (binds := [("a", .str (tx a) ta), ("b", .str (tx b) tb), ("max_cost", .int m tm)]) B ?k6 ?k7 ?k8 ?k9 ?kB ?_ ?c2 ?c3 ?c4 ?c5
  walk_at "ENTER"
  intro mean mg mb L h₁ tk X T F N; k_fold
  k_steps
  · walk_at "DONE"
    (rename (_ == _) = true => e)
    rw [tx_beq] at e
    have e1 : lev a b m = 0 := if_pos (of_decide_eq_true e)
    exact e1 ▸ hQ _ _ _ F.keep
  refine Mark.mk ?_
  rename_i heq h2 F2 N2
  dsimp only at F2
  refine ksw_while (σ := Nat × Tok) (fun _ => []) (fun c => [("pre", .int c.1 c.2)]) (fun _ => True) [] (fun c => c.1 ≤ cp a b) (fun c => cp a b - c.1) (0, tk) F2 N2 trivial ?_ ?_ ?_ passes_none
  · intro p hp; cases hp with | head => rfl | tail _ hp => cases hp
  · exact Nat.zero_le _
  rintro ⟨pre, tp⟩ u h tk3 - h1 F0 N0
  dsimp only at h1 F0 ⊢
  clear F2 N2
  k_fold
  refine cut (fun bb => bb = decide (pre < cp a b)) F0 N0 (fun F N => ?_) (fun v h' tk' hv F N => ?_)
  · --SLOW<
    k_fold
    k_steps
    all_goals refine cut_end (by assumption) (by assumption) ?_
    all_goals walk_at "CPR"
    --SLOW>
  dsimp only
  clear F0 N0
  k_unfold
  subst hv
  by_cases hlt : pre < cp a b
  · rw [if_pos (by simpa using hlt)]
    k_fold
    k_steps
    exact ⟨ksw_end (pre + 1, _) (by assumption) (by assumption) (fun _ h => h) trivial (by walk_at "HK") (by walk_at "HR") (by dsimp only; omega) (by dsimp only; omega)⟩
  · rw [if_neg (by simpa using hlt)]
    have e : pre = cp a b := by omega
    subst e
    k_steps
    refine Mark.mk ?_
    (rename Fr _ _ _ _ => F2); (rename News _ _ _ _ => N2)
    dsimp only at F2
    obtain ⟨u2, F3⟩ := canon F2 [("a", .str (tx (List.drop (cp a b) a)) _), ("b", .str (tx (List.drop (cp a b) b)) _), ("max_cost", .int m tm), ("post", .int 0 _)] (by walk_at "HK")
    clear F2 h1 hlt
    have lA : (List.drop (cp a b) a).length ≤ 1000 := by rw [List.length_drop]; omega
    have lB : (List.drop (cp a b) b).length ≤ 1000 := by rw [List.length_drop]; omega
    have cA : ∀ c ∈ List.drop (cp a b) a, c < 128 := fun c hc => ca c (List.mem_of_mem_drop hc)
    have cB : ∀ c ∈ List.drop (cp a b) b, c < 128 := fun c hc => cb c (List.mem_of_mem_drop hc)
    generalize hA : List.drop (cp a b) a = A at *
    generalize hB : List.drop (cp a b) b = B at *
    refine ksw_while (σ := Nat × Tok) (fun _ => []) (fun c => [("post", .int (-(c.1 : Int)) c.2)]) (fun _ => True) [] (fun c => c.1 ≤ cp A.reverse B.reverse) (fun c => cp A.reverse B.reverse - c.1) (0, tk) F3 N2 trivial ?_ ?_ ?_ passes_none
    · walk_at "HK"
    · exact Nat.zero_le _
    rintro ⟨j, tp⟩ u h tk3 - h1 F0 N0
    dsimp only [kstB] at h1 F0 ⊢
    clear F3 N2
    k_fold
    have lj := Nat.le_trans h1 (cp_le_left _ _); have lj2 := Nat.le_trans h1 (cp_le_right _ _)
    rw [List.length_reverse] at lj lj2
    refine cut (fun bb => bb = decide (j < cp A.reverse B.reverse)) F0 N0 (fun F N => ?_) (fun v h' tk' hv F N => ?_)
    · clear F0 N0
      --SLOW<
      cases j with
      | zero =>
        k_fold
        k_steps
        all_goals refine cut_end (by assumption) (by assumption) ?_
        all_goals walk_at "CPR"
      | succ j =>
        k_fold
        k_steps
        all_goals refine cut_end (by assumption) (by assumption) ?_
        all_goals walk_at "CPR"
      --SLOW>
    dsimp only
    clear F0 N0
    k_unfold
    subst hv
    by_cases hlt : j < cp A.reverse B.reverse
    · rw [if_pos (by simpa using hlt)]
      k_fold
      k_steps
      exact ⟨ksw_end (j + 1, _) (by assumption) (by assumption) (fun _ h => h) trivial (by intro p hp; cases hp with | head => (show some (Value.int (-(j : Int) - 1) _) = _; refine congrArg (fun i => some (Value.int i _)) ?_; dsimp only; omega) | tail _ hp => cases hp) (by walk_at "HR") (by dsimp only; omega) (by dsimp only; omega)⟩
    · rw [if_neg (by simpa using hlt)]
      have e : j = cp A.reverse B.reverse := by omega
      subst e
      walk1
      k_fold
      refine cutA (Str.ofString "a") (fun t => .str (tx (List.take (A.length - cp A.reverse B.reverse) A)) t) F N ?_ ?_
      · --SLOW<
        k_fold
        k_steps
        · exact cutA_end rfl (by assumption) (by assumption)
        · have e0 : cp A.reverse B.reverse = 0 := by omega
          have e1 : List.take (A.length - cp A.reverse B.reverse) A = A := by simp [e0]
          exact cutA_end (by rw [e1]) (by assumption) (by assumption)
        --SLOW>
      clear F N
      intro h3 tk3 ta3 F N
      dsimp only
      walk1
      k_fold
      refine cutA (Str.ofString "b") (fun t => .str (tx (List.take (B.length - cp A.reverse B.reverse) B)) t) F N ?_ ?_
      · --SLOW<
        k_fold
        k_steps
        · exact cutA_end rfl (by assumption) (by assumption)
        · have e0 : cp A.reverse B.reverse = 0 := by omega
          have e1 : List.take (B.length - cp A.reverse B.reverse) B = B := by simp [e0]
          exact cutA_end (by rw [e1]) (by assumption) (by assumption)
        --SLOW>
      clear F N
      intro h4 tk4 tb3 F N
      dsimp only
      obtain ⟨u4, F4⟩ := canon F [("a", .str (tx (List.take (A.length - cp A.reverse B.reverse) A)) ta3), ("b", .str (tx (List.take (B.length - cp A.reverse B.reverse) B)) tb3), ("max_cost", .int m tm)] (by walk_at "HK")
      have eL : lev a b m = lev3 m (List.take (A.length - cp A.reverse B.reverse) A) (List.take (B.length - cp A.reverse B.reverse) B) := by
        subst hA hB
        exact if_neg (by intro e; rw [tx_beq, e] at heq; simp at heq)
      rw [eL] at hQ
      have lA' : (List.take (A.length - cp A.reverse B.reverse) A).length ≤ 1000 := by rw [List.length_take]; omega
      have lB' : (List.take (B.length - cp A.reverse B.reverse) B).length ≤ 1000 := by rw [List.length_take]; omega
      clear F h1 lj lj2 hlt eL
      replace cA : ∀ c ∈ List.take (A.length - cp A.reverse B.reverse) A, c < 128 := fun c hc => cA c (List.mem_of_mem_take hc)
      replace cB : ∀ c ∈ List.take (B.length - cp A.reverse B.reverse) B, c < 128 := fun c hc => cB c (List.mem_of_mem_take hc)
      generalize List.take (A.length - cp A.reverse B.reverse) A = A2 at *
      generalize List.take (B.length - cp A.reverse B.reverse) B = B2 at *
      clear hA hB heq lA lB
      dsimp only [kstB] at F4
      k_steps
      · walk_at "DONE"
        have e : lev3 m A2 B2 = m + 1 := by unfold lev3; rw [if_neg (by rintro (rfl | rfl) <;> simp at *), if_pos (by omega)]
        exact e ▸ hQ _ _ _ (Fr.keep (by assumption))
      · walk_at "DONE"
        have e : lev3 m A2 B2 = m + 1 := by unfold lev3; rw [if_neg (by rintro (rfl | rfl) <;> simp at *), if_pos (by omega)]
        exact e ▸ hQ _ _ _ (Fr.keep (by assumption))
      rotate_left
      · walk_at "DONE"
        have e : lev3 m A2 B2 = 2 * ((A2.length : Int) + (B2.length : Int)) := if_pos (by first | exact .inr (List.eq_nil_of_length_eq_zero (by assumption)) | exact .inl (List.eq_nil_of_length_eq_zero (by assumption)))
        exact e ▸ hQ _ _ _ (Fr.keep (by assumption))
      · walk_at "DONE"
        have e : lev3 m A2 B2 = 2 * ((A2.length : Int) + (B2.length : Int)) := if_pos (by first | exact .inr (List.eq_nil_of_length_eq_zero (by assumption)) | exact .inl (List.eq_nil_of_length_eq_zero (by assumption)))
        exact e ▸ hQ _ _ _ (Fr.keep (by assumption))
      refine Mark.mk ?_
      have go28 : Go 28 := ⟨trivial⟩
      refine cutS (fun m' => ∃ t1 t2, m' (Str.ofString "a") = some (.str (tx (if B2.length < A2.length then B2 else A2)) t1) ∧ m' (Str.ofString "b") = some (.str (tx (if B2.length < A2.length then A2 else B2)) t2) ∧ m' (Str.ofString "max_cost") = some (.int m tm)) (h₀ := s.heap) (L := L) (news := []) ?_ ?_
      · k_fold
        k_steps
        · refine cutS_end (by assumption) (news_sub (by assumption) (fun _ h => nomatch h)) ?_
          rw [if_pos (by omega), if_pos (by omega)]
          exact ⟨_, _, rfl, rfl, rfl⟩
        · refine cutS_end (by assumption) (by assumption) ?_
          rw [if_neg (by omega), if_neg (by omega)]
          exact ⟨_, _, rfl, rfl, rfl⟩
      intro h5 tk5 m5 ⟨t1, t2, k1, k2, k3⟩ F5 N5
      have eL : lev3 m A2 B2 = levCore m (if B2.length < A2.length then B2 else A2) (if B2.length < A2.length then A2 else B2) := by
        unfold lev3
        rw [if_neg (by rintro (rfl | rfl) <;> simp at *), if_neg (by omega)]
        split <;> rfl
      rw [eL] at hQ
      have l1 : 0 < (if B2.length < A2.length then B2 else A2).length := by split <;> omega
      have l2 : (if B2.length < A2.length then B2 else A2).length ≤ (if B2.length < A2.length then A2 else B2).length := by split <;> omega
      have l3 : (if B2.length < A2.length then A2 else B2).length ≤ 40 := by split <;> omega
      obtain ⟨u5, F6⟩ := canon F5 [(Str.ofString "a", .str (tx (if B2.length < A2.length then B2 else A2)) t1), (Str.ofString "b", .str (tx (if B2.length < A2.length then A2 else B2)) t2), (Str.ofString "max_cost", .int m tm)] (by
        intro p hp; rcases List.mem_cons.mp hp with rfl | hp; exact k1; rcases List.mem_cons.mp hp with rfl | hp; exact k2; rcases List.mem_cons.mp hp with rfl | hp; exact k3; cases hp)
      have cP : ∀ c ∈ (if B2.length < A2.length then B2 else A2), c < 128 := by split <;> assumption
      have cR : ∀ c ∈ (if B2.length < A2.length then A2 else B2), c < 128 := by split <;> assumption
      clear eL F5 k1 k2 k3
      generalize (if B2.length < A2.length then B2 else A2) = P at *
      generalize (if B2.length < A2.length then A2 else B2) = R at *
      dsimp only [kstB] at F6
      have lP : P.length ≤ 1000 := by omega
      have lR : R.length ≤ 1000 := by omega
      clear F4 N
      k_steps
      · walk_at "DONE"
        have e : levCore m P R = m + 1 := if_pos (by assumption)
        exact e ▸ hQ _ _ _ (Fr.keep (by assumption))
      have eL : levCore m P R = levLoop m P 0 R (firstRow P.length) 0 := if_neg (by assumption)
      rw [eL] at hQ
      clear eL
      (with_reducible rename Fr _ _ _ _ => F); (with_reducible rename News _ _ _ _ => N)
      refine list_range_N P.length rfl F N (by assumption) (range_two_small l1 lP) (range_two_size l1) (by omega) ?_
      intro D us kk h' tk F N hD hI
      k_steps
      refine Mark.mk ?_
      (with_reducible rename Fr _ _ _ _ => F); (with_reducible rename News _ _ _ _ => N)
      try dsimp only at F N
      obtain ⟨tr, htr⟩ : ∃ t, mapOf F (Str.ofString "result") = some (.int 0 t) := ⟨_, rfl⟩
      obtain ⟨u6, F6⟩ := canon F [(Str.ofString "result", .int 0 tr), (Str.ofString "row", .ref D), (Str.ofString "a", .str (tx P) t1), (Str.ofString "b", .str (tx R) t2), (Str.ofString "max_cost", .int m tm)] (by
        intro p hp
        rcases List.mem_cons.mp hp with rfl | hp; exact htr
        rcases List.mem_cons.mp hp with rfl | hp; rfl
        rcases List.mem_cons.mp hp with rfl | hp; rfl
        rcases List.mem_cons.mp hp with rfl | hp; rfl
        rcases List.mem_cons.mp hp with rfl | hp; rfl
        cases hp)
      refine lev_loops X T (by omega) F6 N hI l1 l2 l3 cP cR ?_
      intro h7 tk7 t7 k7
      walk_at "DONE"
      exact hQ _ _ _ k7
end
end

theorem hasattr_entry : entryFor table "hasattr" = some Builtin.«hasattr» := entryFor_of_fast (by kernel_rfl)
theorem hasattr_args (a b : Value) : argsOk "hasattr" ⟨[a, b], []⟩ := by unfold argsOk; kernel_rfl
theorem slot_md_get : Slot "method_descriptor" "__get__" "method_descriptor.__get__" :=
  .of (owner := "method_descriptor") (n := "__get__") (by rw [typeLookup_type, builtinLookup_eq_fast]; kernel_rfl) (by decide +kernel) (by decide +kernel) (by decide +kernel)
    (by first | exact .inl (by decide +kernel) | exact .inr (by decide +kernel)) (by rw [isSubtype_type]; kernel_rfl)
theorem md_get_args (a b c : Value) : argsOk "method_descriptor.__get__" ⟨[a, b, c], []⟩ := by unfold argsOk; kernel_rfl
theorem md_get_entry : entryFor table "method_descriptor.__get__" = some Builtin.«method_descriptor.__get__» := entryFor_of_fast (by kernel_rfl)
section
variable {prog : Program} {w : World} {A : Around} {E : Value → Shared → Prop} {s : Shared} {Q : Value → Shared → Prop}
theorem call_slot {T : String} {name : Str} {id : String} {B : Builtin} {self : Value} {rest : List Value} (slot : Slot T name id) (hT : s.TypeIs self T)
    (entry : entryFor table id = some B) (args : argsOk id ⟨self :: rest, []⟩)
    (h : wpAny (model prog w) A.in1 (B ⟨self :: rest, []⟩) (fun fin s' => match fin with | .done f => wants Q E (.ok f) s' | .again c' => c'.quiet = true ∧ codeAny (model prog w) A c' (wants Q E) s') (fun e s' => wants Q E (.error e) s') s) :
    wpAny (model prog w) A (call (.builtin id) (self :: rest)) Q E s :=
  wpAny_call (codeAny_call_builtin slot.plain entry (slot.check _ _ _ _ _ _ _ _ hT args h))
theorem code_slot {T : String} {name : Str} {id : String} {B : Builtin} {self : Value} {rest : List Value} {R : Result → Shared → Prop} (slot : Slot T name id) (hT : s.TypeIs self T)
    (entry : entryFor table id = some B) (args : argsOk id ⟨self :: rest, []⟩)
    (h : wpAny (model prog w) A.in1 (B ⟨self :: rest, []⟩) (fun fin s' => match fin with | .done f => R (.ok f) s' | .again c' => c'.quiet = true ∧ codeAny (model prog w) A c' R s') (fun e s' => R (.error e) s') s) :
    codeAny (model prog w) A (.call (.builtin id) ⟨self :: rest, []⟩) R s :=
  codeAny_call_builtin slot.plain entry (slot.check _ _ _ _ _ _ _ _ hT args h)
theorem hasattr_list {a : Addr} {xs : Array Value} {k : Nat} {u : Tok} (hx : s.heap.get? a = some { cls := .type "list", data := .seq xs k })
    (h : ∀ h' tk, Ext s.heap h' → Q (.bool true) { s with heap := h', toks := tk }) :
    wpAny (model prog w) A (call (.builtin "hasattr") [.ref a, .str (Str.ofString "__getitem__") u]) Q E s := by
  refine Calls.call_function_entry (by decide +kernel) (by decide +kernel) hasattr_entry (hasattr_args _ _) ?_
  obtain ⟨hp, g, d, tk, os⟩ := s
  have hT : ∀ tk', (⟨hp, g, d, tk', os⟩ : Shared).TypeIs (.ref a) "list" := fun _ => ⟨_, hx, rfl⟩
  have f2 := F.slot_list_getitem.lookup
  have f3 := F.slot_list_getattribute.lookup
  have f4 := F.slot_list_getattribute.bind (.ref a)
  have f5 : isSubtype (.type "list") (.type "module") = pure false := by rw [isSubtype_type]; kernel_rfl
  have f6 : typeOf (.builtin "list.__getitem__") = pure (.type "method_descriptor") := by show builtinType _ = _; rw [builtinType_eq_fast]; kernel_rfl
  have f7 : typeLookup (.type "method_descriptor") "__get__" = pure (some (.builtin "method_descriptor.__get__")) := by rw [typeLookup_type, builtinLookup_eq_fast]; kernel_rfl
  have f8 : typeLookup (.type "method_descriptor") "__set__" = pure none := by rw [typeLookup_type, builtinLookup_eq_fast]; kernel_rfl
  have f9 : typeLookup (.type "method_descriptor") "__delete__" = pure none := by rw [typeLookup_type, builtinLookup_eq_fast]; kernel_rfl
  unfold Builtin.«hasattr»
  repeat (any_goals (first | assumption | exact hT _ | wp_step))
  dsimp only
  repeat (any_goals (first | assumption | exact hT _ | wp_step))
  refine code_slot (rest := [_]) F.slot_list_getattribute (hT _) am_entry_list_getattribute (F.args_list_getattribute_2 _ _) ?_
  unfold Builtin.«object.__getattribute__»
  repeat (any_goals (first | assumption | exact hT _ | wp_step))
  dsimp only
  have hTb : ∀ tk', (⟨hp, g, d, tk', os⟩ : Shared).TypeIs (.builtin "list.__getitem__") "method_descriptor" := fun _ => f6
  have f10 : isSubtype (.type "list") (.type "list") = pure true := by rw [isSubtype_type]; kernel_rfl
  refine code_slot (rest := [_, _]) slot_md_get (hTb _) md_get_entry (md_get_args _ _ _) ?_
  unfold Builtin.«method_descriptor.__get__»
  repeat (any_goals (first | assumption | exact hT _ | wp_step))
  have f11 : ".".intercalate ("list.__getitem__".cutAt '.').dropLast = "list" := by decide +kernel
  rw [f11]
  dsimp only
  repeat (any_goals (first | assumption | exact hT _ | wp_step))
  exact ⟨_, rfl, h _ _ fun b o e => Heap.get?_push_of_some _ e⟩
end
example : True := by
  (k_with "call builtin:hasattr" => (
  (with_reducible rename Fr _ _ _ _ => kF)
  (with_reducible rename News _ _ _ _ => kN)
  (refine hasattr_list (s := ⟨_, _, _, _, _⟩) (by first | exact Fr.keep kF _ _ (by assumption) | exact (kN _ (by k_mem)).1) ?_)
  intro _ _ K'
  replace kF := Fr.keeps kF K'
  replace kN := News.grown kN K'
  clear K'
  (try dsimp only)
  (try k_fold)
  (try (revert kF; intro _))
  (try (revert kN; intro _))))
  trivial

section
variable {prog : Program} {w : World} {dp un : Nat} {fr : Option (List Env)} {gd : Option (List Code)} {E : Value → Shared → Prop} {s : Shared} {Q : Value → Shared → Prop}
theorem concat_spec (B : Base w s.heap) (hdp : dp + 10 < recursionLimit) (hu : un + 100 < cLine)
   {la lb : Addr} {xs ys : List Value} {ka kb : Nat} (ha : s.heap.get? la = some (listOf xs.toArray ka)) (hb : s.heap.get? lb = some (listOf ys.toArray kb)) (lx : xs.length ≤ 1000) (ly : ys.length ≤ 1000)
   (hQ : ∀ h' tk D, Ext s.heap h' → s.heap.get? D = none → h'.get? D = some (listOf (xs ++ ys).toArray 0) → Q (.ref D) { s with heap := h', toks := tk }) :
   wpAny (model prog w) (top0 dp un fr gd) (call (.ref 56) [.ref la, .ref lb]) Q E s := by
  refine' enter (binds := [("a", .ref la), ("b", .ref lb)]) B ?k6 ?k7 ?k8 ?k9 ?kB ?_ ?c2 ?c3 ?c4 ?c5
  walk_at "ENTER"
  intro mean mg mb L h₁ tk X T F N; k_fold
  have ia : s.heap.IsList la xs.toArray := PySem.IsL.isList ha
  have ib : s.heap.IsList lb ys.toArray := PySem.IsL.isList hb
  k_steps
  walk_at "DONE"
  (rename Fr _ _ _ _ => F); (rename News _ _ _ _ => N)
  exact hQ _ _ _ F.keep (N _ (.head _)).2.2 (N _ (.head _)).1
theorem enterH
    {name qual : Str} {params : Arguments} {body : List Stmt} {scope : Scope} {dV kV doc pm cdv ct oc : Value} {an od : Option Addr} {osl : Array (Option Value)} {f : Addr} {vs : List Value} {binds : List (Str × Value)} {A : Around} (news : List (Addr × Obj))
    (B : Base w (hideAll s.heap (news.map (·.1)))) (hn : ∀ p ∈ news, s.heap.get? p.1 = some p.2)
    (ho : (hd.heap_1 w.params).lookup f = some ⟨oc, od, .func (fnOf name qual params body scope dV kV doc pm an cdv ct), osl⟩) (hcd : codeIn (hd.heap_1 w.params) cdv qual = true) (hroom : A.depth < recursionLimit)
    (hbind : BindsTo s (fnOf name qual params body scope dV kV doc pm an cdv ct) ⟨vs, []⟩ binds) (hloc : ∀ y ∈ binds, scope.names.lookup y.1 = some .local)
    (h : ∀ mean mg mb L h₁ tk, (hd.heap_1 w.params).In (hideAll s.heap (news.map (·.1))) → Top lawView LS mean mg mb (hideAll s.heap (news.map (·.1))) → Fr (hideAll s.heap (news.map (·.1))) L h₁ (fun y => binds.reverse.lookup y) → News (hideAll s.heap (news.map (·.1))) L h₁ news →
      wpAny (model prog w) (A.deeper (envOf qual scope L f cdv)) (execs body (envOf qual scope L f cdv))
        (fun fl s' => Q (match fl with | .ret v => v | _ => .none) s') (fun _ _ => False)
        { s with heap := h₁, toks := tk })
    (hco : scope.isCoroutine = false) (hgen : scope.isGenerator = false) (hk : scope.kind = .function)
    (hcell : ∀ x ∈ scope.names, x.2 ≠ .cell) : wpAny (model prog w) A (call (.ref f) vs) Q E s := by
  refine wpAny_call ?_
  obtain ⟨X, mean, mg, mb, T⟩ := B
  have up : ∀ b o, (hideAll s.heap (news.map (·.1))).get? b = some o → s.heap.get? b = some o := fun b o e => of_hideAll _ e
  refine codeAny_call_def (fd := fnOf name qual params body scope dV kV doc pm an cdv ct) (body := body) (binds := binds) hroom (up _ _ (X _ _ ho)) rfl (T.nolimit.keeps up) (codeRec_of (X.keeps up) hcd) rfl hbind hcell hloc (fun h₁ hns hk₁ => ?_) hco hgen hk
  exact wpAny_mono (h _ _ _ _ h₁ _ X T ⟨hns, fun b o e => hk₁ b o (up b o e), Nat.le_of_eq (hideAll_size _ _)⟩ fun p hp => ⟨hk₁ _ _ (hn p hp), Nat.ne_of_lt (Heap.lt_size (hn p hp)), hideAll_none _ (List.mem_map_of_mem hp)⟩) (fun _ _ x => x) fun _ _ x => x.elim
theorem iadd_lists {A : Around} {la lb : Addr} {xs ys : List Value} {ka kb : Nat} (ha : s.heap.get? la = some (listOf xs.toArray ka)) (hb : s.heap.get? lb = some (listOf ys.toArray kb)) (lx : xs.length ≤ 1000) (ly : ys.length ≤ 1000)
    (h : Q (.ref la) { s with heap := s.heap.update la (Obj.mapSeq fun x => x ++ ys.toArray) }) : wpAny (model prog w) A (inplaceOp .Add (.ref la) (.ref lb)) Q E s := by
  have hT : s.TypeIs (.ref la) "list" := ⟨_, ha, rfl⟩
  have hT2 : s.TypeIs (.ref lb) "list" := ⟨_, hb, rfl⟩
  have hs : isSeqSlot (some (.builtin "list.__iadd__")) = true := by decide +kernel
  have hfi : fillsInplaceSlot (.type "list") "add" (Operator.Add == .Add) = pure false := by
    unfold fillsInplaceSlot
    show (typeLookup (.type "list") (dunderI "add") >>= fun fi => pure (fi.isSome && !isSeqSlot fi)) = pure false
    rw [F.slot_list_iadd.lookup]
    simp only [pure_bind, hs]
    rfl
  have hfill : fillsNumberSlot (.type "list") "add" = pure false := noFill_list_add
  have hsi : seqSlot? (.type "list") (dunderI "add") = pure (some (.builtin "list.__iadd__")) := PySem.seqSlot_of F.slot_list_iadd.lookup hs
  unfold inplaceOp
  refine wpAny_holding ?_
  refine wpAny_bind (wpAny_typeOf hT (wpAny_bind (wpAny_of_eq hfi ?_)))
  show wpAny _ A (if false = true then _ else _) Q E s
  rw [if_neg Bool.false_ne_true]
  refine wpAny_bind (wpAny_binaryOp1_none (nm := "add") hT hT2 hfill ?_)
  refine wpAny_bind (wpAny_of_eq hsi ?_)
  refine wpAny_bind (wpAny_rule ?_)
  refine call_meets F.slot_list_iadd hT F.entry_list_iadd (F.args_list_iadd_2 _ _) (AutoSeq1.list___iadd___list_list_0 la xs.toArray ka lb ys.toArray kb ?_ ?_ ?_) ⟨ha, hb, h⟩
  · have e : Builtin.List.listTooLong (xs.toArray.size + ys.toArray.size) = false := decide_eq_false (by rw [sizeLine_eq, List.size_toArray, List.size_toArray]; omega)
    rw [e]
    simp
  · rw [sizeLine_eq, List.size_toArray]; omega
  · rw [sizeLine_eq, List.size_toArray, List.size_toArray]; omega
theorem iconcat_spec {la lb : Addr} {xs ys : List Value} {ka kb : Nat} (B : Base w (hideAll s.heap [la])) (hdp : dp + 10 < recursionLimit) (hu : un + 100 < cLine)
   (ha : s.heap.get? la = some (listOf xs.toArray ka)) (hb : s.heap.get? lb = some (listOf ys.toArray kb)) (hne : lb ≠ la) (lx : xs.length ≤ 1000) (ly : ys.length ≤ 1000)
   (hQ : ∀ h' tk k, (∀ b o, b ≠ la → s.heap.get? b = some o → h'.get? b = some o) → h'.get? la = some (listOf (xs ++ ys).toArray k) → Q (.ref la) { s with heap := h', toks := tk }) :
   wpAny (model prog w) (top0 dp un fr gd) (call (.ref 63) [.ref la, .ref lb]) Q E s := by
  refine' enterH [(la, listOf xs.toArray ka)] (binds := [("a", .ref la), ("b", .ref lb)]) B ?hn ?k6 ?k7 ?k8 ?k9 ?kB ?_ ?c2 ?c3 ?c4 ?c5
  case hn => intro p hp; cases hp with | head => exact ha | tail _ hp => cases hp
  walk_at "ENTER"
  intro mean mg mb L h₁ tk X T F N; k_fold
  have hb' : (hideAll s.heap [la]).get? lb = some (listOf ys.toArray kb) := hideAll_get _ hb (by simpa using hne)
  have ib : (hideAll s.heap [la]).IsList lb ys.toArray := PySem.IsL.isList hb'
  k_steps
  (with_reducible rename Fr _ _ _ _ => F1); (with_reducible rename News _ _ _ _ => N1)
  have hla := (N1 (la, W.listOf xs.toArray ka) (.head _)).1
  have hlb := F1.keep _ _ hb'
  refine iadd_lists (s := ⟨_, _, _, _, _⟩) hla hlb lx ly ?_
  dsimp only
  have nL : la ≠ L := (N1 (la, W.listOf xs.toArray ka) (.head _)).2.1
  have nB := (N1 (la, W.listOf xs.toArray ka) (.head _)).2.2
  have F2 : Fr _ L (Heap.update _ la (Obj.mapSeq fun x => x ++ ys.toArray)) _ := F1.change (Heap.SameBut.update ..) nL nB
  have e2 : Obj.mapSeq (fun x => x ++ ys.toArray) (W.listOf xs.toArray ka) = W.listOf (xs ++ ys).toArray (if (xs ++ ys).length = xs.length then ka else ka + 1) := by
    simp [Obj.mapSeq, W.listOf]
  have hla2 := Heap.get?_update_self (Obj.mapSeq fun x => x ++ ys.toArray) hla rfl
  rw [e2] at hla2
  have N2 : News (hideAll s.heap [la]) L _ [(la, W.listOf (xs ++ ys).toArray _)] := fun p hp => by
    cases hp with
    | head => exact ⟨hla2, nL, nB⟩
    | tail _ hp => cases hp
  clear F1 N1
  k_steps
  walk_at "DONE"
  (with_reducible rename Fr _ _ _ _ => F3); (with_reducible rename News _ _ _ _ => N3)
  exact hQ _ _ _ (fun b o hb e => F3.keep b o (hideAll_get _ e (by simpa using hb))) (N3 _ (.head _)).1
end

noncomputable abbrev Four := Int × Int × Int × Int
/-- a square of four whole numbers, as it lies -/
noncomputable abbrev quadO (q : Four) (t : Tok × Tok × Tok × Tok) : Obj := { cls := .type "tuple", data := .seq #[.int q.1 t.1, .int q.2.1 t.2.1, .int q.2.2.1 t.2.2.1, .int q.2.2.2 t.2.2.2] }
noncomputable def qmul (x y : Four) : Four := (x.1 * y.1 + x.2.1 * y.2.2.1, x.1 * y.2.1 + x.2.1 * y.2.2.2, x.2.2.1 * y.1 + x.2.2.2 * y.2.2.1, x.2.2.1 * y.2.1 + x.2.2.2 * y.2.2.2)
noncomputable def QBd (n : Nat) (q : Four) : Prop := Builtin.Int.intBits q.1 ≤ n ∧ Builtin.Int.intBits q.2.1 ≤ n ∧ Builtin.Int.intBits q.2.2.1 ≤ n ∧ Builtin.Int.intBits q.2.2.2 ≤ n
section
variable {prog : Program} {w : World} {dp un : Nat} {fr : Option (List Env)} {gd : Option (List Code)} {E : Value → Shared → Prop} {s : Shared} {Q : Value → Shared → Prop}
theorem product_spec (B : Base w s.heap) (hdp : dp + 10 < recursionLimit) (hu : un + 100 < cLine)
   {ra rb : Addr} {x y : Four} {tx ty : Tok × Tok × Tok × Tok} {n m : Nat} (ha : s.heap.get? ra = some (quadO x tx)) (hb : s.heap.get? rb = some (quadO y ty)) (bx : QBd n x) (bY : QBd m y) (hnm : n + m ≤ 1000000)
   (hQ : ∀ h' tk D t, Ext s.heap h' → s.heap.get? D = none → h'.get? D = some (quadO (qmul x y) t) → Q (.ref D) { s with heap := h', toks := tk }) :
   wpAny (model prog w) (top0 dp un fr gd) (call (.ref 119) [.ref ra, .ref rb]) Q E s := by
  obtain ⟨a, b, c, d⟩ := x
  obtain ⟨e, f, g, h⟩ := y
  obtain ⟨ta, tb, tc, td⟩ := tx
  obtain ⟨te, tf, tg, th⟩ := ty
  obtain ⟨b1, b2, b3, b4⟩ := bx
  obtain ⟨b5, b6, b7, b8⟩ := bY
  dsimp only at b1 b2 b3 b4 b5 b6 b7 b8
  refine' enter (binds := [("one", .ref ra), ("other", .ref rb)]) B ?k6 ?k7 ?k8 ?k9 ?kB ?_ ?c2 ?c3 ?c4 ?c5
  walk_at "ENTER"
  intro mean mg mb L h₁ tk X T F N; k_fold
  have ia : IsTup s.heap ra #[.int a ta, .int b tb, .int c tc, .int d td] := ⟨_, ha, rfl, _, rfl⟩
  have ib : IsTup s.heap rb #[.int e te, .int f tf, .int g tg, .int h th] := ⟨_, hb, rfl, _, rfl⟩
  k_steps
  walk_at "DONE"
  (with_reducible rename Fr _ _ _ _ => F1); (with_reducible rename News _ _ _ _ => N1)
  exact hQ _ _ _ (_, _, _, _) F1.keep (N1 _ (.head _)).2.2 (N1 _ (.head _)).1
end
theorem qmul_bd {n m : Nat} {x y : Four} (bx : QBd n x) (bY : QBd m y) : QBd (n + m + 1) (qmul x y) := by
  obtain ⟨a, b, c, d⟩ := x
  obtain ⟨e, f, g, h⟩ := y
  obtain ⟨b1, b2, b3, b4⟩ := bx
  obtain ⟨b5, b6, b7, b8⟩ := bY
  dsimp only at b1 b2 b3 b4 b5 b6 b7 b8
  refine ⟨?_, ?_, ?_, ?_⟩
  · exact Nat.le_trans (bits_add (bits_mul b1 b5) (bits_mul b2 b7)) (by omega)
  · exact Nat.le_trans (bits_add (bits_mul b1 b6) (bits_mul b2 b8)) (by omega)
  · exact Nat.le_trans (bits_add (bits_mul b3 b5) (bits_mul b4 b7)) (by omega)
  · exact Nat.le_trans (bits_add (bits_mul b3 b6) (bits_mul b4 b8)) (by omega)
theorem news_add {h₀ h h' : Heap} {L D : Addr} {m : Str → Option Value} {news : List (Addr × Obj)} {o : Obj} (F : Fr h₀ L h m) (N : News h₀ L h news) (K : Ext h h') (hn : h.get? D = none) (hD : h'.get? D = some o) : News h₀ L h' ((D, o) :: news) := by
  intro p hp
  rcases List.mem_cons.mp hp with rfl | hp
  · refine ⟨hD, ?_, ?_⟩
    · rintro rfl
      obtain ⟨oL, _, _, hL, _⟩ := F.ns
      rw [hn] at hL
      cases hL
    · cases e : h₀.get? D with
      | none => rfl
      | some o₀ =>
        have := F.keep _ _ e
        rw [hn] at this
        cases this
  · exact (N.grown K) p hp
example : True := by
  (k_with "OBJ" => first | assumption | exact Fr.keep (by with_reducible assumption) _ _ (by assumption) | (with_reducible rename News _ _ _ _ => oN; exact (oN _ (by k_mem)).1))
  (k_with "MADE" => (
  intro _ _ _ _ K' hn' hD'
  (with_reducible rename Fr _ _ _ _ => kF)
  (with_reducible rename News _ _ _ _ => kN)
  replace kN := news_add kF kN K' hn' hD'
  replace kF := Fr.keeps kF K'
  clear K' hn' hD'
  (try dsimp only)
  (try k_fold)
  (try (revert kF; intro _))
  (try (revert kN; intro _))))
  (k_with "call ref" => (k_here; (try dsimp only); (with_reducible show wpAny _ _ (call (Value.ref 119) [Value.ref _, Value.ref _]) _ _ _); (refine' product_spec (s := ⟨_, _, _, _, _⟩) (Base.of (by k_asm) (by k_asm) (by k_asm)) (by walk_at "DEPTH") (by walk_at "DEPTH") (by walk_at "OBJ") (by walk_at "OBJ") (by assumption) (by assumption) (by omega) ?_); walk_at "MADE"))
  trivial
noncomputable def qtr (x : Four) : Int := x.1 + x.2.2.2
noncomputable def qkept (x y : Four) : Int := qtr x * qtr x + qtr y * qtr y + qtr (qmul x y) * qtr (qmul x y) - qtr x * qtr y * qtr (qmul x y)
section
variable {prog : Program} {w : World} {dp un : Nat} {fr : Option (List Env)} {gd : Option (List Code)} {E : Value → Shared → Prop} {s : Shared} {Q : Value → Shared → Prop}
theorem kept_spec (B : Base w s.heap) (hdp : dp + 20 < recursionLimit) (hu : un + 200 < cLine)
   {ra rb : Addr} {x y : Four} {tx ty : Tok × Tok × Tok × Tok} {n m : Nat} (ha : s.heap.get? ra = some (quadO x tx)) (hb : s.heap.get? rb = some (quadO y ty)) (bx : QBd n x) (bY : QBd m y) (hnm : n + m ≤ 100000)
   (hQ : ∀ h' tk t, Ext s.heap h' → Q (.int (qkept x y) t) { s with heap := h', toks := tk }) :
   wpAny (model prog w) (top0 dp un fr gd) (call (.ref 138) [.ref ra, .ref rb]) Q E s := by
  refine' enter (binds := [("one", .ref ra), ("other", .ref rb)]) B ?k6 ?k7 ?k8 ?k9 ?kB ?_ ?c2 ?c3 ?c4 ?c5
  walk_at "ENTER"
  intro mean mg mb L h₁ tk X T F N; k_fold
  have ia : IsTup s.heap ra #[.int x.1 tx.1, .int x.2.1 tx.2.1, .int x.2.2.1 tx.2.2.1, .int x.2.2.2 tx.2.2.2] := ⟨_, ha, rfl, _, rfl⟩
  have ib : IsTup s.heap rb #[.int y.1 ty.1, .int y.2.1 ty.2.1, .int y.2.2.1 ty.2.2.1, .int y.2.2.2 ty.2.2.2] := ⟨_, hb, rfl, _, rfl⟩
  obtain ⟨bz1, _, _, bz4⟩ := qmul_bd bx bY
  have bX : Builtin.Int.intBits (x.1 + x.2.2.2) ≤ n + m + 2 := Nat.le_trans (bits_add bx.1 bx.2.2.2) (by omega)
  have bY' : Builtin.Int.intBits (y.1 + y.2.2.2) ≤ n + m + 2 := Nat.le_trans (bits_add bY.1 bY.2.2.2) (by omega)
  have bZ : Builtin.Int.intBits ((qmul x y).1 + (qmul x y).2.2.2) ≤ n + m + 2 := Nat.le_trans (bits_add bz1 bz4) (by omega)
  have bXY : Builtin.Int.intBits ((x.1 + x.2.2.2) * (y.1 + y.2.2.2)) ≤ (n + m + 2) + (n + m + 2) := bits_mul bX bY'
  k_steps
  walk_at "DONE"
  (with_reducible rename Fr _ _ _ _ => F1)
  exact hQ _ _ _ F1.keep
end

/-- a thing that a comprehension goes through: n items, the i-th as P says -/
noncomputable def SrcAt (prog : Program) (w : World) (A : Around) (s₁ : Shared) (xv : Value) (n : Nat) (P : Nat → Value → Prop) : Prop :=
  n ≤ sizeLine ∧ ∀ (E : Value → Shared → Prop) (Q : Value → Shared → Prop),
    (∀ (I : Addr) (fp wr : List Addr) (St : Nat → Heap → Prop) (h₂ : Heap), Walks prog w A I fp wr n P St → St 0 h₂ → (∀ b ∈ fp, b < h₂.objs.size) → (∀ b ∈ wr, s₁.heap.get? b = none) → Ext s₁.heap h₂ →
      s₁.heap.objs.size ≤ h₂.objs.size → Q (.ref I) { s₁ with heap := h₂ }) → wpAny (model prog w) A (pyIter xv) Q E s₁
/-- what the block does with an item -/
structure CompOk (prog : Program) (w : World) (A : Around) (env : Env) (scope : Scope) (cl : List (Str × Addr)) (x : Str) (ifs : List Expr) (elt : Expr) (p : Value → Bool) (G : Value → Value → Prop) (P : Nat → Value → Prop) (h₁ : Heap) : Prop where
  tests : ∀ C u i v s₂ E', P i v → Fr h₁ C s₂.heap (kstB u [(x, v)]) →
    wpAny (model prog w) A (forIn ifs true fun c r => if r = true then do let ok ← isTrue c (compEnvC scope cl C env) (eval c (compEnvC scope cl C env)); pure (ForInStep.yield ok) else pure (ForInStep.yield r))
      (fun ok s₃ => ok = p v ∧ Keeps s₂ s₃) E' s₂
  elt : ∀ C u i v s₂ E', P i v → p v = true → Fr h₁ C s₂.heap (kstB u [(x, v)]) →
    wpAny (model prog w) A (eval elt (compEnvC scope cl C env)) (fun y s₃ => G v y ∧ Keeps s₂ s₃) E' s₂
section
variable {prog : Program} {w : World} {A : Around} {E : Value → Shared → Prop} {s : Shared} {h₀ : Heap} {env : Env}
theorem fresh_none {h : Heap} {b : Addr} (hb : h.objs.size ≤ b) : h.get? b = none := by
  cases e : h.get? b with
  | none => rfl
  | some o => exact absurd (Heap.lt_size e) (Nat.not_lt.mpr hb)
theorem CompOk.quiet {scope : Scope} {cl : List (Str × Addr)} {x : Str} {ifs : List Expr} {elt : Expr} {p : Value → Bool} {G : Value → Value → Prop} {P : Nat → Value → Prop} {s₁ : Shared} {h₂ : Heap} {wr : List Addr}
    (K : CompOk prog w A env scope cl x ifs elt p G P s₁.heap) (hw : ∀ b ∈ wr, s₁.heap.get? b = none) (hx : Ext s₁.heap h₂) (hsz : s₁.heap.objs.size ≤ h₂.objs.size) :
    QuietOnC prog w A env scope cl x ifs elt wr P p G { s₁ with heap := h₂ } := by
  have up : ∀ (C : Addr) (s₃ : Shared) (m₃ : Str → Option Value) (v : Value), h₂.objs.size ≤ C → s₃.heap.Ns C m₃ → m₃ x = some v → (∀ b o, b ∉ wr → h₂.get? b = some o → s₃.heap.get? b = some o) → ∃ u, Fr s₁.heap C s₃.heap (kstB u [(x, v)]) := by
    intro C s₃ m₃ v hC hn hm hk
    refine canon (h₀ := s₁.heap) ⟨hn, fun b o e => hk b o (fun hb => by rw [hw b hb] at e; cases e) (hx b o e), Nat.le_trans hsz hC⟩ [(x, v)] ?_
    intro p hp
    cases hp with
    | head => exact hm
    | tail _ hp => cases hp
  refine ⟨?_, ?_⟩
  · intro C i v s₃ m₃ E' hC hP hn hm hk _
    obtain ⟨u, F⟩ := up C s₃ m₃ v hC hn hm hk
    exact K.tests C u i v s₃ E' hP F
  · intro C i v s₃ m₃ E' hC hP hp hn hm hk _
    obtain ⟨u, F⟩ := up C s₃ m₃ v hC hn hm hk
    exact K.elt C u i v s₃ E' hP hp F
theorem comp_E {elt iter : Expr} {x : Str} {px : Pos} {ifs : List Expr} {scope : Scope} {cl : List (Str × Addr)} {pos : Pos} {Q : Value → Shared → Prop} {L : Addr} {m : Str → Option Value} {news : List (Addr × Obj)} (F₀ : Fr h₀ L s.heap m) (N₀ : News h₀ L s.heap news) (p : Value → Bool) (G : Value → Value → Prop)
    (hclos : closureFor scope env = pure cl) (hcell : ∀ y ∈ scope.names, y.2 ≠ .cell) (hkind : scope.kind = .function)
    (hnames : ∀ y ∈ scope.names, y.2 = .local → scope.names.lookup y.1 = some .local) (hx : scope.names.lookup x = some .local)
    (h : wpAny (model prog w) A (eval iter env) (fun xv s₁ => Mark (∃ n P, SrcAt prog w A s₁ xv n P ∧ CompOk prog w A env scope cl x ifs elt p G P s₁.heap ∧ Fr h₀ L s₁.heap m ∧ News h₀ L s₁.heap news ∧
      ∀ (D : Addr) (ys : List Value) (k : Nat) (vs : List Value) (h' : Heap) (tk : Nat), Fr h₀ L h' m → News h₀ L h' ((D, listOf (List.toArray ys) k) :: news) → (∀ p ∈ news, p.1 ≠ D) → vs.length = n → (∀ (j : Nat) v, vs[j]? = some v → P j v) → Paired G (vs.filter p) ys → Q (.ref D) { s₁ with heap := h', toks := tk })) E s)
    (hs : ∀ x, foldedSetIterable iter env x = pure x := by intro _; rfl) :
    wpAny (model prog w) A (eval (.ListComp elt [⟨.Name x px, iter, ifs, 0⟩] scope pos) env) Q E s := by
  refine wpAny_ListComp_free p G hclos hcell hkind hnames hx (wpAny_mono h (fun xv s₁ h₁ => ?_) fun _ _ e => e) hs
  obtain ⟨n, P, S, K, F, N, hQ⟩ := h₁.out
  refine S.2 E _ fun I fp wr St h₂ W st hfp hwr hext hsz => ⟨I, fp, wr, n, P, St, rfl, W, S.1, st, hfp, K.quiet hwr hext hsz, ?_⟩
  intro D h' tk ys vs hnew hlD hplD hlen hP hF hk
  obtain ⟨k, hplD⟩ := hplD
  have keep : ∀ b o, s₁.heap.get? b = some o → h'.get? b = some o := fun b o e => hk b o (fun hb => by rw [hwr b hb] at e; cases e) (hext b o e)
  have hD : ∀ b o, s₁.heap.get? b = some o → b ≠ D := fun b o e hb => by
    have := hext b o e
    rw [hb] at this
    exact absurd (this.symm.trans hnew) (by simp)
  have hnD : h'.get? D = some (listOf (List.toArray ys.toList) k) := by
    rw [Array.toArray_toList]
    exact hplD
  have F' := F.keeps keep
  refine hQ D ys.toList k vs h' tk F' ?_ (fun p hp => hD _ _ (N p hp).1) hlen hP hF
  intro q hq
  rcases List.mem_cons.mp hq with rfl | hq
  · refine ⟨hnD, ?_, ?_⟩
    · show D ≠ L
      obtain ⟨o, es, ep, hL, _⟩ := F.ns
      exact fun e => hD L o hL e.symm
    · show h₀.get? D = none
      cases e : h₀.get? D with
      | none => rfl
      | some o' => exact absurd rfl (hD D o' (F.keep _ _ e))
  · exact N.grown keep q hq
theorem comp_A {elt iter : Expr} {x y : Str} {px py : Pos} {ifs : List Expr} {scope : Scope} {cl : List (Str × Addr)} {pos spos : Pos} {Q : Flow → Shared → Prop} {m : Str → Option Value} {news : List (Addr × Obj)}
    (F₀ : Fr h₀ env.locals s.heap m) (N₀ : News h₀ env.locals s.heap news) (p : Value → Bool) (G : Value → Value → Prop)
    (hsw : swapsWith (.ListComp elt [⟨.Name x px, iter, ifs, 0⟩] scope pos) (some (.Name y py)) spos.line env = pure true)
    (hclos : closureFor scope env = pure cl) (hcell : ∀ z ∈ scope.names, z.2 ≠ .cell) (hkind : scope.kind = .function)
    (hnames : ∀ z ∈ scope.names, z.2 = .local → scope.names.lookup z.1 = some .local) (hx : scope.names.lookup x = some .local)
    (hy : env.kindOf y = some .local) (hp : (env.scope.kind == .class || (env.scope.kind == .module && env.locals != env.globals)) = false)
    (h : wpAny (model prog w) A (eval iter env) (fun xv s₁ => Mark (∃ n P, SrcAt prog w A s₁ xv n P ∧ CompOk prog w A env scope cl x ifs elt p G P s₁.heap ∧ Fr h₀ env.locals s₁.heap m ∧ News h₀ env.locals s₁.heap news ∧
      ∀ (D : Addr) (ys : List Value) (k : Nat) (vs : List Value) (h' : Heap) (tk : Nat), Fr h₀ env.locals h' (fun z => if z = y then some (.ref D) else m z) → News h₀ env.locals h' ((D, listOf (List.toArray ys) k) :: news) → (∀ p ∈ news, p.1 ≠ D) → vs.length = n → (∀ (j : Nat) v, vs[j]? = some v → P j v) → Paired G (vs.filter p) ys →
        Q .next { s₁ with heap := h', toks := tk })) E s)
    (hs : ∀ x, foldedSetIterable iter env x = pure x := by intro _; rfl) :
    wpAny (model prog w) A (exec (.Assign [.Name y py] (.ListComp elt [⟨.Name x px, iter, ifs, 0⟩] scope pos) spos) env) Q E s := by
  refine wpAny_Assign_ListComp_free p G hsw hclos hcell hkind hnames hx hy hp (wpAny_mono h (fun xv s₁ h₁ => ?_) fun _ _ e => e) hs
  obtain ⟨n, P, S, K, F, N, hQ⟩ := h₁.out
  refine S.2 E _ fun I fp wr St h₂ W st hfp hwr hext hsz => ⟨I, fp, wr, n, P, St, m, rfl, W, S.1, st, hfp, ?_, F.ns.keeps hext, K.quiet hwr hext hsz, ?_⟩
  · intro hb
    obtain ⟨o, es, ep, hL, _⟩ := F.ns
    rw [hwr _ hb] at hL
    cases hL
  intro D h' tk ys vs hnew hlD hplD hlen hP hF hn' hk
  obtain ⟨k, hplD⟩ := hplD
  have keep : ∀ b o, b ≠ env.locals → s₁.heap.get? b = some o → h'.get? b = some o := fun b o hb e => hk b o hb (fun hb => by rw [hwr b hb] at e; cases e) (hext b o e)
  have hD : ∀ b o, s₁.heap.get? b = some o → b ≠ D := fun b o e hb => by
    have := hext b o e
    rw [hb] at this
    exact absurd (this.symm.trans hnew) (by simp)
  have hnD : h'.get? D = some (listOf (List.toArray ys.toList) k) := by
    rw [Array.toArray_toList]
    exact hplD
  refine hQ D ys.toList k vs h' tk ⟨hn', fun b o e => keep b o (Nat.ne_of_lt (Nat.lt_of_lt_of_le (Heap.lt_size e) F.above)) (F.keep b o e), F.above⟩ ?_ (fun p hp => hD _ _ (N p hp).1) hlen hP hF
  intro q hq
  rcases List.mem_cons.mp hq with rfl | hq
  · refine ⟨hnD, ?_, ?_⟩
    · show D ≠ env.locals
      obtain ⟨o, es, ep, hL, _⟩ := F.ns
      exact fun e => hD _ o hL e.symm
    · show h₀.get? D = none
      cases e : h₀.get? D with
      | none => rfl
      | some o' => exact absurd rfl (hD D o' (F.keep _ _ e))
  · exact ⟨keep _ _ (N q hq).2.1 (N q hq).1, (N q hq).2⟩
theorem src_list {ax : Addr} {vs : List Value} (hh : A.handled = none) (hl : s.heap.IsList ax vs.toArray) (hz : vs.length ≤ sizeLine) : SrcAt prog w A s (.ref ax) vs.length (fun i v => vs[i]? = some v) := by
  refine ⟨hz, fun E Q hQ => wpAny_pyIter_list hl ?_⟩
  have hlt : ax < s.heap.objs.size := by obtain ⟨_, e, _⟩ := hl; exact Heap.lt_size e
  have W := Walks.list (prog := prog) (w := w) hh s.heap.objs.size ax (Nat.ne_of_lt hlt) vs.toArray
  simp only [List.size_toArray, List.getElem?_toArray] at W
  refine hQ _ _ _ _ _ W ⟨⟨_, Heap.get?_push_size _ rfl, rfl, rfl⟩, hl.push _⟩ ?_ ?_ ?_ ?_
  · intro b hb
    rw [Heap.size_push]
    rcases List.mem_cons.mp hb with rfl | hb
    · exact Nat.lt_succ_self _
    · rcases List.mem_cons.mp hb with rfl | hb
      · exact Nat.lt_succ_of_lt hlt
      · cases hb
  · intro b hb
    rw [List.mem_singleton.mp hb]
    exact fresh_none (Nat.le_refl _)
  · intro b o e
    exact Heap.get?_push_of_some _ e
  · rw [Heap.size_push]
    exact Nat.le_succ _
theorem src_range {r : Addr} {b₀ : Int} {t₀ u₀ v₀ : Tok} {n : Nat} (hh : A.handled = none) (hr : IsRange s.heap r 0 b₀ 1 t₀ u₀ v₀) (hb : b₀ = (n : Int)) (hz : n ≤ 1000) :
    SrcAt prog w A s (.ref r) n (fun i v => i < n ∧ ∃ t, v = .int (i : Int) t) := by
  subst hb
  refine ⟨by rw [PySem.sizeLine_eq]; omega, fun E Q hQ => ?_⟩
  have hn : Builtin.Range.rangeSize 0 (n : Int) 1 = (n : Int) := by rw [rangeSize_one]; split <;> omega
  refine wpAny_pyIter_range hr (small_one (by omega) (by omega) (by omega) (by omega)) ?_
  have W : Walks prog w A s.heap.objs.size [s.heap.objs.size] [s.heap.objs.size] n (fun i v => i < n ∧ ∃ t, v = .int (0 + i * 1) t)
      (fun i h => IsRangeIter h s.heap.objs.size (0 + (i : Nat) * 1) ((n : Int) - (i : Nat)) 1) := (Walks.range hh _ 0 1 n).bound
  have e : (fun (i : Nat) (v : Value) => i < n ∧ ∃ t, v = .int (0 + (i : Int) * 1) t) = (fun i v => i < n ∧ ∃ t, v = .int (i : Int) t) := by
    funext i v
    simp
  rw [e] at W
  refine hQ _ _ _ _ _ W ?_ ?_ ?_ ?_ ?_
  · show IsRangeIter _ _ _ _ _
    rw [hn]
    simpa using Heap.get?_push_size _ rfl
  · intro b hb
    rw [List.mem_singleton.mp hb, Heap.size_push]
    exact Nat.lt_succ_self _
  · intro b hb
    rw [List.mem_singleton.mp hb]
    exact fresh_none (Nat.le_refl _)
  · intro b o e
    exact Heap.get?_push_of_some _ e
  · rw [Heap.size_push]
    exact Nat.le_succ _
end
/-- a block without tests: nothing to ask -/
theorem CompOk.plain {scope : Scope} {cl : List (Str × Addr)} {x : Str} {elt : Expr} {G : Value → Value → Prop} {P : Nat → Value → Prop} {h₁ : Heap} {prog : Program} {w : World} {A : Around} {env : Env}
   (helt : ∀ C u i v s₂ E', P i v → Fr h₁ C s₂.heap (kstB u [(x, v)]) → News h₁ C s₂.heap [] → wpAny (model prog w) A (eval elt (compEnvC scope cl C env)) (fun y s₃ => Mark (G v y ∧ Keeps s₂ s₃)) E' s₂) :
   CompOk prog w A env scope cl x [] elt (fun _ => true) G P h₁ :=
  ⟨fun C u i v s₂ E' hP F => wpAny_pure ⟨rfl, s₂.heap, s₂.toks, rfl, fun _ _ e => e⟩, fun C u i v s₂ E' hP _ F => wpAny_mono (helt C u i v s₂ E' hP F News.nil) (fun _ _ x => x.out) fun _ _ x => x⟩
theorem CompOk.one {scope : Scope} {cl : List (Str × Addr)} {x : Str} {c elt : Expr} {p : Value → Bool} {G : Value → Value → Prop} {P : Nat → Value → Prop} {h₁ : Heap} {prog : Program} {w : World} {A : Around} {env : Env}
   (ht : ∀ C u i v s₂ E', P i v → Fr h₁ C s₂.heap (kstB u [(x, v)]) → News h₁ C s₂.heap [] → wpAny (model prog w) A (isTrue c (compEnvC scope cl C env) (eval c (compEnvC scope cl C env))) (fun ok s₃ => Mark (ok = p v ∧ Keeps s₂ s₃)) E' s₂)
   (helt : ∀ C u i v s₂ E', P i v → p v = true → Fr h₁ C s₂.heap (kstB u [(x, v)]) → News h₁ C s₂.heap [] → wpAny (model prog w) A (eval elt (compEnvC scope cl C env)) (fun y s₃ => Mark (G v y ∧ Keeps s₂ s₃)) E' s₂) :
   CompOk prog w A env scope cl x [c] elt p G P h₁ := by
  refine ⟨fun C u i v s₂ E' hP F => ?_, fun C u i v s₂ E' hP hp F => wpAny_mono (helt C u i v s₂ E' hP hp F News.nil) (fun _ _ x => x.out) fun _ _ x => x⟩
  simp only [List.forIn_cons, List.forIn_nil, if_true]
  refine wpAny_bind (wpAny_bind (wpAny_mono (ht C u i v s₂ E' hP F News.nil) (fun ok s₃ x => ?_) fun _ _ x => x))
  exact wpAny_pure (wpAny_pure x.out)
theorem inElt_next {h h' h'' : Heap} (x : InElt h h') (k : Ext h' h'') : InElt h h'' := fun b o e => k b o (x b o e)
/-- a captured name's cell, told of the ground -/
structure CellIs (h : Heap) (c : Addr) (v : Value) : Prop where
  is : h.IsCell c (some v)
theorem CellIs.of {h₀ h : Heap} {L c : Addr} {o : Obj} {v : Option Value} {v' : Value} {news : List (Addr × Obj)} (N : News h₀ L h news) (hm : (c, o) ∈ news) (hd : o.data = .cell v) (e : v = some v') : CellIs h c v' := ⟨⟨o, N.get hm, e ▸ hd⟩⟩
theorem name_cellB {M : Model} {A : Around} {E : Value → Shared → Prop} {s : Shared} {env : Env} {g : Heap} {C C' c : Addr} {v : Value} {m : Str → Option Value} {x : Str} {pos : Pos} {scope : Scope} {cl : List (Str × Addr)} {Q : Value → Shared → Prop}
   (F : Fr g C' s.heap m) (hc : cl.lookup x = some c) (hk : (compEnvC scope cl C env).scope.kind = .function) (hl : (compEnvC scope cl C env).kindOf x = some .cell) (hd : (x == ("__debug__" : Str)) = false)
   (K : CellIs g c v) (h : Q v s) : wpAny M A (eval (.Name x pos) (compEnvC scope cl C env)) Q E s := ldCellK hc (K.is.keeps F.keep) h hk hl hd
theorem keeps_end {P : Prop} {s₂ : Shared} {h' : Heap} {tk : Nat} (hp : P) (K : InElt s₂.heap h') : Mark (P ∧ Keeps s₂ { s₂ with heap := h', toks := tk }) := ⟨hp, h', tk, rfl, K⟩
theorem isl_keeps {h h' : Heap} {a : Addr} {vs : Array Value} (l : h.IsList a vs) (k : Ext h h') : h'.IsList a vs := l.at fun o e => k _ o e
noncomputable def numOf1 : Value → Int
  | .int i _ => i
  | _ => 0
theorem ints_at {vs : List Value} {ns : List Int} (h : IntsAre vs ns) : ∀ (j : Nat) v, vs[j]? = some v → ∃ t, v = .int (numOf1 v) t ∧ ns[j]? = some (numOf1 v) := by
  induction h with
  | nil => intro j v e; simp at e
  | cons i t _ ih =>
    intro j v e
    cases j with
    | zero => simp at e; subst e; exact ⟨t, rfl, by simp [numOf1]⟩
    | succ j => simpa using ih j v (by simpa using e)
theorem ints_pair {vs ys : List Value} {ns : List Int} (h : IntsAre vs ns) (q : Int → Bool) (f : Int → Int) : Paired (fun v y => ∃ t, y = Value.int (f (numOf1 v)) t) (vs.filter fun v => q (numOf1 v)) ys → IntsAre ys ((ns.filter q).map f) := by
  induction h generalizing ys with
  | nil => intro h; cases h; exact .nil
  | cons i t _ ih =>
    intro h
    rw [List.filter_cons] at h
    rw [List.filter_cons]
    by_cases hq : q i = true
    · rw [if_pos hq]
      rw [if_pos (show q (numOf1 (Value.int i t)) = true from hq)] at h
      cases h with
      | cons h1 h2 =>
        obtain ⟨t', rfl⟩ := h1
        exact .cons _ _ (ih h2)
    · rw [if_neg hq]
      rw [if_neg (show ¬ q (numOf1 (Value.int i t)) = true from hq)] at h
      exact ih h
theorem pick_pair {vs ys : List Value} {ns : List Int} (h : IntsAre vs ns) (f : Int → Value) : Paired (fun v y => y = f (numOf1 v)) (vs.filter fun _ => true) ys → ys = ns.map f := by
  rw [List.filter_eq_self.mpr (fun _ _ => rfl)]
  induction h generalizing ys with
  | nil => intro h; cases h; rfl
  | cons i t _ ih =>
    intro h
    cases h with
    | cons h1 h2 =>
      subst h1
      rw [ih h2]
      rfl
theorem vals_of {vs us : List Value} (hl : us.length = vs.length) (h : ∀ (j : Nat) v, us[j]? = some v → vs[j]? = some v) : us = vs := by
  have := list_of_places (items := vs.toArray) (vs := us) (by simpa using hl) (fun j v e => by simpa using h j v e)
  simpa using this
example : True := by
  (k_with "exec Assign cons ListComp" => (refine Mark.out ?_))
  (k_with "eval ListComp" => (refine Mark.out ?_))
  (k_with "KEPTB" => (
  intro _ _ K'
  (with_reducible rename Fr _ _ _ _ => kF)
  (with_reducible rename News _ _ _ _ => kN)
  (try ((with_reducible rename InElt _ _ => kE); (replace kE := inElt_next kE K')))
  replace kF := Fr.keeps kF K'
  replace kN := News.grown kN K'
  clear K'
  (try dsimp only)
  (try k_fold)
  (try (revert kF; intro _))
  (try (revert kN; intro _))
  (try (revert kE; intro _))))
  (k_with "call ref" => (k_here; (try dsimp only); first
  | ((with_reducible show wpAny _ _ (call (Value.ref 73) [Value.int _ _]) _ _ _); (refine' isterm_int (s := ⟨_, _, _, _, _⟩) (Base.of (by k_asm) (by k_asm) (by k_asm)) (by walk_at "DEPTH") _ _ ?_); walk_at "KEPTB")
  | ((with_reducible show wpAny _ _ (call (Value.ref 80) [Value.int _ _]) _ _ _); (refine' isnon_int (s := ⟨_, _, _, _, _⟩) (Base.of (by k_asm) (by k_asm) (by k_asm)) (by walk_at "DEPTH") _ _ ?_); walk_at "KEPTB")
  | ((with_reducible show wpAny _ _ (call (Value.ref 87) [Value.int _ _]) _ _ _); (refine' iseof_int (s := ⟨_, _, _, _, _⟩) (Base.of (by k_asm) (by k_asm) (by k_asm)) (by walk_at "DEPTH") _ _ ?_); walk_at "KEPTB")))
  (k_with "eval Name" => ((k_here; (with_reducible show wpAny _ _ (eval _ (compEnvC _ _ _ _)) _ _ _); (with_reducible rename Fr _ _ _ _ => kF); (with_unfolding_all refine' name_cellB kF (by with_unfolding_all rfl) (by with_unfolding_all rfl) (by with_unfolding_all rfl) (by decide) (by assumption) ?_); k_whole); (try (revert kF; intro _))))
  (k_with "BLKEND" => ((all_goals (try (first | exact (0 : Addr) | exact (default : Str) | exact Value.none | exact ([] : List (Str × Addr))))); (try k_unfold); (try dsimp only); (refine keeps_end ?_ (by assumption))))
  (k_with "COMPA" => (
  (case hsw => with_unfolding_all rfl)
  (case hclos => with_unfolding_all rfl)
  (case hcell => decide)
  (case hkind => with_unfolding_all rfl)
  (case hnames => decide)
  (case hx => with_unfolding_all rfl)
  (case hy => with_unfolding_all rfl)
  (case hp => with_unfolding_all rfl)
  (case hs => intro _; with_unfolding_all rfl)))
  (k_with "COMPE" => (
  (case hclos => with_unfolding_all rfl)
  (case hcell => decide)
  (case hkind => with_unfolding_all rfl)
  (case hnames => decide)
  (case hx => with_unfolding_all rfl)
  (case hs => intro _; with_unfolding_all rfl)))
  trivial

section
variable {prog : Program} {w : World} {A : Around} {E : Value → Shared → Prop} {s : Shared} {Q : Value → Shared → Prop}
/-- a call of a def of which some names are captured -/
theorem enterC
    {name qual : Str} {params : Arguments} {body : List Stmt} {scope : Scope} {dV kV doc pm cdv ct oc : Value} {an od : Option Addr} {osl : Array (Option Value)} {f : Addr} {vs : List Value} {binds : List (Str × Value)}
    (B : Base w s.heap)
    (ho : (hd.heap_1 w.params).lookup f = some ⟨oc, od, .func (fnOf name qual params body scope dV kV doc pm an cdv ct), osl⟩) (hcd : codeIn (hd.heap_1 w.params) cdv qual = true) (hroom : A.depth < recursionLimit)
    (hbind : BindsTo s (fnOf name qual params body scope dV kV doc pm an cdv ct) ⟨vs, []⟩ binds)
    (hkind : (binds.all fun y => scope.names.lookup y.1 == some .local || scope.names.lookup y.1 == some .cell) = true)
    (hnd : ((cellsFrom 0 scope.names []).map (·.1)).Nodup)
    (h : ∀ mean mg mb L h₁ tk cells, (hd.heap_1 w.params).In s.heap → Top lawView LS mean mg mb s.heap → Fr s.heap L h₁ (bindL (envOfC qual scope L f cdv).kindOf binds fun _ => none) → News s.heap L h₁ cells →
      CellsAre (bindC (envOfC qual scope L f cdv).kindOf binds fun _ => none) (cellsFrom (L + 1) scope.names []) cells →
      wpAny (model prog w) (A.deeper (envOfC qual scope L f cdv)) (execs body (envOfC qual scope L f cdv))
        (fun fl s' => Q (match fl with | .ret v => v | _ => .none) s') (fun _ _ => False)
        { s with heap := h₁, toks := tk })
    (hco : scope.isCoroutine = false) (hgen : scope.isGenerator = false) (hk : scope.kind = .function) : wpAny (model prog w) A (call (.ref f) vs) Q E s := by
  refine wpAny_call ?_
  obtain ⟨X, mean, mg, mb, T⟩ := B
  refine codeAny_call_function hroom (X _ _ ho) rfl hco hgen rfl (codeRec_of X hcd) (hbind _ _ _ _ ?_)
  refine wpAny_newFunctionEnv_cells hk (kindsX hkind _) fun env' he s' x => ?_
  subst he
  refine ⟨T.nolimit.keeps x.toInCall.keep, codeAny_func ?_⟩
  obtain ⟨h₁, tk, rfl, _⟩ := x.done
  have hk₁ := x.toInCall.keep
  obtain ⟨cells, NC, Y⟩ := Cl.news (h₀ := s.heap) (Nat.le_refl _) fun n c hm => ⟨x.cell n c (lookup_of_mem_nodup (cellsFrom_names scope.names 0 (s.heap.objs.size + 1) [] [] rfl ▸ hnd) hm), x.above n c hm⟩
  exact wpAny_mono (h _ _ _ s.heap.objs.size h₁ tk cells X T ⟨x.toInCall.ns, hk₁, Nat.le_refl _⟩ NC Y) (fun _ _ x => x) fun _ _ x => x.elim
end
example : True := by
  (k_with "ENTERC" => (
  k_dflt ((case k6 => k_is); (case k7 => k_is); (case k8 => walk_at "DEPTH"); (case k9 => exact BindsTo.of_eq rfl); (case kB => exact rfl); (case kD => decide +kernel); (case c2 => exact rfl); (case c3 => exact rfl); (case c4 => exact rfl))))
  trivial

/-- a word's letters, one text each -/
inductive CharsAre : List Value → List Nat → Prop where
  | nil : CharsAre [] []
  | cons (c : Nat) (t : Tok) {vs : List Value} {l : List Nat} : CharsAre vs l → CharsAre (.str (tx [c]) t :: vs) (c :: l)
theorem CharsAre.append {vs ws : List Value} {l k : List Nat} (h : CharsAre vs l) (h2 : CharsAre ws k) : CharsAre (vs ++ ws) (l ++ k) := by
  induction h with
  | nil => exact h2
  | cons c t _ ih => exact .cons c t ih
theorem CharsAre.length {vs : List Value} {l : List Nat} (h : CharsAre vs l) : vs.length = l.length := by
  induction h with
  | nil => rfl
  | cons c t _ ih => simp [ih]
/-- a word and a square -/
noncomputable abbrev Thing := List Nat × Four
noncomputable abbrev tupO (vs : Array Value) : Obj := { cls := .type "tuple", data := .seq vs }
noncomputable def LObj (o : Obj) (its : Array Value) : Prop := o.cls = .type "list" ∧ ∃ n, o.data = .seq its n
noncomputable def ThingIn (led : List (Addr × Obj)) (r : Addr) (T : Thing) : Prop :=
  ∃ w q cs kw t, (r, tupO #[.ref w, .ref q]) ∈ led ∧ (w, W.listOf (List.toArray cs) kw) ∈ led ∧ CharsAre cs T.1 ∧ (q, quadO T.2 t) ∈ led
noncomputable def PairIn (led : List (Addr × Obj)) (r : Addr) (A B : Thing) : Prop :=
  ∃ r0 r1 o, (r, o) ∈ led ∧ LObj o #[.ref r0, .ref r1] ∧ ThingIn led r0 A ∧ ThingIn led r1 B
theorem ThingIn.mono {led led' : List (Addr × Obj)} {r : Addr} {T : Thing} (h : ThingIn led r T) (hs : ∀ p ∈ led, p ∈ led') : ThingIn led' r T := by
  obtain ⟨w, q, cs, kw, t, h1, h2, h3, h4⟩ := h
  exact ⟨w, q, cs, kw, t, hs _ h1, hs _ h2, h3, hs _ h4⟩
theorem PairIn.mono {led led' : List (Addr × Obj)} {r : Addr} {A B : Thing} (h : PairIn led r A B) (hs : ∀ p ∈ led, p ∈ led') : PairIn led' r A B := by
  obtain ⟨r0, r1, o, h1, hl, h2, h3⟩ := h
  exact ⟨r0, r1, o, hs _ h1, hl, h2.mono hs, h3.mono hs⟩
noncomputable def afterRest : List Stmt := (bodyOf "_law_after").drop 4
noncomputable def afterScope : Scope := scopeOf "_law_after"
noncomputable abbrev pickOf (r0 r1 : Addr) (i : Int) : Value := if i = 0 then .ref r0 else .ref r1
section
variable {prog : Program} {w : World} {dp un : Nat} {fr : Option (List Env)} {gd : Option (List Code)} {E : Value → Shared → Prop} {s : Shared} {Q : Value → Shared → Prop}

example : True := by
  (k_with "execs cons" => ((guard_hyp stopq4 : True); ((
  (with_reducible show wpAny _ _ (execs (List.cons (Stmt.If _ _ _ { line := 173, col := _, endLine := _, endCol := _ }) _) _) _ _ _)
  refine Mark.out ?_))))
  trivial
theorem after_front (B : Base w s.heap) (hdp : dp + 40 < recursionLimit) (hu : un + 400 < cLine)
   {lr lt r0 r1 : Addr} {kr : Nat} {vr : List Value} {ns : List Int}
   (iv : IntsAre vr ns) (hz : vr.length ≤ 8) (hns : ∀ i ∈ ns, i ≥ 256 → i = 256 ∨ i = 257)
   (hr : s.heap.get? lr = some (W.listOf vr.toArray kr)) (it : s.heap.IsList lt [Value.ref r0, .ref r1].toArray)
   (hQ : ∀ mean mg mb L h₁ tk oc D D2 D3 D4 kD kD2 kD3 k4 (v1 v2 v3 : List Value) u, (hd.heap_1 w.params).In s.heap → Top lawView LS mean mg mb s.heap →
     Fr s.heap L h₁ (kstB u [(Str.ofString "after", .ref D4), (Str.ofString "told", .ref D3), (Str.ofString "signs", .ref D2), (Str.ofString "names", .ref D)]) →
     News s.heap L h₁ [(D4, W.listOf #[.ref r0, .ref r1] k4), (D3, W.listOf v3.toArray kD3), (D2, W.listOf v2.toArray kD2), (D, W.listOf v1.toArray kD), (L + 1, oc)] →
     (D3 < D4 ∧ D2 < D4 ∧ D < D4 ∧ L + 1 < D4) → D ≠ D2 → D ≠ D3 → D2 ≠ D3 → D ≠ L + 1 → D2 ≠ L + 1 → D3 ≠ L + 1 →
     IntsAre v1 ((ns.filter fun z => decide (z ≥ 256)).map (· - 256)) → IntsAre v2 (ns.filter fun z => decide (z < 256)) → v3 = ((ns.filter fun z => decide (z ≥ 256)).map (· - 256)).map (pickOf r0 r1) →
     wpAny (model prog w) ((top0 dp un fr gd).deeper (envOfC "_law_after" afterScope L 124 (.ref 123))) (execs afterRest (envOfC "_law_after" afterScope L 124 (.ref 123)))
       (fun fl s' => Q (match fl with | .ret v => v | _ => .none) s') (fun _ _ => False) { s with heap := h₁, toks := tk }) :
   wpAny (model prog w) (top0 dp un fr gd) (call (.ref 124) [.ref lr, .ref lt]) Q E s := by
  have stopq4 := True.intro
  refine' enterC (binds := [("row", .ref lr), ("things", .ref lt)]) B ?k6 ?k7 ?k8 ?k9 ?kB ?kD ?_ ?c2 ?c3 ?c4
  walk_at "ENTERC"
  intro mean mg mb L h₁ tk cells X T F N Y
  obtain ⟨oc, rfl, d1⟩ := CellsAre.one Y
  clear Y
  (try dsimp only)
  k_unmd
  k_fold
  have il : s.heap.IsList lr vr.toArray := PySem.IsL.isList hr
  have hz' : vr.length ≤ sizeLine := by rw [PySem.sizeLine_eq]; omega
  k_steps
  refine ⟨?_⟩
  refine' comp_A (m := mapOf F) F N (fun v => decide (numOf1 v ≥ 256)) (fun v y => ∃ t, y = .int (numOf1 v - 256) t) ?hsw ?hclos ?hcell ?hkind ?hnames ?hx ?hy ?hp ?_ ?hs
  walk_at "COMPA"
  k_steps
  walk_at "DONE"
  refine ⟨_, _, src_list (vs := vr) rfl (isl_keeps il F.keep) hz', CompOk.one ?_ ?_, F, N, ?_⟩
  · intro C u i v s₂ E' hP FB NB
    obtain ⟨hp2, g2, d2, tk2, os2⟩ := s₂
    obtain ⟨tv, hv, _⟩ := ints_at iv i v hP
    generalize numOf1 v = z at hv
    subst hv
    have kE := InElt.start hp2
    have X' := X.keeps F.keep
    have T' := T.keeps F.keep
    clear F N
    k_steps
    walk_at "BLKEND"
    rfl
  · intro C u i v s₂ E' hP hp FB NB
    obtain ⟨hp2, g2, d2, tk2, os2⟩ := s₂
    obtain ⟨tv, hv, _⟩ := ints_at iv i v hP
    generalize numOf1 v = z at hv
    subst hv
    have kE := InElt.start hp2
    have X' := X.keeps F.keep
    have T' := T.keeps F.keep
    clear F N
    k_steps
    walk_at "BLKEND"
    exact ⟨_, rfl⟩
  intro D vs' kD us h' tk' F' N' hne hl hP hG
  have hI := ints_pair iv (fun z => decide (z ≥ 256)) (· - 256) (vals_of hl hP ▸ hG)
  clear hl hP hG
  walk_at "DONE"
  (try k_unmd)
  k_steps
  refine ⟨?_⟩
  refine' comp_A (m := mapOf F') F' N' (fun v => decide (numOf1 v < 256)) (fun v y => ∃ t, y = .int (id (numOf1 v)) t) ?hsw ?hclos ?hcell ?hkind ?hnames ?hx ?hy ?hp ?_ ?hs
  walk_at "COMPA"
  k_steps
  walk_at "DONE"
  refine ⟨_, _, src_list (vs := vr) rfl (isl_keeps il F'.keep) hz', CompOk.one ?_ ?_, F', N', ?_⟩
  · intro C u i v s₂ E' hP FB NB
    obtain ⟨hp2, g2, d2, tk2, os2⟩ := s₂
    obtain ⟨tv, hv, _⟩ := ints_at iv i v hP
    generalize numOf1 v = z at hv
    subst hv
    have kE := InElt.start hp2
    have X' := X.keeps F'.keep
    have T' := T.keeps F'.keep
    clear F' N'
    k_steps
    walk_at "BLKEND"
    rfl
  · intro C u i v s₂ E' hP hp FB NB
    obtain ⟨hp2, g2, d2, tk2, os2⟩ := s₂
    obtain ⟨tv, hv, _⟩ := ints_at iv i v hP
    generalize numOf1 v = z at hv
    subst hv
    have kE := InElt.start hp2
    have X' := X.keeps F'.keep
    have T' := T.keeps F'.keep
    clear F' N'
    k_steps
    walk_at "BLKEND"
    exact ⟨_, rfl⟩
  intro D2 vs2 kD2 us2 h2' tk2' F2 N2 hne2 hl hP hG
  have hI2 := ints_pair iv (fun z => decide (z < 256)) id (vals_of hl hP ▸ hG)
  clear hl hP hG
  walk_at "DONE"
  (try k_unmd)
  k_steps
  refine ⟨?_⟩
  refine' comp_A (m := mapOf F2) (cl := [("things", L + 1)]) F2 N2 (fun _ => true) (fun v y => y = (fun i : Int => if i = 0 then Value.ref r0 else .ref r1) (numOf1 v)) ?hsw ?hclos ?hcell ?hkind ?hnames ?hx ?hy ?hp ?_ ?hs
  walk_at "COMPA"
  k_steps
  walk_at "DONE"
  have kC : CellIs h2' (L + 1) (.ref lt) := CellIs.of N2 (.tail _ (.tail _ (.head _))) d1 (by with_unfolding_all rfl)
  have il1 : h2'.IsList D vs'.toArray := PySem.IsL.isList (N2 (D, _) (.tail _ (.head _))).1
  have hz1 : vs'.length ≤ sizeLine := by
    rw [hI.length, List.length_map]
    refine Nat.le_trans (List.length_filter_le _ _) ?_
    rw [← iv.length]
    exact hz'
  refine ⟨_, _, src_list (vs := vs') rfl il1 hz1, CompOk.plain ?_, F2, N2, ?_⟩
  · intro C u i v s₂ E' hP FB NB
    obtain ⟨hp2, g2, d2, tk2, os2⟩ := s₂
    obtain ⟨tv, hv, hn⟩ := ints_at hI i v hP
    have hzz : numOf1 v = 0 ∨ numOf1 v = 1 := by
      have := List.mem_of_getElem? hn
      obtain ⟨q, hq, e⟩ := List.mem_map.mp this
      obtain ⟨hq1, hq2⟩ := List.mem_filter.mp hq
      rcases hns q hq1 (of_decide_eq_true hq2) with rfl | rfl
      · exact .inl (by omega)
      · exact .inr (by omega)
    generalize numOf1 v = z at hv hzz
    subst hv
    have kE := InElt.start hp2
    have X' := X.keeps F2.keep
    have T' := T.keeps F2.keep
    have it' := isl_keeps it F2.keep
    clear F2 N2 hP hn
    rcases hzz with rfl | rfl
    · k_steps
      walk_at "BLKEND"
      rfl
    · k_steps
      walk_at "BLKEND"
      rfl
  intro D3 vs3 kD3 us3 h3' tk3' F3 N3 hne3 hl hP hG
  have hI3 := pick_pair hI (fun i : Int => if i = 0 then Value.ref r0 else .ref r1) (vals_of hl hP ▸ hG)
  clear hl hP hG kC il1
  walk_at "DONE"
  (try k_unmd)
  k_steps
  refine Mark.mk ?_
  (with_reducible rename Fr _ _ _ _ => F4); (with_reducible rename News _ _ _ _ => N4)
  (rename (_ < _ ∧ _ < _ ∧ _ < _ ∧ _ < _) => l4)
  obtain ⟨u, F5⟩ := canon F4 [(Str.ofString "after", _), (Str.ofString "told", .ref D3), (Str.ofString "signs", .ref D2), (Str.ofString "names", .ref D)] (by walk_at "HK")
  walk_at "DONE"
  rw [List.map_id] at hI2
  exact hQ _ _ _ _ _ _ _ _ _ _ _ _ _ _ _ _ _ _ _ X T F5 N4 l4 (hne2 _ (.head _)) (hne3 _ (.tail _ (.head _))) (hne3 _ (.head _)) (Ne.symm (hne _ (.head _))) (Ne.symm (hne2 _ (.tail _ (.head _)))) (Ne.symm (hne3 _ (.tail _ (.tail _ (.head _))))) hI hI2 hI3
end

theorem ia_three {v : List Value} {a b c : Int} (h : IntsAre v [a, b, c]) : ∃ t1 t2 t3, v = [.int a t1, .int b t2, .int c t3] := by
  cases h with | cons _ t1 h => cases h with | cons _ t2 h => cases h with | cons _ t3 h => cases h; exact ⟨t1, t2, t3, rfl⟩
theorem ia_two {v : List Value} {a b : Int} (h : IntsAre v [a, b]) : ∃ t1 t2, v = [.int a t1, .int b t2] := by
  cases h with | cons _ t1 h => cases h with | cons _ t2 h => cases h; exact ⟨t1, t2, rfl⟩
theorem ia_single {v : List Value} {a : Int} (h : IntsAre v [a]) : ∃ t1, v = [.int a t1] := by
  cases h with | cons _ t1 h => cases h; exact ⟨t1, rfl⟩
theorem made_ne {h₀ h : Heap} {L D : Addr} {news : List (Addr × Obj)} (N : News h₀ L h news) (hn : h.get? D = none) : ∀ p ∈ news, p.1 ≠ D := fun p hp e => by
  have := (N p hp).1
  rw [e, hn] at this
  cases this
theorem news_addL {h₀ : Heap} {L : Addr} {h h' : Heap} {m : Str → Option Value} {news : List (Addr × Obj)} {D : Addr} {o : Obj} (F : Fr h₀ L h m) (N : News h₀ L h news) (K : Ext h h') (hn : h.get? D = none) (hD : h'.get? D = some o) : News h₀ L h' ((D, o) :: news) := news_add F N K hn hD
theorem store_list {prog : Program} {w : World} {A : Around} {E : Value → Shared → Prop} {s : Shared} {h₀ : Heap} {L D : Addr} {m : Str → Option Value} {pre post : List (Addr × Obj)} {o : Obj} {its : Array Value} {i : Int} {t : Tok} {v : Value} {Q : Unit → Shared → Prop}
   (F : Fr h₀ L s.heap m) (N : News h₀ L s.heap (pre ++ (D, o) :: post)) (ho : LObj o its) (h1 : ∀ p ∈ pre, p.1 ≠ D) (h2 : ∀ p ∈ post, p.1 ≠ D) (h0 : 0 ≤ i) (hn : i < its.size) (hz : its.size ≤ 1000000)
   (h : ∀ h' o', Fr h₀ L h' m → News h₀ L h' (pre ++ (D, o') :: post) → LObj o' (its.setIfInBounds i.toNat v) → Q () { s with heap := h' }) : wpAny (model prog w) A (setItem (.ref D) (.int i t) v) Q E s := by
  have z := N (D, o) (List.mem_append.mpr (.inr (.head _)))
  refine wpAny_setItem_list ⟨o, z.1, ho.1, ho.2⟩ h0 (by omega) (by omega) fun h' hl hs => ?_
  obtain ⟨o', e, hc, hd⟩ := hl
  exact h h' o' (F.change hs z.2.1 z.2.2) (news_set N h1 h2 hs e) ⟨hc, hd⟩
example : True := by
  (k_with "MADEL" => (
  intro _ _ _ K' hn' hD'
  (with_reducible rename Fr _ _ _ _ => kF)
  (with_reducible rename News _ _ _ _ => kN)
  have kM := made_ne kN hn'
  replace kN := news_addL kF kN K' hn' hD'
  replace kF := Fr.keeps kF K'
  clear K' hn' hD'
  (try dsimp only)
  (try k_fold)
  (try (revert kF; intro _))
  (try (revert kN; intro _))))
  (k_with "call ref" => (k_here; (try dsimp only); (with_reducible show wpAny _ _ (call (Value.ref 56) [Value.ref _, Value.ref _]) _ _ _); (refine' concat_spec (s := ⟨_, _, _, _, _⟩) (Base.of (by k_asm) (by k_asm) (by k_asm)) (by walk_at "DEPTH") (by walk_at "DEPTH") (by walk_at "OBJ") (by walk_at "OBJ") (by assumption) (by assumption) ?_); walk_at "MADEL"))
  (k_with "MADEN" => (
  intro _ _ _ _ K' hn' hD'
  (with_reducible rename Fr _ _ _ _ => kF)
  (with_reducible rename News _ _ _ _ => kN)
  have kM := made_ne kN hn'
  replace kN := news_add kF kN K' hn' hD'
  replace kF := Fr.keeps kF K'
  clear K' hn' hD'
  (try dsimp only)
  (try k_fold)
  (try (revert kF; intro _))
  (try (revert kN; intro _))))
  (k_with "call ref" => (k_here; (try dsimp only); (with_reducible show wpAny _ _ (call (Value.ref 119) [Value.ref _, Value.ref _]) _ _ _); (refine' product_spec (s := ⟨_, _, _, _, _⟩) (Base.of (by k_asm) (by k_asm) (by k_asm)) (by walk_at "DEPTH") (by walk_at "DEPTH") (by walk_at "OBJ") (by walk_at "OBJ") (by assumption) (by assumption) (by omega) ?_); walk_at "MADEN"))
  trivial
section
variable {prog : Program} {w : World} {dp un : Nat} {fr : Option (List Env)} {gd : Option (List Code)} {s : Shared} {Q : Flow → Shared → Prop}
theorem rest22 {h₀ : Heap} {L D D2 D3 D4 ra rb rc r0 r1 wb wc qb qc : Addr} {u mg mb : Str → Option Value} {mean : ExcName → Option Value} {oc : Obj} {kD kD2 kD3 k4 kb kc : Nat} {v1 v2 : List Value} {a b c : Int} {x y : Four} {tx ty : Tok × Tok × Tok × Tok} {n m : Nat} {xs ys : List Value}
    (X : (hd.heap_1 w.params).In h₀) (T : Top lawView LS mean mg mb h₀) (hdp : dp + 40 < recursionLimit) (hu : un + 400 < cLine)
    (F : Fr h₀ L s.heap (kstB u [(Str.ofString "after", .ref D4), (Str.ofString "told", .ref D3), (Str.ofString "signs", .ref D2), (Str.ofString "names", .ref D)]))
    (N : News h₀ L s.heap [(D4, W.listOf #[.ref r0, .ref r1] k4), (D3, W.listOf [.ref ra, .ref rb, .ref rc].toArray kD3), (D2, W.listOf v2.toArray kD2), (D, W.listOf v1.toArray kD), (L + 1, oc)])
    (l4 : D3 < D4 ∧ D2 < D4 ∧ D < D4 ∧ L + 1 < D4)
    (i1 : IntsAre v1 [a, b, c]) (i2 : IntsAre v2 [22, 14]) (ha : a = 0 ∨ a = 1)
    (hb : h₀.get? rb = some (tupO #[.ref wb, .ref qb])) (hc : h₀.get? rc = some (tupO #[.ref wc, .ref qc]))
    (hwb : h₀.get? wb = some (W.listOf xs.toArray kb)) (hwc : h₀.get? wc = some (W.listOf ys.toArray kc)) (lx : xs.length ≤ 1000) (ly : ys.length ≤ 1000)
    (hqb : h₀.get? qb = some (quadO x tx)) (hqc : h₀.get? qc = some (quadO y ty)) (bx : QBd n x) (bY : QBd m y) (hnm : n + m ≤ 1000000)
    (hQ : ∀ h' tk o D5 DW DP t, Ext h₀ h' → h₀.get? D4 = none → h₀.get? D5 = none → h₀.get? DW = none → h₀.get? DP = none → h'.get? D4 = some o → LObj o (#[Value.ref r0, .ref r1].setIfInBounds a.toNat (.ref D5)) →
      h'.get? D5 = some (tupO #[.ref DW, .ref DP]) → h'.get? DW = some (W.listOf (xs ++ ys).toArray 0) → h'.get? DP = some (quadO (qmul x y) t) → Q (.ret (.ref D4)) { s with heap := h', toks := tk }) :
    wpAny (model prog w) ((top0 dp un fr gd).deeper (envOfC "_law_after" afterScope L 124 (.ref 123))) (execs afterRest (envOfC "_law_after" afterScope L 124 (.ref 123))) Q (fun _ _ => False) s := by
  obtain ⟨heap, gens, drawn, toks, os⟩ := s
  dsimp only [kstB] at F N hQ ⊢
  conv in (afterRest) => whnf
  conv in (occs := *) afterScope => all_goals whnf
  obtain ⟨s1, s2, rfl⟩ := ia_two i2
  obtain ⟨n1, n2, n3, rfl⟩ := ia_three i1
  have ib : IsTup h₀ rb #[.ref wb, .ref qb] := ⟨_, hb, rfl, _, rfl⟩
  have ic : IsTup h₀ rc #[.ref wc, .ref qc] := ⟨_, hc, rfl, _, rfl⟩
  k_steps
  (with_reducible rename Fr _ _ _ _ => F1)
  (with_reducible rename News _ _ _ _ => N1)
  (rename _ < _ ∧ _ < _ ∧ _ < _ ∧ _ < _ ∧ _ < _ => l5)
  (rename _ < _ ∧ _ < _ ∧ _ < _ ∧ _ < _ ∧ _ < _ ∧ _ < _ => l6)
  (rename _ < _ ∧ _ < _ ∧ _ < _ ∧ _ < _ ∧ _ < _ ∧ _ < _ ∧ _ < _ ∧ _ < _ ∧ _ < _ => l9)
  (rename (∀ p ∈ _, Prod.fst p ≠ _) => mB)
  have mB' := mB (D4, _) (.tail _ (.tail _ (.tail _ (.head _))))
  clear mB
  (rename (∀ p ∈ _, Prod.fst p ≠ _) => mA)
  have mA' := mA (D4, _) (.tail _ (.tail _ (.head _)))
  clear mA
  refine store_list (s := ⟨_, _, _, _, _⟩) (pre := [_, _, _, _, _]) (its := #[.ref r0, .ref r1]) (i := a) F1 N1 ⟨rfl, _, rfl⟩ ?_ ?_ (by omega) (by show a < 2; omega) (by show 2 ≤ 1000000; decide) ?_
  · exact List.forall_mem_cons.mpr ⟨Nat.ne_of_gt l9.2.2.2.2.1, List.forall_mem_cons.mpr ⟨Ne.symm mB', List.forall_mem_cons.mpr ⟨Ne.symm mA', List.forall_mem_cons.mpr ⟨Nat.ne_of_gt l6.2.1, List.forall_mem_cons.mpr ⟨Nat.ne_of_gt l5.1, List.forall_mem_nil _⟩⟩⟩⟩⟩
  · exact List.forall_mem_cons.mpr ⟨Nat.ne_of_lt l4.1, List.forall_mem_cons.mpr ⟨Nat.ne_of_lt l4.2.1, List.forall_mem_cons.mpr ⟨Nat.ne_of_lt l4.2.2.1, List.forall_mem_cons.mpr ⟨Nat.ne_of_lt l4.2.2.2, List.forall_mem_nil _⟩⟩⟩⟩
  intro h5 o5 F5 N5 hO
  clear F1 N1
  k_steps
  dsimp only
  have z1 := N5 _ (.head _)
  have z2 := N5 _ (.tail _ (.head _))
  have z3 := N5 _ (.tail _ (.tail _ (.head _)))
  have z4 := N5 (D4, o5) (.tail _ (.tail _ (.tail _ (.tail _ (.tail _ (.head _))))))
  exact hQ _ _ _ _ _ _ _ F5.keep z4.2.2 z1.2.2 z3.2.2 z2.2.2 z4.1 hO z1.1 z3.1 z2.1
end

theorem ia_four {v : List Value} {a b c d : Int} (h : IntsAre v [a, b, c, d]) : ∃ t1 t2 t3 t4, v = [.int a t1, .int b t2, .int c t3, .int d t4] := by
  cases h with | cons _ t1 h => cases h with | cons _ t2 h => cases h with | cons _ t3 h => cases h with | cons _ t4 h => cases h; exact ⟨t1, t2, t3, t4, rfl⟩
section
variable {prog : Program} {w : World} {dp un : Nat} {fr : Option (List Env)} {gd : Option (List Code)} {s : Shared} {Q : Flow → Shared → Prop}
theorem rest12 {h₀ : Heap} {L D D2 D3 D4 ra rb rc rd r0 r1 : Addr} {u mg mb : Str → Option Value} {mean : ExcName → Option Value} {oc : Obj} {kD kD2 kD3 k4 : Nat} {v1 v2 : List Value}
    (X : (hd.heap_1 w.params).In h₀) (T : Top lawView LS mean mg mb h₀) (hdp : dp + 40 < recursionLimit) (hu : un + 400 < cLine)
    (F : Fr h₀ L s.heap (kstB u [(Str.ofString "after", .ref D4), (Str.ofString "told", .ref D3), (Str.ofString "signs", .ref D2), (Str.ofString "names", .ref D)]))
    (N : News h₀ L s.heap [(D4, W.listOf #[.ref r0, .ref r1] k4), (D3, W.listOf [.ref ra, .ref rb, .ref rc, .ref rd].toArray kD3), (D2, W.listOf v2.toArray kD2), (D, W.listOf v1.toArray kD), (L + 1, oc)])
    (i2 : IntsAre v2 [12, 22, 12])
    (hQ : ∀ h' tk D5, Ext h₀ h' → h₀.get? D5 = none → h'.get? D5 = some (W.listOf #[.ref rc, .ref rd] 0) → Q (.ret (.ref D5)) { s with heap := h', toks := tk }) :
    wpAny (model prog w) ((top0 dp un fr gd).deeper (envOfC "_law_after" afterScope L 124 (.ref 123))) (execs afterRest (envOfC "_law_after" afterScope L 124 (.ref 123))) Q (fun _ _ => False) s := by
  obtain ⟨heap, gens, drawn, toks, os⟩ := s
  dsimp only [kstB] at F N hQ ⊢
  conv in (afterRest) => whnf
  conv in (occs := *) afterScope => all_goals whnf
  obtain ⟨s1, s2, s3, rfl⟩ := ia_three i2
  k_steps
  dsimp only
  (with_reducible rename Fr _ _ _ _ => F1)
  (with_reducible rename News _ _ _ _ => N1)
  have z1 := N1 _ (.head _)
  exact hQ _ _ _ F1.keep z1.2.2 z1.1
end

section
variable {prog : Program} {w : World} {dp un : Nat} {fr : Option (List Env)} {gd : Option (List Code)} {s : Shared} {Q : Flow → Shared → Prop}
theorem base_hide {h₀ h : Heap} {L D : Addr} {m mg mb : Str → Option Value} {mean : ExcName → Option Value} (X : (hd.heap_1 w.params).In h₀) (T : Top lawView LS mean mg mb h₀) (F : Fr h₀ L h m) (hn : h₀.get? D = none) : Base w (hideAll h [D]) := by
  have k : Ext h₀ (hideAll h [D]) := fun b o e => hideAll_get _ (F.keep b o e) (by
    intro hb
    rw [List.mem_singleton.mp hb, hn] at e
    cases e)
  exact ⟨X.keeps k, _, _, _, T.keeps k⟩
theorem fr_but {h₀ h h' : Heap} {L D : Addr} {m : Str → Option Value} {o o' : Obj} {post : List (Addr × Obj)} (F : Fr h₀ L h m) (N : News h₀ L h ((D, o) :: post)) (hp : ∀ p ∈ post, p.1 ≠ D) (K : ∀ b o, b ≠ D → h.get? b = some o → h'.get? b = some o) (hD : h'.get? D = some o') :
    Fr h₀ L h' m ∧ News h₀ L h' ((D, o') :: post) := by
  have z := N (D, o) (.head _)
  refine ⟨⟨F.ns.at' fun o e => K L o (Ne.symm z.2.1) e, fun b o e => K b o (fun hb => ?_) (F.keep b o e), F.above⟩, ?_⟩
  · rw [hb, z.2.2] at e
    cases e
  · intro p hp'
    cases hp' with
    | head => exact ⟨hD, z.2⟩
    | tail _ hp' => exact ⟨K _ _ (hp p hp') (N p (.tail _ hp')).1, (N p (.tail _ hp')).2⟩
theorem rest36 {h₀ : Heap} {L D D2 D3 D4 ra rb r0 r1 wa wb qa qb : Addr} {u mg mb : Str → Option Value} {mean : ExcName → Option Value} {oc : Obj} {kD kD2 kD3 k4 ka kb : Nat} {v1 v2 : List Value} {a b : Int} {x y : Four} {tx ty : Tok × Tok × Tok × Tok} {n m : Nat} {xs ys : List Value}
    (X : (hd.heap_1 w.params).In h₀) (T : Top lawView LS mean mg mb h₀) (hdp : dp + 40 < recursionLimit) (hu : un + 400 < cLine)
    (F : Fr h₀ L s.heap (kstB u [(Str.ofString "after", .ref D4), (Str.ofString "told", .ref D3), (Str.ofString "signs", .ref D2), (Str.ofString "names", .ref D)]))
    (N : News h₀ L s.heap [(D4, W.listOf #[.ref r0, .ref r1] k4), (D3, W.listOf [.ref ra, .ref rb].toArray kD3), (D2, W.listOf v2.toArray kD2), (D, W.listOf v1.toArray kD), (L + 1, oc)])
    (l4 : D3 < D4 ∧ D2 < D4 ∧ D < D4 ∧ L + 1 < D4)
    (i1 : IntsAre v1 [a, b]) (i2 : IntsAre v2 [36]) (ha : a = 0 ∨ a = 1)
    (haa : h₀.get? ra = some (tupO #[.ref wa, .ref qa])) (hb : h₀.get? rb = some (tupO #[.ref wb, .ref qb]))
    (hwa : h₀.get? wa = some (W.listOf xs.toArray ka)) (hwb : h₀.get? wb = some (W.listOf ys.toArray kb)) (lx : xs.length ≤ 1000) (ly : ys.length ≤ 1000)
    (hqa : h₀.get? qa = some (quadO x tx)) (hqb : h₀.get? qb = some (quadO y ty)) (bx : QBd n x) (bY : QBd m y) (hnm : n + m ≤ 1000000)
    (hQ : ∀ h' tk o D5 DW DP kw t, Ext h₀ h' → h₀.get? D4 = none → h₀.get? D5 = none → h₀.get? DW = none → h₀.get? DP = none → h'.get? D4 = some o → LObj o (#[Value.ref r0, .ref r1].setIfInBounds a.toNat (.ref D5)) →
      h'.get? D5 = some (tupO #[.ref DW, .ref DP]) → h'.get? DW = some (W.listOf (xs ++ ys).toArray kw) → h'.get? DP = some (quadO (qmul x y) t) → Q (.ret (.ref D4)) { s with heap := h', toks := tk }) :
    wpAny (model prog w) ((top0 dp un fr gd).deeper (envOfC "_law_after" afterScope L 124 (.ref 123))) (execs afterRest (envOfC "_law_after" afterScope L 124 (.ref 123))) Q (fun _ _ => False) s := by
  obtain ⟨heap, gens, drawn, toks, os⟩ := s
  dsimp only [kstB] at F N hQ ⊢
  conv in (afterRest) => whnf
  conv in (occs := *) afterScope => all_goals whnf
  obtain ⟨s1, rfl⟩ := ia_single i2
  obtain ⟨n1, n2, rfl⟩ := ia_two i1
  have ia : IsTup h₀ ra #[.ref wa, .ref qa] := ⟨_, haa, rfl, _, rfl⟩
  have ib : IsTup h₀ rb #[.ref wb, .ref qb] := ⟨_, hb, rfl, _, rfl⟩
  have il : h₀.IsList wa xs.toArray := PySem.IsL.isList hwa
  k_steps
  (with_reducible rename Fr _ _ _ _ => F1)
  (with_reducible rename News _ _ _ _ => N1)
  (rename _ < _ ∧ _ < _ ∧ _ < _ ∧ _ < _ ∧ _ < _ => l5)
  (rename _ < _ ∧ _ < _ ∧ _ < _ ∧ _ < _ ∧ _ < _ ∧ _ < _ => l6)
  have zD := N1 _ (.head _)
  have nwb : wb ≠ _ := fun e => by
    have e2 := hwb
    rw [e, zD.2.2] at e2
    cases e2
  refine iconcat_spec (s := ⟨_, _, _, _, _⟩) (base_hide X T F1 zD.2.2) (by walk_at "DEPTH") (by walk_at "DEPTH") zD.1 (F1.keep _ _ hwb) nwb lx ly ?_
  intro h6 tk6 k6 K6 hD6
  obtain ⟨F6, N6⟩ := fr_but F1 N1 (List.forall_mem_cons.mpr ⟨Nat.ne_of_lt l6.1, List.forall_mem_cons.mpr ⟨Nat.ne_of_lt l6.2.1, List.forall_mem_cons.mpr ⟨Nat.ne_of_lt l6.2.2.1, List.forall_mem_cons.mpr ⟨Nat.ne_of_lt l6.2.2.2.1, List.forall_mem_cons.mpr ⟨Nat.ne_of_lt l6.2.2.2.2.1, List.forall_mem_cons.mpr ⟨Nat.ne_of_lt l6.2.2.2.2.2, List.forall_mem_nil _⟩⟩⟩⟩⟩⟩) K6 hD6
  clear F1 N1 K6 hD6 zD nwb
  dsimp only
  (try k_unmd)
  k_steps
  (with_reducible rename Fr _ _ _ _ => F1)
  (with_reducible rename News _ _ _ _ => N1)
  (rename _ < _ ∧ _ < _ ∧ _ < _ ∧ _ < _ ∧ _ < _ ∧ _ < _ ∧ _ < _ ∧ _ < _ => l8)
  (rename (∀ p ∈ _, Prod.fst p ≠ _) => mB)
  have mB' := mB (D4, _) (.tail _ (.tail _ (.head _)))
  clear mB
  refine store_list (s := ⟨_, _, _, _, _⟩) (pre := [_, _, _, _]) (its := #[.ref r0, .ref r1]) (i := a) F1 N1 ⟨rfl, _, rfl⟩ ?_ ?_ (by omega) (by show a < 2; omega) (by show 2 ≤ 1000000; decide) ?_
  · exact List.forall_mem_cons.mpr ⟨Nat.ne_of_gt l8.2.2.2.1, List.forall_mem_cons.mpr ⟨Ne.symm mB', List.forall_mem_cons.mpr ⟨Nat.ne_of_gt l6.2.1, List.forall_mem_cons.mpr ⟨Nat.ne_of_gt l5.1, List.forall_mem_nil _⟩⟩⟩⟩
  · exact List.forall_mem_cons.mpr ⟨Nat.ne_of_lt l4.1, List.forall_mem_cons.mpr ⟨Nat.ne_of_lt l4.2.1, List.forall_mem_cons.mpr ⟨Nat.ne_of_lt l4.2.2.1, List.forall_mem_cons.mpr ⟨Nat.ne_of_lt l4.2.2.2, List.forall_mem_nil _⟩⟩⟩⟩
  intro h5 o5 F5 N5 hO
  clear F1 N1
  k_steps
  dsimp only
  have z1 := N5 _ (.head _)
  have z2 := N5 _ (.tail _ (.head _))
  have z3 := N5 _ (.tail _ (.tail _ (.head _)))
  have z4 := N5 (D4, o5) (.tail _ (.tail _ (.tail _ (.tail _ (.head _)))))
  exact hQ _ _ _ _ _ _ _ _ F5.keep z4.2.2 z1.2.2 z3.2.2 z2.2.2 z4.1 hO z1.1 z3.1 z2.1
end

noncomputable def rowOf : Nat → List Int
  | 0 => [256, 36, 257]
  | 1 => [257, 36, 256]
  | 2 => [256, 22, 256, 14, 257]
  | 3 => [257, 22, 257, 14, 256]
  | 4 => [256, 22, 257, 14, 256]
  | 5 => [257, 22, 256, 14, 257]
  | _ => [256, 12, 257, 22, 257, 12, 256]
noncomputable def move (k : Nat) (A B : Thing) : Thing × Thing := match k with
  | 0 => ((A.1 ++ B.1, qmul A.2 B.2), B)
  | 1 => (A, (B.1 ++ A.1, qmul B.2 A.2))
  | 2 => ((A.1 ++ B.1, qmul A.2 B.2), B)
  | 3 => (A, (B.1 ++ A.1, qmul B.2 A.2))
  | 4 => ((B.1 ++ A.1, qmul B.2 A.2), B)
  | 5 => (A, (A.1 ++ B.1, qmul A.2 B.2))
  | _ => (B, A)
section
variable {prog : Program} {w : World} {dp un : Nat} {fr : Option (List Env)} {gd : Option (List Code)} {E : Value → Shared → Prop} {s : Shared} {Q : Value → Shared → Prop}
/-- the store's outcome, as a pair of the grown ledger -/
theorem pair_new {led : List (Addr × Obj)} {D4 D5 DW DP r0 r1 : Addr} {o : Obj} {a : Int} {kw : Nat} {t : Tok × Tok × Tok × Tok} {cs : List Value} {l : List Nat} {q : Four} {A B : Thing}
   (ha : a = 0 ∨ a = 1) (hA : ThingIn led r0 A) (hB : ThingIn led r1 B) (hO : LObj o (#[Value.ref r0, .ref r1].setIfInBounds a.toNat (.ref D5))) (hc : CharsAre cs l) :
   PairIn ([(D4, o), (D5, tupO #[.ref DW, .ref DP]), (DW, W.listOf cs.toArray kw), (DP, quadO q t)] ++ led) D4 (if a = 0 then (l, q) else A) (if a = 0 then B else (l, q)) := by
  have hs : ∀ p ∈ led, p ∈ [(D4, o), (D5, tupO #[.ref DW, .ref DP]), (DW, W.listOf cs.toArray kw), (DP, quadO q t)] ++ led := fun p hp => List.mem_append_right _ hp
  have hn : ThingIn ([(D4, o), (D5, tupO #[.ref DW, .ref DP]), (DW, W.listOf cs.toArray kw), (DP, quadO q t)] ++ led) D5 (l, q) :=
    ⟨DW, DP, cs, kw, t, .tail _ (.head _), .tail _ (.tail _ (.head _)), hc, .tail _ (.tail _ (.tail _ (.head _)))⟩
  rcases ha with rfl | rfl
  · exact ⟨D5, r1, o, .head _, by simpa using hO, hn, hB.mono hs⟩
  · exact ⟨r0, D5, o, .head _, by simpa using hO, hA.mono hs, hn⟩
theorem after_spec (B : Base w s.heap) (hdp : dp + 40 < recursionLimit) (hu : un + 400 < cLine)
   {k : Nat} {lr lt : Addr} {kr : Nat} {vr : List Value} (iv : IntsAre vr (rowOf k)) (hr : s.heap.get? lr = some (W.listOf vr.toArray kr))
   {led : List (Addr × Obj)} (hled : ∀ p ∈ led, s.heap.get? p.1 = some p.2) {P R : Thing} (hp : PairIn led lt P R) {n m : Nat} (bP : QBd n P.2) (bR : QBd m R.2) (hnm : n + m ≤ 1000000) (lP : P.1.length ≤ 1000) (lR : R.1.length ≤ 1000)
   (hQ : ∀ h' tk D led', Ext s.heap h' → (∀ p ∈ led', s.heap.get? p.1 = none ∧ h'.get? p.1 = some p.2) → PairIn (led' ++ led) D (move k P R).1 (move k P R).2 → Q (.ref D) { s with heap := h', toks := tk }) :
   wpAny (model prog w) (top0 dp un fr gd) (call (.ref 124) [.ref lr, .ref lt]) Q E s := by
  obtain ⟨r0, r1, o, hlt, hl, hA, hB⟩ := hp
  obtain ⟨w0, q0, cs0, k0, t0, a1, a2, a3, a4⟩ := id hA
  obtain ⟨w1, q1, cs1, k1, t1, b1, b2, b3, b4⟩ := id hB
  have it : s.heap.IsList lt [Value.ref r0, .ref r1].toArray := ⟨o, hled _ hlt, hl.1, hl.2⟩
  have l0 : cs0.length ≤ 1000 := by rw [a3.length]; exact lP
  have l1 : cs1.length ≤ 1000 := by rw [b3.length]; exact lR
  have hmn : m + n ≤ 1000000 := by omega
  rcases k with _ | _ | _ | _ | _ | _ | k
  · refine after_front B hdp hu (ns := ([256, 36, 257] : List Int)) iv (by rw [iv.length]; decide) (by decide) hr it ?_
    intro mean mg mb L h₁ tk oc D D2 D3 D4 kD kD2 kD3 k4 v1 v2 v3 u X T F N l4 _ _ _ _ _ _ i1 i2 e3
    subst e3
    refine rest36 (a := 0) (b := 1) (ra := r0) (rb := r1) X T hdp hu F N l4 i1 i2 (.inl rfl) (hled _ a1) (hled _ b1) (hled _ a2) (hled _ b2) l0 l1 (hled _ a4) (hled _ b4) bP bR hnm ?_
    intro h' tk o D5 DW DP kw t K n4 n5 nW nP z4 hO z5 zW zP
    exact hQ _ _ _ [(D4, o), (D5, tupO #[.ref DW, .ref DP]), (DW, W.listOf _ _), (DP, quadO _ t)] K (List.forall_mem_cons.mpr ⟨⟨n4, z4⟩, List.forall_mem_cons.mpr ⟨⟨n5, z5⟩, List.forall_mem_cons.mpr ⟨⟨nW, zW⟩, List.forall_mem_cons.mpr ⟨⟨nP, zP⟩, List.forall_mem_nil _⟩⟩⟩⟩) (pair_new (a := 0) (.inl rfl) hA hB hO (a3.append b3))
  · refine after_front B hdp hu (ns := ([257, 36, 256] : List Int)) iv (by rw [iv.length]; decide) (by decide) hr it ?_
    intro mean mg mb L h₁ tk oc D D2 D3 D4 kD kD2 kD3 k4 v1 v2 v3 u X T F N l4 _ _ _ _ _ _ i1 i2 e3
    subst e3
    refine rest36 (a := 1) (b := 0) (ra := r1) (rb := r0) X T hdp hu F N l4 i1 i2 (.inr rfl) (hled _ b1) (hled _ a1) (hled _ b2) (hled _ a2) l1 l0 (hled _ b4) (hled _ a4) bR bP hmn ?_
    intro h' tk o D5 DW DP kw t K n4 n5 nW nP z4 hO z5 zW zP
    exact hQ _ _ _ [(D4, o), (D5, tupO #[.ref DW, .ref DP]), (DW, W.listOf _ _), (DP, quadO _ t)] K (List.forall_mem_cons.mpr ⟨⟨n4, z4⟩, List.forall_mem_cons.mpr ⟨⟨n5, z5⟩, List.forall_mem_cons.mpr ⟨⟨nW, zW⟩, List.forall_mem_cons.mpr ⟨⟨nP, zP⟩, List.forall_mem_nil _⟩⟩⟩⟩) (pair_new (a := 1) (.inr rfl) hA hB hO (b3.append a3))
  · refine after_front B hdp hu (ns := ([256, 22, 256, 14, 257] : List Int)) iv (by rw [iv.length]; decide) (by decide) hr it ?_
    intro mean mg mb L h₁ tk oc D D2 D3 D4 kD kD2 kD3 k4 v1 v2 v3 u X T F N l4 _ _ _ _ _ _ i1 i2 e3
    subst e3
    refine rest22 (a := 0) (b := 0) (c := 1) (ra := r0) (rb := r0) (rc := r1) X T hdp hu F N l4 i1 i2 (.inl rfl) (hled _ a1) (hled _ b1) (hled _ a2) (hled _ b2) l0 l1 (hled _ a4) (hled _ b4) bP bR hnm ?_
    intro h' tk o D5 DW DP t K n4 n5 nW nP z4 hO z5 zW zP
    exact hQ _ _ _ [(D4, o), (D5, tupO #[.ref DW, .ref DP]), (DW, W.listOf _ _), (DP, quadO _ t)] K (List.forall_mem_cons.mpr ⟨⟨n4, z4⟩, List.forall_mem_cons.mpr ⟨⟨n5, z5⟩, List.forall_mem_cons.mpr ⟨⟨nW, zW⟩, List.forall_mem_cons.mpr ⟨⟨nP, zP⟩, List.forall_mem_nil _⟩⟩⟩⟩) (pair_new (a := 0) (.inl rfl) hA hB hO (a3.append b3))
  · refine after_front B hdp hu (ns := ([257, 22, 257, 14, 256] : List Int)) iv (by rw [iv.length]; decide) (by decide) hr it ?_
    intro mean mg mb L h₁ tk oc D D2 D3 D4 kD kD2 kD3 k4 v1 v2 v3 u X T F N l4 _ _ _ _ _ _ i1 i2 e3
    subst e3
    refine rest22 (a := 1) (b := 1) (c := 0) (ra := r1) (rb := r1) (rc := r0) X T hdp hu F N l4 i1 i2 (.inr rfl) (hled _ b1) (hled _ a1) (hled _ b2) (hled _ a2) l1 l0 (hled _ b4) (hled _ a4) bR bP hmn ?_
    intro h' tk o D5 DW DP t K n4 n5 nW nP z4 hO z5 zW zP
    exact hQ _ _ _ [(D4, o), (D5, tupO #[.ref DW, .ref DP]), (DW, W.listOf _ _), (DP, quadO _ t)] K (List.forall_mem_cons.mpr ⟨⟨n4, z4⟩, List.forall_mem_cons.mpr ⟨⟨n5, z5⟩, List.forall_mem_cons.mpr ⟨⟨nW, zW⟩, List.forall_mem_cons.mpr ⟨⟨nP, zP⟩, List.forall_mem_nil _⟩⟩⟩⟩) (pair_new (a := 1) (.inr rfl) hA hB hO (b3.append a3))
  · refine after_front B hdp hu (ns := ([256, 22, 257, 14, 256] : List Int)) iv (by rw [iv.length]; decide) (by decide) hr it ?_
    intro mean mg mb L h₁ tk oc D D2 D3 D4 kD kD2 kD3 k4 v1 v2 v3 u X T F N l4 _ _ _ _ _ _ i1 i2 e3
    subst e3
    refine rest22 (a := 0) (b := 1) (c := 0) (ra := r0) (rb := r1) (rc := r0) X T hdp hu F N l4 i1 i2 (.inl rfl) (hled _ b1) (hled _ a1) (hled _ b2) (hled _ a2) l1 l0 (hled _ b4) (hled _ a4) bR bP hmn ?_
    intro h' tk o D5 DW DP t K n4 n5 nW nP z4 hO z5 zW zP
    exact hQ _ _ _ [(D4, o), (D5, tupO #[.ref DW, .ref DP]), (DW, W.listOf _ _), (DP, quadO _ t)] K (List.forall_mem_cons.mpr ⟨⟨n4, z4⟩, List.forall_mem_cons.mpr ⟨⟨n5, z5⟩, List.forall_mem_cons.mpr ⟨⟨nW, zW⟩, List.forall_mem_cons.mpr ⟨⟨nP, zP⟩, List.forall_mem_nil _⟩⟩⟩⟩) (pair_new (a := 0) (.inl rfl) hA hB hO (b3.append a3))
  · refine after_front B hdp hu (ns := ([257, 22, 256, 14, 257] : List Int)) iv (by rw [iv.length]; decide) (by decide) hr it ?_
    intro mean mg mb L h₁ tk oc D D2 D3 D4 kD kD2 kD3 k4 v1 v2 v3 u X T F N l4 _ _ _ _ _ _ i1 i2 e3
    subst e3
    refine rest22 (a := 1) (b := 0) (c := 1) (ra := r1) (rb := r0) (rc := r1) X T hdp hu F N l4 i1 i2 (.inr rfl) (hled _ a1) (hled _ b1) (hled _ a2) (hled _ b2) l0 l1 (hled _ a4) (hled _ b4) bP bR hnm ?_
    intro h' tk o D5 DW DP t K n4 n5 nW nP z4 hO z5 zW zP
    exact hQ _ _ _ [(D4, o), (D5, tupO #[.ref DW, .ref DP]), (DW, W.listOf _ _), (DP, quadO _ t)] K (List.forall_mem_cons.mpr ⟨⟨n4, z4⟩, List.forall_mem_cons.mpr ⟨⟨n5, z5⟩, List.forall_mem_cons.mpr ⟨⟨nW, zW⟩, List.forall_mem_cons.mpr ⟨⟨nP, zP⟩, List.forall_mem_nil _⟩⟩⟩⟩) (pair_new (a := 1) (.inr rfl) hA hB hO (a3.append b3))
  · refine after_front B hdp hu (ns := ([256, 12, 257, 22, 257, 12, 256] : List Int)) iv (by rw [iv.length]; exact Nat.le_succ 7) (by decide) hr it ?_
    intro mean mg mb L h₁ tk oc D D2 D3 D4 kD kD2 kD3 k4 v1 v2 v3 u X T F N l4 _ _ _ _ _ _ i1 i2 e3
    subst e3
    refine rest12 (ra := r0) (rb := r1) (rc := r1) (rd := r0) X T hdp hu F N i2 ?_
    intro h' tk D5 K n5 z5
    exact hQ _ _ _ [(D5, W.listOf _ _)] K (List.forall_mem_cons.mpr ⟨⟨n5, z5⟩, List.forall_mem_nil _⟩) ⟨r1, r0, _, .head _, ⟨rfl, _, rfl⟩, hB.mono fun p hp => List.mem_append_right _ hp, hA.mono fun p hp => List.mem_append_right _ hp⟩
end

example : True := by
  (k_with "call ref" => (k_here; (try dsimp only); (with_reducible show wpAny _ _ (call (Value.ref 28) [Value.str _ _, Value.str _ _, Value.int _ _]) _ _ _); (refine' lev_spec (s := ⟨_, _, _, _, _⟩) (Base.of (by k_asm) (by k_asm) (by k_asm)) (by walk_at "DEPTH") (by walk_at "DEPTH") _ _ _ _ _ _ (by assumption) (by assumption) (by assumption) (by assumption) ?_); walk_at "KEPT"))
  trivial
section
variable {prog : Program} {w : World} {dp un : Nat} {fr : Option (List Env)} {gd : Option (List Code)} {E : Value → Shared → Prop} {s : Shared} {Q : Value → Shared → Prop}
theorem isfar_spec (B : Base w s.heap) (hdp : dp + 20 < recursionLimit) (hu : un + 200 < cLine)
   (a b : List Nat) (m : Int) (ta tb tm : Tok) (la : a.length ≤ 1000) (lb : b.length ≤ 1000) (ca : ∀ c ∈ a, c < 128) (cb : ∀ c ∈ b, c < 128)
   (hQ : ∀ h' tk, Ext s.heap h' → Q (.bool (decide (lev a b m = m ∧ lev b a (m - 1) = m))) { s with heap := h', toks := tk }) :
   wpAny (model prog w) (top0 dp un fr gd) (call (.ref 107) [.str (tx a) ta, .str (tx b) tb, .int m tm]) Q E s := by
  refine' enter (binds := [("one", .str (tx a) ta), ("other", .str (tx b) tb), ("far", .int m tm)]) B ?k6 ?k7 ?k8 ?k9 ?kB ?_ ?c2 ?c3 ?c4 ?c5
  walk_at "ENTER"
  intro mean mg mb L h₁ tk X T F N; k_fold
  k_steps
  refine ⟨?_⟩
  (with_reducible rename Fr _ _ _ _ => F1)
  (with_reducible rename News _ _ _ _ => N1)
  obtain ⟨vt, iv, il⟩ : ∃ vt : List Value, IntsAre vt [lev a b m, lev b a (m - 1)] ∧ Heap.IsList _ _ vt.toArray := ⟨[_, _], .cons _ _ (.cons _ _ .nil), PySem.IsL.isList (N1 _ (.head _)).1⟩
  refine' comp_A (m := mapOf F1) F1 N1 (fun _ => true) (fun v y => y = (fun _ : Int => Value.bool true) (numOf1 v)) ?hsw ?hclos ?hcell ?hkind ?hnames ?hx ?hy ?hp ?_ ?hs
  walk_at "COMPA"
  k_steps
  walk_at "DONE"
  refine ⟨_, _, src_list (vs := vt) rfl il (by rw [PySem.sizeLine_eq, iv.length]; exact Nat.le_of_ble_eq_true rfl), CompOk.plain ?_, F1, N1, ?_⟩
  · intro C u i v s₂ E' hP FB NB
    obtain ⟨hp2, g2, d2, tk2, os2⟩ := s₂
    obtain ⟨tv, hv, _⟩ := ints_at iv i v hP
    generalize numOf1 v = z at hv
    subst hv
    have kE := InElt.start hp2
    have X' := X.keeps F1.keep
    have T' := T.keeps F1.keep
    clear F1 N1
    k_steps
    walk_at "BLKEND"
    rfl
  intro D vs' kD us h' tk' F' N' hne hl hP hG
  have hV := pick_pair iv (fun _ => Value.bool true) (vals_of hl hP ▸ hG)
  subst hV
  clear hl hP hG
  walk_at "DONE"
  (try k_unmd)
  k_steps
  · (with_reducible rename Fr _ _ _ _ => F3)
    (rename List.cons _ _ = List.cons _ _ => e)
    have e1 : decide (lev a b m = m ∧ lev b a (m - 1) = m) = true := decide_eq_true (by simpa using e)
    rw [e1] at hQ
    exact hQ _ _ F3.keep
  · (with_reducible rename Fr _ _ _ _ => F3)
    (rename ¬ (List.cons _ _ = List.cons _ _) => e)
    have e1 : decide (lev a b m = m ∧ lev b a (m - 1) = m) = false := decide_eq_false (by simpa using e)
    rw [e1] at hQ
    walk_at "DONE"
    rw [decide_eq_false e]
    exact hQ _ _ F3.keep
end

theorem charsVals {vs : List Value} {l : List Nat} (h : CharsAre vs l) : ∃ ps : List (Str × Tok), vs = strValues ps ∧ ps.map (·.1) = l.map fun c => tx [c] := by
  induction h with
  | nil => exact ⟨[], rfl, rfl⟩
  | cons c t _ ih =>
    obtain ⟨ps, h1, h2⟩ := ih
    exact ⟨(tx [c], t) :: ps, by rw [h1]; rfl, by rw [List.map_cons, h2]; rfl⟩
theorem app_tx (a b : List Nat) : tx a ++ Str.ofString "" ++ tx b = tx (a ++ b) := by
  refine congrArg Str.mk ?_
  show (a.toArray ++ (Str.ofString "").cps) ++ b.toArray = (a ++ b).toArray
  have e : (Str.ofString "").cps = #[] := rfl
  rw [e]
  simp
theorem join_tx1 : ∀ l : List Nat, Str.join (Str.ofString "") (l.map fun c => tx [c]) = tx l
  | [] => rfl
  | [c] => rfl
  | c :: d :: l => by
    have ih := join_tx1 (d :: l)
    show tx [c] ++ Str.ofString "" ++ Str.join (Str.ofString "") ((d :: l).map fun c => tx [c]) = _
    rw [ih, app_tx]
    rfl
theorem join_tx (l : List Nat) : Txt.join (Str.ofString "") (l.map fun c => tx [c]) = tx l := by
  rw [← join_tx1]
  exact StrLaws.glued_eq_join _ _
theorem joinFit_sum (l : List Nat) (n : Nat) : List.foldl (fun (a : Nat) (b : Str) => a + b.length + (Str.ofString "").length) n (l.map fun c => tx [c]) = n + l.length := by
  induction l generalizing n with
  | nil => rfl
  | cons c l ih =>
    rw [List.map_cons, List.foldl_cons, ih]
    have e : n + (tx [c]).length + (Str.ofString "").length = n + 1 := rfl
    rw [e, List.length_cons]
    omega
theorem joinFit_tx (l : List Nat) (hz : l.length ≤ 1000) : JoinOk (Str.ofString "") (l.map fun c => tx [c]) = true := by
  unfold JoinOk
  rw [Bool.not_eq_true']
  have e : Array.foldl (fun (a : Nat) (b : Str) => a + b.length + (Str.ofString "").length) 0 (l.map fun c => tx [c]).toArray = l.length := by
    rw [List.foldl_toArray, joinFit_sum]
    omega
  refine (congrArg Builtin.Str.tooLong e).trans ?_
  unfold Builtin.Str.tooLong
  rw [PySem.sizeLine_eq]
  exact decide_eq_false (by omega)
section
variable {prog : Program} {w : World} {A : Around} {E : Value → Shared → Prop} {s : Shared} {Q : Value → Shared → Prop}
theorem join_chars {la : Addr} {vs : List Value} {l : List Nat} (hl : s.heap.IsList la vs.toArray) (hc : CharsAre vs l) (hz : l.length ≤ 1000) (t : Tok)
   (h : ∀ tk t', Q (.str (tx l) t') { s with toks := tk }) : wpAny (model prog w) A (call (.builtin "str.join") [.str (Str.ofString "") t, .ref la]) Q E s := by
  obtain ⟨ps, rfl, e⟩ := charsVals hc
  have hok := joinFit_tx l hz
  rw [← e] at hok
  have hok' := hok
  unfold JoinOk at hok'
  rw [Bool.not_eq_true'] at hok'
  refine call_meets F.slot_str_join (typeIs_str _ _ _) F.entry_str_join (F.args_str_join_2 _ _) (meets_str_join_list _ t la ps hok') ⟨hl, post_join ps ⟨joinFit_length hok', fun t' k => ?_⟩⟩
  rw [e, join_tx]
  exact h _ _
end

noncomputable def letters : List Nat := [97, 65, 98, 66]
theorem item_letter (k : Int) (h0 : 0 ≤ k) (h4 : k < 4) : ∃ c ∈ letters, Txt.item (Str.ofString "aAbB") k = tx [c] := by
  obtain rfl | rfl | rfl | rfl : k = 0 ∨ k = 1 ∨ k = 2 ∨ k = 3 := by omega
  · exact ⟨97, by decide, by with_unfolding_all rfl⟩
  · exact ⟨65, by decide, by with_unfolding_all rfl⟩
  · exact ⟨98, by decide, by with_unfolding_all rfl⟩
  · exact ⟨66, by decide, by with_unfolding_all rfl⟩
theorem letters_of {vs ys : List Value} : Paired (fun _ y => ∃ c ∈ letters, ∃ t, y = Value.str (tx [c]) t) vs ys → ∃ l : List Nat, CharsAre ys l ∧ (∀ c ∈ l, c ∈ letters) ∧ l.length = vs.length := by
  intro h
  induction h with
  | nil => exact ⟨[], .nil, (by intro c hc; cases hc), rfl⟩
  | cons h1 _ ih =>
    obtain ⟨c, hc, t, rfl⟩ := h1
    obtain ⟨l, hl, hm, hn⟩ := ih
    refine ⟨c :: l, .cons c t hl, fun z hz => ?_, by simp [hn]⟩
    cases hz with
    | head => exact hc
    | tail _ hz => exact hm z hz
theorem CharsAre.drop {vs : List Value} {l : List Nat} (h : CharsAre vs l) (n : Nat) : CharsAre (vs.drop n) (l.drop n) := by
  induction h generalizing n with
  | nil => simpa using CharsAre.nil
  | cons c t h1 ih =>
    cases n with
    | zero => exact .cons c t h1
    | succ n => exact ih n
theorem CharsAre.take {vs : List Value} {l : List Nat} (h : CharsAre vs l) (n : Nat) : CharsAre (vs.take n) (l.take n) := by
  induction h generalizing n with
  | nil => simpa using CharsAre.nil
  | cons c t h1 ih =>
    cases n with
    | zero => exact .nil
    | succ n => exact .cons c t (ih n)
noncomputable def cutOf (w : List Nat) (lo hi : Option Int) : List Nat := (w.drop (kms_lo lo w.length)).take (kms_hi hi w.length - kms_lo lo w.length)
theorem cutOf_len {w : List Nat} (lo hi : Option Int) (h : w.length ≤ 1000) : (cutOf w lo hi).length ≤ 1000 := by
  unfold cutOf
  rw [List.length_take, List.length_drop]
  omega
theorem cutOf_mem {w : List Nat} {lo hi : Option Int} {S : List Nat} (h : ∀ c ∈ w, c ∈ S) : ∀ c ∈ cutOf w lo hi, c ∈ S := fun c hc => h c (List.mem_of_mem_drop (List.mem_of_mem_take hc))
theorem cutOf_head {w : List Nat} {a : Int} (h : w.length = 5) (h1 : 1 ≤ a) (h3 : a ≤ 3) : 1 ≤ (cutOf w none (some a)).length ∧ (cutOf w none (some a)).length ≤ 3 := by
  unfold cutOf
  rw [List.length_take, List.length_drop, h]
  simp only [kms_lo, kms_hi]
  split <;> omega
theorem cutOf_mid {w : List Nat} {a b : Int} (h : w.length = 5) (h1 : 1 ≤ a) (h3 : a ≤ 3) (k1 : 1 ≤ b) (k2 : b ≤ 2) : 1 ≤ (cutOf w (some a) (some (a + b))).length ∧ (cutOf w (some a) (some (a + b))).length ≤ 2 := by
  unfold cutOf
  rw [List.length_take, List.length_drop, h]
  simp only [kms_lo, kms_hi]
  split <;> split <;> omega
section
variable {prog : Program} {w : World} {A : Around} {E : Value → Shared → Prop} {s : Shared} {h₀ : Heap} {L l : Addr} {m : Str → Option Value} {news : List (Addr × Obj)} {value slice : PySem.Expr} {vs : List Value} {vl vu : Value} {lo hi : Option Int} {Q : Value → Shared → Prop} {wd : List Nat}
theorem slice_chars (F : Fr h₀ L s.heap m) (N : News h₀ L s.heap news) (hl : s.heap.IsList l vs.toArray) (hc : CharsAre vs wd) (pl : IsPart vl lo) (pu : IsPart vu hi)
    (h : ∀ D ws h', Fr h₀ L h' m → News h₀ L h' ((D, W.listOf (List.toArray ws) 0) :: news) → (∀ p ∈ news, p.1 < D) → CharsAre ws (cutOf wd lo hi) → Q (.ref D) { s with heap := h' })
    (hs : subscripted slice false (.ref l) (.ref s.heap.objs.size) = operate [.ref s.heap.objs.size, .ref l] (getItem (.ref l) (.ref s.heap.objs.size))) (ht : ∀ r, letTemporaryGo value (.ref l) r = pure ()) (hz : vs.length ≤ 1000) :
    wpAny (model prog w) A (subscriptTail value slice (.ref l) (.ref s.heap.objs.size)) Q E { s with heap := s.heap.push { cls := .type "slice", data := .fields #[vl, vu, .none] } } := by
  refine kmk_slice F N hl pl pu (fun D h' F' N' l1 => ?_) hs ht (by rw [PySem.sizeLine_eq, List.size_toArray]; omega)
  rw [kms_pick_eq] at N'
  refine h D _ h' F' N' l1 ?_
  unfold kms_pick cutOf
  rw [hc.length]
  exact (hc.drop _).take _
end
example : True := by
  (k_with "subscriptTail Name Slice ref ref" => (k_here; (with_reducible show wpAny _ _ (subscriptTail _ (PySem.Expr.Slice _ _ none _) (Value.ref _) (Value.ref _)) _ _ _); (refine' slice_chars (s := ⟨_, _, _, _, _⟩) (by k_asm) (by k_asm) (by kmk_list) (by assumption) (by kmk_part) (by kmk_part) ?_ (by with_unfolding_all rfl) (by kmk_pure) (by first | assumption | (rw [CharsAre.length (by assumption)]; omega))); intro _ _ _ _ _ _ _))
  (k_with "call builtin:str.join" => (k_here; (refine' join_chars (s := ⟨_, _, _, _, _⟩) (by kmk_list) (by assumption) (by first | assumption | exact cutOf_len _ _ (by omega)) _ ?_); intro _ _))
  trivial
section
variable {prog : Program} {w : World} {dp un : Nat} {fr : Option (List Env)} {gd : Option (List Code)} {E : Value → Shared → Prop} {s : Shared} {Q : Value → Shared → Prop}
theorem words_spec (B : Base w s.heap) (hdp : dp + 20 < recursionLimit) (hu : un + 200 < cLine)
   (d : Int) (td : Tok)
   (hQ : ∀ h' tk D x y tx' ty', Ext s.heap h' → s.heap.get? D = none → h'.get? D = some (tupO #[.str (tx x) tx', .str (tx y) ty']) → (∀ c ∈ x, c ∈ letters) → (∀ c ∈ y, c ∈ letters) → 1 ≤ x.length → x.length ≤ 3 → 1 ≤ y.length → y.length ≤ 2 → Q (.ref D) { s with heap := h', toks := tk }) :
   wpAny (model prog w) (top0 dp un fr gd) (call (.ref 97) [.int d td]) Q E s := by
  refine' enterC (binds := [("draw", .int d td)]) B ?k6 ?k7 ?k8 ?k9 ?kB ?kD ?_ ?c2 ?c3 ?c4
  walk_at "ENTERC"
  intro mean mg mb L h₁ tk cells X T F N Y
  obtain ⟨oc, rfl, d1⟩ := CellsAre.one Y
  clear Y
  (try dsimp only)
  k_unmd
  k_fold
  k_steps
  refine ⟨?_⟩
  refine' comp_A (m := mapOf F) (cl := [("draw", L + 1)]) F N (fun _ => true) (fun v y => ∃ c ∈ letters, ∃ t, y = .str (tx [c]) t) ?hsw ?hclos ?hcell ?hkind ?hnames ?hx ?hy ?hp ?_ ?hs
  walk_at "COMPA"
  k_steps
  walk_at "DONE"
  (with_reducible rename Fr _ _ _ _ => F1)
  (with_reducible rename News _ _ _ _ => N1)
  have kC : CellIs _ (L + 1) (.int d td) := CellIs.of N1 (.head _) d1 (by with_unfolding_all rfl)
  refine ⟨_, _, src_range (n := 5) rfl (by assumption) rfl (by omega), CompOk.plain ?_, F1, N1, ?_⟩
  · intro C u i v s₂ E' hP FB NB
    obtain ⟨hp2, g2, d2, tk2, os2⟩ := s₂
    obtain ⟨hi, tv, hv⟩ := hP
    subst hv
    have kE := InElt.start hp2
    have X' := X.keeps F1.keep
    have T' := T.keeps F1.keep
    clear F1 N1
    have hj0 : (0 : Int) ≤ (i : Int) := by omega
    have hj4 : (i : Int) ≤ 4 := by omega
    obtain rfl | rfl | rfl | rfl | rfl : i = 0 ∨ i = 1 ∨ i = 2 ∨ i = 3 ∨ i = 4 := by omega
    · k_steps
      walk_at "BLKEND"
      exact (item_letter _ (Int.fmod_nonneg_of_pos _ (by decide)) (Int.fmod_lt_of_pos _ (by decide))).elim fun c hc => ⟨c, hc.1, _, by rw [hc.2]⟩
    · k_steps
      walk_at "BLKEND"
      exact (item_letter _ (Int.fmod_nonneg_of_pos _ (by decide)) (Int.fmod_lt_of_pos _ (by decide))).elim fun c hc => ⟨c, hc.1, _, by rw [hc.2]⟩
    · k_steps
      walk_at "BLKEND"
      exact (item_letter _ (Int.fmod_nonneg_of_pos _ (by decide)) (Int.fmod_lt_of_pos _ (by decide))).elim fun c hc => ⟨c, hc.1, _, by rw [hc.2]⟩
    · k_steps
      walk_at "BLKEND"
      exact (item_letter _ (Int.fmod_nonneg_of_pos _ (by decide)) (Int.fmod_lt_of_pos _ (by decide))).elim fun c hc => ⟨c, hc.1, _, by rw [hc.2]⟩
    · k_steps
      walk_at "BLKEND"
      exact (item_letter _ (Int.fmod_nonneg_of_pos _ (by decide)) (Int.fmod_lt_of_pos _ (by decide))).elim fun c hc => ⟨c, hc.1, _, by rw [hc.2]⟩
  intro D vs' kD us h' tk' F' N' hne hl hP hG
  rw [List.filter_eq_self.mpr (fun _ _ => rfl)] at hG
  obtain ⟨l, hc, hlt, hln⟩ := letters_of hG
  rw [hl] at hln
  clear hl hP hG
  walk_at "DONE"
  (try k_unmd)
  k_steps
  walk_at "DONE"
  (with_reducible rename Fr _ _ _ _ => F9); (with_reducible rename News _ _ _ _ => N9)
  have hd3 := Int.fmod_nonneg_of_pos d (b := 3) (by decide)
  have hd4 := Int.fmod_lt_of_pos d (b := 3) (by decide)
  have hd5 := Int.fmod_nonneg_of_pos (d.fdiv 3) (b := 2) (by decide)
  have hd6 := Int.fmod_lt_of_pos (d.fdiv 3) (b := 2) (by decide)
  have hx := cutOf_head (a := 1 + d.fmod 3) hln (by omega) (by omega)
  have hy := cutOf_mid (a := 1 + d.fmod 3) (b := 1 + (d.fdiv 3).fmod 2) hln (by omega) (by omega) (by omega) (by omega)
  exact hQ _ _ _ _ _ _ _ F9.keep (N9 _ (.head _)).2.2 (N9 _ (.head _)).1 (cutOf_mem hlt) (cutOf_mem hlt) hx.1 hx.2 hy.1 hy.2
end

section
variable {prog : Program} {w : World} {A : Around} {E : Value → Shared → Prop} {s : Shared} {h₀ : Heap} {L l : Addr} {m : Str → Option Value} {news : List (Addr × Obj)} {value slice : PySem.Expr} {vs : List Value} {ns : List Int} {vl vu vk : Value} {lo hi st : Option Int} {Q : Value → Shared → Prop}
theorem slice_step {ops : List Value} (F : Fr h₀ L s.heap m) (N : News h₀ L s.heap news) (hl : s.heap.IsList l vs.toArray) (iv : IntsAre vs ns) (pl : IsPart vl lo) (pu : IsPart vu hi) (pk : IsPart vk st) (h0 : st ≠ some 0)
    (h : ∀ D ws ms h', Fr h₀ L h' m → News h₀ L h' ((D, W.listOf (List.toArray ws) 0) :: news) → Ext s.heap h' → IntsAre ws ms → Q (.ref D) { s with heap := h' })
    (hs : subscripted slice false (.ref l) (.ref s.heap.objs.size) = operate ops (getItem (.ref l) (.ref s.heap.objs.size))) (ht : ∀ r, letTemporaryGo value (.ref l) r = pure ()) (hz : vs.length ≤ 1000) :
    wpAny (model prog w) A (subscriptTail value slice (.ref l) (.ref s.heap.objs.size)) Q E { s with heap := s.heap.push { cls := .type "slice", data := .fields #[vl, vu, vk] } } := by
  refine subscriptTail_ops (Heap.IsList.typeIs (s := { s with heap := s.heap.push { cls := .type "slice", data := .fields #[vl, vu, vk] } }) (hl.push _)) PySem.list_getitem_lookup
    (wpAny_getItem_list_slice (hl.push _) (Heap.IsSliceOf.new ..) pl pu pk h0 ?_ (by rw [PySem.sizeLine_eq, List.size_toArray]; omega)) hs ht
  have N1 := News.push (F.push { cls := .type "slice", data := .fields #[vl, vu, vk] }) (N.grown fun _ _ e => Heap.get?_push_of_some _ e) { cls := .type "list", data := .seq (slicePick vs.toArray lo hi st) }
  rw [Heap.size_push] at N1
  show Q (.ref (s.heap.push _).objs.size) _
  rw [Heap.size_push]
  refine h _ (slicePick vs.toArray lo hi st).toList _ _ ((F.push _).push _) ?_ (fun b o e => Heap.get?_push_of_some _ (Heap.get?_push_of_some _ e)) (iv.pick lo hi st)
  rw [Array.toArray_toList]
  exact N1
theorem sum_ext {Q : Value → Shared → Prop} (hh : A.handled = none) (hl : s.heap.IsList l vs.toArray) (hi : IntsAre vs ns)
    (h : ∀ h' tk t', Ext s.heap h' → Q (.int ns.sum t') { s with heap := h', toks := tk }) : wpAny (model prog w) A (call (.builtin "sum") [.ref l]) Q E s := by
  obtain ⟨xs, hx⟩ := hi.allInts.items
  have hl' : s.heap.IsList l (intItems xs) := hx ▸ hl
  refine sum_intListG hh hl' fun h' tk t' hk => ?_
  have e1 : ns = xs.toList.map (·.1) := by
    rw [← nums_intItems, ← hx]
    exact (show numsOf vs.toArray.toList = ns from hi.numsOf).symm
  have e2 : preSum (numAt xs) xs.size = ns.sum := by
    rw [preSum_eq, List.take_of_length_le (by simp), e1]
  rw [e2]
  exact h h' tk t' hk
end
example : True := by
  (k_with "subscriptTail Name Slice ref ref" => ((k_here; (with_reducible show wpAny _ _ (subscriptTail _ (PySem.Expr.Slice _ _ (some _) _) (Value.ref _) (Value.ref _)) _ _ _); (refine' slice_step (s := ⟨_, _, _, _, _⟩) (by k_asm) (by k_asm) (by first | kmk_list | assumption | exact isl_keeps (by assumption) (Fr.keep (by assumption))) (by assumption) (by kmk_part) (by kmk_part) (by kmk_part) (by decide) ?_ (by with_unfolding_all rfl) (by kmk_pure) (by assumption)); intro _ _ _ _ _ _ K' _; (try ((with_reducible rename InElt _ _ => kE); (replace kE := inElt_next kE K'))); clear K'; (try dsimp only); (try k_fold)); (try (revert kE; intro _))))
  (k_with "KEPTE" => (
  intro _ _ _ K'
  (with_reducible rename Fr _ _ _ _ => kF)
  (with_reducible rename News _ _ _ _ => kN)
  (try ((with_reducible rename InElt _ _ => kE); (replace kE := inElt_next kE K')))
  replace kF := Fr.keeps kF K'
  replace kN := News.grown kN K'
  clear K'
  (try dsimp only)
  (try k_fold)
  (try (revert kF; intro _))
  (try (revert kN; intro _))
  (try (revert kE; intro _))))
  (k_with "call builtin:sum" => (refine Mark.out ?_))
  trivial
section
variable {prog : Program} {w : World} {dp un : Nat} {fr : Option (List Env)} {gd : Option (List Code)} {E : Value → Shared → Prop} {s : Shared} {Q : Value → Shared → Prop}
theorem ints_ex {vs ys : List Value} (f : Value → Value → Prop) (hf : ∀ v y, f v y → ∃ i t, y = Value.int i t) : Paired f vs ys → ∃ ms, IntsAre ys ms ∧ ms.length = vs.length := by
  intro h
  induction h with
  | nil => exact ⟨[], .nil, rfl⟩
  | cons h1 _ ih =>
    obtain ⟨i, t, rfl⟩ := hf _ _ h1
    obtain ⟨ms, h2, h3⟩ := ih
    exact ⟨i :: ms, .cons _ _ h2, by simp [h3]⟩
theorem draws_spec (B : Base w s.heap) (hdp : dp + 20 < recursionLimit) (hu : un + 200 < cLine)
   {la : Addr} {vs : List Value} {ns : List Int} (il : s.heap.IsList la vs.toArray) (iv : IntsAre vs ns) (hz : vs.length ≤ 1000)
   (hQ : ∀ h' tk D us ms k, Ext s.heap h' → s.heap.get? D = none → h'.get? D = some (W.listOf (List.toArray us) k) → IntsAre us ms → ms.length = 8 → Q (.ref D) { s with heap := h', toks := tk }) :
   wpAny (model prog w) (top0 dp un fr gd) (call (.ref 92) [.ref la]) Q E s := by
  refine' enterC (binds := [("script", .ref la)]) B ?k6 ?k7 ?k8 ?k9 ?kB ?kD ?_ ?c2 ?c3 ?c4
  walk_at "ENTERC"
  intro mean mg mb L h₁ tk cells X T F N Y
  obtain ⟨oc, oc2, rfl, d1, d2⟩ := CellsAre.two Y
  clear Y
  (try dsimp only)
  k_unmd
  k_fold
  k_steps
  refine ⟨?_⟩
  (with_reducible rename Fr _ _ _ _ => F0)
  (with_reducible rename News _ _ _ _ => N0)
  refine' comp_E (m := mapOf F0) (cl := [("script", L + 1), ("own", L + 1 + 1)]) F0 N0 (fun _ => true) (fun v y => ∃ i t, y = Value.int i t) ?hclos ?hcell ?hkind ?hnames ?hx ?_ ?hs
  walk_at "COMPE"
  k_steps
  walk_at "DONE"
  (with_reducible rename Fr _ _ _ _ => F1)
  (with_reducible rename News _ _ _ _ => N1)
  (rename (_ = Data.cell (some (Value.ref _))) => dd)
  have kC1 : CellIs _ (L + 1 + 1) (.ref _) := CellIs.of N1 (.tail _ (.head _)) dd rfl
  have kC2 : CellIs _ (L + 1) (.ref la) := CellIs.of N1 (.tail _ (.tail _ (.head _))) d2 (by with_unfolding_all rfl)
  obtain ⟨vo, no, ivo, hno, ilo⟩ : ∃ (vo : List Value) (no : List Int), IntsAre vo no ∧ no.length = 8 ∧ Heap.IsList _ _ vo.toArray := ⟨_, _, .cons 145 _ (.cons 20805 _ (.cons 21204 _ (.cons 0 _ (.cons 5 _ (.cons 6 _ (.cons 4 _ (.cons 1 _ .nil))))))), rfl, PySem.IsL.isList (N1 _ (.head _)).1⟩
  refine ⟨_, _, src_range (n := 8) rfl (by assumption) rfl (by omega), CompOk.plain ?_, F1, N1, ?_⟩
  · intro C u i v s₂ E' hP FB NB
    obtain ⟨hp2, g2, d2, tk2, os2⟩ := s₂
    obtain ⟨hi, tv, hv⟩ := hP
    subst hv
    have kE := InElt.start hp2
    have X' := X.keeps F1.keep
    have T' := T.keeps F1.keep
    have il' := isl_keeps il F1.keep
    clear F1 N1
    have hj0 : (0 : Int) ≤ (i : Int) := by omega
    have hj4 : (i : Int) < 8 := by omega
    k_steps
    (all_goals (try (first | exact (0 : Addr) | exact (default : Str) | exact Value.none | exact ([] : List (Str × Addr)))))
    refine ⟨?_⟩
    k_here; (refine' sum_ext (s := ⟨_, _, _, _, _⟩) ?h ?l ?i ?_; (case h => rfl); (case l => first | kmk_list | assumption); (case i => assumption)); walk_at "KEPTE"
    k_steps
    walk_at "BLKEND"
    exact ⟨_, _, rfl⟩
  intro D vs' kD us h' tk' F' N' hne hl hP hG
  rw [List.filter_eq_self.mpr (fun _ _ => rfl)] at hG
  obtain ⟨ms, im, hm⟩ := ints_ex _ (fun _ _ h => h) hG
  walk_at "DONE"
  exact hQ _ _ _ _ _ _ F'.keep (N' _ (.head _)).2.2 (N' _ (.head _)).1 im (hm.trans hl)
end

section
variable {prog : Program} {w : World} {A : Around} {E : Value → Shared → Prop} {s : Shared} {env : Env} {h₀ : Heap} {x : Str} {body : List Stmt} {Q : Flow → Shared → Prop} {σ : Type}
/-- what a turn hands on: the ledger may have grown or turned, all but the iterator's own place -/
noncomputable def KgEnd (h₀ : Heap) (L : Addr) (Led : σ → List (Addr × Obj)) (ps : σ → List (Str × Value)) (P : σ → Prop) (I : Addr) (oI : Obj) (s₁ s₂ : Shared) : Prop :=
  ∃ (c' : σ) (h' : Heap) (tk : Nat) (m' : Str → Option Value) (news' : List (Addr × Obj)), s₂ = { s₁ with heap := h', toks := tk } ∧ Fr h₀ L h' m' ∧ News h₀ L h' news' ∧ (∀ p ∈ Led c', p ∈ news') ∧ (I, oI) ∈ news' ∧ (∀ p ∈ Led c', p.1 ≠ I) ∧ (∀ p ∈ ps c', m' p.1 = some p.2) ∧ P c'
noncomputable def KgPost (h₀ : Heap) (L : Addr) (Led : σ → List (Addr × Obj)) (ps : σ → List (Str × Value)) (P : σ → Prop) (I : Addr) (oI : Obj) (s₁ : Shared) (Q : Flow → Shared → Prop) (f : Flow) (s₂ : Shared) : Prop :=
  match f with
  | .ret v => Q (.ret v) s₂
  | .brk => Q .next s₂
  | _ => Mark (KgEnd h₀ L Led ps P I oI s₁ s₂)
theorem kg_end {L : Addr} {Led : σ → List (Addr × Obj)} {ps : σ → List (Str × Value)} {P : σ → Prop} {I : Addr} {oI : Obj} {s₁ : Shared} {h' : Heap} {tk : Nat} {m' : Str → Option Value} {news' : List (Addr × Obj)} (c' : σ)
    (F : Fr h₀ L h' m') (N : News h₀ L h' news') (hn : ∀ p ∈ Led c', p ∈ news') (hi : (I, oI) ∈ news') (hI : ∀ p ∈ Led c', p.1 ≠ I) (hk : Has m' (ps c')) (hp : P c') :
    Mark (KgEnd h₀ L Led ps P I oI s₁ { s₁ with heap := h', toks := tk }) := ⟨c', h', tk, m', news', rfl, F, N, hn, hi, hI, hk, hp⟩
theorem kg_walk {I : Addr} {fp : List Addr} {n : Nat} {PI : Nat → Value → Prop} {St : Nat → Heap → Prop} {m₀ : Str → Option Value} (Led : σ → List (Addr × Obj)) (ps : σ → List (Str × Value)) (P : Nat → σ → Prop) (c₀ : σ)
    (W : Walks prog w A I fp [I] n PI St) (hLf : env.locals ∉ fp) (hIf : I ∈ fp) (hI : h₀.get? I = none) (hfp : ∀ b ∈ fp, b ≠ I → ∃ o, h₀.get? b = some o) (hSt : ∀ i h, St i h → ∃ o, h.get? I = some o)
    (hnw : ∀ p ∈ Led c₀, p.1 ≠ I) (hst : St 0 s.heap) (F : Fr h₀ env.locals s.heap m₀) (N : News h₀ env.locals s.heap (Led c₀)) (hk : Has m₀ (ps c₀)) (hp : P 0 c₀)
    (turn : ∀ (c : σ) i v (u : Str → Option Value) h tk oI, i < n → PI i v → (∀ p ∈ Led c, p.1 ≠ I) → P i c →
      Fr h₀ env.locals h (fun y => if y = x then some v else kstB u (ps c) y) → News h₀ env.locals h (Led c ++ [(I, oI)]) →
      wpAny (model prog w) A (execs body env) (KgPost h₀ env.locals Led ps (P (i + 1)) I oI { s with heap := h, toks := tk } Q) E { s with heap := h, toks := tk })
    (done : ∀ (c : σ) (u : Str → Option Value) h tk, P n c → Fr h₀ env.locals h (kstB u (ps c)) → News h₀ env.locals h (Led c) → Q .next { s with heap := h, toks := tk }) :
    LoopAtV prog w A h₀ env x body Q E (.ref I) s := by
  refine ⟨I, fp, [I], n, PI, St, m₀, Led c₀, fun i m nx => ∃ c : σ, nx = Led c ∧ (∀ p ∈ ps c, m p.1 = some p.2) ∧ P i c, rfl, W, hLf, fun b hb => by rw [List.mem_singleton.mp hb]; exact hI, fun p hp hq => hnw p hp (List.mem_singleton.mp hq), hst, F, N, ⟨c₀, rfl, hk, hp⟩, ?_, ?_⟩
  · rintro i v m₁ nx s₁ own ⟨hh', tk', rfl⟩ hin hP ⟨c, rfl, h1, hp'⟩ hnw₁ hof hown hall hst₁ F₁ N₁
    obtain ⟨oI, hoI⟩ := hSt _ _ hst₁
    have hmI : (I, oI) ∈ own := hall I hIf hI oI hoI
    have hone : ∀ p ∈ own, p = (I, oI) := by
      intro p hp
      by_cases e : p.1 = I
      · have := hown p hp
        rw [e, hoI] at this
        exact Prod.ext e (Option.some.inj this.symm)
      · obtain ⟨o, ho⟩ := hfp _ (hof p hp) e
        rw [(N₁ p (List.mem_append_left _ hp)).2.2] at ho
        cases ho
    have N₂ : News h₀ env.locals hh' (Led c ++ [(I, oI)]) := news_sub N₁ fun p hp => by
      rcases List.mem_append.mp hp with h | h
      · exact List.mem_append_right _ h
      · rw [List.mem_singleton.mp h]; exact List.mem_append_left _ hmI
    refine wpAny_mono (turn c i v m₁ hh' tk' oI hin hP (fun p hp q => hnw₁ p hp (by rw [q]; exact .head _)) hp' (ks_fr h1 F₁) N₂) (fun f s₂ q => ?_) fun _ _ e => e
    have fin : Mark (KgEnd h₀ env.locals Led ps (P (i + 1)) I oI { s with heap := hh', toks := tk' } s₂) → LoopStepU h₀ env.locals [I] own (fun m nx => ∃ c : σ, nx = Led c ∧ (∀ p ∈ ps c, m p.1 = some p.2) ∧ P (i + 1) c) { s with heap := hh', toks := tk' } .next s₂ := by
      rintro ⟨c', h', tk, m', news', rfl, F', N', hn, hi, hI', hk', hp''⟩
      refine LoopStepU.intro (s₁ := { s with heap := hh', toks := tk' }) F' (news_sub N' fun p hp => ?_) (fun p hp q => hI' p hp (List.mem_singleton.mp q)) ⟨c', rfl, hk', hp''⟩
      rcases List.mem_append.mp hp with h | h
      · rw [hone p h]; exact hi
      · exact hn p h
    cases f with
    | ret v => exact .ret q
    | brk => exact .brk q
    | next => exact .next (fin q)
    | cont => exact .cont (fin q)
  · rintro h' tk m' news' F' N' _ ⟨c, rfl, h1, hp'⟩
    obtain ⟨u, F₂⟩ := canon F' (ps c) h1
    exact done c u h' tk hp' F₂ N'
theorem kg_down {r : Addr} {a₀ b₀ : Int} {t₀ u₀ v₀ : Tok} {n : Nat} {m₀ : Str → Option Value} (Led : σ → List (Addr × Obj)) (ps : σ → List (Str × Value)) (P : Nat → σ → Prop) (c₀ : σ)
    (hh : A.handled = none) (hr : IsRange s.heap r a₀ b₀ (-1) t₀ u₀ v₀) (ha : a₀ = (n : Int) - 1) (hb : b₀ = -1) (hz : n ≤ 1000) (F : Fr h₀ env.locals s.heap m₀) (N : News h₀ env.locals s.heap (Led c₀)) (hk : Has m₀ (ps c₀)) (hp : P 0 c₀)
    (turn : ∀ (c : σ) (i : Nat) t (u : Str → Option Value) h tk I oI, i < n → (∀ p ∈ Led c, p.1 ≠ I) → P i c →
      Fr h₀ env.locals h (fun y => if y = x then some (.int ((n : Int) - 1 - (i : Int)) t) else kstB u (ps c) y) → News h₀ env.locals h (Led c ++ [(I, oI)]) →
      wpAny (model prog w) A (execs body env) (KgPost h₀ env.locals Led ps (P (i + 1)) I oI { s with heap := h, toks := tk } Q) E { s with heap := h, toks := tk })
    (done : ∀ (c : σ) (u : Str → Option Value) h tk, P n c → Fr h₀ env.locals h (kstB u (ps c)) → News h₀ env.locals h (Led c) → Q .next { s with heap := h, toks := tk }) :
    wpAny (model prog w) A (pyIter (.ref r)) (fun it s₂ => LoopAtV prog w A h₀ env x body Q E it s₂) E s := by
  subst ha hb
  have hn : Builtin.Range.rangeSize ((n : Int) - 1) (-1) (-1) = (n : Int) := by rw [rangeSize_down]; split <;> omega
  refine wpAny_pyIter_range hr (small_down (by omega) (by omega) (by omega) (by omega)) ?_
  have W : Walks prog w A s.heap.objs.size [s.heap.objs.size] [s.heap.objs.size] n (fun i v => i < n ∧ ∃ t, v = .int ((n : Int) - 1 + i * (-1)) t)
      (fun i h => IsRangeIter h s.heap.objs.size ((n : Int) - 1 + (i : Nat) * (-1)) ((n : Int) - (i : Nat)) (-1)) := (Walks.range hh _ ((n : Int) - 1) (-1) n).bound
  refine kg_walk Led ps P c₀ W ?_ (.head _) (next_is_new F) ?_ (fun _ _ h => ⟨_, h⟩) ?_ (by show IsRangeIter _ _ _ _ _; rw [hn]; simpa using Heap.get?_push_size _ rfl) (F.push _) (fun p hp => ⟨Heap.get?_push_of_some _ (N p hp).1, (N p hp).2⟩) hk hp ?_ ?_
  · intro hm
    exact absurd F.ns.lt ((List.mem_singleton.mp hm) ▸ Nat.lt_irrefl _)
  · intro b hb e
    exact absurd (List.mem_singleton.mp hb) e
  · intro p hp hI
    exact absurd (Heap.lt_size (N p hp).1) (hI ▸ Nat.lt_irrefl _)
  · rintro c i v u h tk oI hi ⟨_, t, rfl⟩ hnw hP F₁ N₁
    have e1 : (n : Int) - 1 + (i : Int) * (-1) = (n : Int) - 1 - (i : Int) := by omega
    rw [e1] at F₁
    exact turn c i t u h tk _ oI hi hnw hP F₁ N₁
  · exact done
/-- over a list that stood ahead of the call -/
theorem kg_list {ax : Addr} {vs : List Value} {m₀ : Str → Option Value} (Led : σ → List (Addr × Obj)) (ps : σ → List (Str × Value)) (P : Nat → σ → Prop) (c₀ : σ)
    (hh : A.handled = none) (hl : h₀.IsList ax vs.toArray) (F : Fr h₀ env.locals s.heap m₀) (N : News h₀ env.locals s.heap (Led c₀)) (hk : Has m₀ (ps c₀)) (hp : P 0 c₀)
    (turn : ∀ (c : σ) (i : Nat) v (u : Str → Option Value) h tk I oI, i < vs.length → vs[i]? = some v → (∀ p ∈ Led c, p.1 ≠ I) → P i c →
      Fr h₀ env.locals h (fun y => if y = x then some v else kstB u (ps c) y) → News h₀ env.locals h (Led c ++ [(I, oI)]) →
      wpAny (model prog w) A (execs body env) (KgPost h₀ env.locals Led ps (P (i + 1)) I oI { s with heap := h, toks := tk } Q) E { s with heap := h, toks := tk })
    (done : ∀ (c : σ) (u : Str → Option Value) h tk, P vs.length c → Fr h₀ env.locals h (kstB u (ps c)) → News h₀ env.locals h (Led c) → Q .next { s with heap := h, toks := tk }) :
    wpAny (model prog w) A (pyIter (.ref ax)) (fun it s₂ => LoopAtV prog w A h₀ env x body Q E it s₂) E s := by
  have hl' := isl_keeps hl F.keep
  refine wpAny_pyIter_list hl' ?_
  have hlt : ax < s.heap.objs.size := by obtain ⟨_, e, _⟩ := hl'; exact Heap.lt_size e
  have hax : ∃ o, h₀.get? ax = some o := by obtain ⟨o, e, _⟩ := hl; exact ⟨o, e⟩
  have W := Walks.list (prog := prog) (w := w) hh s.heap.objs.size ax (Nat.ne_of_lt hlt) vs.toArray
  simp only [List.size_toArray, List.getElem?_toArray] at W
  refine kg_walk Led ps P c₀ W ?_ (.head _) (next_is_new F) ?_ (fun _ _ h => ?_) ?_ ⟨⟨_, Heap.get?_push_size _ rfl, rfl, rfl⟩, hl'.push _⟩ (F.push _) (fun p hp => ⟨Heap.get?_push_of_some _ (N p hp).1, (N p hp).2⟩) hk hp ?_ ?_
  · intro hm
    rcases List.mem_cons.mp hm with e | hm
    · exact absurd F.ns.lt (e ▸ Nat.lt_irrefl _)
    · rw [List.mem_singleton] at hm
      obtain ⟨o, e⟩ := hax
      have h1 := Heap.lt_size e
      have h2 := F.above
      rw [← hm] at h1
      exact absurd h1 (Nat.not_lt.mpr h2)
  · intro b hb e
    rcases List.mem_cons.mp hb with e2 | hb
    · exact absurd e2 e
    · rw [List.mem_singleton.mp hb]; exact hax
  · obtain ⟨⟨o, e, _⟩, _⟩ := h
    exact ⟨o, e⟩
  · intro p hp hI
    exact absurd (Heap.lt_size (N p hp).1) (hI ▸ Nat.lt_irrefl _)
  · rintro c i v u h tk oI hi hv hnw hP F₁ N₁
    exact turn c i v u h tk _ oI hi hv hnw hP F₁ N₁
  · exact done
end
example : True := by
  (k_with "KgPost" => (dsimp only [KgPost]))
  trivial

/-! the plain law: what lev tells -/
theorem cp_append (u a b : List Nat) : cp (u ++ a) (u ++ b) = u.length + cp a b := by
  induction u with
  | nil => simp
  | cons c u ih =>
    show (if c = c then cp (u ++ a) (u ++ b) + 1 else 0) = _
    rw [if_pos rfl, ih, List.length_cons]
    omega
theorem cp_lt_of_ne : ∀ {p q : List Nat}, p.length = q.length → p ≠ q → cp p q < p.length
  | [], [], _, h => absurd rfl h
  | [], _ :: _, h, _ => by simp at h
  | _ :: _, [], h, _ => by simp at h
  | a :: p, b :: q, hl, h => by
    unfold cp
    by_cases e : a = b
    · subst e
      have h2 : p ≠ q := fun e => h (by rw [e])
      have := cp_lt_of_ne (p := p) (q := q) (by simpa using hl) h2
      simp; omega
    · simp [e]
theorem cp_right : ∀ {p q : List Nat} (v : List Nat), p.length = q.length → p ≠ q → cp (p ++ v) (q ++ v) = cp p q
  | [], [], _, _, h => absurd rfl h
  | [], _ :: _, _, h, _ => by simp at h
  | _ :: _, [], _, h, _ => by simp at h
  | a :: p, b :: q, v, hl, h => by
    show (if a = b then cp (p ++ v) (q ++ v) + 1 else 0) = if a = b then cp p q + 1 else 0
    by_cases e : a = b
    · subst e
      have h2 : p ≠ q := fun e => h (by rw [e])
      rw [cp_right v (by simpa using hl) h2]
    · simp [e]
theorem tails_append (u a b : List Nat) : tails (u ++ a) (u ++ b) = tails a b := by
  unfold tails
  rw [cp_append]
  simp [List.drop_append]
theorem fronts_append (a b v : List Nat) : fronts (a ++ v) (b ++ v) = fronts a b := by
  unfold fronts
  rw [List.reverse_append, List.reverse_append, cp_append, List.length_reverse, List.length_append, List.length_append]
  have h1 : ∀ (x : List Nat) (n : Nat), (x ++ v).take (x.length + v.length - (v.length + n)) = x.take (x.length - n) := by
    intro x n
    rw [show x.length + v.length - (v.length + n) = x.length - n by omega, List.take_append_of_le_length (by omega)]
  rw [h1, h1]
theorem lev_mid (u v p q : List Nat) (m : Int) (hl : p.length = q.length) : lev (u ++ p ++ v) (u ++ q ++ v) m = lev p q m := by
  by_cases e : p = q
  · subst e
    unfold lev
    rw [if_pos rfl, if_pos rfl]
  · have h2 : u ++ p ++ v ≠ u ++ q ++ v := by
      intro h
      rw [List.append_assoc, List.append_assoc] at h
      exact e (List.append_cancel_right (List.append_cancel_left h))
    unfold lev
    rw [if_neg e, if_neg h2]
    have hc := cp_lt_of_ne hl e
    have e3 : tails (u ++ p ++ v) (u ++ q ++ v) = ((tails p q).1 ++ v, (tails p q).2 ++ v) := by
      rw [List.append_assoc, List.append_assoc, tails_append]
      unfold tails
      rw [cp_right v hl e, List.drop_append_of_le_length (by omega), List.drop_append_of_le_length (by omega)]
    rw [e3]
    dsimp only
    rw [fronts_append]
theorem lev_left (X Y : List Nat) (m : Int) (hX : X ≠ []) : lev (X ++ Y) Y m = 2 * (X.length : Int) := by
  have hne : X ++ Y ≠ Y := fun h => hX (by simpa using h)
  unfold lev
  rw [if_neg hne]
  have hc := cp_le_right (X ++ Y) Y
  obtain ⟨W, hW, hlen⟩ : ∃ W : List Nat, (X ++ Y).drop (cp (X ++ Y) Y) = W ++ Y.drop (cp (X ++ Y) Y) ∧ W.length = X.length := by
    generalize cp (X ++ Y) Y = c at hc ⊢
    refine ⟨((X ++ Y).drop c).take X.length, ?_, ?_⟩
    · have h1 : Y.drop c = ((X ++ Y).drop c).drop X.length := by
        rw [List.drop_drop, Nat.add_comm, ← List.drop_drop, List.drop_left]
      rw [h1, List.take_append_drop]
    · rw [List.length_take, List.length_drop, List.length_append]
      omega
  have e1 : tails (X ++ Y) Y = (W ++ Y.drop (cp (X ++ Y) Y), [] ++ Y.drop (cp (X ++ Y) Y)) := by
    unfold tails
    rw [hW]
    rfl
  rw [e1]
  dsimp only
  rw [fronts_append]
  have e2 : fronts W [] = (W, []) := by
    unfold fronts
    have : cp W.reverse [] = 0 := by cases W.reverse <;> rfl
    simp [this]
  rw [e2]
  unfold lev3
  rw [if_pos (.inr rfl), hlen]
  simp
theorem lev_right (X Y : List Nat) (m : Int) (hX : X ≠ []) : lev (Y ++ X) Y m = 2 * (X.length : Int) := by
  have hne : Y ++ X ≠ Y := fun h => hX (by simpa using h)
  unfold lev
  rw [if_neg hne]
  have e1 : tails (Y ++ X) Y = (X, []) := by
    have h := tails_append Y X []
    rw [List.append_nil] at h
    rw [h]
    unfold tails
    have : cp X [] = 0 := by cases X <;> rfl
    simp [this]
  rw [e1]
  have e2 : fronts X [] = (X, []) := by
    unfold fronts
    have : cp X.reverse [] = 0 := by cases X.reverse <;> rfl
    simp [this]
  rw [e2]
  unfold lev3
  rw [if_pos (.inr rfl)]
  simp
/-! letters turned one for one -/
theorem cp_map {f : Nat → Nat} : ∀ (a b : List Nat), (∀ c ∈ a, ∀ d ∈ b, f c = f d → c = d) → cp (a.map f) (b.map f) = cp a b
  | [], b, _ => by simp [cp]
  | x :: xs, [], _ => by simp [cp]
  | x :: xs, y :: ys, h => by
    show (if f x = f y then cp (xs.map f) (ys.map f) + 1 else 0) = if x = y then cp xs ys + 1 else 0
    rw [cp_map xs ys fun c hc d hd => h c (.tail _ hc) d (.tail _ hd)]
    by_cases e : x = y
    · subst e; simp
    · have : ¬ f x = f y := fun q => e (h x (.head _) y (.head _) q)
      simp [e, this]
theorem nextRow_map {f : Nat → Nat} {c : Nat} : ∀ (a : List Nat) (o : List Int) (d r : Int), (∀ x ∈ a, cost (f c) (f x) = cost c x) → nextRow (f c) (a.map f) o d r = nextRow c a o d r
  | [], o, d, r, _ => by simp [nextRow]
  | x :: xs, [], d, r, _ => by simp [nextRow]
  | x :: xs, o :: os, d, r, h => by
    show stepv d r o (cost (f c) (f x)) :: nextRow (f c) (xs.map f) os o (stepv d r o (cost (f c) (f x))) = stepv d r o (cost c x) :: nextRow c xs os o (stepv d r o (cost c x))
    rw [h x (.head _), nextRow_map xs os _ _ fun y hy => h y (.tail _ hy)]
theorem levLoop_map {f : Nat → Nat} {m : Int} {a : List Nat} : ∀ (b : List Nat) (i : Nat) (row : List Int) (r : Int), (∀ c ∈ b, ∀ x ∈ a, cost (f c) (f x) = cost c x) → levLoop m (a.map f) i (b.map f) row r = levLoop m a i b row r
  | [], i, row, r, _ => by simp [levLoop]
  | c :: cs, i, row, r, h => by
    show (if m < least (nextRow (f c) (a.map f) row ((i : Int) * 2) ((i : Int) * 2)) then m + 1
      else levLoop m (a.map f) (i + 1) (cs.map f) (nextRow (f c) (a.map f) row ((i : Int) * 2) ((i : Int) * 2)) ((nextRow (f c) (a.map f) row ((i : Int) * 2) ((i : Int) * 2)).getLastD ((i : Int) * 2))) = (if m < least (nextRow c a row ((i : Int) * 2) ((i : Int) * 2)) then m + 1
      else levLoop m a (i + 1) cs (nextRow c a row ((i : Int) * 2) ((i : Int) * 2)) ((nextRow c a row ((i : Int) * 2) ((i : Int) * 2)).getLastD ((i : Int) * 2)))
    rw [nextRow_map a row _ _ (h c (.head _)), levLoop_map cs _ _ _ fun d hd => h d (.tail _ hd)]
/-- a turning of letters that keeps what they cost -/
structure Turn (f : Nat → Nat) (l : List Nat) : Prop where
  inj : ∀ c ∈ l, ∀ d ∈ l, f c = f d → c = d
  cost : ∀ c ∈ l, ∀ d ∈ l, cost (f c) (f d) = cost c d
theorem levCore_map {f : Nat → Nat} {l a b : List Nat} {m : Int} (T : Turn f l) (ha : ∀ c ∈ a, c ∈ l) (hb : ∀ c ∈ b, c ∈ l) : levCore m (a.map f) (b.map f) = levCore m a b := by
  unfold levCore
  rw [List.length_map, List.length_map, levLoop_map b 0 _ _ fun c hc x hx => T.cost c (hb c hc) x (ha x hx)]
theorem lev3_map {f : Nat → Nat} {l a b : List Nat} {m : Int} (T : Turn f l) (ha : ∀ c ∈ a, c ∈ l) (hb : ∀ c ∈ b, c ∈ l) : lev3 m (a.map f) (b.map f) = lev3 m a b := by
  unfold lev3
  rw [List.length_map, List.length_map, levCore_map T ha hb, levCore_map T hb ha]
  simp only [List.map_eq_nil_iff]
theorem lev_map {f : Nat → Nat} {l a b : List Nat} (m : Int) (T : Turn f l) (ha : ∀ c ∈ a, c ∈ l) (hb : ∀ c ∈ b, c ∈ l) : lev (a.map f) (b.map f) m = lev a b m := by
  have hinj : ∀ x : List Nat, (∀ c ∈ x, c ∈ l) → ∀ y : List Nat, (∀ c ∈ y, c ∈ l) → x.map f = y.map f → x = y := by
    intro x
    induction x with
    | nil => intro _ y _ h; cases y with
      | nil => rfl
      | cons _ _ => simp at h
    | cons c x ih =>
      intro hx y hy h
      cases y with
      | nil => simp at h
      | cons d y =>
        simp only [List.map_cons, List.cons.injEq] at h
        rw [T.inj c (hx c (.head _)) d (hy d (.head _)) h.1, ih (fun z hz => hx z (.tail _ hz)) y (fun z hz => hy z (.tail _ hz)) h.2]
  have e0 : (a.map f = b.map f) ↔ a = b := ⟨hinj a ha b hb, fun h => by rw [h]⟩
  have e1 : tails (a.map f) (b.map f) = ((tails a b).1.map f, (tails a b).2.map f) := by
    unfold tails
    rw [cp_map a b fun c hc d hd => T.inj c (ha c hc) d (hb d hd)]
    simp
  have e2 : ∀ x y : List Nat, (∀ c ∈ x, c ∈ l) → (∀ c ∈ y, c ∈ l) → fronts (x.map f) (y.map f) = ((fronts x y).1.map f, (fronts x y).2.map f) := by
    intro x y hx hy
    unfold fronts
    rw [← List.map_reverse, ← List.map_reverse, cp_map x.reverse y.reverse fun c hc d hd => T.inj c (hx c (List.mem_reverse.mp hc)) d (hy d (List.mem_reverse.mp hd))]
    simp
  have t1 : ∀ c ∈ (tails a b).1, c ∈ l := fun c hc => ha c (List.mem_of_mem_drop hc)
  have t2 : ∀ c ∈ (tails a b).2, c ∈ l := fun c hc => hb c (List.mem_of_mem_drop hc)
  unfold lev
  rw [e1]
  dsimp only
  rw [e2 _ _ t1 t2]
  dsimp only
  have f1 : ∀ c ∈ (fronts (tails a b).1 (tails a b).2).1, c ∈ l := fun c hc => t1 c (List.mem_of_mem_take hc)
  have f2 : ∀ c ∈ (fronts (tails a b).1 (tails a b).2).2, c ∈ l := fun c hc => t2 c (List.mem_of_mem_take hc)
  rw [lev3_map T f1 f2]
  simp only [e0]
/-! the plain table -/
noncomputable def turnOf (c d : Nat) : Int := if c = d then 0 else if ((c : Int) - (d : Int)).natAbs = 32 then 1 else 2
noncomputable def prow (c : Nat) : List Nat → List Int → Int → List Int
  | y :: ys, b :: bs, last => minf (minf (bs.headD 0 + turnOf c y) (b + 2)) ((prow c ys bs last).headD 0 + 2) :: prow c ys bs last
  | _, _, last => [last]
noncomputable def ptable : List Nat → List Nat → List Int
  | [], o => (List.range (o.length + 1)).map fun (j : Nat) => 2 * ((o.length : Int) - (j : Int))
  | c :: cs, o => prow c o (ptable cs o) (2 * ((cs.length : Int) + 1))
noncomputable def price (a b : List Nat) : Int := (ptable a b).headD 0
theorem prow_map {f : Nat → Nat} {c : Nat} : ∀ (o : List Nat) (bs : List Int) (z : Int), (∀ d ∈ o, turnOf (f c) (f d) = turnOf c d) → prow (f c) (o.map f) bs z = prow c o bs z
  | [], bs, z, _ => by simp [prow]
  | y :: ys, [], z, _ => by simp [prow]
  | y :: ys, b :: bs, z, h => by
    show minf (minf (bs.headD 0 + turnOf (f c) (f y)) (b + 2)) ((prow (f c) (ys.map f) bs z).headD 0 + 2) :: prow (f c) (ys.map f) bs z = minf (minf (bs.headD 0 + turnOf c y) (b + 2)) ((prow c ys bs z).headD 0 + 2) :: prow c ys bs z
    rw [h y (.head _), prow_map ys bs z fun d hd => h d (.tail _ hd)]
theorem ptable_map {f : Nat → Nat} {o : List Nat} : ∀ (a : List Nat), (∀ c ∈ a, ∀ d ∈ o, turnOf (f c) (f d) = turnOf c d) → ptable (a.map f) (o.map f) = ptable a o
  | [], _ => by simp [ptable]
  | c :: cs, h => by
    show prow (f c) (o.map f) (ptable (cs.map f) (o.map f)) (2 * (((cs.map f).length : Int) + 1)) = prow c o (ptable cs o) (2 * ((cs.length : Int) + 1))
    rw [ptable_map cs fun d hd => h d (.tail _ hd), prow_map o _ _ (h c (.head _)), List.length_map]
theorem price_map {f : Nat → Nat} {a b : List Nat} (h : ∀ c ∈ a, ∀ d ∈ b, turnOf (f c) (f d) = turnOf c d) : price (a.map f) (b.map f) = price a b := by
  unfold price
  rw [ptable_map a h]

noncomputable def letters4 : List Nat := [97, 65, 98, 66]
noncomputable def wordsOf : Nat → List (List Nat)
  | 0 => [[]]
  | n + 1 => letters4.flatMap fun c => (wordsOf n).map (c :: ·)
noncomputable def chk2 (a b : List Nat) (f : Int) : Bool := decide (lev a b f = f) && decide (lev b a (f - 1) = f)
/-- all that is asked of a pair of words -/
noncomputable def chk (x y : List Nat) : Bool :=
  chk2 (x ++ y) (y ++ x) (price (x ++ y) (y ++ x)) && chk2 (y ++ x) (x ++ y) (price (x ++ y) (y ++ x)) && decide (lev (x ++ y) (y ++ x) 0 = minf (price (x ++ y) (y ++ x)) 1) && decide (lev (y ++ x) (x ++ y) 0 = minf (price (x ++ y) (y ++ x)) 1) &&
    chk2 x y (price x y)
noncomputable def chkAll (x : List Nat) : Bool := List.all (wordsOf 1 ++ wordsOf 2) fun y => chk x y
theorem chk_map {f : Nat → Nat} {l x y : List Nat} (T : Turn f l) (ht : ∀ c ∈ l, ∀ d ∈ l, turnOf (f c) (f d) = turnOf c d) (hx : ∀ c ∈ x, c ∈ l) (hy : ∀ c ∈ y, c ∈ l) : chk (x.map f) (y.map f) = chk x y := by
  have h1 : ∀ c ∈ x ++ y, c ∈ l := fun c hc => (List.mem_append.mp hc).elim (hx c) (hy c)
  have h2 : ∀ c ∈ y ++ x, c ∈ l := fun c hc => (List.mem_append.mp hc).elim (hy c) (hx c)
  unfold chk chk2
  rw [← List.map_append, ← List.map_append, price_map fun c hc d hd => ht c (h1 c hc) d (h2 d hd), price_map fun c hc d hd => ht c (hx c hc) d (hy d hd)]
  simp only [lev_map _ T h1 h2, lev_map _ T h2 h1, lev_map _ T hx hy, lev_map _ T hy hx]
/-- the turning that makes c an 'a' -/
noncomputable def tur (c d : Nat) : Nat :=
  if c = 97 then d
  else if c = 65 then (if d = 97 then 65 else if d = 65 then 97 else if d = 98 then 66 else 98)
  else if c = 98 then (if d = 97 then 98 else if d = 65 then 66 else if d = 98 then 97 else 65)
  else (if d = 97 then 66 else if d = 65 then 98 else if d = 98 then 65 else 97)
theorem tur_turn : ∀ e ∈ letters4, Turn (tur e) letters4 ∧ (∀ c ∈ letters4, ∀ d ∈ letters4, turnOf (tur e c) (tur e d) = turnOf c d) ∧ tur e e = 97 ∧ ∀ c ∈ letters4, tur e c ∈ letters4 := by
  intro e he
  have h1 : ∀ e ∈ letters4, (∀ c ∈ letters4, ∀ d ∈ letters4, tur e c = tur e d → c = d) := by decide +kernel
  have h2 : ∀ e ∈ letters4, (∀ c ∈ letters4, ∀ d ∈ letters4, cost (tur e c) (tur e d) = cost c d) := by decide +kernel
  have h3 : ∀ e ∈ letters4, (∀ c ∈ letters4, ∀ d ∈ letters4, turnOf (tur e c) (tur e d) = turnOf c d) ∧ tur e e = 97 ∧ ∀ c ∈ letters4, tur e c ∈ letters4 := by decide +kernel
  exact ⟨⟨h1 e he, h2 e he⟩, h3 e he⟩
theorem mem_wordsOf : ∀ (x : List Nat), (∀ c ∈ x, c ∈ letters4) → x ∈ wordsOf x.length
  | [], _ => by simp [wordsOf]
  | c :: x, h => by
    show c :: x ∈ letters4.flatMap fun c => (wordsOf x.length).map (c :: ·)
    rw [List.mem_flatMap]
    exact ⟨c, h c (.head _), List.mem_map.mpr ⟨x, mem_wordsOf x fun d hd => h d (.tail _ hd), rfl⟩⟩
theorem tab_a : chkAll [97] = true := by decide +kernel
theorem tab_x97 : chkAll [97, 97] = true := by decide +kernel
theorem tab_x65 : chkAll [97, 65] = true := by decide +kernel
theorem tab_x98 : chkAll [97, 98] = true := by decide +kernel
theorem tab_x66 : chkAll [97, 66] = true := by decide +kernel
theorem tab_x97_x97 : chkAll [97, 97, 97] = true := by decide +kernel
theorem tab_x97_x65 : chkAll [97, 97, 65] = true := by decide +kernel
theorem tab_x97_x98 : chkAll [97, 97, 98] = true := by decide +kernel
theorem tab_x97_x66 : chkAll [97, 97, 66] = true := by decide +kernel
theorem tab_x65_x97 : chkAll [97, 65, 97] = true := by decide +kernel
theorem tab_x65_x65 : chkAll [97, 65, 65] = true := by decide +kernel
theorem tab_x65_x98 : chkAll [97, 65, 98] = true := by decide +kernel
theorem tab_x65_x66 : chkAll [97, 65, 66] = true := by decide +kernel
theorem tab_x98_x97 : chkAll [97, 98, 97] = true := by decide +kernel
theorem tab_x98_x65 : chkAll [97, 98, 65] = true := by decide +kernel
theorem tab_x98_x98 : chkAll [97, 98, 98] = true := by decide +kernel
theorem tab_x98_x66 : chkAll [97, 98, 66] = true := by decide +kernel
theorem tab_x66_x97 : chkAll [97, 66, 97] = true := by decide +kernel
theorem tab_x66_x65 : chkAll [97, 66, 65] = true := by decide +kernel
theorem tab_x66_x98 : chkAll [97, 66, 98] = true := by decide +kernel
theorem tab_x66_x66 : chkAll [97, 66, 66] = true := by decide +kernel
theorem tab_all (x : List Nat) (hx : ∀ c ∈ x, c ∈ letters4) (hl : x.length ≤ 2) : chkAll (97 :: x) = true := by
  have hL : ∀ c, c ∈ letters4 → c = 97 ∨ c = 65 ∨ c = 98 ∨ c = 66 := by
    intro c hc
    simpa [letters4] using hc
  match x, hx, hl with
  | [], _, _ => exact tab_a
  | [c], hx, _ =>
    rcases hL c (hx c (.head _)) with rfl | rfl | rfl | rfl
    · exact tab_x97
    · exact tab_x65
    · exact tab_x98
    · exact tab_x66
  | [c, d], hx, _ =>
    rcases hL c (hx c (.head _)) with rfl | rfl | rfl | rfl <;> rcases hL d (hx d (.tail _ (.head _))) with rfl | rfl | rfl | rfl
    · exact tab_x97_x97
    · exact tab_x97_x65
    · exact tab_x97_x98
    · exact tab_x97_x66
    · exact tab_x65_x97
    · exact tab_x65_x65
    · exact tab_x65_x98
    · exact tab_x65_x66
    · exact tab_x98_x97
    · exact tab_x98_x65
    · exact tab_x98_x98
    · exact tab_x98_x66
    · exact tab_x66_x97
    · exact tab_x66_x65
    · exact tab_x66_x98
    · exact tab_x66_x66
  | _ :: _ :: _ :: _, _, hl => simp at hl
theorem chk_all {x y : List Nat} (hx : ∀ c ∈ x, c ∈ letters4) (hy : ∀ c ∈ y, c ∈ letters4) (h1 : 1 ≤ x.length) (h3 : x.length ≤ 3) (k1 : 1 ≤ y.length) (k2 : y.length ≤ 2) : chk x y = true := by
  match x, hx, h1, h3 with
  | c :: x, hx, _, h3 =>
    obtain ⟨T, ht, he, hm⟩ := tur_turn c (hx c (.head _))
    rw [← chk_map T ht hx hy, List.map_cons, he]
    have hx' : ∀ d ∈ x.map (tur c), d ∈ letters4 := fun d hd => by
      obtain ⟨e, h, rfl⟩ := List.mem_map.mp hd
      exact hm e (hx e (.tail _ h))
    have hy' : ∀ d ∈ y.map (tur c), d ∈ letters4 := fun d hd => by
      obtain ⟨e, h, rfl⟩ := List.mem_map.mp hd
      exact hm e (hy e h)
    have hA := tab_all (x.map (tur c)) hx' (by rw [List.length_map]; simpa using h3)
    refine List.all_eq_true.mp hA _ ?_
    have hM := mem_wordsOf _ hy'
    rw [List.length_map] at hM
    rw [List.mem_append]
    rcases (show y.length = 1 ∨ y.length = 2 by omega) with e | e
    · exact .inl (e ▸ hM)
    · exact .inr (e ▸ hM)
/-- what lev tells of the first two words, and of them laid end to end -/
structure PairOk (x y : List Nat) : Prop where
  a1 : lev (x ++ y) (y ++ x) (price (x ++ y) (y ++ x)) = price (x ++ y) (y ++ x)
  a2 : lev (y ++ x) (x ++ y) (price (x ++ y) (y ++ x) - 1) = price (x ++ y) (y ++ x)
  b1 : lev (y ++ x) (x ++ y) (price (x ++ y) (y ++ x)) = price (x ++ y) (y ++ x)
  b2 : lev (x ++ y) (y ++ x) (price (x ++ y) (y ++ x) - 1) = price (x ++ y) (y ++ x)
  z1 : lev (x ++ y) (y ++ x) 0 = minf (price (x ++ y) (y ++ x)) 1
  z2 : lev (y ++ x) (x ++ y) 0 = minf (price (x ++ y) (y ++ x)) 1
  w1 : lev x y (price x y) = price x y
  w2 : lev y x (price x y - 1) = price x y
theorem pair_ok {x y : List Nat} (hx : ∀ c ∈ x, c ∈ letters4) (hy : ∀ c ∈ y, c ∈ letters4) (h1 : 1 ≤ x.length) (h3 : x.length ≤ 3) (k1 : 1 ≤ y.length) (k2 : y.length ≤ 2) : PairOk x y := by
  have h := chk_all hx hy h1 h3 k1 k2
  unfold chk chk2 at h
  simp only [Bool.and_eq_true, decide_eq_true_eq] at h
  obtain ⟨⟨⟨⟨⟨a1, a2⟩, b1, b2⟩, z1⟩, z2⟩, w1, w2⟩ := h
  exact ⟨a1, a2, b1, b2, z1, z2, w1, w2⟩

noncomputable def qdet (x : Four) : Int := x.1 * x.2.2.2 - x.2.1 * x.2.2.1
theorem det_mul (x y : Four) (hx : qdet x = 1) (hy : qdet y = 1) : qdet (qmul x y) = 1 := by
  have : qdet (qmul x y) = qdet x * qdet y := by
    obtain ⟨a, b, c, d⟩ := x
    obtain ⟨e, f, g, h⟩ := y
    simp only [qdet, qmul]
    grind
  rw [this, hx, hy]
  rfl
theorem tr_comm (x y : Four) : qtr (qmul x y) = qtr (qmul y x) := by
  obtain ⟨a, b, c, d⟩ := x
  obtain ⟨e, f, g, h⟩ := y
  simp only [qtr, qmul]
  grind
theorem tr_assoc (x y z : Four) : qtr (qmul (qmul x y) z) = qtr (qmul x (qmul y z)) := by
  obtain ⟨a, b, c, d⟩ := x
  obtain ⟨e, f, g, h⟩ := y
  obtain ⟨i, j, k, l⟩ := z
  simp only [qtr, qmul]
  grind
theorem tr_right (x y : Four) (h : qdet y = 1) : qtr (qmul (qmul x y) y) = qtr y * qtr (qmul x y) - qtr x := by
  obtain ⟨a, b, c, d⟩ := x
  obtain ⟨e, f, g, h⟩ := y
  simp only [qtr, qmul, qdet] at *
  grind
theorem kept_comm (x y : Four) : qkept x y = qkept y x := by
  simp only [qkept, tr_comm y x]
  generalize qtr x = X
  generalize qtr y = Y
  generalize qtr (qmul x y) = Z
  grind
theorem kept_right (x y : Four) (h : qdet y = 1) : qkept (qmul x y) y = qkept x y := by
  simp only [qkept, tr_right x y h]
  generalize qtr x = X
  generalize qtr y = Y
  generalize qtr (qmul x y) = Z
  grind
theorem kept_left (x y : Four) (h : qdet y = 1) : qkept (qmul y x) y = qkept x y := by
  have e : qtr (qmul (qmul y x) y) = qtr y * qtr (qmul x y) - qtr x := by
    rw [tr_comm, ← tr_assoc, tr_comm (qmul y y), ← tr_assoc, tr_right x y h]
  simp only [qkept, e, tr_comm y x]
  generalize qtr x = X
  generalize qtr y = Y
  generalize qtr (qmul x y) = Z
  grind
/-- the two words laid end to end, ahead of all and behind some moves -/
noncomputable def Mid (x y A B : List Nat) : Prop := ∃ u v, (A ++ B = u ++ (x ++ y) ++ v ∧ B ++ A = u ++ (y ++ x) ++ v) ∨ (A ++ B = u ++ (y ++ x) ++ v ∧ B ++ A = u ++ (x ++ y) ++ v)
theorem Mid.swap {x y A B : List Nat} (h : Mid x y A B) : Mid x y B A := by
  obtain ⟨u, v, ⟨h1, h2⟩ | ⟨h1, h2⟩⟩ := h
  · exact ⟨u, v, .inr ⟨h2, h1⟩⟩
  · exact ⟨u, v, .inl ⟨h2, h1⟩⟩
theorem Mid.behind {x y A B : List Nat} (h : Mid x y A B) : Mid x y (A ++ B) B := by
  obtain ⟨u, v, ⟨h1, h2⟩ | ⟨h1, h2⟩⟩ := h
  · refine ⟨u, v ++ B, .inl ⟨by rw [h1]; simp, ?_⟩⟩
    rw [← List.append_assoc B A B, h2]; simp
  · refine ⟨u, v ++ B, .inr ⟨by rw [h1]; simp, ?_⟩⟩
    rw [← List.append_assoc B A B, h2]; simp
theorem Mid.ahead {x y A B : List Nat} (h : Mid x y A B) : Mid x y (B ++ A) B := by
  obtain ⟨u, v, ⟨h1, h2⟩ | ⟨h1, h2⟩⟩ := h
  · refine ⟨B ++ u, v, .inl ⟨?_, by rw [h2]; simp⟩⟩
    rw [List.append_assoc, h1]; simp
  · refine ⟨B ++ u, v, .inr ⟨?_, by rw [h2]; simp⟩⟩
    rw [List.append_assoc, h1]; simp
/-- what is so of the things ahead of all and behind each move -/
structure StOk (x y : List Nat) (K : Int) (n l : Nat) (P R : Thing) : Prop where
  mid : Mid x y P.1 R.1
  la : ∀ c ∈ P.1, c ∈ letters4
  lb : ∀ c ∈ R.1, c ∈ letters4
  na : P.1 ≠ []
  nb : R.1 ≠ []
  sz : P.1.length + R.1.length ≤ l
  qa : QBd n P.2
  qb : QBd n R.2
  da : qdet P.2 = 1
  db : qdet R.2 = 1
  kept : qkept P.2 R.2 = K
theorem QBd.mono {n m : Nat} {q : Four} (h : QBd n q) (hm : n ≤ m) : QBd m q :=
  ⟨Nat.le_trans h.1 hm, Nat.le_trans h.2.1 hm, Nat.le_trans h.2.2.1 hm, Nat.le_trans h.2.2.2 hm⟩
theorem lets_app {a b : List Nat} (ha : ∀ c ∈ a, c ∈ letters4) (hb : ∀ c ∈ b, c ∈ letters4) : ∀ c ∈ a ++ b, c ∈ letters4 := fun c hc => (List.mem_append.mp hc).elim (ha c) (hb c)
theorem StOk.swap {x y : List Nat} {K : Int} {n l : Nat} {P R : Thing} (h : StOk x y K n l P R) : StOk x y K n l R P :=
  ⟨h.mid.swap, h.lb, h.la, h.nb, h.na, by have := h.sz; omega, h.qb, h.qa, h.db, h.da, by rw [kept_comm]; exact h.kept⟩
theorem StOk.mono {x y : List Nat} {K : Int} {n l n' l' : Nat} {P R : Thing} (h : StOk x y K n l P R) (hn : n ≤ n') (hl : l ≤ l') : StOk x y K n' l' P R :=
  ⟨h.mid, h.la, h.lb, h.na, h.nb, Nat.le_trans h.sz hl, h.qa.mono hn, h.qb.mono hn, h.da, h.db, h.kept⟩
theorem StOk.behind {x y : List Nat} {K : Int} {n l : Nat} {P R : Thing} (h : StOk x y K n l P R) : StOk x y K (2 * n + 1) (2 * l) (P.1 ++ R.1, qmul P.2 R.2) R :=
  ⟨h.mid.behind, lets_app h.la h.lb, h.lb, (by simp [h.na]), h.nb, by have := h.sz; simp only [List.length_append]; omega, (qmul_bd h.qa h.qb).mono (by omega), h.qb.mono (by omega), det_mul _ _ h.da h.db, h.db, by
    rw [kept_right _ _ h.db]; exact h.kept⟩
theorem StOk.ahead {x y : List Nat} {K : Int} {n l : Nat} {P R : Thing} (h : StOk x y K n l P R) : StOk x y K (2 * n + 1) (2 * l) (R.1 ++ P.1, qmul R.2 P.2) R :=
  ⟨h.mid.ahead, lets_app h.lb h.la, h.lb, (by simp [h.na]), h.nb, by have := h.sz; simp only [List.length_append]; omega, (qmul_bd h.qb h.qa).mono (by omega), h.qb.mono (by omega), det_mul _ _ h.db h.da, h.db, by
    rw [kept_left _ _ h.db]; exact h.kept⟩
theorem StOk.move {x y : List Nat} {K : Int} {n l : Nat} {P R : Thing} (h : StOk x y K n l P R) (k : Nat) : StOk x y K (2 * n + 1) (2 * l) (Mine.move k P R).1 (Mine.move k P R).2 := by
  rcases k with _ | _ | _ | _ | _ | _ | k
  · exact h.behind
  · exact h.swap.behind.swap
  · exact h.behind
  · exact h.swap.behind.swap
  · exact h.ahead
  · exact h.swap.ahead.swap
  · exact h.swap.mono (by omega) (by omega)
/-- the far words of a state: how far apart they are -/
theorem StOk.far {x y : List Nat} {K : Int} {n l : Nat} {P R : Thing} (h : StOk x y K n l P R) (hp : PairOk x y) :
   lev (P.1 ++ R.1) (R.1 ++ P.1) (price (x ++ y) (y ++ x)) = price (x ++ y) (y ++ x) ∧ lev (R.1 ++ P.1) (P.1 ++ R.1) (price (x ++ y) (y ++ x) - 1) = price (x ++ y) (y ++ x) ∧ lev (P.1 ++ R.1) (R.1 ++ P.1) 0 = minf (price (x ++ y) (y ++ x)) 1 := by
  have hl : (x ++ y).length = (y ++ x).length := by simp [Nat.add_comm]
  obtain ⟨u, v, ⟨h1, h2⟩ | ⟨h1, h2⟩⟩ := h.mid
  · rw [h1, h2, lev_mid u v _ _ _ hl, lev_mid u v _ _ _ hl.symm, lev_mid u v _ _ _ hl]
    exact ⟨hp.a1, hp.a2, hp.z1⟩
  · rw [h1, h2, lev_mid u v _ _ _ hl.symm, lev_mid u v _ _ _ hl, lev_mid u v _ _ _ hl.symm]
    exact ⟨hp.b1, hp.b2, hp.z2⟩
/-! what the statements say that are read from the last one to the first -/
noncomputable def img : Nat → List Nat × List Nat
  | 0 => ([0, 1], [1])
  | 1 => ([0], [1, 0])
  | 2 => ([0, 1], [1])
  | 3 => ([0], [1, 0])
  | 4 => ([1, 0], [1])
  | 5 => ([0], [0, 1])
  | _ => ([1], [0])
noncomputable def imgAt (k p : Nat) : List Nat := if p = 0 then (img k).1 else (img k).2
noncomputable def sub1 (k : Nat) (row : List Nat) : List Nat := row.flatMap (imgAt k)
noncomputable def say (A B : List Nat) (row : List Nat) : List Nat := row.flatMap fun p => if p = 0 then A else B
theorem say_app (A B r s : List Nat) : say A B (r ++ s) = say A B r ++ say A B s := by simp [say]
theorem say_img (k : Nat) (P R : Thing) (p : Nat) : say P.1 R.1 (imgAt k p) = if p = 0 then (move k P R).1.1 else (move k P R).2.1 := by
  rcases k with _ | _ | _ | _ | _ | _ | k <;> by_cases h : p = 0 <;> simp [imgAt, img, say, h, move]
theorem say_sub (k : Nat) (P R : Thing) (row : List Nat) : say P.1 R.1 (sub1 k row) = say (move k P R).1.1 (move k P R).2.1 row := by
  induction row with
  | nil => rfl
  | cons p row ih =>
    have e : sub1 k (p :: row) = imgAt k p ++ sub1 k row := rfl
    rw [e, say_app, ih, say_img]
    rfl
/-- the things behind the moves -/
noncomputable def runAll : List Nat → Thing × Thing → Thing × Thing
  | [], S => S
  | k :: ks, S => runAll ks (move k S.1 S.2)
/-- the rows that the moves say, the last one first -/
noncomputable def readAll : List Nat → List Nat → List Nat
  | [], row => row
  | k :: ks, row => sub1 k (readAll ks row)
theorem say_read (ks : List Nat) (S : Thing × Thing) (row : List Nat) : say S.1.1 S.2.1 (readAll ks row) = say (runAll ks S).1.1 (runAll ks S).2.1 row := by
  induction ks generalizing S with
  | nil => rfl
  | cons k ks ih =>
    show say S.1.1 S.2.1 (sub1 k (readAll ks row)) = _
    rw [say_sub, ih]
    rfl

section
variable {prog : Program} {w : World} {A : Around} {E : Value → Shared → Prop} {s : Shared} {h₀ : Heap} {L l b : Addr} {m : Str → Option Value} {news : List (Addr × Obj)} {vs ws : List Value} {ns ms : List Int} {Q : Value → Shared → Prop}
theorem min3K {a b c : Int} {t u x : Tok} (hh : A.handled = none) (h : ∀ h' tk t', Ext s.heap h' → Q (.int (minf (minf a b) c) t') { s with heap := h', toks := tk }) : wpAny (model prog w) A (call (.builtin "min") [.int a t, .int b u, .int c x]) Q E s := by
  refine min_three_ints hh fun h' tk hk => ?_
  have e : (if b < a then (if c < b then Value.int c x else .int b u) else (if c < a then .int c x else .int a t)) = .int (minf (minf a b) c) (if b < a then (if c < b then x else u) else (if c < a then x else t)) := by
    unfold minf
    by_cases h1 : b < a
    · simp only [h1, if_true]
      by_cases h2 : c < b <;> simp [h2]
    · simp only [h1, if_false]
      by_cases h2 : c < a <;> simp [h2]
  rw [e]
  exact h _ _ _ hk
theorem addK (F : Fr h₀ L s.heap m) (N : News h₀ L s.heap news) (hl : s.heap.IsList l vs.toArray) (hb : s.heap.IsList b ws.toArray) (hi : IntsAre vs ns) (hj : IntsAre ws ms) (hz : vs.length + ws.length ≤ 1000)
    (h : ∀ D h', Fr h₀ L h' m → News h₀ L h' ((D, W.listOf (vs ++ ws).toArray 0) :: news) → (∀ p ∈ news, p.1 < D) → IntsAre (vs ++ ws) (ns ++ ms) → Q (.ref D) { s with heap := h' }) :
    wpAny (model prog w) A (binaryOp .Add (.ref l) (.ref b)) Q E s :=
  add_lists (hsz := by rw [PySem.sizeLine_eq]; omega) F N hl hb fun h' F' N' => h _ h' F' N' (fun p hp => Heap.lt_size (N p hp).1) (hi.append hj)
end
example : True := by
  (k_with "call builtin:min" => (k_here; (with_reducible show wpAny _ _ (call _ [Value.int _ _, Value.int _ _, Value.int _ _]) _ _ _); (refine' min3K (s := ⟨_, _, _, _, _⟩) (by with_unfolding_all rfl) ?_); walk_at "KEPT"))
  (k_with "binaryOp Add ref ref" => (k_here; (with_unfolding_all refine' addK (s := ⟨_, _, _, _, _⟩) (by k_asm) (by k_asm) (by kmk_list) (by kmk_list) (by first | assumption | exact .cons _ _ .nil) (by assumption) (by first | (simp only [List.length_cons, List.length_nil]; omega) | ((rw [IntsAre.length (by assumption)]); simp only [List.length_cons, List.length_nil]; omega)) ?_); intro _ _ _ _ _ _))
  (k_with "MEMS" => (repeat' (first | exact List.forall_mem_nil _ | refine List.forall_mem_cons.mpr ⟨?_, ?_⟩ | k_mem)))
  trivial
theorem prow_len (c : Nat) : ∀ (ys : List Nat) (bs : List Int) (z : Int), ys.length ≤ bs.length → (prow c ys bs z).length = ys.length + 1
  | [], _, _, _ => by simp [prow]
  | _ :: _, [], _, h => by simp at h
  | y :: ys, b :: bs, z, h => by
    show (prow c ys bs z).length + 1 = ys.length + 1 + 1
    rw [prow_len c ys bs z (by simpa using h)]
theorem ptable_len (o : List Nat) : ∀ a : List Nat, (ptable a o).length = o.length + 1
  | [] => by simp [ptable]
  | c :: cs => by
    show (prow c o (ptable cs o) (2 * ((cs.length : Int) + 1))).length = _
    rw [prow_len _ _ _ _ (by rw [ptable_len o cs]; omega)]
theorem prow_step {ch : Nat} {b : List Nat} {ns ms : List Int} {z tv : Int} {r : Nat} (hr : r < b.length) (hl : ns.length = b.length + 1) (hm : ms = prow ch (b.drop (r + 1)) (ns.drop (r + 1)) z) (ht : tv = turnOf ch (b.getD r 0)) :
   minf (minf (ns.getD ((r : Int) + 1).toNat 0 + tv) (ns.getD (r : Int).toNat 0 + 2)) (ms.getD (Int.toNat 0) 0 + 2) :: ms = prow ch (b.drop r) (ns.drop r) z := by
  have h1 : b.drop r = b[r] :: b.drop (r + 1) := List.drop_eq_getElem_cons hr
  have hr' : r < ns.length := by omega
  have h2 : ns.drop r = ns[r] :: ns.drop (r + 1) := List.drop_eq_getElem_cons hr'
  have h3 : b.getD r 0 = b[r] := by simp [List.getD_eq_getElem?_getD, hr]
  have h4 : ns.getD (r : Int).toNat 0 = ns[r] := by simp [List.getD_eq_getElem?_getD, hr']
  have h5 : ns.getD ((r : Int) + 1).toNat 0 = (ns.drop (r + 1)).headD 0 := by
    have e : ((r : Int) + 1).toNat = r + 1 := by omega
    rw [e, List.headD_eq_head?_getD, List.head?_drop, List.getD_eq_getElem?_getD]
  have h6 : ms.getD (Int.toNat 0) 0 = ms.headD 0 := by cases ms <;> rfl
  rw [h1, h2, h4, h5, h6, ht, h3]
  show _ = minf (minf ((ns.drop (r + 1)).headD 0 + turnOf ch b[r]) (ns[r] + 2)) ((prow ch (b.drop (r + 1)) (ns.drop (r + 1)) z).headD 0 + 2) :: prow ch (b.drop (r + 1)) (ns.drop (r + 1)) z
  rw [← hm]
theorem turn_same {x y : Nat} (h : (tx [x] == tx [y]) = true) : (0 : Int) = turnOf x y := by
  rw [tx_beq] at h
  have : x = y := by simpa using of_decide_eq_true h
  unfold turnOf
  rw [if_pos this]
theorem turn_case {x y : Nat} (h : (tx [x] == tx [y]) = false) (h2 : (if (x : Int) - (y : Int) < 0 then -((x : Int) - (y : Int)) else (x : Int) - (y : Int)) = 32) : (1 : Int) = turnOf x y := by
  rw [tx_beq] at h
  have : ¬ x = y := fun e => of_decide_eq_false h (by rw [e])
  unfold turnOf
  rw [if_neg this, if_pos (by split at h2 <;> omega)]
theorem turn_other {x y : Nat} (h : (tx [x] == tx [y]) = false) (h2 : (if (x : Int) - (y : Int) < 0 then -((x : Int) - (y : Int)) else (x : Int) - (y : Int)) ≠ 32) : (2 : Int) = turnOf x y := by
  rw [tx_beq] at h
  have : ¬ x = y := fun e => of_decide_eq_false h (by rw [e])
  unfold turnOf
  rw [if_neg this, if_neg (by split at h2 <;> omega)]
structure PriS where
  D : Addr
  us : List Value
  k : Nat
  ns : List Int
section
variable {prog : Program} {w : World} {dp un : Nat} {fr : Option (List Env)} {gd : Option (List Code)} {E : Value → Shared → Prop} {s : Shared} {Q : Value → Shared → Prop}
theorem price_spec (B : Base w s.heap) (hdp : dp + 20 < recursionLimit) (hu : un + 200 < cLine)
   (a b : List Nat) (ta tb : Tok) (la : a.length ≤ 100) (lb : b.length ≤ 100) (ca : ∀ c ∈ a, c < 128) (cb : ∀ c ∈ b, c < 128)
   (hQ : ∀ h' tk t, Ext s.heap h' → Q (.int (price a b) t) { s with heap := h', toks := tk }) :
   wpAny (model prog w) (top0 dp un fr gd) (call (.ref 102) [.str (tx a) ta, .str (tx b) tb]) Q E s := by
  refine' enterC (binds := [("one", .str (tx a) ta), ("other", .str (tx b) tb)]) B ?k6 ?k7 ?k8 ?k9 ?kB ?kD ?_ ?c2 ?c3 ?c4
  walk_at "ENTERC"
  intro mean mg mb L h₁ tk cells X T F N Y
  obtain ⟨oc, rfl, d1⟩ := CellsAre.one Y
  clear Y
  (try dsimp only)
  k_unmd
  k_fold
  k_steps
  refine ⟨?_⟩
  refine' comp_A (m := mapOf F) (cl := [("other", L + 1)]) F N (fun _ => true) (fun v y => ∃ t, y = .int (2 * ((b.length : Int) - numOf1 v)) t) ?hsw ?hclos ?hcell ?hkind ?hnames ?hx ?hy ?hp ?_ ?hs
  walk_at "COMPA"
  k_steps
  walk_at "DONE"
  (with_reducible rename Fr _ _ _ _ => F1)
  (with_reducible rename News _ _ _ _ => N1)
  have kC : CellIs _ (L + 1) (.str (tx b) tb) := CellIs.of N1 (.head _) d1 (by with_unfolding_all rfl)
  refine ⟨_, _, src_range (n := b.length + 1) rfl (by assumption) (by omega) (by omega), CompOk.plain ?_, F1, N1, ?_⟩
  · intro C u i v s₂ E' hP FB NB
    obtain ⟨hp2, g2, d2, tk2, os2⟩ := s₂
    obtain ⟨hi, tv, hv⟩ := hP
    subst hv
    have kE := InElt.start hp2
    have X' := X.keeps F1.keep
    have T' := T.keeps F1.keep
    clear F1 N1
    k_steps
    walk_at "BLKEND"
    exact ⟨_, rfl⟩
  intro D us kD vs' h' tk' F' N' hne hl hP hG
  clear kC
  have hI0 : IntsAre vs' ((List.range (b.length + 1)).map fun (j : Nat) => (j : Int)) := ints_of _ _ hl fun j v hj => by
    obtain ⟨_, t, e⟩ := hP j v hj
    exact ⟨t, e⟩
  have hI := ints_pair hI0 (fun _ => true) (fun j => 2 * ((b.length : Int) - j)) hG
  rw [List.filter_eq_self.mpr (fun _ _ => rfl), List.map_map] at hI
  clear hl hP hG hI0
  walk_at "DONE"
  (try k_unmd)
  k_steps
  refine ⟨?_⟩
  (with_reducible rename Fr _ _ _ _ => F1); (with_reducible rename News _ _ _ _ => N1)
  try dsimp only at F1 N1
  refine kg_down (n := a.length) (σ := PriS) (fun c => [(c.D, W.listOf c.us.toArray c.k), (L + 1, oc)])
    (fun c => [(Str.ofString "below", .ref c.D), (Str.ofString "one", .str (tx a) ta)])
    (fun i c => IntsAre c.us c.ns ∧ c.ns = ptable (a.drop (a.length - i)) b) ⟨D, us, kD, ptable [] b⟩ rfl (by assumption) (by omega) rfl (by omega) F1 N1 ?_ ?_ ?_ ?_
  · walk_at "HK"
  · refine ⟨hI, ?_⟩
    rw [Nat.sub_zero, List.drop_length]
  · clear F1 N1
    intro c i t u h tk I oI hlt hne2 ⟨hI2, hns⟩ F1 N1
    obtain ⟨q, hq⟩ : ∃ q : Nat, q = a.length - 1 - i := ⟨_, rfl⟩
    have e1 : (a.length : Int) - 1 - (i : Int) = (q : Int) := by omega
    rw [e1] at F1
    dsimp only [kstB, List.cons_append, List.nil_append] at F1 N1
    (try k_unmd)
    (try k_fold)
    k_steps
    refine ⟨?_⟩
    (with_reducible rename Fr _ _ _ _ => F2); (with_reducible rename News _ _ _ _ => N2)
    (rename _ < _ ∧ _ < _ ∧ _ < _ => l2)
    try dsimp only at F2 N2
    refine kg_down (n := b.length) (σ := PriS) (fun c2 => [(c2.D, W.listOf c2.us.toArray c2.k), (c.D, W.listOf c.us.toArray c.k), (L + 1, oc), (I, oI)])
      (fun c2 => [(Str.ofString "row", .ref c2.D), (Str.ofString "i", .int (q : Int) t), (Str.ofString "below", .ref c.D), (Str.ofString "one", .str (tx a) ta)])
      (fun j c2 => c2.D ≠ I ∧ IntsAre c2.us c2.ns ∧ c2.ns = prow (a.getD q 0) (b.drop (b.length - j)) (c.ns.drop (b.length - j)) (2 * ((a.length : Int) - (q : Int)))) ⟨_, [.int (2 * ((a.length : Int) - (q : Int))) _], 0, [2 * ((a.length : Int) - (q : Int))]⟩ rfl (by assumption) (by omega) rfl (by omega) F2 N2 ?_ ?_ ?_ ?_
    · walk_at "HK"
    · refine ⟨Nat.ne_of_gt l2.2.2, .cons _ _ .nil, ?_⟩
      rw [Nat.sub_zero, List.drop_length]
      rfl
    · clear F2 N2
      intro c2 j t2 u2 h tk J oJ hlt2 hne3 ⟨hDI, hI3, hns2⟩ F1 N1
      obtain ⟨r, hr⟩ : ∃ r : Nat, r = b.length - 1 - j := ⟨_, rfl⟩
      have e2 : (b.length : Int) - 1 - (j : Int) = (r : Int) := by omega
      rw [e2] at F1
      dsimp only [kstB, List.cons_append, List.nil_append] at F1 N1
      (try k_unmd)
      (try k_fold)
      have hlB : c.ns.length = b.length + 1 := by rw [hns, ptable_len]
      have hr2 : r < b.length := by omega
      have hl2 : c2.ns.length = j + 1 := by
        rw [hns2, prow_len _ _ _ _ (by rw [List.length_drop, List.length_drop]; omega), List.length_drop]
        omega
      have hlu : c2.us.length ≤ 200 := by rw [hI3.length]; omega
      have cPi := getD_lt ca q
      have cPj := getD_lt cb r
      k_steps
      all_goals (with_reducible rename Fr _ _ _ _ => F3); (with_reducible rename News _ _ _ _ => N3); (with_reducible rename IntsAre _ _ => hIn)
      all_goals (rename (∀ p ∈ _, Prod.fst p < _) => l3)
      all_goals (have e3 : b.length - (j + 1) = r := by omega); (have e4 : b.length - j = r + 1 := by omega)
      all_goals rw [e4] at hns2
      all_goals rw [e3]
      · (rename (_ == _) = true => et)
        exact kg_end (⟨_, _, 0, _⟩ : PriS) F3 N3 (by walk_at "MEMS") (by k_mem) (by exact List.forall_mem_cons.mpr ⟨Nat.ne_of_gt (l3 (J, oJ) (by k_mem)), fun p hp => hne3 p (.tail _ hp)⟩) (by walk_at "HK") (by exact ⟨Nat.ne_of_gt (l3 (I, oI) (by k_mem)), hIn, prow_step hr2 hlB hns2 (turn_same et)⟩)
      · (rename (_ == _) = false => et); (rename _ = (32 : Int) => e32)
        exact kg_end (⟨_, _, 0, _⟩ : PriS) F3 N3 (by walk_at "MEMS") (by k_mem) (by exact List.forall_mem_cons.mpr ⟨Nat.ne_of_gt (l3 (J, oJ) (by k_mem)), fun p hp => hne3 p (.tail _ hp)⟩) (by walk_at "HK") (by exact ⟨Nat.ne_of_gt (l3 (I, oI) (by k_mem)), hIn, prow_step hr2 hlB hns2 (turn_case et e32)⟩)
      · (rename (_ == _) = false => et); (rename _ ≠ (32 : Int) => e32)
        exact kg_end (⟨_, _, 0, _⟩ : PriS) F3 N3 (by walk_at "MEMS") (by k_mem) (by exact List.forall_mem_cons.mpr ⟨Nat.ne_of_gt (l3 (J, oJ) (by k_mem)), fun p hp => hne3 p (.tail _ hp)⟩) (by walk_at "HK") (by exact ⟨Nat.ne_of_gt (l3 (I, oI) (by k_mem)), hIn, prow_step hr2 hlB hns2 (turn_other et e32)⟩)
    · clear F2 N2
      intro c2 u2 h tk ⟨hDI, hI3, hns2⟩ F2 N2
      rw [Nat.sub_self, List.drop_zero, List.drop_zero] at hns2
      dsimp only [kstB] at F2 N2
      (try k_unmd)
      k_steps
      (with_reducible rename Fr _ _ _ _ => F3); (with_reducible rename News _ _ _ _ => N3)
      refine kg_end (⟨c2.D, c2.us, c2.k, c2.ns⟩ : PriS) F3 N3 (by walk_at "MEMS") (by k_mem) (by exact List.forall_mem_cons.mpr ⟨hDI, fun p hp => hne2 p (.tail _ hp)⟩) (by walk_at "HK") ?_
      refine ⟨hI3, ?_⟩
      dsimp only
      have hq2 : q < a.length := by omega
      have e5 : a.length - (i + 1) = q := by omega
      have e6 : a.length - i = q + 1 := by omega
      have e7 : a.drop q = a[q] :: a.drop (q + 1) := List.drop_eq_getElem_cons hq2
      have e8 : a.getD q 0 = a[q] := by simp [List.getD_eq_getElem?_getD, hq2]
      rw [e5, e7, hns2, hns, e6, e8]
      show _ = prow a[q] b (ptable (a.drop (q + 1)) b) (2 * (((a.drop (q + 1)).length : Int) + 1))
      rw [List.length_drop]
      congr 1
      omega
  · clear F1 N1
    intro c u h tk ⟨hI2, hns⟩ F1 N1
    rw [Nat.sub_self, List.drop_zero] at hns
    have hlB : c.ns.length = b.length + 1 := by rw [hns, ptable_len]
    dsimp only [kstB] at F1 N1
    (try k_unmd)
    k_steps
    walk_at "DONE"
    (with_reducible rename Fr _ _ _ _ => F9)
    have e : c.ns.getD (Int.toNat 0) 0 = price a b := by
      unfold price
      rw [← hns]
      cases c.ns <;> rfl
    rw [e]
    exact hQ _ _ _ F9.keep
end

/-- the table of signs, as numbers -/
noncomputable def tokTab : List (List Nat × Int) := [([33], 54), ([33, 61], 28), ([37], 24), ([37, 61], 40), ([38], 19), ([38, 61], 41), ([40], 7), ([41], 8), ([42], 16), ([42, 42], 35), ([42, 42, 61], 46), ([42, 61], 38), ([43], 14), ([43, 61], 36), ([44], 12), ([45], 15), ([45, 61], 37), ([45, 62], 51), ([46], 23), ([46, 46, 46], 52), ([47], 17), ([47, 47], 47), ([47, 47, 61], 48), ([47, 61], 39), ([58], 11), ([58, 61], 53), ([59], 13), ([60], 20), ([60, 60], 33), ([60, 60, 61], 44), ([60, 61], 29), ([61], 22), ([61, 61], 27), ([62], 21), ([62, 61], 30), ([62, 62], 34), ([62, 62, 61], 45), ([64], 49), ([64, 61], 50), ([91], 9), ([93], 10), ([94], 32), ([94, 61], 43), ([123], 25), ([124], 18), ([124, 61], 42), ([125], 26), ([126], 31)]
noncomputable def tokFind (l : List Nat) : Option Int := (tokTab.find? fun p => decide (p.1 = l)).map (·.2)
noncomputable def tokHas (l : List Nat) : Bool := (tokFind l).isSome
inductive EntriesAre : List DictEntry → List (List Nat × Int) → Prop where
  | nil : EntriesAre [] []
  | cons {e : DictEntry} {es : List DictEntry} {l : List Nat} {v : Int} {tab : List (List Nat × Int)} (h1 : ∃ t, e.key = .str (tx l) t) (h2 : ∃ t, e.val = .int v t) : EntriesAre es tab → EntriesAre (e :: es) ((l, v) :: tab)
theorem entries_find {es : List DictEntry} {tab : List (List Nat × Int)} (h : EntriesAre es tab) (l : List Nat) :
   (∀ v, (tab.find? fun p => decide (p.1 = l)).map (·.2) = some v → ∃ t, (es.find? fun d => Value.isStrOf (tx l) d.key).map (·.val) = some (.int v t)) ∧
   ((tab.find? fun p => decide (p.1 = l)).map (·.2) = none → (es.find? fun d => Value.isStrOf (tx l) d.key).map (·.val) = none) := by
  induction h with
  | nil => exact ⟨fun v h => by simp at h, fun _ => rfl⟩
  | @cons e es k v tab h1 h2 _ ih =>
    obtain ⟨t, e1⟩ := h1
    obtain ⟨u, e2⟩ := h2
    by_cases hk : k = l
    · subst hk
      have hb : Value.isStrOf (tx k) e.key = true := by rw [e1]; simp [Value.isStrOf]
      simp [List.find?_cons, hb, e2]
    · have hb : Value.isStrOf (tx l) e.key = false := by
        rw [e1]
        simp only [Value.isStrOf]
        simpa using fun q => hk (tx_inj.mp q)
      simp only [List.find?_cons, hb, hk, decide_false, Bool.false_eq_true, if_false]
      exact ih
theorem look64 (w : World) : ∃ (es : Array DictEntry) (n : Nat), (hd.heap_1 w.params).lookup 64 = some ⟨.type "dict", none, .dict es n, #[]⟩ ∧ KeysLit w.params es.toList ∧ EntriesAre es.toList tokTab := by
  refine ⟨_, _, rfl, ?_, ?_⟩
  · k_keys
  · unfold tokTab
    repeat' (first | exact .nil | refine .cons ⟨_, by with_unfolding_all rfl⟩ ⟨_, rfl⟩ ?_)
section
variable {prog : Program} {w : World} {A : Around} {E : Value → Shared → Prop} {s : Shared} {h₀ : Heap} {L : Addr} {m : Str → Option Value} {l : List Nat} {t : Tok}
theorem in64 {Q : Value → Shared → Prop} (X : (hd.heap_1 w.params).In h₀) (F : Fr h₀ L s.heap m) (h : Q (.bool (tokHas l)) { s with toks := s.toks + 1 }) : wpAny (model prog w) A (compareOp .In (.str (tx l) t) (.ref 64)) Q E s := by
  obtain ⟨es, n, hl, hk, he⟩ := look64 w
  refine wpAny_in_of (strKind_is prog w (tx l) t) rfl (mapOf_K (prog := prog) (X.keeps F.keep) hl hk) ?_
  have e : (findBy Value.isStrOf es (tx l)).isSome = tokHas l := by
    unfold findBy tokHas tokFind
    obtain ⟨f1, f2⟩ := entries_find he l
    rw [← Array.find?_toList]
    cases hv : (tokTab.find? fun p => decide (p.1 = l)).map (·.2) with
    | none => rw [f2 hv]; rfl
    | some v =>
      obtain ⟨t, e⟩ := f1 v hv
      rw [e]
      rfl
  rw [e]
  exact h
theorem item64 {value slice : PySem.Expr} {v : Int} {Q : Value → Shared → Prop} (X : (hd.heap_1 w.params).In h₀) (F : Fr h₀ L s.heap m) (hv : tokFind l = some v) (h : ∀ t, Q (.int v t) { s with toks := s.toks + 1 })
    (hs : subscripted slice false (.ref 64) (.str (tx l) t) = operate [.ref 64, .str (tx l) t] (getItem (.ref 64) (.str (tx l) t))) :
    wpAny (model prog w) A (subscriptTail value slice (.ref 64) (.str (tx l) t)) Q E s := by
  obtain ⟨es, n, hl, hk, he⟩ := look64 w
  have hm := mapOf_K (prog := prog) (X.keeps F.keep) hl hk
  obtain ⟨t', e⟩ := (entries_find he l).1 v hv
  refine tail_any hm.typeIs PySem.slot_dict_getitem.lookup (wpAny_getItem_of (strKind_is prog w (tx l) t) hm (v := .int v t') ?_ (h t')) hs
  unfold findBy
  rw [← Array.find?_toList]
  exact e
end

section
variable {prog : Program} {w : World} {A : Around} {E : Value → Shared → Prop} {s : Shared} {value slice : Expr} {l : List Nat} {t : Tok} {Q : Value → Shared → Prop}
theorem txt_midE {i j : Int} {ui uj : Tok} {a n : Nat} (hi : i = (a : Int)) (hj : j = (a : Int) + (n : Int)) (hz : l.length ≤ 1000)
    (h : ∀ h' tk t', Ext s.heap h' → Q (.str (tx ((l.drop a).take n)) t') { s with heap := h', toks := tk })
    (hs : subscripted slice false (.str (tx l) t) (.ref s.heap.objs.size) = operate [.ref s.heap.objs.size, .str (tx l) t] (getItem (.str (tx l) t) (.ref s.heap.objs.size)) := by with_unfolding_all rfl)
    (ht : ∀ r, letTemporaryGo value (.str (tx l) t) r = pure () := by intro _; with_unfolding_all rfl) :
    wpAny (model prog w) A (subscriptTail value slice (.str (tx l) t) (.ref s.heap.objs.size)) Q E { s with heap := s.heap.push { cls := .type "slice", data := .fields #[.int i ui, .int j uj, .none] } } := by
  subst hi hj
  refine tail_of_ItemOn (SBH.sliceItem_ss (P := fun h => Ext s.heap h) (fun _ _ a b o e => Heap.get?_push_of_some _ (a b o e)) (fun _ _ e => e) (fun h' t' k K => ?_) (by rw [len_tx, sizeLine_eq]; omega)) hs ht
  have e : (a : Int) + (n : Int) = ((a + n : Nat) : Int) := by omega
  rw [e, slice_mid _ _ _ (by omega), Nat.add_sub_cancel_left]
  exact h h' k t' K
end
/-! the text cut into its longest pieces -/
theorem find_none {a : Nat} (h : ∀ p ∈ tokTab, p.1.head? ≠ some a) (l : List Nat) : tokHas (a :: l) = false := by
  unfold tokHas tokFind
  have : tokTab.find? (fun p => decide (p.1 = a :: l)) = none := by
    rw [List.find?_eq_none]
    intro p hp
    have := h p hp
    simp only [decide_eq_true_eq]
    intro e
    rw [e] at this
    exact this rfl
  rw [this]
  rfl
theorem find_none2 {a b : Nat} (h : ∀ p ∈ tokTab, p.1.take 2 ≠ [a, b]) (l : List Nat) : tokHas (a :: b :: l) = false := by
  unfold tokHas tokFind
  have : tokTab.find? (fun p => decide (p.1 = a :: b :: l)) = none := by
    rw [List.find?_eq_none]
    intro p hp
    have := h p hp
    simp only [decide_eq_true_eq]
    intro e
    rw [e] at this
    exact this (by simp)
  rw [this]
  rfl
theorem find_none3 {a b : Nat} (h : ∀ p ∈ tokTab, p.1.take 2 = [a, b] → p.1.length = 2) (c : Nat) (l : List Nat) : tokHas (a :: b :: c :: l) = false := by
  unfold tokHas tokFind
  have : tokTab.find? (fun p => decide (p.1 = a :: b :: c :: l)) = none := by
    rw [List.find?_eq_none]
    intro p hp
    have := h p hp
    simp only [decide_eq_true_eq]
    intro e
    rw [e] at this
    have := this (by simp)
    simp at this
  rw [this]
  rfl
inductive Lex : List Nat → List Int → Prop where
  | nil : Lex [] []
  | name {c : Nat} {i : Int} {R : List Nat} {todo : List Int} : (c = 120 ∧ i = 0 ∨ c = 121 ∧ i = 1) → Lex R todo → Lex (c :: R) ((256 + i) :: todo)
  | one {a b : Nat} {R : List Nat} {todo : List Int} {v : Int} : tokFind [a] = some v → (∀ p ∈ tokTab, p.1.take 2 ≠ [a, b]) → Lex (b :: R) todo → Lex (a :: b :: R) (v :: todo)
  | two {a b c : Nat} {R : List Nat} {todo : List Int} {v : Int} : tokHas [a] = true → tokFind [a, b] = some v → (∀ p ∈ tokTab, p.1.take 2 = [a, b] → p.1.length = 2) → Lex (c :: R) todo → Lex (a :: b :: c :: R) (v :: todo)
/-- one turn: which sizes are pieces, which one counts, what it is -/
inductive Turned (R : List Nat) : List Nat → Int → Nat → Prop where
  | name {c : Nat} {i : Int} {R' : List Nat} : R = c :: R' → (c = 120 ∧ i = 0 ∨ c = 121 ∧ i = 1) → Turned R [] (256 + i) 1
  | one {v : Int} : tokFind (R.take 1) = some v → Turned R [1] v 1
  | two {v : Int} : tokFind (R.take 2) = some v → Turned R [1, 2] v 2
theorem lex_turn {R : List Nat} {todo : List Int} (h : Lex R todo) (hne : 0 < R.length) : ∃ v rest ps n, todo = v :: rest ∧ Turned R ps v n ∧ Lex (R.drop n) rest ∧ n ≤ R.length ∧ 1 ≤ n ∧ ([1, 2, 3].filter fun k => tokHas (R.take k)) = ps := by
  cases h with
  | nil => simp at hne
  | @name c i R todo hc hl =>
    refine ⟨_, _, [], 1, rfl, .name rfl hc, hl, by simp, by omega, ?_⟩
    have hh : ∀ p ∈ tokTab, p.1.head? ≠ some c := by
      rcases hc with ⟨rfl, _⟩ | ⟨rfl, _⟩
      · decide
      · decide
    simp [find_none hh]
  | @one a b R todo v h1 h2 hl =>
    refine ⟨_, _, [1], 1, rfl, .one h1, hl, by simp, by omega, ?_⟩
    have e1 : tokHas [a] = true := by unfold tokHas; rw [h1]; rfl
    simp [find_none2 h2, e1]
  | @two a b c R todo v h1 h2 h3 hl =>
    refine ⟨_, _, [1, 2], 2, rfl, .two h2, hl, by simp, by omega, ?_⟩
    have e2 : tokHas [a, b] = true := by unfold tokHas; rw [h2]; rfl
    simp [find_none3 h3, h1, e2]
/-! the seven statements -/
noncomputable def textOf : Nat → List Nat
  | 0 => [120, 43, 61, 121]
  | 1 => [121, 43, 61, 120]
  | 2 => [120, 61, 120, 43, 121]
  | 3 => [121, 61, 121, 43, 120]
  | 4 => [120, 61, 121, 43, 120]
  | 5 => [121, 61, 120, 43, 121]
  | _ => [120, 44, 121, 61, 121, 44, 120]
theorem lex_text (k : Nat) {R : List Nat} {todo : List Int} (h : Lex R todo) : Lex (textOf k ++ R) (rowOf k ++ todo) := by
  have x : ∀ {R todo}, Lex R todo → Lex (120 :: R) (256 :: todo) := fun h => .name (i := 0) (.inl ⟨rfl, rfl⟩) h
  have y : ∀ {R todo}, Lex R todo → Lex (121 :: R) (257 :: todo) := fun h => .name (i := 1) (.inr ⟨rfl, rfl⟩) h
  rcases k with _ | _ | _ | _ | _ | _ | k
  · exact x (.two (by decide) (by decide) (by decide) (y h))
  · exact y (.two (by decide) (by decide) (by decide) (x h))
  · exact x (.one (by decide) (by decide) (x (.one (by decide) (by decide) (y h))))
  · exact y (.one (by decide) (by decide) (y (.one (by decide) (by decide) (x h))))
  · exact x (.one (by decide) (by decide) (y (.one (by decide) (by decide) (x h))))
  · exact y (.one (by decide) (by decide) (x (.one (by decide) (by decide) (y h))))
  · exact x (.one (by decide) (by decide) (y (.one (by decide) (by decide) (y (.one (by decide) (by decide) (x h))))))
theorem textOf_head (k : Nat) : ∃ c R, textOf k = c :: R ∧ (c = 120 ∨ c = 121) := by
  rcases k with _ | _ | _ | _ | _ | _ | k
  · exact ⟨_, _, rfl, .inl rfl⟩
  · exact ⟨_, _, rfl, .inr rfl⟩
  · exact ⟨_, _, rfl, .inl rfl⟩
  · exact ⟨_, _, rfl, .inr rfl⟩
  · exact ⟨_, _, rfl, .inl rfl⟩
  · exact ⟨_, _, rfl, .inr rfl⟩
  · exact ⟨_, _, rfl, .inl rfl⟩
/-- the statements with semicolons between -/
noncomputable def progText : List Nat → List Nat
  | [] => []
  | [k] => textOf k
  | k :: ks => textOf k ++ 59 :: progText ks
noncomputable def progSyms : List Nat → List Int
  | [] => []
  | [k] => rowOf k
  | k :: ks => rowOf k ++ 13 :: progSyms ks
theorem progText_head : ∀ (ks : List Nat), ks ≠ [] → ∃ c R, progText ks = c :: R ∧ (c = 120 ∨ c = 121)
  | [], h => absurd rfl h
  | [k], _ => textOf_head k
  | k :: j :: ks, _ => by
    obtain ⟨c, R, e, hc⟩ := textOf_head k
    exact ⟨c, R ++ 59 :: progText (j :: ks), by show textOf k ++ _ = _; rw [e]; rfl, hc⟩
theorem lex_prog : ∀ ks : List Nat, Lex (progText ks) (progSyms ks)
  | [] => .nil
  | [k] => by
    have := lex_text k .nil
    rwa [List.append_nil, List.append_nil] at this
  | k :: j :: ks => by
    show Lex (textOf k ++ 59 :: progText (j :: ks)) (rowOf k ++ 13 :: progSyms (j :: ks))
    refine lex_text k ?_
    have h := lex_prog (j :: ks)
    obtain ⟨c, R, e, hc⟩ := progText_head (j :: ks) (by simp)
    rw [e] at h ⊢
    refine .one (by decide) ?_ h
    rcases hc with rfl | rfl
    · decide
    · decide
theorem textOf_len (k : Nat) : (textOf k).length ≤ 7 := by
  rcases k with _ | _ | _ | _ | _ | _ | k <;> exact Nat.le_of_ble_eq_true rfl
theorem progText_len : ∀ ks : List Nat, (progText ks).length ≤ 8 * ks.length
  | [] => by simp [progText]
  | [k] => by have := textOf_len k; simp [progText]; omega
  | k :: j :: ks => by
    have h1 := textOf_len k
    have h2 := progText_len (j :: ks)
    show (textOf k ++ 59 :: progText (j :: ks)).length ≤ _
    simp only [List.length_append, List.length_cons] at h2 ⊢
    omega
/-- texts in a list -/
inductive TextsAre : List Value → List (List Nat) → Prop where
  | nil : TextsAre [] []
  | cons (l : List Nat) (t : Tok) {vs : List Value} {ls : List (List Nat)} : TextsAre vs ls → TextsAre (.str (tx l) t :: vs) (l :: ls)
theorem TextsAre.carried {vs : List Value} {ls : List (List Nat)} (h : TextsAre vs ls) : CarriedAll vs (ls.map fun l => PyData.str (tx l)) := by
  induction h with
  | nil => exact .nil
  | cons l t _ ih => exact .cons (.str _ t) ih
theorem TextsAre.length {vs : List Value} {ls : List (List Nat)} (h : TextsAre vs ls) : vs.length = ls.length := by
  induction h with
  | nil => rfl
  | cons l t _ ih => simp [ih]
theorem texts_depth : ∀ ls : List (List Nat), PyData.depthAll (ls.map fun l => PyData.str (tx l)) = 0
  | [] => rfl
  | _ :: r => by simp [PyData.depthAll, PyData.depth, texts_depth r]
theorem texts_can : ∀ ls : List (List Nat), (∀ l ∈ ls, ∀ c ∈ l, c < 128) → PyData.canLayAll0 (ls.map fun l => PyData.str (tx l)) = true
  | [], _ => rfl
  | l :: r, h => by
    have h1 : PyData.strOk (tx l) = true := by
      unfold PyData.strOk
      rw [Array.all_eq_true']
      intro c hc
      have := h l (.head _) c (by simpa using hc)
      exact decide_eq_true (by omega)
    simp [PyData.canLayAll0, PyData.canLay0, h1, texts_can r fun x hx => h x (.tail _ hx)]
theorem texts_shaped {ls : List (List Nat)} (h : ∀ l ∈ ls, ∀ c ∈ l, c < 128) : SeqAt.shaped (.list (ls.map fun l => PyData.str (tx l))) = true := by
  simp [SeqAt.shaped, PyData.canLay0, PyData.depth, texts_can ls h, texts_depth]
theorem texts_same : ∀ ls ks : List (List Nat), PySem.Spec.sameAll (ls.map fun l => PyData.str (tx l)) (ks.map fun l => PyData.str (tx l)) = decide (ls = ks)
  | [], [] => by simp [PySem.Spec.sameAll]
  | [], _ :: _ => by simp [PySem.Spec.sameAll]
  | _ :: _, [] => by simp [PySem.Spec.sameAll]
  | a :: r, b :: t => by
    simp only [List.map_cons, PySem.Spec.sameAll, PyProof.V.same_str, texts_same r t]
    by_cases h : a = b <;> by_cases h' : r = t <;> simp [h, h']
section
variable {prog : Program} {w : World} {A : Around} {E : Value → Shared → Prop} {s : Shared} {a b : Addr} {xs ys : List Value} {ls ks : List (List Nat)} {Q : Value → Shared → Prop}
theorem eq_texts (ha : s.heap.IsList a xs.toArray) (hb : s.heap.IsList b ys.toArray) (hi : TextsAre xs ls) (hj : TextsAre ys ks) (ci : ∀ l ∈ ls, ∀ c ∈ l, c < 128) (cj : ∀ l ∈ ks, ∀ c ∈ l, c < 128) (hu : A.units + 64 < cLine) (h : Q (.bool (decide (ls = ks))) s) :
    wpAny (model prog w) A (compareOp .Eq (.ref a) (.ref b)) Q E s :=
  eq_dataH_same (reads_newData ha hi.carried) (reads_newData hb hj.carried) (texts_shaped ci) (texts_shaped cj) hu (SeqAt.noMix_of_shape (.list .str) rfl _ _ (list_map_has fun _ => rfl) (list_map_has fun _ => rfl)) (by simp only [PySem.Spec.same]; rw [texts_same]; exact h)
theorem eq_texts_nil (ha : s.heap.IsList a xs.toArray) (hb : s.heap.IsList b (List.toArray [])) (hi : TextsAre xs ls) (hn : ls ≠ []) (ci : ∀ l ∈ ls, ∀ c ∈ l, c < 128) (hu : A.units + 64 < cLine) (h : Q (.bool false) s) :
    wpAny (model prog w) A (compareOp .Eq (.ref a) (.ref b)) Q E s := by
  refine eq_texts ha hb hi .nil ci (List.forall_mem_nil _) hu ?_
  rw [decide_eq_false hn]
  exact h
end
theorem cut_lt {T : List Nat} (h : ∀ c ∈ T, c < 128) (a n : Nat) : ∀ c ∈ (T.drop a).take n, c < 128 := fun c hc => h c (List.mem_of_mem_drop (List.mem_of_mem_take hc))
example : True := by
  (k_with "compareOp Eq ref ref" => (k_here; (refine' eq_texts_nil (by kmk_list) (by kmk_list) (by first | exact .cons _ _ .nil | exact .cons _ _ (.cons _ _ .nil)) (by exact List.cons_ne_nil _ _) (by (repeat' (first | exact List.forall_mem_nil _ | refine List.forall_mem_cons.mpr ⟨cut_lt (by assumption) _ _, ?_⟩))) (by walk_at "DEPTH") ?_)))
  (k_with "subscriptTail Name Slice str ref" => (
  k_here
  (with_reducible show wpAny _ _ (subscriptTail _ (Expr.Slice (some _) (some _) none _) (Value.str (tx _) _) _) _ _ _)
  (with_unfolding_all refine' txt_midE (s := ⟨_, _, _, _, _⟩) (by with_unfolding_all rfl) (by with_unfolding_all rfl) (by walk_at "TXLEN") ?_)
  walk_at "KEPTE"))
  (k_with "compareOp In str ref" => (k_here; (with_reducible show wpAny _ _ (compareOp _ (Value.str (tx _) _) (Value.ref 64)) _ _ _); (refine' in64 (s := ⟨_, _, _, _, _⟩) (by k_asm) (by k_asm) ?_)))
  (k_with "subscriptTail Name Subscript ref str" => (k_here; (with_reducible show wpAny _ _ (subscriptTail _ _ (Value.ref 64) (Value.str (tx _) _)) _ _ _); (refine' item64 (s := ⟨_, _, _, _, _⟩) (by k_asm) (by k_asm) (by assumption) ?_ (by with_unfolding_all rfl)); intro _))
  (k_with "loadName" => (k_here; (refine' ldnCN (by k_asm) (by with_unfolding_all rfl) (by k_mem) (by k_asm) ?_ (by with_unfolding_all rfl) (by with_unfolding_all rfl)); k_whole))
  trivial

theorem pieces_of {R : List Nat} {t1 t2 t3 : Tok} {ys : List Value} {ps : List Nat} (hps : ([1, 2, 3].filter fun k => tokHas (R.take k)) = ps)
   (hG : Paired (fun v y => ∃ t, y = Value.str (tx (R.take (numOf1 v).toNat)) t) ([Value.int 1 t1, .int 2 t2, .int 3 t3].filter fun v => tokHas (R.take (numOf1 v).toNat)) ys) : Paired (fun k y => ∃ t, y = Value.str (tx (R.take k)) t) ps ys := by
  have e1 : (numOf1 (Value.int 1 t1)).toNat = 1 := rfl
  have e2 : (numOf1 (Value.int 2 t2)).toNat = 2 := rfl
  have e3 : (numOf1 (Value.int 3 t3)).toNat = 3 := rfl
  subst hps
  cases h1 : tokHas (R.take 1) <;> cases h2 : tokHas (R.take 2) <;> cases h3 : tokHas (R.take 3) <;> simp only [List.filter_cons, List.filter_nil, e1, e2, e3, h1, h2, h3, if_true, Bool.false_eq_true, if_false] at hG ⊢
  · cases hG; exact .nil
  · cases hG with | cons a hG => cases hG; exact .cons a .nil
  · cases hG with | cons a hG => cases hG; exact .cons a .nil
  · cases hG with | cons a hG => cases hG with | cons b hG => cases hG; exact .cons a (.cons b .nil)
  · cases hG with | cons a hG => cases hG; exact .cons a .nil
  · cases hG with | cons a hG => cases hG with | cons b hG => cases hG; exact .cons a (.cons b .nil)
  · cases hG with | cons a hG => cases hG with | cons b hG => cases hG; exact .cons a (.cons b .nil)
  · cases hG with | cons a hG => cases hG with | cons b hG => cases hG with | cons c hG => cases hG; exact .cons a (.cons b (.cons c .nil))
theorem lex_len {T : List Nat} {todo : List Int} (h : Lex T todo) : todo.length ≤ T.length := by
  induction h with
  | nil => exact Nat.le_refl _
  | name _ _ ih => simp at ih ⊢; omega
  | one _ _ _ ih => simp at ih ⊢; omega
  | two _ _ _ _ ih => simp at ih ⊢; omega
theorem cell_at {o : Obj} {a n : Nat} {z : Int} {t : Tok} (h : o.data = Data.cell (some (.int ((a : Int) + z) t))) (e : z = (n : Int)) : ∃ t, o.data = Data.cell (some (.int ((a + n : Nat) : Int) t)) := by
  subst e
  exact ⟨t, by rw [h]; simp⟩
structure SymS where
  at' : Nat
  us : List Value
  k : Nat
  ns : List Int
  oc : Obj
example : True := by
  (k_with "binaryOp Add ref ref" => (k_here; (with_unfolding_all refine' addK (s := ⟨_, _, _, _, _⟩) (by k_asm) (by k_asm) (by kmk_list) (by kmk_list) (by first | assumption | exact .cons _ _ .nil) (by first | assumption | exact .cons _ _ .nil) (by first | (simp only [List.length_cons, List.length_nil]; omega) | ((rw [IntsAre.length (by assumption)]); simp only [List.length_cons, List.length_nil]; omega)) ?_); intro _ _ _ _ _ _))
  trivial
section
variable {prog : Program} {w : World} {dp un : Nat} {fr : Option (List Env)} {gd : Option (List Code)} {E : Value → Shared → Prop} {s : Shared} {Q : Value → Shared → Prop}
theorem symbols_spec (B : Base w s.heap) (hdp : dp + 20 < recursionLimit) (hu : un + 200 < cLine)
   (T' : List Nat) (tt : Tok) (lT : T'.length ≤ 900) (cT : ∀ c ∈ T', c < 128)
   {todo : List Int} (hlex : Lex T' todo) (hQ : ∀ h' tk D us k, Ext s.heap h' → s.heap.get? D = none → h'.get? D = some (W.listOf (List.toArray us) k) → IntsAre us (todo ++ [0]) → Q (.ref D) { s with heap := h', toks := tk }) :
   wpAny (model prog w) (top0 dp un fr gd) (call (.ref 112) [.str (tx T') tt]) Q E s := by
  refine' enterC (binds := [("text", .str (tx T') tt)]) B ?k6 ?k7 ?k8 ?k9 ?kB ?kD ?_ ?c2 ?c3 ?c4
  walk_at "ENTERC"
  intro mean mg mb L h₁ tk cells X T F N Y
  obtain ⟨oc, oc2, rfl, d1, d2⟩ := CellsAre.two Y
  clear Y
  (try dsimp only)
  k_unmd
  k_fold
  k_steps
  refine ⟨?_⟩
  (with_reducible rename Fr _ _ _ _ => F1); (with_reducible rename News _ _ _ _ => N1)
  (rename (_ < _ ∧ _ < _) => l1)
  (rename (_ = Data.cell (some (Value.int 0 _))) => dd)
  try dsimp only at F1 N1
  (rename Obj => ob)
  obtain ⟨D, hD⟩ : ∃ D, some (Value.ref D) = mapOf F1 (Str.ofString "symbols") := ⟨_, rfl⟩
  simp only [mapOf, if_true, Option.some.injEq, Value.ref.injEq] at hD
  subst hD
  obtain ⟨t0, ht0⟩ : ∃ t0, ob.data = Data.cell (some (Value.int 0 t0)) := ⟨_, dd⟩
  refine ks_while (σ := SymS) (fun c => [(D, W.listOf c.us.toArray c.k), (L + 1 + 1, c.oc), (L + 1, oc2)])
    (fun c => [(Str.ofString "symbols", .ref D)])
    (fun c => IntsAre c.us c.ns ∧ c.at' ≤ T'.length ∧ (∃ t, c.oc.data = Data.cell (some (.int (c.at' : Int) t))) ∧ ∃ rest, todo = c.ns ++ rest ∧ Lex (T'.drop c.at') rest)
    (fun c => T'.length - c.at') ⟨0, [], 0, [], ob⟩ F1 N1 ?_ ?_ ?_ ?_
  · walk_at "HK"
  · exact ⟨.nil, Nat.zero_le _, ⟨_, ht0⟩, _, rfl, by simpa using hlex⟩
  · clear F1 N1 ht0
    intro c u h tk ⟨hI, hle, ⟨t, hoc⟩, rest, hto, hlx⟩ F1 N1
    dsimp only [kstB] at F1 N1
    (try k_unmd)
    (try k_fold)
    have hll0 := lex_len hlex
    rw [hto, List.length_append] at hll0
    have hnl0 : c.ns.length ≤ 900 := by omega
    have hul0 : c.us.length ≤ 900 := by rw [hI.length]; omega
    k_steps
    · refine ⟨?_⟩
      (rename (_ : Int) < (_ : Int) => hlt)
      have hlt' : c.at' < T'.length := by omega
      obtain ⟨v, rest', ps, n, rfl, hturn, hlx', hn1, hn2, hps⟩ := lex_turn hlx (by rw [List.length_drop]; omega)
      have hI3 : ∀ t1 t2 t3 : Tok, IntsAre [Value.int 1 t1, .int 2 t2, .int 3 t3] [1, 2, 3] := fun t1 t2 t3 => .cons _ _ (.cons _ _ (.cons _ _ .nil))
      refine' comp_A (m := mapOf F1) (cl := [("text", L + 1), ("at", L + 1 + 1)]) F1 N1 (fun v => tokHas ((T'.drop c.at').take (numOf1 v).toNat)) (fun v y => ∃ t, y = .str (tx ((T'.drop c.at').take (numOf1 v).toNat)) t) ?hsw ?hclos ?hcell ?hkind ?hnames ?hx ?hy ?hp ?_ ?hs
      walk_at "COMPA"
      k_steps
      walk_at "DONE"
      (with_reducible rename Fr _ _ _ _ => F2)
      (with_reducible rename News _ _ _ _ => N2)
      obtain ⟨vt, ⟨t1, t2, t3, rfl⟩, il⟩ : ∃ vt : List Value, (∃ t1 t2 t3, vt = [.int 1 t1, .int 2 t2, .int 3 t3]) ∧ Heap.IsList _ _ vt.toArray := ⟨[_, _, _], ⟨_, _, _, rfl⟩, PySem.IsL.isList (N2 _ (.head _)).1⟩
      have kC1 : CellIs _ (L + 1) (.str (tx T') tt) := CellIs.of N2 (.tail _ (.tail _ (.tail _ (.head _)))) d2 (by with_unfolding_all rfl)
      have kC2 : CellIs _ (L + 1 + 1) (.int (c.at' : Int) t) := CellIs.of N2 (.tail _ (.tail _ (.head _))) hoc rfl
      refine ⟨_, _, src_list rfl il (by rw [PySem.sizeLine_eq]; exact Nat.le_of_ble_eq_true rfl), CompOk.one ?_ ?_, F2, news_sub N2 (fun p hp => .tail _ hp), ?_⟩
      · intro C u i v s₂ E' hP FB NB
        obtain ⟨hp2, g2, d2, tk2, os2⟩ := s₂
        have kE := InElt.start hp2
        have X' := X.keeps F2.keep
        have T'' := T.keeps F2.keep
        clear F1 F2 N2 il
        match i, hP with
        | 0, hP =>
          cases hP
          k_steps
          walk_at "BLKEND"
          rfl
        | 1, hP =>
          cases hP
          k_steps
          walk_at "BLKEND"
          rfl
        | 2, hP =>
          cases hP
          k_steps
          walk_at "BLKEND"
          rfl
        | n + 3, hP => simp at hP
      · intro C u i v s₂ E' hP hp FB NB
        obtain ⟨hp2, g2, d2, tk2, os2⟩ := s₂
        have kE := InElt.start hp2
        have X' := X.keeps F2.keep
        have T'' := T.keeps F2.keep
        clear F1 F2 N2 il hp
        match i, hP with
        | 0, hP =>
          cases hP
          k_steps
          walk_at "BLKEND"
          exact ⟨_, rfl⟩
        | 1, hP =>
          cases hP
          k_steps
          walk_at "BLKEND"
          exact ⟨_, rfl⟩
        | 2, hP =>
          cases hP
          k_steps
          walk_at "BLKEND"
          exact ⟨_, rfl⟩
        | n + 3, hP => simp at hP
      intro D2 ys kD vs' h' tk' F' N' hne hl hP hG
      have ev := vals_of hl hP
      subst ev
      have hY := pieces_of hps hG
      dsimp only [mapOf] at F'
      clear hl hP hG kC1 kC2 il F2 N2 F1 hlx hps
      have q1 : @Ne Nat D D2 := hne _ (.head _)
      have q2 : @Ne Nat (L + 1 + 1) D2 := hne _ (.tail _ (.head _))
      have q3 : @Ne Nat (L + 1) D2 := hne _ (.tail _ (.tail _ (.head _)))
      walk_at "DONE"
      (try k_unmd)
      cases hturn with
      | @name c0 i0 R0 hR hc0 =>
        cases hY
        have hgd : T'.getD c.at' 0 = c0 := by
          have e := congrArg List.head? hR
          rw [List.head?_drop] at e
          rw [List.getD_eq_getElem?_getD, e]
          rfl
        have hfi : Txt.find (Str.ofString "xy") (tx [T'.getD c.at' 0]) = i0 := by
          rw [hgd]
          rcases hc0 with ⟨rfl, rfl⟩ | ⟨rfl, rfl⟩
          · decide +kernel
          · decide +kernel
        k_steps
        (with_reducible rename Fr _ _ _ _ => F5); (with_reducible rename News _ _ _ _ => N5); (rename Obj => ob5)
        (rename (_ = Data.cell (some _)) => dc)
        rw [List.length_drop] at hn1
        rw [hfi] at N5; rw [List.push_toArray] at N5
        exact kw_end (⟨c.at' + 1, _, _, c.ns ++ [256 + i0], ob5⟩ : SymS) F5 N5 (by walk_at "MEMS") (by walk_at "HK") (by exact ⟨hI.append (.cons _ _ .nil), by dsimp only; omega, cell_at dc (by simp), rest', by rw [hto]; simp, by rw [List.drop_drop] at hlx'; exact hlx'⟩) (by dsimp only; omega)
      | one hv =>
        cases hY with
        | cons a hY =>
          cases hY
          obtain ⟨ty, rfl⟩ := a
          k_steps
          (with_reducible rename Fr _ _ _ _ => F5); (with_reducible rename News _ _ _ _ => N5); (rename Obj => ob5)
          (rename (_ = Data.cell (some _)) => dc)
          rw [List.length_drop] at hn1
          rw [List.push_toArray] at N5
          exact kw_end (⟨c.at' + 1, _, _, c.ns ++ [v], ob5⟩ : SymS) F5 N5 (by walk_at "MEMS") (by walk_at "HK") (by exact ⟨hI.append (.cons _ _ .nil), by dsimp only; omega, cell_at dc (by rw [List.length_take, List.length_drop]; omega), rest', by rw [hto]; simp, by rw [List.drop_drop] at hlx'; exact hlx'⟩) (by dsimp only; omega)
      | two hv =>
        cases hY with
        | cons a hY =>
          cases hY with
          | cons b hY =>
            cases hY
            obtain ⟨ty, rfl⟩ := a
            obtain ⟨ty2, rfl⟩ := b
            k_steps
            (with_reducible rename Fr _ _ _ _ => F5); (with_reducible rename News _ _ _ _ => N5); (rename Obj => ob5)
            (rename (_ = Data.cell (some _)) => dc)
            rw [List.length_drop] at hn1
            rw [List.push_toArray] at N5
            exact kw_end (⟨c.at' + 2, _, _, c.ns ++ [v], ob5⟩ : SymS) F5 N5 (by walk_at "MEMS") (by walk_at "HK") (by exact ⟨hI.append (.cons _ _ .nil), by dsimp only; omega, cell_at dc (by rw [List.length_take, List.length_drop]; omega), rest', by rw [hto]; simp, by rw [List.drop_drop] at hlx'; exact hlx'⟩) (by dsimp only; omega)
    · walk_at "DONE"
      (with_reducible rename Fr _ _ _ _ => F9); (with_reducible rename News _ _ _ _ => N9); (with_reducible rename IntsAre _ _ => hI9)
      (rename ¬ ((_ : Int) < (_ : Int)) => hge)
      have e : T'.drop c.at' = [] := List.drop_of_length_le (by omega)
      rw [e] at hlx
      cases hlx
      rw [List.append_nil] at hto
      rw [← hto] at hI9
      exact hQ _ _ _ _ _ F9.keep (N9 _ (.head _)).2.2 (N9 _ (.head _)).1 hI9
  · exact passes_none
end

/-! the statements' rows, one after the other -/
noncomputable def fullSyms : List Nat → List Int
  | [] => []
  | k :: ks => rowOf k ++ (if ks = [] then 0 else 13) :: fullSyms ks
theorem fullSyms_prog : ∀ ks : List Nat, ks ≠ [] → progSyms ks ++ [0] = fullSyms ks
  | [], h => absurd rfl h
  | [k], _ => by simp [progSyms, fullSyms]
  | k :: j :: ks, _ => by
    have ih := fullSyms_prog (j :: ks) (by simp)
    show (rowOf k ++ 13 :: progSyms (j :: ks)) ++ [0] = rowOf k ++ (if (j :: ks) = [] then 0 else 13) :: fullSyms (j :: ks)
    rw [← ih]
    simp
noncomputable def isEnd (z : Int) : Prop := z = 13 ∨ z = 0
theorem rowOf_plain (k : Nat) : ∀ z ∈ rowOf k, ¬ isEnd z := by
  unfold isEnd
  rcases k with _ | _ | _ | _ | _ | _ | k
  · decide
  · decide
  · decide
  · decide
  · decide
  · decide
  · intro z hz
    simp [rowOf] at hz
    omega
theorem rowOf_len (k : Nat) : (rowOf k).length ≤ 7 := by
  rcases k with _ | _ | _ | _ | _ | _ | k <;> exact Nat.le_of_ble_eq_true rfl
theorem split_unique {e z : Int} (he : isEnd e) (hz : isEnd z) : ∀ {a r b f : List Int}, (∀ x ∈ a, ¬ isEnd x) → (∀ x ∈ r, ¬ isEnd x) → a ++ z :: b = r ++ e :: f → a = r ∧ z = e ∧ b = f
  | [], [], b, f, _, _, h => by simp at h; exact ⟨rfl, h.1, h.2⟩
  | [], y :: r, b, f, _, hr, h => by
    simp at h
    exact absurd (h.1 ▸ hz) (hr y (.head _))
  | x :: a, [], b, f, ha, _, h => by
    simp at h
    exact absurd (h.1 ▸ he) (ha x (.head _))
  | x :: a, y :: r, b, f, ha, hr, h => by
    simp only [List.cons_append, List.cons.injEq] at h
    obtain ⟨e1, e2, e3⟩ := split_unique he hz (fun c hc => ha c (.tail _ hc)) (fun c hc => hr c (.tail _ hc)) h.2
    exact ⟨by rw [h.1, e1], e2, e3⟩
theorem fullSyms_len : ∀ ks : List Nat, (fullSyms ks).length ≤ 8 * ks.length
  | [] => Nat.le_refl _
  | k :: ks => by
    have h1 := rowOf_len k
    have h2 := fullSyms_len ks
    show (rowOf k ++ _ :: fullSyms ks).length ≤ _
    rw [List.length_append, List.length_cons, List.length_cons]
    omega
theorem led_ne {h h' : Heap} {led : List (Addr × Obj)} {D : Addr} {o : Obj} (hn : ∀ p ∈ led, h.get? p.1 = none ∧ h'.get? p.1 = some p.2) (hD : h.get? D = some o) : ∀ p ∈ led, p.1 ≠ D := by
  intro p hp e
  have := (hn p hp).1
  rw [e, hD] at this
  cases this
theorem allLt_mem {D : Addr} {l : List (Addr × Obj)} : AllLt D l → ∀ p ∈ l, @LT.lt Nat _ p.1 D := by
  induction l with
  | nil => intro _ p hp; cases hp
  | cons q r ih =>
    intro h p hp
    rcases List.mem_cons.mp hp with e | hp
    · rw [e]; exact h.1
    · exact ih h.2 p hp
/-- what stands behind each statement -/
noncomputable def trail : List Nat → Thing × Thing → List (Thing × Thing)
  | [], S => [S]
  | k :: ks, S => S :: trail ks (move k S.1 S.2)
theorem trail_snoc : ∀ (ks : List Nat) (k : Nat) (S : Thing × Thing), trail (ks ++ [k]) S = trail ks S ++ [move k (runAll ks S).1 (runAll ks S).2]
  | [], k, S => rfl
  | j :: ks, k, S => by
    show S :: trail (ks ++ [k]) (move j S.1 S.2) = S :: (trail ks (move j S.1 S.2) ++ _)
    rw [trail_snoc ks k]
    rfl
theorem runAll_snoc : ∀ (ks : List Nat) (k : Nat) (S : Thing × Thing), runAll (ks ++ [k]) S = move k (runAll ks S).1 (runAll ks S).2
  | [], k, S => rfl
  | j :: ks, k, S => runAll_snoc ks k _
theorem trail_len : ∀ (ks : List Nat) (S : Thing × Thing), (trail ks S).length = ks.length + 1
  | [], S => rfl
  | k :: ks, S => by
    show (trail ks _).length + 1 = _
    rw [trail_len ks]
    rfl
theorem trail_mem : ∀ (ks : List Nat) (S U : Thing × Thing), U ∈ trail ks S → ∃ js, js.length ≤ ks.length ∧ U = runAll js S
  | [], S, U, h => ⟨[], Nat.le_refl _, List.mem_singleton.mp h⟩
  | k :: ks, S, U, h => by
    rcases List.mem_cons.mp h with rfl | h
    · exact ⟨[], Nat.zero_le _, rfl⟩
    · obtain ⟨js, hj, rfl⟩ := trail_mem ks _ U h
      exact ⟨k :: js, by simp; omega, rfl⟩
theorem trail_last : ∀ (ks : List Nat) (S : Thing × Thing), ∃ pre, trail ks S = pre ++ [runAll ks S]
  | [], S => ⟨[], rfl⟩
  | k :: ks, S => by
    obtain ⟨pre, e⟩ := trail_last ks (move k S.1 S.2)
    exact ⟨S :: pre, by show S :: trail ks _ = _; rw [e]; rfl⟩
theorem StOk.run {x y : List Nat} {K : Int} : ∀ (ks : List Nat) {n l : Nat} {S : Thing × Thing}, StOk x y K n l S.1 S.2 → StOk x y K ((n + 1) * 2 ^ ks.length - 1) (l * 2 ^ ks.length) (runAll ks S).1 (runAll ks S).2
  | [], n, l, S, h => by simpa [runAll] using h
  | k :: ks, n, l, S, h => by
    have := StOk.run ks (h.move k)
    show StOk x y K _ _ (runAll ks (Mine.move k S.1 S.2)).1 (runAll ks (Mine.move k S.1 S.2)).2
    refine this.mono ?_ ?_
    · rw [List.length_cons, Nat.pow_succ]
      have e : (2 * n + 1 + 1) * 2 ^ ks.length = (n + 1) * (2 ^ ks.length * 2) := by
        rw [show 2 * n + 1 + 1 = (n + 1) * 2 by omega, Nat.mul_assoc, Nat.mul_comm 2]
      rw [e]
      exact Nat.le_refl _
    · rw [List.length_cons, Nat.pow_succ, Nat.mul_comm 2 l, Nat.mul_assoc, Nat.mul_comm 2]
      exact Nat.le_refl _
theorem StOk.run5 {x y : List Nat} {K : Int} {ks : List Nat} {S : Thing × Thing} (h : StOk x y K 15 5 S.1 S.2) (hk : ks.length ≤ 5) : StOk x y K 511 160 (runAll ks S).1 (runAll ks S).2 := by
  have h2 : 2 ^ ks.length ≤ 2 ^ 5 := Nat.pow_le_pow_right (by omega) hk
  refine (h.run ks).mono ?_ ?_
  · omega
  · omega
/-! a list of pairs, in a ledger -/
inductive StatesAre (led : List (Addr × Obj)) : List Value → List (Thing × Thing) → Prop where
  | nil : StatesAre led [] []
  | cons {r : Addr} {S : Thing × Thing} {us : List Value} {Ss : List (Thing × Thing)} : PairIn led r S.1 S.2 → StatesAre led us Ss → StatesAre led (.ref r :: us) (S :: Ss)
theorem StatesAre.mono {led led' : List (Addr × Obj)} {us : List Value} {Ss : List (Thing × Thing)} (h : StatesAre led us Ss) (hs : ∀ p ∈ led, p ∈ led') : StatesAre led' us Ss := by
  induction h with
  | nil => exact .nil
  | cons h1 _ ih => exact .cons (h1.mono hs) ih
theorem StatesAre.length {led : List (Addr × Obj)} {us : List Value} {Ss : List (Thing × Thing)} (h : StatesAre led us Ss) : us.length = Ss.length := by
  induction h with
  | nil => rfl
  | cons _ _ ih => simp [ih]
theorem StatesAre.snoc {led : List (Addr × Obj)} {us : List Value} {Ss : List (Thing × Thing)} {r : Addr} {S : Thing × Thing} (h : StatesAre led us Ss) (h2 : PairIn led r S.1 S.2) : StatesAre led (us ++ [.ref r]) (Ss ++ [S]) := by
  induction h with
  | nil => exact .cons h2 .nil
  | cons h1 _ ih => exact .cons h1 ih
theorem StatesAre.last {led : List (Addr × Obj)} {us : List Value} {Ss : List (Thing × Thing)} (h : StatesAre led us Ss) : ∀ {pre : List (Thing × Thing)} {S : Thing × Thing}, Ss = pre ++ [S] → ∃ upre r, us = upre ++ [.ref r] ∧ PairIn led r S.1 S.2 := by
  induction h with
  | nil => intro pre S e; simp at e
  | @cons r S0 us Ss h1 h2 ih =>
    intro pre S e
    cases pre with
    | nil =>
      simp only [List.nil_append, List.cons.injEq] at e
      obtain ⟨rfl, rfl⟩ := e
      cases h2
      exact ⟨[], r, rfl, h1⟩
    | cons p pre =>
      simp only [List.cons_append, List.cons.injEq] at e
      obtain ⟨upre, r', e1, e2⟩ := ih e.2
      exact ⟨.ref r :: upre, r', by rw [e1]; rfl, e2⟩
section
variable {prog : Program} {w : World} {A : Around} {E : Value → Shared → Prop} {s : Shared} {h₀ : Heap} {L D : Addr} {m : Str → Option Value} {rest : List (Addr × Obj)} {vs : List Value} {k : Nat} {x : Value}
theorem append_first {Q : Value → Shared → Prop} (F : Fr h₀ L s.heap m) (N : News h₀ L s.heap ((D, W.listOf vs.toArray k) :: rest)) (hap : ∀ p ∈ rest, p.1 ≠ D) (hz : vs.length ≤ 1000)
    (h : ∀ h', Fr h₀ L h' m → News h₀ L h' ((D, W.listOf (vs ++ [x]).toArray (k + 1)) :: rest) → Q .none { s with heap := h' }) : wpAny (model prog w) A (call (.builtin "list.append") [.ref D, x]) Q E s := by
  refine append_head F N hap (fun h' F' N' => h h' F' ?_) (by rw [PySem.sizeLine_eq, List.size_toArray]; omega)
  rw [List.push_toArray] at N'
  exact N'
theorem item_last {value slice : PySem.Expr} {u : Tok} {Q : Value → Shared → Prop} (hl : s.heap.IsList D (vs ++ [x]).toArray) (hz : vs.length ≤ 1000) (h : Q x s)
    (hs : subscripted slice false (.ref D) (.int (-1) u) = operate [.ref D, .int (-1) u] (getItem (.ref D) (.int (-1) u))) (ht : ∀ r, letTemporaryGo value (.ref D) r = pure ()) :
    wpAny (model prog w) A (subscriptTail value slice (.ref D) (.int (-1) u)) Q E s :=
  subscriptTail_builtin hl.typeIs PySem.slot_list_getitem.lookup (wpAny_getItem_list_neg hl (by decide) (by simp; omega) (by decide) (by
    have e : (-1 + ((vs.length : Int) + 1)).toNat = vs.length := by omega
    simp [e]) h) hs ht
theorem item_k {value slice : PySem.Expr} {D : Addr} {vs : List Value} {k : Nat} {x : Value} {u : Tok} {Q : Value → Shared → Prop} (hl : s.heap.IsList D vs.toArray) (hv : vs[k]? = some x) (hk : k < 1000) (h : Q x s)
    (hs : subscripted slice false (.ref D) (.int (k : Int) u) = operate [.ref D, .int (k : Int) u] (getItem (.ref D) (.int (k : Int) u))) (ht : ∀ r, letTemporaryGo value (.ref D) r = pure ()) :
    wpAny (model prog w) A (subscriptTail value slice (.ref D) (.int (k : Int) u)) Q E s :=
  subscriptTail_builtin hl.typeIs PySem.slot_list_getitem.lookup (wpAny_getItem_list hl (by omega) (by omega) (by simpa using hv) h) hs ht
theorem news_addAll {h h' : Heap} {news led : List (Addr × Obj)} (F : Fr h₀ L h m) (N : News h₀ L h news) (K : Ext h h') (hn : ∀ p ∈ led, h.get? p.1 = none ∧ h'.get? p.1 = some p.2) : News h₀ L h' (led ++ news) := by
  intro p hp
  rcases List.mem_append.mp hp with hp | hp
  · obtain ⟨h1, h2⟩ := hn p hp
    refine ⟨h2, ?_, ?_⟩
    · intro e
      obtain ⟨oL, _, _, hL, _⟩ := F.ns
      rw [← e, h1] at hL
      cases hL
    · cases e : h₀.get? p.1 with
      | none => rfl
      | some o₀ =>
        have := F.keep _ _ e
        rw [h1] at this
        cases this
  · exact (N.grown K) p hp
end

structure StS where
  Dr : Addr
  us : List Value
  k : Nat
  rus : List Value
  rk : Nat
  rns : List Int
  led' : List (Addr × Obj)
  kd : List Nat
  kt : List Nat
example : True := by
  (k_with "call builtin:list.append" => (refine Mark.out ?_))
  (k_with "call ref" => ((with_reducible show wpAny _ _ (call (Value.ref 124) _) _ _ _); refine Mark.out ?_))
  trivial
section
variable {prog : Program} {w : World} {dp un : Nat} {fr : Option (List Env)} {gd : Option (List Code)} {E : Value → Shared → Prop} {s : Shared} {Q : Value → Shared → Prop}
example : True := by
  (k_with "subscriptTail Name Constant ref int" => ((guard_hyp stopq5 : True); ((refine Mark.out ?_))))
  trivial
example : True := by
  (k_with "subscriptTail Name UnaryOp ref int" => ((guard_hyp stopq6 : True); ((refine Mark.out ?_))))
  trivial
theorem states_spec (B : Base w s.heap) (hdp : dp + 60 < recursionLimit) (hu : un + 600 < cLine)
   {ls lt : Addr} {ks : List Nat} {vs : List Value} (iv : IntsAre vs (fullSyms ks)) (hz : vs.length ≤ 900) (il : s.heap.IsList ls vs.toArray) (hk5 : ks.length ≤ 5)
   {led : List (Addr × Obj)} (hled : ∀ p ∈ led, s.heap.get? p.1 = some p.2) {S0 : Thing × Thing} (hp : PairIn led lt S0.1 S0.2) {x y : List Nat} {K : Int} (h0 : StOk x y K 15 5 S0.1 S0.2)
   (hQ : ∀ h' tk D us k led', Ext s.heap h' → (∀ p ∈ led', s.heap.get? p.1 = none ∧ h'.get? p.1 = some p.2) → s.heap.get? D = none → h'.get? D = some (W.listOf (List.toArray us) k) → StatesAre (led' ++ led) us (trail ks S0) → Q (.ref D) { s with heap := h', toks := tk }) :
   wpAny (model prog w) (top0 dp un fr gd) (call (.ref 131) [.ref ls, .ref lt]) Q E s := by
  have stopq5 := True.intro
  have stopq6 := True.intro
  refine' enter (binds := [("symbols", .ref ls), ("things", .ref lt)]) B ?k6 ?k7 ?k8 ?k9 ?kB ?_ ?c2 ?c3 ?c4 ?c5
  walk_at "ENTER"
  intro mean mg mb L h₁ tk X T F N; k_fold
  k_steps
  refine ⟨?_⟩
  (with_reducible rename Fr _ _ _ _ => F1); (with_reducible rename News _ _ _ _ => N1)
  try dsimp only at F1 N1
  obtain ⟨D, hD⟩ : ∃ D, some (Value.ref D) = mapOf F1 (Str.ofString "states") := ⟨_, rfl⟩
  obtain ⟨R, hR⟩ : ∃ D, some (Value.ref D) = mapOf F1 (Str.ofString "row") := ⟨_, rfl⟩
  dsimp only [mapOf] at hD hR
  rw [if_neg (by decide), if_pos rfl] at hD
  rw [if_pos rfl] at hR
  simp only [Option.some.injEq, Value.ref.injEq] at hD hR
  subst hD hR
  (rename _ < _ => l2)
  refine kg_list (σ := StS) (vs := vs) (fun c => (D, W.listOf c.us.toArray c.k) :: (c.Dr, W.listOf c.rus.toArray c.rk) :: c.led') (fun c => [(Str.ofString "row", .ref c.Dr), (Str.ofString "states", .ref D)])
    (fun i c => (IntsAre c.rus c.rns ∧ StatesAre (c.led' ++ led) c.us (trail c.kd S0) ∧ c.kd ++ c.kt = ks ∧ c.rns ++ (fullSyms ks).drop i = fullSyms c.kt) ∧ (∀ z ∈ c.rns, ¬ isEnd z) ∧ (∀ p ∈ c.led', p.1 ≠ D) ∧ (∀ p ∈ c.led', p.1 ≠ c.Dr) ∧ c.Dr ≠ D) ⟨R, [.ref lt], 0, [], 0, [], [], [], ks⟩ rfl il F1 (news_sub N1 ?_) ?_ ?_ ?_ ?_
  · walk_at "MEMS"
  · walk_at "HK"
  · exact ⟨⟨.nil, .cons hp .nil, rfl, rfl⟩, List.forall_mem_nil _, List.forall_mem_nil _, List.forall_mem_nil _, Nat.ne_of_gt l2⟩
  · clear F1 N1
    intro c i v u h tk I oI hi hv hnw ⟨⟨hI, hS, hks, hsy⟩, hpl, hd1, hd2, hd3⟩ F1 N1
    (with_reducible rename IntsAre vs _ => ivs)
    obtain ⟨tv, hvv, hn⟩ := ints_at ivs i v hv
    generalize numOf1 v = z at hvv hn
    subst hvv
    have hdr : (fullSyms ks).drop i = z :: (fullSyms ks).drop (i + 1) := by
      obtain ⟨hl, e⟩ := List.getElem?_eq_some_iff.mp hn
      rw [List.drop_eq_getElem_cons hl, e]
    rw [hdr] at hsy
    dsimp only [kstB, List.cons_append, List.nil_append] at F1 N1
    (try k_unmd)
    (try k_fold)
    obtain ⟨k, kt', hkt⟩ : ∃ k kt', c.kt = k :: kt' := by
      cases e : c.kt with
      | nil => rw [e] at hsy; simp [fullSyms] at hsy
      | cons k kt' => exact ⟨k, kt', rfl⟩
    have hkl : c.kd.length + c.kt.length = ks.length := by rw [← hks, List.length_append]
    have hrl : c.rns.length ≤ 40 := by
      have e := congrArg List.length hsy
      have e2 := fullSyms_len c.kt
      rw [List.length_append, List.length_cons] at e
      omega
    have hrul : c.rus.length ≤ 40 := by rw [hI.length]; exact hrl
    have hul : c.us.length ≤ 1000 := by rw [hS.length, trail_len]; omega
    obtain ⟨pre, hpre⟩ := trail_last c.kd S0
    obtain ⟨upre, r, hus, hpr⟩ := hS.last hpre
    have hupre : upre.length ≤ 1000 := by rw [hus, List.length_append] at hul; omega
    have hok := h0.run5 (ks := c.kd) (by omega)
    have hsz := hok.sz
    rw [hkt] at hsy hks
    k_steps
    · refine ⟨?_⟩
      have hend : isEnd z := .inl (by assumption)
      (with_reducible rename Fr _ _ _ _ => F2); (with_reducible rename News _ _ _ _ => N2)
      obtain ⟨e1, e3, hrow⟩ : c.rns = rowOf k ∧ (fullSyms ks).drop (i + 1) = fullSyms kt' ∧ IntsAre c.rus (rowOf k) := by
        obtain ⟨e1, _, e3⟩ := split_unique (by unfold isEnd; split <;> simp) hend hpl (rowOf_plain k) hsy
        exact ⟨e1, e3, e1 ▸ hI⟩
      refine item_last (s := ⟨_, _, _, _, _⟩) (vs := upre) (x := .ref r) (hus ▸ News.isList N2 (.head _)) hupre ?_ (by with_unfolding_all rfl) (by intro _; with_unfolding_all rfl)
      k_steps
      refine ⟨?_⟩
      (with_reducible rename Fr _ _ _ _ => F3); (with_reducible rename News _ _ _ _ => N3)
      refine' after_spec (s := ⟨_, _, _, _, _⟩) (Base.of X T F3) ?k2 ?k3 hrow (N3 _ (.tail _ (.head _))).1 (led := c.led' ++ led) ?k4 hpr hok.qa hok.qb ?k5 ?k6 ?k7 ?_
      case k2 => walk_at "DEPTH"
      case k3 => walk_at "DEPTH"
      case k4 =>
        intro p hp'
        rcases List.mem_append.mp hp' with hp' | hp'
        · exact (N3 p (.tail _ (.tail _ (List.mem_append_left _ hp')))).1
        · exact F3.keep _ _ (hled p hp')
      case k5 => omega
      case k6 => omega
      case k7 => omega
      intro h5 tk5 D5 led5 K5 hn5 hp5
      have F5 := F3.keeps K5
      have N5 := news_addAll F3 N3 K5 hn5
      have w1 := led_ne hn5 (N3 _ (.head _)).1
      have w2 := led_ne hn5 (N3 (I, oI) (.tail _ (.tail _ (List.mem_append_right _ (.head _))))).1
      have N5' : News s.heap L _ ((D, W.listOf c.us.toArray c.k) :: (led5 ++ (c.led' ++ [(I, oI)]))) := news_sub N5 (by
        intro p hp'
        rcases List.mem_cons.mp hp' with rfl | hp'
        · exact List.mem_append_right _ (.head _)
        · rcases List.mem_append.mp hp' with hp' | hp'
          · exact List.mem_append_left _ hp'
          · exact List.mem_append_right _ (.tail _ (.tail _ hp')))
      (try clear F2); (try clear N2); (try clear F1); (try clear N1); clear K5 hn5 N5; (try clear F3); (try clear N3)
      dsimp only at F5 N5' ⊢
      k_steps
      refine ⟨?_⟩
      (with_reducible rename Fr _ _ _ _ => F6); (with_reducible rename News _ _ _ _ => N6)
      refine append_first (s := ⟨_, _, _, _, _⟩) F6 N6 ?_ hul ?_
      · intro p hp'
        rcases List.mem_append.mp hp' with hp' | hp'
        · exact w1 p hp'
        · rcases List.mem_append.mp hp' with hp' | hp'
          · exact hd1 p hp'
          · rw [List.mem_singleton.mp hp']
            exact Ne.symm (hnw _ (.head _))
      intro h7 F7 N7
      (try clear F6); (try clear N6); (try clear F5); (try clear N5')
      dsimp only at F7 N7 ⊢
      k_steps
      (with_reducible rename Fr _ _ _ _ => F8); (with_reducible rename News _ _ _ _ => N8)
      (rename (_ < _ ∧ AllLt _ _) => l8)
      have l9 := allLt_mem l8.2
      refine kg_end (⟨_, c.us ++ [.ref D5], c.k + 1, [], 0, [], led5 ++ c.led', c.kd ++ [k], kt'⟩ : StS) F8 N8 ?_ ?_ ?_ (by walk_at "HK") ?_
      · intro p hp'
        rcases List.mem_cons.mp hp' with rfl | hp'
        · exact .tail _ (.head _)
        · rcases List.mem_cons.mp hp' with rfl | hp'
          · exact .head _
          · refine .tail _ (.tail _ ?_)
            rcases List.mem_append.mp hp' with hp' | hp'
            · exact List.mem_append_left _ hp'
            · exact List.mem_append_right _ (List.mem_append_left _ hp')
      · exact .tail _ (.tail _ (List.mem_append_right _ (List.mem_append_right _ (.head _))))
      · intro p hp'
        rcases List.mem_cons.mp hp' with rfl | hp'
        · exact hnw (D, W.listOf c.us.toArray c.k) (.head _)
        · rcases List.mem_cons.mp hp' with rfl | hp'
          · exact Nat.ne_of_gt (l9 (I, oI) (List.mem_append_right _ (List.mem_append_right _ (.head _))))
          · rcases List.mem_append.mp hp' with hp' | hp'
            · exact w2 p hp'
            · exact hnw p (.tail _ (.tail _ hp'))
      · refine ⟨⟨.nil, ?_, ?_, ?_⟩, List.forall_mem_nil _, ?_, ?_, ?_⟩
        · dsimp only
          rw [trail_snoc, List.append_assoc]
          exact (hS.mono fun p hp' => List.mem_append_right _ hp').snoc hp5
        · rw [← hks]
          simp
        · exact e3
        · intro p hp'
          rcases List.mem_append.mp hp' with hp' | hp'
          · exact w1 p hp'
          · exact hd1 p hp'
        · intro p hp'
          refine Nat.ne_of_lt (l9 p ?_)
          rcases List.mem_append.mp hp' with hp' | hp'
          · exact List.mem_append_left _ hp'
          · exact List.mem_append_right _ (List.mem_append_left _ hp')
        · exact Nat.ne_of_gt l8.1
    · refine ⟨?_⟩
      have hend : isEnd z := .inr (by assumption)
      (with_reducible rename Fr _ _ _ _ => F2); (with_reducible rename News _ _ _ _ => N2)
      obtain ⟨e1, e3, hrow⟩ : c.rns = rowOf k ∧ (fullSyms ks).drop (i + 1) = fullSyms kt' ∧ IntsAre c.rus (rowOf k) := by
        obtain ⟨e1, _, e3⟩ := split_unique (by unfold isEnd; split <;> simp) hend hpl (rowOf_plain k) hsy
        exact ⟨e1, e3, e1 ▸ hI⟩
      refine item_last (s := ⟨_, _, _, _, _⟩) (vs := upre) (x := .ref r) (hus ▸ News.isList N2 (.head _)) hupre ?_ (by with_unfolding_all rfl) (by intro _; with_unfolding_all rfl)
      k_steps
      refine ⟨?_⟩
      (with_reducible rename Fr _ _ _ _ => F3); (with_reducible rename News _ _ _ _ => N3)
      refine' after_spec (s := ⟨_, _, _, _, _⟩) (Base.of X T F3) ?k2 ?k3 hrow (N3 _ (.tail _ (.head _))).1 (led := c.led' ++ led) ?k4 hpr hok.qa hok.qb ?k5 ?k6 ?k7 ?_
      case k2 => walk_at "DEPTH"
      case k3 => walk_at "DEPTH"
      case k4 =>
        intro p hp'
        rcases List.mem_append.mp hp' with hp' | hp'
        · exact (N3 p (.tail _ (.tail _ (List.mem_append_left _ hp')))).1
        · exact F3.keep _ _ (hled p hp')
      case k5 => omega
      case k6 => omega
      case k7 => omega
      intro h5 tk5 D5 led5 K5 hn5 hp5
      have F5 := F3.keeps K5
      have N5 := news_addAll F3 N3 K5 hn5
      have w1 := led_ne hn5 (N3 _ (.head _)).1
      have w2 := led_ne hn5 (N3 (I, oI) (.tail _ (.tail _ (List.mem_append_right _ (.head _))))).1
      have N5' : News s.heap L _ ((D, W.listOf c.us.toArray c.k) :: (led5 ++ (c.led' ++ [(I, oI)]))) := news_sub N5 (by
        intro p hp'
        rcases List.mem_cons.mp hp' with rfl | hp'
        · exact List.mem_append_right _ (.head _)
        · rcases List.mem_append.mp hp' with hp' | hp'
          · exact List.mem_append_left _ hp'
          · exact List.mem_append_right _ (.tail _ (.tail _ hp')))
      (try clear F2); (try clear N2); (try clear F1); (try clear N1); clear K5 hn5 N5; (try clear F3); (try clear N3)
      dsimp only at F5 N5' ⊢
      k_steps
      refine ⟨?_⟩
      (with_reducible rename Fr _ _ _ _ => F6); (with_reducible rename News _ _ _ _ => N6)
      refine append_first (s := ⟨_, _, _, _, _⟩) F6 N6 ?_ hul ?_
      · intro p hp'
        rcases List.mem_append.mp hp' with hp' | hp'
        · exact w1 p hp'
        · rcases List.mem_append.mp hp' with hp' | hp'
          · exact hd1 p hp'
          · rw [List.mem_singleton.mp hp']
            exact Ne.symm (hnw _ (.head _))
      intro h7 F7 N7
      (try clear F6); (try clear N6); (try clear F5); (try clear N5')
      dsimp only at F7 N7 ⊢
      k_steps
      (with_reducible rename Fr _ _ _ _ => F8); (with_reducible rename News _ _ _ _ => N8)
      (rename (_ < _ ∧ AllLt _ _) => l8)
      have l9 := allLt_mem l8.2
      refine kg_end (⟨_, c.us ++ [.ref D5], c.k + 1, [], 0, [], led5 ++ c.led', c.kd ++ [k], kt'⟩ : StS) F8 N8 ?_ ?_ ?_ (by walk_at "HK") ?_
      · intro p hp'
        rcases List.mem_cons.mp hp' with rfl | hp'
        · exact .tail _ (.head _)
        · rcases List.mem_cons.mp hp' with rfl | hp'
          · exact .head _
          · refine .tail _ (.tail _ ?_)
            rcases List.mem_append.mp hp' with hp' | hp'
            · exact List.mem_append_left _ hp'
            · exact List.mem_append_right _ (List.mem_append_left _ hp')
      · exact .tail _ (.tail _ (List.mem_append_right _ (List.mem_append_right _ (.head _))))
      · intro p hp'
        rcases List.mem_cons.mp hp' with rfl | hp'
        · exact hnw (D, W.listOf c.us.toArray c.k) (.head _)
        · rcases List.mem_cons.mp hp' with rfl | hp'
          · exact Nat.ne_of_gt (l9 (I, oI) (List.mem_append_right _ (List.mem_append_right _ (.head _))))
          · rcases List.mem_append.mp hp' with hp' | hp'
            · exact w2 p hp'
            · exact hnw p (.tail _ (.tail _ hp'))
      · refine ⟨⟨.nil, ?_, ?_, ?_⟩, List.forall_mem_nil _, ?_, ?_, ?_⟩
        · dsimp only
          rw [trail_snoc, List.append_assoc]
          exact (hS.mono fun p hp' => List.mem_append_right _ hp').snoc hp5
        · rw [← hks]
          simp
        · exact e3
        · intro p hp'
          rcases List.mem_append.mp hp' with hp' | hp'
          · exact w1 p hp'
          · exact hd1 p hp'
        · intro p hp'
          refine Nat.ne_of_lt (l9 p ?_)
          rcases List.mem_append.mp hp' with hp' | hp'
          · exact List.mem_append_left _ hp'
          · exact List.mem_append_right _ (List.mem_append_left _ hp')
        · exact Nat.ne_of_gt l8.1
    · refine ⟨?_⟩
      (with_reducible rename Fr _ _ _ _ => F2); (with_reducible rename News _ _ _ _ => N2)
      (rename z ≠ 13 => z13); (rename ¬ z = 0 => z0)
      have N3 : News s.heap L _ ((c.Dr, W.listOf c.rus.toArray c.rk) :: (D, W.listOf c.us.toArray c.k) :: (c.led' ++ [(I, oI)])) := news_sub N2 (by
        intro p hp'
        rcases List.mem_cons.mp hp' with rfl | hp'
        · exact .tail _ (.head _)
        · rcases List.mem_cons.mp hp' with rfl | hp'
          · exact .head _
          · exact .tail _ (.tail _ hp'))
      refine append_first (s := ⟨_, _, _, _, _⟩) F2 N3 ?_ (by omega) ?_
      · intro p hp'
        rcases List.mem_cons.mp hp' with rfl | hp'
        · exact Ne.symm hd3
        · rcases List.mem_append.mp hp' with hp' | hp'
          · exact hd2 p hp'
          · rw [List.mem_singleton.mp hp']
            exact Ne.symm (hnw _ (.tail _ (.head _)))
      intro h7 F7 N7
      (try clear F2); (try clear N2); (try clear N3)
      dsimp only at F7 N7 ⊢
      k_steps
      (with_reducible rename Fr _ _ _ _ => F8); (with_reducible rename News _ _ _ _ => N8)
      refine kg_end (⟨c.Dr, c.us, c.k, c.rus ++ [.int z tv], c.rk + 1, c.rns ++ [z], c.led', c.kd, c.kt⟩ : StS) F8 N8 ?_ ?_ ?_ (by walk_at "HK") ?_
      · intro p hp'
        rcases List.mem_cons.mp hp' with rfl | hp'
        · exact .tail _ (.head _)
        · rcases List.mem_cons.mp hp' with rfl | hp'
          · exact .head _
          · exact .tail _ (.tail _ (List.mem_append_left _ hp'))
      · exact .tail _ (.tail _ (List.mem_append_right _ (.head _)))
      · intro p hp'
        rcases List.mem_cons.mp hp' with rfl | hp'
        · exact hnw (D, W.listOf c.us.toArray c.k) (.head _)
        · rcases List.mem_cons.mp hp' with rfl | hp'
          · exact hnw (c.Dr, W.listOf c.rus.toArray c.rk) (.tail _ (.head _))
          · exact hnw p (.tail _ (.tail _ hp'))
      · refine ⟨⟨hI.append (.cons _ _ .nil), hS, by rw [hkt]; exact hks, ?_⟩, ?_, hd1, hd2, hd3⟩
        · dsimp only
          rw [hkt, ← hsy]
          simp
        · intro y hy
          rcases List.mem_append.mp hy with hy | hy
          · exact hpl y hy
          · rw [List.mem_singleton.mp hy]
            exact fun h => h.elim z13 z0
  · clear F1 N1
    intro c u h tk ⟨⟨hI, hS, hks, hsy⟩, hpl, hd1, hd2, hd3⟩ F1 N1
    (with_reducible rename IntsAre vs _ => ivs)
    have e : (fullSyms ks).drop vs.length = [] := List.drop_of_length_le (by rw [ivs.length]; exact Nat.le_refl _)
    rw [e, List.append_nil] at hsy
    have hkt : c.kt = [] := by
      cases e2 : c.kt with
      | nil => rfl
      | cons k kt' =>
        rw [e2] at hsy
        refine absurd ?_ (hpl (if kt' = [] then 0 else 13) ?_)
        · unfold isEnd; split <;> simp
        · rw [hsy]
          exact List.mem_append_right _ (.head _)
    rw [hkt, List.append_nil] at hks
    dsimp only [kstB] at F1 N1
    (try k_unmd)
    k_steps
    walk_at "DONE"
    (with_reducible rename Fr _ _ _ _ => F9); (with_reducible rename News _ _ _ _ => N9)
    rw [hks] at hS
    exact hQ _ _ _ _ _ c.led' F9.keep (fun p hp' => ⟨(N9 p (.tail _ (.tail _ hp'))).2.2, (N9 p (.tail _ (.tail _ hp'))).1⟩) (N9 _ (.head _)).2.2 (N9 _ (.head _)).1 hS
end

theorem charsAre_of : ∀ (vs : List Value) (l : List Nat), vs.length = l.length → (∀ (j : Nat) (v : Value), vs[j]? = some v → ∃ c t, l[j]? = some c ∧ v = .str (tx [c]) t) → CharsAre vs l
  | [], [], _, _ => .nil
  | [], _ :: _, h, _ => by simp at h
  | _ :: _, [], h, _ => by simp at h
  | v :: vs, c :: l, h, hv => by
    obtain ⟨c', t, e1, rfl⟩ := hv 0 v rfl
    simp at e1
    subst e1
    exact .cons _ _ (charsAre_of vs l (by simpa using h) fun j v hj => hv (j + 1) v hj)
noncomputable def glueT : List (List Nat) → List Nat
  | [] => []
  | [l] => l
  | l :: ls => l ++ 59 :: glueT ls
theorem glue_prog : ∀ ks : List Nat, glueT (ks.map textOf) = progText ks
  | [] => rfl
  | [k] => rfl
  | k :: j :: ks => by
    show textOf k ++ 59 :: glueT ((j :: ks).map textOf) = _
    rw [glue_prog (j :: ks)]
    rfl
theorem app_tx2 (a b : List Nat) : tx a ++ Str.ofString ";" ++ tx b = tx (a ++ 59 :: b) := by
  refine congrArg Str.mk ?_
  show (a.toArray ++ (Str.ofString ";").cps) ++ b.toArray = (a ++ 59 :: b).toArray
  have e : (Str.ofString ";").cps = #[59] := by with_unfolding_all rfl
  rw [e]
  simp
theorem join_glue1 : ∀ ls : List (List Nat), Str.join (Str.ofString ";") (ls.map tx) = tx (glueT ls)
  | [] => rfl
  | [l] => rfl
  | l :: k :: ls => by
    have ih := join_glue1 (k :: ls)
    show tx l ++ Str.ofString ";" ++ Str.join (Str.ofString ";") ((k :: ls).map tx) = _
    rw [ih, app_tx2]
    rfl
theorem join_glue (ls : List (List Nat)) : Txt.join (Str.ofString ";") (ls.map tx) = tx (glueT ls) := by
  rw [← join_glue1]
  exact StrLaws.glued_eq_join _ _
theorem glue_sum (ls : List (List Nat)) (hl : ∀ l ∈ ls, l.length ≤ 7) (n : Nat) : List.foldl (fun (a : Nat) (b : Str) => a + b.length + (Str.ofString ";").length) n (ls.map tx) ≤ n + 8 * ls.length := by
  induction ls generalizing n with
  | nil => exact Nat.le_refl _
  | cons l ls ih =>
    rw [List.map_cons, List.foldl_cons]
    have h1 := hl l (.head _)
    have e : n + (tx l).length + (Str.ofString ";").length = n + l.length + 1 := by rw [len_tx]; rfl
    rw [e]
    refine Nat.le_trans (ih (fun x hx => hl x (.tail _ hx)) _) ?_
    rw [List.length_cons]
    omega
theorem joinOk_glue (ls : List (List Nat)) (hl : ∀ l ∈ ls, l.length ≤ 7) (hz : ls.length ≤ 100) : JoinOk (Str.ofString ";") (ls.map tx) = true := by
  unfold JoinOk
  rw [Bool.not_eq_true']
  have e := glue_sum ls hl 0
  rw [← List.foldl_toArray] at e
  unfold Builtin.Str.tooLong
  rw [PySem.sizeLine_eq]
  refine decide_eq_false ?_
  intro h
  have e1 : (Str.ofString ";").length = 1 := rfl
  omega
theorem textVals {vs : List Value} {ls : List (List Nat)} (h : TextsAre vs ls) : ∃ ps : List (Str × Tok), vs = strValues ps ∧ ps.map (·.1) = ls.map tx := by
  induction h with
  | nil => exact ⟨[], rfl, rfl⟩
  | cons l t _ ih =>
    obtain ⟨ps, h1, h2⟩ := ih
    exact ⟨(tx l, t) :: ps, by rw [h1]; rfl, by rw [List.map_cons, h2]; rfl⟩
section
variable {prog : Program} {w : World} {A : Around} {E : Value → Shared → Prop} {s : Shared} {Q : Value → Shared → Prop} {h₀ : Heap} {L : Addr} {m : Str → Option Value} {news : List (Addr × Obj)}
theorem list_chars {l : List Nat} {t : Tok} (hh : A.handled = none) (F : Fr h₀ L s.heap m) (N : News h₀ L s.heap news) (hz : l.length ≤ 1000)
    (h : ∀ D ws k h' tk, Fr h₀ L h' m → News h₀ L h' ((D, W.listOf (List.toArray ws) k) :: news) → (∀ p ∈ news, p.1 < D) → CharsAre ws l → Q (.ref D) { s with heap := h', toks := tk }) : wpAny (model prog w) A (call (.type "list") [.str (tx l) t]) Q E s := by
  refine call_list_str hh (tx l) t (hn := by show l.toArray.size ≤ _; rw [List.size_toArray, PySem.sizeLine_eq]; omega) fun h' tk acc' c' hk hS' hacc => ?_
  have hS : h'.get? s.heap.objs.size = some (W.listOf (List.toArray acc'.toList) c') := by
    rw [Array.toArray_toList]
    exact hS'
  refine h s.heap.objs.size acc'.toList c' h' tk (F.keeps hk) ?_ (fun p hp => Heap.lt_size (N p hp).1) ?_
  · exact news_add F N hk (Heap.get?_none_of_le (Nat.le_refl _)) hS
  · refine charsAre_of _ _ ?_ fun j v hv => ?_
    · rw [Array.length_toList, hacc.1]
      exact len_tx l
    · obtain ⟨c, u, hc, rfl⟩ := hacc.2 j v (by simpa using hv)
      exact ⟨c, u, by simpa using hc, rfl⟩
theorem join_texts {la : Addr} {vs : List Value} {ls : List (List Nat)} (hl : s.heap.IsList la vs.toArray) (hc : TextsAre vs ls) (h7 : ∀ l ∈ ls, l.length ≤ 7) (hz : ls.length ≤ 100) (t : Tok)
   (h : ∀ tk t', Q (.str (tx (glueT ls)) t') { s with toks := tk }) : wpAny (model prog w) A (call (.builtin "str.join") [.str (Str.ofString ";") t, .ref la]) Q E s := by
  obtain ⟨ps, rfl, e⟩ := textVals hc
  have hok := joinOk_glue ls h7 hz
  rw [← e] at hok
  have hok' := hok
  unfold JoinOk at hok'
  rw [Bool.not_eq_true'] at hok'
  refine call_meets F.slot_str_join (typeIs_str _ _ _) F.entry_str_join (F.args_str_join_2 _ _) (meets_str_join_list _ t la ps hok') ⟨hl, post_join ps ⟨joinFit_length hok', fun t' k => ?_⟩⟩
  rw [e, join_glue]
  exact h _ _
theorem add_tx {a b : List Nat} {ta tb : Tok} (hz : a.length + b.length ≤ 1000) (h : ∀ tk t', Q (.str (tx (a ++ b)) t') { s with toks := tk }) : wpAny (model prog w) A (binaryOp .Add (.str (tx a) ta) (.str (tx b) tb)) Q E s := by
  have e : tx a ++ tx b = tx (a ++ b) := by
    refine congrArg Str.mk ?_
    show a.toArray ++ b.toArray = (a ++ b).toArray
    simp
  refine PyProof.Rows.add_str (fun t' k => ?_) (by rw [len_tx, len_tx, PySem.sizeLine_eq]; omega)
  rw [e]
  exact h _ _
end
example : True := by
  (k_with "call type:list" => ((k_here; (with_reducible show wpAny _ _ (call _ [Value.str (tx _) _]) _ _ _); (refine' list_chars (s := ⟨_, _, _, _, _⟩) (by with_unfolding_all rfl) (by k_asm) (by k_asm) (by first | assumption | omega) ?_); intro _ _ _ _ _ _ _ l1 _; (try k_lt l1)); (try (revert l1; intro _))))
  (k_with "binaryOp Add str str" => (k_here; (with_reducible show wpAny _ _ (binaryOp _ (Value.str (tx _) _) (Value.str (tx _) _)) _ _ _); (refine' add_tx (s := ⟨_, _, _, _, _⟩) (by omega) ?_); intro _ _))
  trivial

noncomputable def AllNe (d : Nat) : List (Addr × Obj) → Prop
  | [] => True
  | p :: r => @Ne Nat p.1 d ∧ AllNe d r
theorem allNe_of {d : Addr} {l : List (Addr × Obj)} : (∀ p ∈ l, p.1 ≠ d) → AllNe d l := by
  induction l with
  | nil => intro _; trivial
  | cons q r ih =>
    intro h
    exact ⟨h q (.head _), ih fun p hp => h p (.tail _ hp)⟩
noncomputable def lawScope : Scope := scopeOf "law"
noncomputable def lawBody : List Stmt := bodyOf "law"
noncomputable def lawRest4 : List Stmt := (bodyOf "law").drop 4
noncomputable def lawRest6 : List Stmt := (bodyOf "law").drop 6
theorem fmod_bd (a : Int) : -100 ≤ a.fmod 201 - 100 ∧ a.fmod 201 - 100 ≤ 100 := by
  have h1 := Int.fmod_nonneg_of_pos a (b := 201) (by decide)
  have h2 := Int.fmod_lt_of_pos a (b := 201) (by decide)
  omega
theorem kept_start (p r u v : Int) : (p * r + 2) * (p * r + 2) + (u * v + 2) * (u * v + 2) + (u * v + p * v + r * u + p * r + 2) * (u * v + p * v + r * u + p * r + 2) - (p * r + 2) * (u * v + 2) * (u * v + p * v + r * u + p * r + 2) = qkept (1, p, r, p * r + 1) (u * v + 1, u, v, 1) := by
  simp only [qkept, qtr, qmul]
  grind
section
variable {prog : Program} {w : World} {dp un : Nat} {fr : Option (List Env)} {gd : Option (List Code)} {E : Value → Shared → Prop} {s : Shared} {Q : Flow → Shared → Prop}
example : True := by
  (k_with "call ref" => ((guard_hyp stopq7 : True); ((refine Mark.out ?_))))
  trivial
example : True := by
  (k_with "execs cons" => ((guard_hyp stopq8 : True); ((
  (with_reducible show wpAny _ _ (execs (List.cons (Stmt.Assign _ _ { line := 203, col := _, endLine := _, endCol := _ }) _) _) _ _ _)
  refine Mark.out ?_))))
  trivial
theorem law_a0 {h₀ : Heap} {L fa la : Addr} {cd : Value} {mg mb : Str → Option Value} {mean : ExcName → Option Value} {vs : List Value} {ns : List Int} {o1 o2 o3 o4 o5 : Obj} {u0 : Str → Option Value}
    (X : (hd.heap_1 w.params).In h₀) (T : Top lawView LS mean mg mb h₀) (hdp : dp + 100 < recursionLimit) (hu : un + 1000 < cLine)
    (il : h₀.IsList la vs.toArray) (iv : IntsAre vs ns) (hz : vs.length ≤ 63)
    (F : Fr h₀ L s.heap (kstB u0 [(Str.ofString "script", .ref la)])) (N : News h₀ L s.heap [(L + 1 + 1 + 1 + 1 + 1, o5), (L + 1 + 1 + 1 + 1, o4), (L + 1 + 1 + 1, o3), (L + 1 + 1, o2), (L + 1, o1)])
    (d1 : o1.data = Data.cell none) (d2 : o2.data = Data.cell none) (d3 : o3.data = Data.cell none) (d4 : o4.data = Data.cell none) (d5 : o5.data = Data.cell none)
    (hQ : ∀ h' tk D1 us ms k1 x y tx' ty' o1' o2' p r u v tp tr tu tv u', IntsAre us ms → ms.length = 8 → (∀ c ∈ x, c ∈ letters) → (∀ c ∈ y, c ∈ letters) → 1 ≤ x.length → x.length ≤ 3 → 1 ≤ y.length → y.length ≤ 2 →
      (-100 ≤ p ∧ p ≤ 100) → (-100 ≤ r ∧ r ≤ 100) → (-100 ≤ u ∧ u ≤ 100) → (-100 ≤ v ∧ v ≤ 100) →
      o1'.data = Data.cell (some (.str (tx x) tx')) → o2'.data = Data.cell (some (.str (tx y) ty')) → AllNe D1 [(L + 1 + 1 + 1 + 1 + 1, o5), (L + 1 + 1 + 1 + 1, o4), (L + 1 + 1 + 1, o3), (L + 1 + 1, o2), (L + 1, o1)] →
      Fr h₀ L h' (kstB u' [(Str.ofString "p", .int p tp), (Str.ofString "r", .int r tr), (Str.ofString "u", .int u tu), (Str.ofString "v", .int v tv), (Str.ofString "draws", .ref D1)]) →
      News h₀ L h' [(D1, W.listOf (List.toArray us) k1), (L + 1 + 1 + 1 + 1 + 1, o5), (L + 1 + 1 + 1 + 1, o4), (L + 1 + 1 + 1, o3), (L + 1 + 1, o2'), (L + 1, o1')] →
      wpAny (model prog w) ((top0 dp un fr gd).deeper (envOfC "law" lawScope L fa cd)) (execs lawRest4 (envOfC "law" lawScope L fa cd)) Q E { s with heap := h', toks := tk }) :
    wpAny (model prog w) ((top0 dp un fr gd).deeper (envOfC "law" lawScope L fa cd)) (execs lawBody (envOfC "law" lawScope L fa cd)) Q E s := by
  have stopq7 := True.intro
  have stopq8 := True.intro
  obtain ⟨heap, gens, drawn, toks, os⟩ := s
  dsimp only [kstB] at F N hQ ⊢
  conv in (lawBody) => whnf
  conv in (occs := *) lawScope => all_goals whnf
  k_steps
  refine ⟨?_⟩
  refine' draws_spec (s := ⟨_, _, _, _, _⟩) (Base.of X T F) ?k2 ?k3 (isl_keeps il F.keep) iv (by omega) ?_
  case k2 => walk_at "DEPTH"
  case k3 => walk_at "DEPTH"
  intro h1 tk1 D1 us ms k1 K1 n1 z1 im hm8
  have N1 := news_add F N K1 n1 z1
  have F1 := F.keeps K1
  have nD1' := allNe_of (made_ne N n1)
  have nD1 := nD1'
  simp only [AllNe, and_true] at nD1
  have hus : us.length = 8 := by rw [im.length, hm8]
  clear F N K1 n1 z1
  dsimp only at F1 N1 ⊢
  k_steps
  refine ⟨?_⟩
  (with_reducible rename Fr _ _ _ _ => F); (with_reducible rename News _ _ _ _ => N)
  refine' words_spec (s := ⟨_, _, _, _, _⟩) (Base.of X T F) ?k2 ?k3 _ _ ?_
  case k2 => walk_at "DEPTH"
  case k3 => walk_at "DEPTH"
  intro h2 tk2 D2 x y tx' ty' K2 n2 z2 hx hy hx1 hx3 hy1 hy2
  have N2 := news_add F N K2 n2 z2
  have F2 := F.keeps K2
  have nD2 := allNe_of (made_ne N n2)
  simp only [AllNe, and_true] at nD2
  clear F N K2 n2 z2
  dsimp only at F2 N2 ⊢
  k_steps
  refine ⟨?_⟩
  (with_reducible rename Fr _ _ _ _ => F4); (with_reducible rename News _ _ _ _ => N4)
  (rename (_ = Data.cell (some (Value.str (tx y) _))) => e2)
  (rename (_ = Data.cell (some (Value.str (tx x) _))) => e1)
  have N5 := news_sub (news' := [(D1, W.listOf (List.toArray us) k1), (L + 1 + 1 + 1 + 1 + 1, o5), (L + 1 + 1 + 1 + 1, o4), (L + 1 + 1 + 1, o3), (L + 1 + 1, _), (L + 1, _)]) N4 (by walk_at "MEMS")
  obtain ⟨u', F5⟩ := canon F4 [(Str.ofString "p", .int _ _), (Str.ofString "r", .int _ _), (Str.ofString "u", .int _ _), (Str.ofString "v", .int _ _), (Str.ofString "draws", .ref D1)] (by walk_at "HK")
  exact hQ _ _ _ _ _ _ _ _ _ _ _ _ _ _ _ _ _ _ _ _ _ im hm8 hx hy hx1 hx3 hy1 hy2 (fmod_bd _) (fmod_bd _) (fmod_bd _) (fmod_bd _) e1 e2 nD1' F5 N5
end
section
variable {prog : Program} {w : World} {dp un : Nat} {fr : Option (List Env)} {gd : Option (List Code)} {E : Value → Shared → Prop} {s : Shared} {Q : Flow → Shared → Prop}
example : True := by
  (k_with "execs cons" => ((guard_hyp stopq9 : True); ((
  (with_reducible show wpAny _ _ (execs (List.cons (Stmt.Assign _ _ { line := 205, col := _, endLine := _, endCol := _ }) _) _) _ _ _)
  refine Mark.out ?_))))
  trivial
theorem law_a1 {h₀ : Heap} {L fa D1 : Addr} {cd : Value} {mg mb : Str → Option Value} {mean : ExcName → Option Value} {us : List Value} {k1 : Nat} {o1 o2 o3 o4 o5 : Obj} {u0 : Str → Option Value} {p r u v : Int} {tp tr tu tv : Tok}
    (X : (hd.heap_1 w.params).In h₀) (T : Top lawView LS mean mg mb h₀) (hdp : dp + 100 < recursionLimit) (hu : un + 1000 < cLine)
    (bp : -100 ≤ p ∧ p ≤ 100) (br : -100 ≤ r ∧ r ≤ 100) (bu : -100 ≤ u ∧ u ≤ 100) (bv : -100 ≤ v ∧ v ≤ 100)
    (F : Fr h₀ L s.heap (kstB u0 [(Str.ofString "p", .int p tp), (Str.ofString "r", .int r tr), (Str.ofString "u", .int u tu), (Str.ofString "v", .int v tv), (Str.ofString "draws", .ref D1)]))
    (N : News h₀ L s.heap [(D1, W.listOf (List.toArray us) k1), (L + 1 + 1 + 1 + 1 + 1, o5), (L + 1 + 1 + 1 + 1, o4), (L + 1 + 1 + 1, o3), (L + 1 + 1, o2), (L + 1, o1)])
    (hQ : ∀ h' tk tK u', Fr h₀ L h' (kstB u' [(Str.ofString "kept", .int (qkept (1, p, r, p * r + 1) (u * v + 1, u, v, 1)) tK), (Str.ofString "p", .int p tp), (Str.ofString "r", .int r tr), (Str.ofString "u", .int u tu), (Str.ofString "v", .int v tv), (Str.ofString "draws", .ref D1)]) →
      News h₀ L h' [(D1, W.listOf (List.toArray us) k1), (L + 1 + 1 + 1 + 1 + 1, o5), (L + 1 + 1 + 1 + 1, o4), (L + 1 + 1 + 1, o3), (L + 1 + 1, o2), (L + 1, o1)] →
      wpAny (model prog w) ((top0 dp un fr gd).deeper (envOfC "law" lawScope L fa cd)) (execs lawRest6 (envOfC "law" lawScope L fa cd)) Q E { s with heap := h', toks := tk }) :
    wpAny (model prog w) ((top0 dp un fr gd).deeper (envOfC "law" lawScope L fa cd)) (execs lawRest4 (envOfC "law" lawScope L fa cd)) Q E s := by
  have stopq9 := True.intro
  obtain ⟨heap, gens, drawn, toks, os⟩ := s
  dsimp only [kstB] at F N hQ ⊢
  conv in (lawRest4) => whnf
  conv in (occs := *) lawScope => all_goals whnf
  k_steps
  refine ⟨?_⟩
  (with_reducible rename Fr _ _ _ _ => F4); (with_reducible rename News _ _ _ _ => N4)
  rw [kept_start] at F4
  obtain ⟨u', F5⟩ := canon F4 [(Str.ofString "kept", .int _ _), (Str.ofString "p", .int p tp), (Str.ofString "r", .int r tr), (Str.ofString "u", .int u tu), (Str.ofString "v", .int v tv), (Str.ofString "draws", .ref D1)] (by walk_at "HK")
  exact hQ _ _ _ _ F5 (news_sub N4 fun p hp => .tail _ hp)
end
section
variable {prog : Program} {w : World} {dp un : Nat} {fr : Option (List Env)} {gd : Option (List Code)} {E : Value → Shared → Prop} {s : Shared} {Q : Flow → Shared → Prop}
theorem law_a {h₀ : Heap} {L fa la : Addr} {cd : Value} {mg mb : Str → Option Value} {mean : ExcName → Option Value} {vs : List Value} {ns : List Int} {o1 o2 o3 o4 o5 : Obj} {u0 : Str → Option Value}
    (X : (hd.heap_1 w.params).In h₀) (T : Top lawView LS mean mg mb h₀) (hdp : dp + 100 < recursionLimit) (hu : un + 1000 < cLine)
    (il : h₀.IsList la vs.toArray) (iv : IntsAre vs ns) (hz : vs.length ≤ 63)
    (F : Fr h₀ L s.heap (kstB u0 [(Str.ofString "script", .ref la)])) (N : News h₀ L s.heap [(L + 1 + 1 + 1 + 1 + 1, o5), (L + 1 + 1 + 1 + 1, o4), (L + 1 + 1 + 1, o3), (L + 1 + 1, o2), (L + 1, o1)])
    (d1 : o1.data = Data.cell none) (d2 : o2.data = Data.cell none) (d3 : o3.data = Data.cell none) (d4 : o4.data = Data.cell none) (d5 : o5.data = Data.cell none)
    (hQ : ∀ h' tk D1 us ms k1 x y tx' ty' o1' o2' p r u v tp tr tu tv tK u', IntsAre us ms → ms.length = 8 → (∀ c ∈ x, c ∈ letters) → (∀ c ∈ y, c ∈ letters) → 1 ≤ x.length → x.length ≤ 3 → 1 ≤ y.length → y.length ≤ 2 →
      (-100 ≤ p ∧ p ≤ 100) → (-100 ≤ r ∧ r ≤ 100) → (-100 ≤ u ∧ u ≤ 100) → (-100 ≤ v ∧ v ≤ 100) →
      o1'.data = Data.cell (some (.str (tx x) tx')) → o2'.data = Data.cell (some (.str (tx y) ty')) → AllNe D1 [(L + 1 + 1 + 1 + 1 + 1, o5), (L + 1 + 1 + 1 + 1, o4), (L + 1 + 1 + 1, o3), (L + 1 + 1, o2), (L + 1, o1)] →
      Fr h₀ L h' (kstB u' [(Str.ofString "kept", .int (qkept (1, p, r, p * r + 1) (u * v + 1, u, v, 1)) tK), (Str.ofString "p", .int p tp), (Str.ofString "r", .int r tr), (Str.ofString "u", .int u tu), (Str.ofString "v", .int v tv), (Str.ofString "draws", .ref D1)]) →
      News h₀ L h' [(D1, W.listOf (List.toArray us) k1), (L + 1 + 1 + 1 + 1 + 1, o5), (L + 1 + 1 + 1 + 1, o4), (L + 1 + 1 + 1, o3), (L + 1 + 1, o2'), (L + 1, o1')] →
      wpAny (model prog w) ((top0 dp un fr gd).deeper (envOfC "law" lawScope L fa cd)) (execs lawRest6 (envOfC "law" lawScope L fa cd)) Q E { s with heap := h', toks := tk }) :
    wpAny (model prog w) ((top0 dp un fr gd).deeper (envOfC "law" lawScope L fa cd)) (execs lawBody (envOfC "law" lawScope L fa cd)) Q E s := by
  refine law_a0 X T hdp hu il iv hz F N d1 d2 d3 d4 d5 ?_
  intro h1 tk1 D1 us ms k1 x y tx' ty' o1' o2' p r u v tp tr tu tv u1 im hm8 hx hy hx1 hx3 hy1 hy2 bp br bu bv e1 e2 nD1 F1 N1
  (try dsimp only)
  refine law_a1 X T hdp hu bp br bu bv F1 N1 ?_
  intro h2 tk2 tK u2 F2 N2
  (try dsimp only)
  exact hQ _ _ _ _ _ _ _ _ _ _ _ _ _ _ _ _ _ _ _ _ _ _ im hm8 hx hy hx1 hx3 hy1 hy2 bp br bu bv e1 e2 nD1 F2 N2
end

noncomputable def lawRest9 : List Stmt := (bodyOf "law").drop 9
noncomputable def isKinds (kn : List Nat) (vs : List Value) : Prop := IntsAre vs (kn.map fun (k : Nat) => (k : Int))
theorem kinds_of {ms : List Int} {n : Nat} (h : ms.length = n) : ∃ kn : List Nat, ms.map (fun z => z.fmod 7) = kn.map (fun (k : Nat) => (k : Int)) ∧ kn.length = n ∧ ∀ k ∈ kn, k < 7 := by
  refine ⟨ms.map fun z => (z.fmod 7).toNat, ?_, by simp [h], ?_⟩
  · rw [List.map_map]
    refine List.map_congr_left fun z _ => ?_
    have h1 := Int.fmod_nonneg_of_pos z (b := 7) (by decide)
    show z.fmod 7 = ((z.fmod 7).toNat : Int)
    omega
  · intro k hk
    obtain ⟨z, _, rfl⟩ := List.mem_map.mp hk
    have h1 := Int.fmod_nonneg_of_pos z (b := 7) (by decide)
    have h2 := Int.fmod_lt_of_pos z (b := 7) (by decide)
    omega
noncomputable abbrev textsO (t : Nat → Tok) : Obj := W.listOf #[.str (Str.ofString "x+=y") (t 0), .str (Str.ofString "y+=x") (t 1), .str (Str.ofString "x=x+y") (t 2), .str (Str.ofString "y=y+x") (t 3), .str (Str.ofString "x=y+x") (t 4), .str (Str.ofString "y=x+y") (t 5), .str (Str.ofString "x,y=y,x") (t 6)] 0
section
variable {prog : Program} {w : World} {dp un : Nat} {fr : Option (List Env)} {gd : Option (List Code)} {E : Value → Shared → Prop} {s : Shared} {Q : Flow → Shared → Prop}
example : True := by
  (k_with "call ref" => ((guard_hyp stopq10 : True); ((refine Mark.out ?_))))
  trivial
example : True := by
  (k_with "execs cons" => ((guard_hyp stopq11 : True); ((
  (with_reducible show wpAny _ _ (execs (List.cons (Stmt.Assign _ _ { line := 208, col := _, endLine := _, endCol := _ }) _) _) _ _ _)
  refine Mark.out ?_))))
  trivial
theorem law_b {h₀ : Heap} {L fa D1 : Addr} {cd : Value} {mg mb : Str → Option Value} {mean : ExcName → Option Value} {us : List Value} {ms : List Int} {k1 : Nat} {o1 o2 o3 o4 o5 : Obj} {u0 : Str → Option Value} {x y : List Nat} {tx' ty' tp tr tu tv tK : Tok} {p r u v K : Int}
    (X : (hd.heap_1 w.params).In h₀) (T : Top lawView LS mean mg mb h₀) (hdp : dp + 100 < recursionLimit) (hu : un + 1000 < cLine)
    (im : IntsAre us ms) (hm8 : ms.length = 8) (hx : ∀ c ∈ x, c ∈ letters) (hy : ∀ c ∈ y, c ∈ letters) (hx1 : 1 ≤ x.length) (hx3 : x.length ≤ 3) (hy1 : 1 ≤ y.length) (hy2 : y.length ≤ 2)
    (bp : -100 ≤ p ∧ p ≤ 100) (br : -100 ≤ r ∧ r ≤ 100) (bu : -100 ≤ u ∧ u ≤ 100) (bv : -100 ≤ v ∧ v ≤ 100)
    (d1 : o1.data = Data.cell (some (.str (tx x) tx'))) (d2 : o2.data = Data.cell (some (.str (tx y) ty'))) (d3 : o3.data = Data.cell none)
    (nD1' : AllNe D1 [(L + 1 + 1 + 1 + 1 + 1, o5), (L + 1 + 1 + 1 + 1, o4), (L + 1 + 1 + 1, o3), (L + 1 + 1, o2), (L + 1, o1)])
    (F : Fr h₀ L s.heap (kstB u0 [(Str.ofString "kept", .int K tK), (Str.ofString "p", .int p tp), (Str.ofString "r", .int r tr), (Str.ofString "u", .int u tu), (Str.ofString "v", .int v tv), (Str.ofString "draws", .ref D1)]))
    (N : News h₀ L s.heap [(D1, W.listOf (List.toArray us) k1), (L + 1 + 1 + 1 + 1 + 1, o5), (L + 1 + 1 + 1 + 1, o4), (L + 1 + 1 + 1, o3), (L + 1 + 1, o2), (L + 1, o1)])
    (hQ : ∀ h' tk Dt tt Dk kus kk kn o3' lt led tK' u', isKinds kn kus → kn.length = 5 → (∀ k ∈ kn, k < 7) → o3'.data = Data.cell (some (.ref Dt)) → PairIn led lt (x, (1, p, r, p * r + 1)) (y, (u * v + 1, u, v, 1)) →
      AllNe D1 [(L + 1 + 1 + 1 + 1 + 1, o5), (L + 1 + 1 + 1 + 1, o4), (L + 1 + 1 + 1, o3'), (L + 1 + 1, o2), (L + 1, o1)] → AllNe Dk [(D1, W.listOf (List.toArray us) k1), (L + 1 + 1 + 1 + 1 + 1, o5), (L + 1 + 1 + 1 + 1, o4), (L + 1 + 1 + 1, o3'), (L + 1 + 1, o2), (L + 1, o1)] → (∀ p ∈ led, @LT.lt Nat _ (L + 1 + 1 + 1 + 1 + 1) p.1) →
      Fr h₀ L h' (kstB u' [(Str.ofString "things", .ref lt), (Str.ofString "kinds", .ref Dk), (Str.ofString "kept", .int K tK'), (Str.ofString "draws", .ref D1)]) →
      News h₀ L h' ((Dt, textsO tt) :: (Dk, W.listOf (List.toArray kus) kk) :: (D1, W.listOf (List.toArray us) k1) :: (L + 1 + 1 + 1 + 1 + 1, o5) :: (L + 1 + 1 + 1 + 1, o4) :: (L + 1 + 1 + 1, o3') :: (L + 1 + 1, o2) :: (L + 1, o1) :: led) →
      wpAny (model prog w) ((top0 dp un fr gd).deeper (envOfC "law" lawScope L fa cd)) (execs lawRest9 (envOfC "law" lawScope L fa cd)) Q E { s with heap := h', toks := tk }) :
    wpAny (model prog w) ((top0 dp un fr gd).deeper (envOfC "law" lawScope L fa cd)) (execs lawRest6 (envOfC "law" lawScope L fa cd)) Q E s := by
  have stopq10 := True.intro
  have stopq11 := True.intro
  obtain ⟨heap, gens, drawn, toks, os⟩ := s
  have nD1 := nD1'
  simp only [AllNe, and_true] at nD1
  dsimp only [kstB] at F N hQ ⊢
  conv in (lawRest6) => whnf
  conv in (occs := *) lawScope => all_goals whnf
  k_steps
  refine ⟨?_⟩
  refine' comp_A (m := mapOf F) F N (fun _ => true) (fun v y => ∃ t, y = .int ((numOf1 v).fmod 7) t) ?hsw ?hclos ?hcell ?hkind ?hnames ?hx ?hy ?hp ?_ ?hs
  walk_at "COMPA"
  k_steps
  walk_at "DONE"
  (with_reducible rename Fr _ _ _ _ => F1); (with_reducible rename News _ _ _ _ => N1); (with_reducible rename IntsAre _ _ => iw)
  have hzw := iw.length
  rw [List.length_drop, hm8] at hzw
  refine ⟨_, _, src_list rfl (PySem.IsL.isList (N1 _ (.head _)).1) (by rw [PySem.sizeLine_eq, hzw]; exact Nat.le_of_ble_eq_true rfl), CompOk.plain ?_, F1, news_sub N1 (fun p hp => .tail _ hp), ?_⟩
  · intro C u i v s₂ E' hP FB NB
    obtain ⟨hp2, g2, d2, tk2, os2⟩ := s₂
    obtain ⟨tv, hv, hn⟩ := ints_at iw i v hP
    generalize numOf1 v = z at hv hn
    subst hv
    have kE := InElt.start hp2
    have X' := X.keeps F1.keep
    have T' := T.keeps F1.keep
    clear F1 N1 F
    k_steps
    walk_at "BLKEND"
    exact ⟨_, rfl⟩
  intro Dk kus kk vs' h' tk' F' N' hne hl hP hG
  have hK := ints_pair iw (fun _ => true) (fun z => z.fmod 7) (vals_of hl hP ▸ hG)
  rw [List.filter_eq_self.mpr (fun _ _ => rfl)] at hK
  have nDk' := allNe_of hne
  have nDk := nDk'
  simp only [AllNe, and_true] at nDk
  clear hl hP hG hne F1 N1 iw
  dsimp only [mapOf] at F'
  clear F
  walk_at "DONE"
  (try k_unmd)
  k_steps
  refine ⟨?_⟩
  (with_reducible rename Fr _ _ _ _ => F4); (with_reducible rename News _ _ _ _ => N4)
  (rename CharsAre _ y => cy); (rename CharsAre _ x => cx)
  (rename (_ = Data.cell (some (Value.ref _))) => e3)
  obtain ⟨lt, hlt⟩ : ∃ D, some (Value.ref D) = mapOf F4 (Str.ofString "things") := ⟨_, rfl⟩
  dsimp only [mapOf] at hlt
  rw [if_pos rfl] at hlt
  simp only [Option.some.injEq, Value.ref.injEq] at hlt
  subst hlt
  obtain ⟨kn, hkn, hk5, hk7⟩ := kinds_of (ms := ms.drop 3) (n := 5) (by rw [List.length_drop, hm8])
  rw [hkn] at hK
  obtain ⟨led, Dt, tt, o3', N5, hPI, hlo, e3'⟩ : ∃ (led : List (Addr × Obj)) (Dt : Addr) (tt : Nat → Tok) (o3' : Obj), News h₀ L _ (led ++ (Dt, textsO tt) :: (Dk, W.listOf (List.toArray kus) kk) :: (D1, W.listOf (List.toArray us) k1) :: (L + 1 + 1 + 1 + 1 + 1, o5) :: (L + 1 + 1 + 1 + 1, o4) :: (L + 1 + 1 + 1, o3') :: (L + 1 + 1, o2) :: (L + 1, o1) :: []) ∧
      PairIn led lt (x, (1, p, r, p * r + 1)) (y, (u * v + 1, u, v, 1)) ∧ (∀ p ∈ led, @LT.lt Nat _ (L + 1 + 1 + 1 + 1 + 1) p.1) ∧ o3'.data = Data.cell (some (.ref Dt)) :=
    ⟨[_, _, _, _, _, _, _], _, (fun n => tk' + n), _, N4, ⟨_, _, _, .head _, ⟨rfl, _, rfl⟩, ⟨_, _, _, _, (_, _, _, _), .tail _ (.tail _ (.tail _ (.tail _ (.head _)))), .tail _ (.tail _ (.tail _ (.tail _ (.tail _ (.tail _ (.head _)))))), cx, .tail _ (.tail _ (.tail _ (.tail _ (.tail _ (.head _)))))⟩, ⟨_, _, _, _, (_, _, _, _), .tail _ (.head _), .tail _ (.tail _ (.tail _ (.head _))), cy, .tail _ (.tail _ (.head _))⟩⟩,
      (by (rename _ ∧ _ => q); refine List.forall_mem_cons.mpr ⟨q.2.2.2.2.2.2.2.2.2.1, ?_⟩; clear q; (rename _ ∧ _ => q); refine List.forall_mem_cons.mpr ⟨q.2.2.2.2.2.2.2.2.1, ?_⟩; clear q; (rename _ ∧ _ => q); refine List.forall_mem_cons.mpr ⟨q.2.2.2.2.2.2.2.1, ?_⟩; clear q; (rename _ ∧ _ => q); refine List.forall_mem_cons.mpr ⟨q.2.2.2.2.2.2.1, ?_⟩; clear q; (rename _ ∧ _ => q); refine List.forall_mem_cons.mpr ⟨q.2.2.2.2.2.1, ?_⟩; clear q; (rename _ ∧ _ => q); refine List.forall_mem_cons.mpr ⟨q.2.2.2.2.1, ?_⟩; clear q; (rename _ ∧ _ => q); refine List.forall_mem_cons.mpr ⟨q.2.2.2.1, ?_⟩; clear q; exact List.forall_mem_nil _), e3⟩
  have N6 : News h₀ L _ ((Dt, textsO tt) :: (Dk, W.listOf (List.toArray kus) kk) :: (D1, W.listOf (List.toArray us) k1) :: (L + 1 + 1 + 1 + 1 + 1, o5) :: (L + 1 + 1 + 1 + 1, o4) :: (L + 1 + 1 + 1, o3') :: (L + 1 + 1, o2) :: (L + 1, o1) :: led) := news_sub N5 fun p hp => by
    rcases List.mem_append.mp (show p ∈ [_, _, _, _, _, _, _, _] ++ led from hp) with hp | hp
    · exact List.mem_append_right _ hp
    · exact List.mem_append_left _ hp
  obtain ⟨u', F5⟩ := canon F4 [(Str.ofString "things", .ref lt), (Str.ofString "kinds", .ref Dk), (Str.ofString "kept", .int K tK), (Str.ofString "draws", .ref D1)] (by walk_at "HK")
  exact hQ _ _ _ _ _ _ _ _ _ _ _ _ _ hK hk5 hk7 e3' hPI nD1' nDk' hlo F5 N6
end

noncomputable def lawRest12 : List Stmt := (bodyOf "law").drop 12
theorem texts_pair {vs ys : List Value} {kn : List Nat} (h : IntsAre vs (kn.map fun (k : Nat) => (k : Int))) : Paired (fun v y => ∃ t, y = Value.str (tx (textOf (numOf1 v).toNat)) t) vs ys → TextsAre ys (kn.map textOf) := by
  generalize hm : kn.map (fun (k : Nat) => (k : Int)) = ms at h
  induction h generalizing kn ys with
  | nil =>
    intro hp
    cases hp
    cases kn with
    | nil => exact .nil
    | cons _ _ => simp at hm
  | cons i t _ ih =>
    intro hp
    cases kn with
    | nil => simp at hm
    | cons k kn =>
      simp only [List.map_cons, List.cons.injEq] at hm
      cases hp with
      | cons h1 h2 =>
        obtain ⟨t', rfl⟩ := h1
        have e : (numOf1 (Value.int i t)).toNat = k := by
          show i.toNat = k
          omega
        rw [e]
        exact .cons _ _ (ih hm.2 h2)
theorem lets_lt : ∀ c ∈ letters, c < 128 := by decide
theorem progText_lt : ∀ (ks : List Nat), ∀ c ∈ progText ks, c < 128 := by
  have h1 : ∀ (k : Nat), ∀ c ∈ textOf k, c < 128 := by
    intro k
    rcases k with _ | _ | _ | _ | _ | _ | k
    · decide
    · decide
    · decide
    · decide
    · decide
    · decide
    · intro c hc
      simp [textOf] at hc
      omega
  intro ks
  induction ks with
  | nil => intro c hc; cases hc
  | cons k ks ih =>
    cases ks with
    | nil => exact h1 k
    | cons j ks =>
      intro c hc
      rcases List.mem_append.mp (show c ∈ textOf k ++ 59 :: progText (j :: ks) from hc) with h | h
      · exact h1 k c h
      · rcases List.mem_cons.mp h with rfl | h
        · omega
        · exact ih c h
section
variable {prog : Program} {w : World} {dp un : Nat} {fr : Option (List Env)} {gd : Option (List Code)} {E : Value → Shared → Prop} {s : Shared} {Q : Flow → Shared → Prop}
example : True := by
  (k_with "call ref" => ((guard_hyp stopq12 : True); ((refine Mark.out ?_))))
  trivial
example : True := by
  (k_with "subscriptTail Name Name ref int" => ((guard_hyp stopq13 : True); ((refine Mark.out ?_))))
  trivial
example : True := by
  (k_with "call builtin:str.join" => ((guard_hyp stopq14 : True); ((refine Mark.out ?_))))
  trivial
example : True := by
  (k_with "execs cons" => ((guard_hyp stopq15 : True); ((
  (with_reducible show wpAny _ _ (execs (List.cons (Stmt.For _ _ _ _ { line := 212, col := _, endLine := _, endCol := _ }) _) _) _ _ _)
  refine Mark.out ?_))))
  trivial
theorem law_c {h₀ : Heap} {L fa D1 Dt Dk lt : Addr} {cd : Value} {mg mb : Str → Option Value} {mean : ExcName → Option Value} {us kus : List Value} {ms : List Int} {kn : List Nat} {k1 kk : Nat} {tt : Nat → Tok} {o1 o2 o3 o4 o5 : Obj} {led : List (Addr × Obj)} {u0 : Str → Option Value} {x y : List Nat} {tx' ty' tK : Tok} {p r u v K : Int}
    (X : (hd.heap_1 w.params).In h₀) (T : Top lawView LS mean mg mb h₀) (hdp : dp + 100 < recursionLimit) (hu : un + 1000 < cLine)
    (im : IntsAre us ms) (hm8 : ms.length = 8) (hx : ∀ c ∈ x, c ∈ letters) (hy : ∀ c ∈ y, c ∈ letters) (hx1 : 1 ≤ x.length) (hx3 : x.length ≤ 3) (hy1 : 1 ≤ y.length) (hy2 : y.length ≤ 2)
    (ik : isKinds kn kus) (hk5 : kn.length = 5) (hk7 : ∀ k ∈ kn, k < 7)
    (d1 : o1.data = Data.cell (some (.str (tx x) tx'))) (d2 : o2.data = Data.cell (some (.str (tx y) ty'))) (d3 : o3.data = Data.cell (some (.ref Dt)))
    (hPI : PairIn led lt (x, (1, p, r, p * r + 1)) (y, (u * v + 1, u, v, 1))) (h0 : StOk x y K 15 5 (x, (1, p, r, p * r + 1)) (y, (u * v + 1, u, v, 1)))
    (F : Fr h₀ L s.heap (kstB u0 [(Str.ofString "things", .ref lt), (Str.ofString "kinds", .ref Dk), (Str.ofString "kept", .int K tK), (Str.ofString "draws", .ref D1)]))
    (N : News h₀ L s.heap ((Dt, textsO tt) :: (Dk, W.listOf (List.toArray kus) kk) :: (D1, W.listOf (List.toArray us) k1) :: (L + 1 + 1 + 1 + 1 + 1, o5) :: (L + 1 + 1 + 1 + 1, o4) :: (L + 1 + 1 + 1, o3) :: (L + 1 + 1, o2) :: (L + 1, o1) :: led))
    (nD1 : AllNe D1 [(L + 1 + 1 + 1 + 1 + 1, o5), (L + 1 + 1 + 1 + 1, o4), (L + 1 + 1 + 1, o3), (L + 1 + 1, o2), (L + 1, o1)]) (nDk : AllNe Dk [(D1, W.listOf (List.toArray us) k1), (L + 1 + 1 + 1 + 1 + 1, o5), (L + 1 + 1 + 1 + 1, o4), (L + 1 + 1 + 1, o3), (L + 1 + 1, o2), (L + 1, o1)]) (hlo : ∀ p ∈ led, @LT.lt Nat _ (L + 1 + 1 + 1 + 1 + 1) p.1)
    (hQ : ∀ h' tk Dst uss kss LED tK' tf u', StatesAre LED uss (trail kn ((x, (1, p, r, p * r + 1)), (y, (u * v + 1, u, v, 1)))) →
      AllNe Dst [(Dk, W.listOf (List.toArray kus) kk), (D1, W.listOf (List.toArray us) k1), (L + 1 + 1 + 1 + 1 + 1, o5), (L + 1 + 1 + 1 + 1, o4), (L + 1 + 1, o2), (L + 1, o1)] → AllNe Dk [(D1, W.listOf (List.toArray us) k1), (L + 1 + 1 + 1 + 1 + 1, o5), (L + 1 + 1 + 1 + 1, o4), (L + 1 + 1, o2), (L + 1, o1)] → AllNe D1 [(L + 1 + 1 + 1 + 1 + 1, o5), (L + 1 + 1 + 1 + 1, o4), (L + 1 + 1, o2), (L + 1, o1)] →
      (∀ p ∈ LED, p.1 ≠ L + 1 + 1 + 1 + 1) → (∀ p ∈ LED, p.1 ≠ L + 1 + 1 + 1 + 1 + 1) →
      Fr h₀ L h' (kstB u' [(Str.ofString "far", .int (price (x ++ y) (y ++ x)) tf), (Str.ofString "states", .ref Dst), (Str.ofString "kinds", .ref Dk), (Str.ofString "kept", .int K tK'), (Str.ofString "draws", .ref D1)]) →
      News h₀ L h' ((Dst, W.listOf (List.toArray uss) kss) :: (Dk, W.listOf (List.toArray kus) kk) :: (D1, W.listOf (List.toArray us) k1) :: (L + 1 + 1 + 1 + 1 + 1, o5) :: (L + 1 + 1 + 1 + 1, o4) :: (L + 1 + 1, o2) :: (L + 1, o1) :: LED) →
      wpAny (model prog w) ((top0 dp un fr gd).deeper (envOfC "law" lawScope L fa cd)) (execs lawRest12 (envOfC "law" lawScope L fa cd)) Q E { s with heap := h', toks := tk }) :
    wpAny (model prog w) ((top0 dp un fr gd).deeper (envOfC "law" lawScope L fa cd)) (execs lawRest9 (envOfC "law" lawScope L fa cd)) Q E s := by
  have stopq12 := True.intro
  have stopq13 := True.intro
  have stopq14 := True.intro
  have stopq15 := True.intro
  obtain ⟨heap, gens, drawn, toks, os⟩ := s
  dsimp only [kstB] at F N hQ ⊢
  conv in (lawRest9) => whnf
  conv in (occs := *) lawScope => all_goals whnf
  k_steps
  refine ⟨?_⟩
  refine' comp_E (m := mapOf F) (cl := [("texts", L + 1 + 1 + 1)]) F N (fun _ => true) (fun v y => ∃ t, y = Value.str (tx (textOf (numOf1 v).toNat)) t) ?hclos ?hcell ?hkind ?hnames ?hx ?_ ?hs
  walk_at "COMPE"
  k_steps
  walk_at "DONE"
  (with_reducible rename Fr _ _ _ _ => F1); (with_reducible rename News _ _ _ _ => N1)
  have kC : CellIs _ (L + 1 + 1 + 1) (.ref Dt) := CellIs.of N1 (.tail _ (.tail _ (.tail _ (.tail _ (.tail _ (.head _)))))) d3 rfl
  have ilt : Heap.IsList _ Dt _ := PySem.IsL.isList (N1 _ (.head _)).1
  have hkl : kus.length = 5 := by rw [IntsAre.length ik, List.length_map, hk5]
  refine ⟨_, _, src_list rfl (PySem.IsL.isList (N1 (Dk, _) (.tail _ (.head _))).1) (by rw [PySem.sizeLine_eq, hkl]; exact Nat.le_of_ble_eq_true rfl), CompOk.plain ?_, F1, N1, ?_⟩
  · intro C u i v s₂ E' hP FB NB
    obtain ⟨hp2, g2, d2, tk2, os2⟩ := s₂
    obtain ⟨tv, hv, hn⟩ := ints_at ik i v hP
    have hmem := List.mem_of_getElem? hn
    obtain ⟨k, hk, ek⟩ := List.mem_map.mp hmem
    have hk' := hk7 k hk
    rw [hv] at hP ⊢
    rw [← ek] at hv
    subst hv
    have kE := InElt.start hp2
    have X' := X.keeps F1.keep
    have T' := T.keeps F1.keep
    clear F1 N1 hP hn hmem ek
    have hq : ∀ k, k < 7 → ∃ t, [Value.str (Str.ofString "x+=y") (tt 0), .str (Str.ofString "y+=x") (tt 1), .str (Str.ofString "x=x+y") (tt 2), .str (Str.ofString "y=y+x") (tt 3), .str (Str.ofString "x=y+x") (tt 4), .str (Str.ofString "y=x+y") (tt 5), .str (Str.ofString "x,y=y,x") (tt 6)][k]? = some (.str (tx (textOf k)) t) := by
      intro k hk
      match k, hk with
      | 0, _ => exact ⟨_, by with_unfolding_all rfl⟩
      | 1, _ => exact ⟨_, by with_unfolding_all rfl⟩
      | 2, _ => exact ⟨_, by with_unfolding_all rfl⟩
      | 3, _ => exact ⟨_, by with_unfolding_all rfl⟩
      | 4, _ => exact ⟨_, by with_unfolding_all rfl⟩
      | 5, _ => exact ⟨_, by with_unfolding_all rfl⟩
      | 6, _ => exact ⟨_, by with_unfolding_all rfl⟩
    obtain ⟨tq, hq⟩ := hq k hk'
    have ilt' := isl_keeps ilt FB.keep
    clear ilt
    k_steps
    (all_goals (try (first | exact (0 : Addr) | exact (default : Str) | exact Value.none | exact ([] : List (Str × Addr)))))
    refine ⟨?_⟩
    refine item_k (s := ⟨_, _, _, _, _⟩) ilt' hq (by omega) ?_ (by with_unfolding_all rfl) (by intro _; with_unfolding_all rfl)
    k_steps
    walk_at "BLKEND"
    exact ⟨tq, congrArg (fun z => Value.str (tx (textOf z)) tq) (Int.toNat_natCast k).symm⟩
  intro Dp pus kp vs' h' tk' F' N' hne hl hP hG
  rw [List.filter_eq_self.mpr (fun _ _ => rfl)] at hG
  have hT := texts_pair ik (vals_of hl hP ▸ hG)
  clear hl hP hG hne kC ilt
  dsimp only [mapOf] at F' N'
  clear F1 N1
  walk_at "DONE"
  (try k_unmd)
  k_steps
  refine ⟨?_⟩
  (with_reducible rename Fr _ _ _ _ => F2); (with_reducible rename News _ _ _ _ => N2)
  refine join_texts (s := ⟨_, _, _, _, _⟩) (PySem.IsL.isList (N2 _ (.head _)).1) hT ?_ (by rw [List.length_map, hk5]; exact Nat.le_of_ble_eq_true rfl) _ ?_
  · intro l hl
    obtain ⟨k, _, rfl⟩ := List.mem_map.mp hl
    exact textOf_len k
  intro tk3 t3
  rw [glue_prog]
  dsimp only
  k_steps
  refine ⟨?_⟩
  refine' symbols_spec (s := ⟨_, _, _, _, _⟩) (Base.of X T F2) ?k2 ?k3 _ _ ?k4 (progText_lt kn) (lex_prog kn) ?_
  case k2 => walk_at "DEPTH"
  case k3 => walk_at "DEPTH"
  case k4 => have := progText_len kn; omega
  intro h3 tk4 Ds sus ks K3 n3 z3 is3
  rw [fullSyms_prog kn (by intro e; rw [e] at hk5; simp at hk5)] at is3
  have N3 := news_add F2 N2 K3 n3 z3
  have F3 := F2.keeps K3
  clear N2 F2 K3 n3 z3 hT
  dsimp only at F3 N3 ⊢
  k_steps
  refine ⟨?_⟩
  (with_reducible rename Fr _ _ _ _ => F4); (with_reducible rename News _ _ _ _ => N4)
  have hsl : sus.length ≤ 900 := by
    have h1 := fullSyms_len kn
    rw [is3.length]
    omega
  refine' states_spec (s := ⟨_, _, _, _, _⟩) (Base.of X T F4) ?k2 ?k3 is3 hsl (PySem.IsL.isList (N4 _ (.head _)).1) (by omega) (led := led) ?k4 (S0 := ((x, (1, p, r, p * r + 1)), (y, (u * v + 1, u, v, 1)))) hPI h0 ?_
  case k2 => walk_at "DEPTH"
  case k3 => walk_at "DEPTH"
  case k4 =>
    intro p hp
    exact (N4 p (by
      show p ∈ [_, _, _, _, _, _, _, _, _, _] ++ led
      exact List.mem_append_right _ hp)).1
  intro h5 tk5 Dst uss kss led' K5 hn5 n5 z5 hSt
  have N5 := news_addAll F4 N4 K5 hn5
  have F5 := F4.keeps K5
  have N4' := news_add F4 N4 K5 n5 z5
  have nst := made_ne N4 n5
  have hLED : ∀ a o, (a, o) ∈ [(L + 1 + 1 + 1 + 1 + 1, o5), (L + 1 + 1 + 1 + 1, o4)] → ∀ p ∈ led' ++ led, p.1 ≠ a := by
    intro a o ha p hp
    rcases List.mem_append.mp hp with hp | hp
    · have hmem : (a, o) ∈ ((Ds, W.listOf sus.toArray ks) :: (Dp, W.listOf pus.toArray kp) :: (Dt, textsO tt) :: (Dk, W.listOf kus.toArray kk) :: (D1, W.listOf us.toArray k1) :: (L + 1 + 1 + 1 + 1 + 1, o5) :: (L + 1 + 1 + 1 + 1, o4) :: (L + 1 + 1 + 1, o3) :: (L + 1 + 1, o2) :: (L + 1, o1) :: led) := by
        rcases List.mem_cons.mp ha with e | ha
        · rw [e]; k_mem
        · rw [List.mem_singleton.mp ha]; k_mem
      exact led_ne hn5 (N4 _ hmem).1 p hp
    · have h1 := hlo p hp
      rcases List.mem_cons.mp ha with e | ha
      · rw [show a = _ from congrArg Prod.fst e]; exact Nat.ne_of_gt h1
      · rw [show a = _ from congrArg Prod.fst (List.mem_singleton.mp ha)]
        exact Nat.ne_of_gt (Nat.lt_of_succ_lt h1)
  have hL5 := hLED _ _ (.head _)
  have hL4 := hLED _ _ (.tail _ (.head _))
  have N6 : News h₀ L h5 ((Dst, W.listOf (List.toArray uss) kss) :: (Dk, W.listOf (List.toArray kus) kk) :: (D1, W.listOf (List.toArray us) k1) :: (L + 1 + 1 + 1 + 1 + 1, o5) :: (L + 1 + 1 + 1 + 1, o4) :: (L + 1 + 1, o2) :: (L + 1, o1) :: (led' ++ led)) := by
    intro p hp
    have hp0 : p ∈ [_, _, _, _, _, _, _] ++ (led' ++ led) := hp
    clear hp
    rcases List.mem_append.mp hp0 with hp | hp
    · refine N4' p ?_
      clear hp0
      revert p
      walk_at "MEMS"
    · rcases List.mem_append.mp hp with hp | hp
      · exact N5 p (List.mem_append_left _ hp)
      · exact N5 p (List.mem_append_right _ (by
          show p ∈ [_, _, _, _, _, _, _, _, _, _] ++ led
          exact List.mem_append_right _ hp))
  have nDst : AllNe Dst [(Dk, W.listOf (List.toArray kus) kk), (D1, W.listOf (List.toArray us) k1), (L + 1 + 1 + 1 + 1 + 1, o5), (L + 1 + 1 + 1 + 1, o4), (L + 1 + 1, o2), (L + 1, o1)] := by
    refine allNe_of fun p hp => nst p ?_
    revert p
    walk_at "MEMS"
  clear N4' N5 nst hLED N4 F4 K5 hn5 n5 z5
  dsimp only at F5 N6 ⊢
  have hx128 : ∀ c ∈ x, c < 128 := fun c hc => lets_lt c (hx c hc)
  have hy128 : ∀ c ∈ y, c < 128 := fun c hc => lets_lt c (hy c hc)
  k_steps
  refine ⟨?_⟩
  (with_reducible rename Fr _ _ _ _ => F7); (with_reducible rename News _ _ _ _ => N7)
  refine' price_spec (s := ⟨_, _, _, _, _⟩) (Base.of X T F7) ?k2 ?k3 x y _ _ (by omega) (by omega) hx128 hy128 ?_
  case k2 => walk_at "DEPTH"
  case k3 => walk_at "DEPTH"
  intro h8 tk8 t8 K8
  have F8 := F7.keeps K8
  have N8 := N7.grown K8
  clear F7 N7 K8
  dsimp only at F8 N8 ⊢
  k_steps
  refine ⟨?_⟩
  (with_reducible rename Fr _ _ _ _ => F7); (with_reducible rename News _ _ _ _ => N7)
  refine' isfar_spec (s := ⟨_, _, _, _, _⟩) (Base.of X T F7) ?k2 ?k3 x y (price x y) _ _ _ (by omega) (by omega) hx128 hy128 ?_
  case k2 => walk_at "DEPTH"
  case k3 => walk_at "DEPTH"
  intro h9 tk9 K9
  have hok := pair_ok (x := x) (y := y) hx hy hx1 hx3 hy1 hy2
  rw [decide_eq_true ⟨hok.w1, hok.w2⟩]
  have F9 := F7.keeps K9
  have N9 := N7.grown K9
  clear F7 N7 K9 
  dsimp only at F9 N9 ⊢
  k_steps
  refine ⟨?_⟩
  (with_reducible rename Fr _ _ _ _ => F7); (with_reducible rename News _ _ _ _ => N7)
  have hxy128 : ∀ c ∈ x ++ y, c < 128 := fun c hc => (List.mem_append.mp hc).elim (hx128 c) (hy128 c)
  have hyx128 : ∀ c ∈ y ++ x, c < 128 := fun c hc => (List.mem_append.mp hc).elim (hy128 c) (hx128 c)
  refine' price_spec (s := ⟨_, _, _, _, _⟩) (Base.of X T F7) ?k2 ?k3 (x ++ y) (y ++ x) _ _ (by rw [List.length_append]; omega) (by rw [List.length_append]; omega) hxy128 hyx128 ?_
  case k2 => walk_at "DEPTH"
  case k3 => walk_at "DEPTH"
  intro h10 tk10 t10 K10
  have F10 := F7.keeps K10
  have N10 := N7.grown K10
  clear F7 N7 K10
  dsimp only at F10 N10 ⊢
  k_steps
  refine ⟨?_⟩
  (with_reducible rename Fr _ _ _ _ => F11); (with_reducible rename News _ _ _ _ => N11)
  obtain ⟨u', F12⟩ := canon F11 [(Str.ofString "far", .int (price (x ++ y) (y ++ x)) _), (Str.ofString "states", .ref Dst), (Str.ofString "kinds", .ref Dk), (Str.ofString "kept", .int K tK), (Str.ofString "draws", .ref D1)] (by walk_at "HK")
  exact hQ _ _ _ _ _ _ _ _ _ hSt nDst ⟨nDk.1, nDk.2.1, nDk.2.2.1, nDk.2.2.2.2⟩ ⟨nD1.1, nD1.2.1, nD1.2.2.2⟩ hL4 hL5 F12 N11
end

section
variable {prog : Program} {w : World} {A : Around} {E : Value → Shared → Prop} {s : Shared} {env : Env} {h₀ : Heap} {target : Expr} {body : List Stmt} {Q : Flow → Shared → Prop} {σ : Type}
/-- the same, where the ledger turns -/
theorem kt_listG {ax : Addr} {lo : Obj} {vs : List Value} {n : Nat} {m₀ : Str → Option Value} (Led : σ → List (Addr × Obj)) (ps : σ → List (Str × Value)) (P : Nat → σ → Prop) (c₀ : σ)
    (hh : A.handled = none) (hm : ∀ c, (ax, lo) ∈ Led c) (hc : lo.cls = .type "list") (hd : lo.data = .seq vs.toArray n) (F : Fr h₀ env.locals s.heap m₀) (N : News h₀ env.locals s.heap (Led c₀)) (hk : Has m₀ (ps c₀)) (hp : P 0 c₀)
    (turn : ∀ (c : σ) (i : Nat) v (u : Str → Option Value) h tk I oI, i < vs.length → vs[i]? = some v → (∀ p ∈ Led c, p.1 ≠ I) → P i c →
      Fr h₀ env.locals h (kstB u (ps c)) → News h₀ env.locals h (Led c ++ [(I, oI)]) →
      wpAny (model prog w) A (assign target env v) (fun _ s₃ => wpAny (model prog w) A (execs body env) (KgPost h₀ env.locals Led ps (P (i + 1)) I oI { s with heap := h, toks := tk } Q) E s₃) E { s with heap := h, toks := tk })
    (done : ∀ (c : σ) (u : Str → Option Value) h tk, P vs.length c → Fr h₀ env.locals h (kstB u (ps c)) → News h₀ env.locals h (Led c) → Q .next { s with heap := h, toks := tk }) :
    wpAny (model prog w) A (pyIter (.ref ax)) (fun it s₂ => TurnsAt prog w A h₀ env target body Q E it s₂) E s := by
  have hax := N _ (hm c₀)
  have hl : s.heap.IsList ax vs.toArray := ⟨lo, hax.1, hc, n, hd⟩
  have hlt : ax < s.heap.objs.size := Heap.lt_size hax.1
  have hne : ax ≠ s.heap.objs.size := Nat.ne_of_lt hlt
  refine wpAny_pyIter_list hl ?_
  have W0 := Walks.list (prog := prog) (w := w) (A := A) hh s.heap.objs.size ax hne vs.toArray
  simp only [List.size_toArray, List.getElem?_toArray] at W0
  refine ⟨s.heap.objs.size, _, _, _, _, _, _, m₀, Led c₀, fun i m nx => ∃ c : σ, nx = Led c ∧ (∀ p ∈ ps c, m p.1 = some p.2) ∧ P i c, rfl,
    KTurns.ofWalks W0 fun i v s Q E st q => letGo_listiter st.1 q, ?_, ?_, ?_, ⟨⟨_, Heap.get?_push_size _ rfl, rfl, rfl⟩, hl.push _⟩, F.push _, fun p hp => ⟨Heap.get?_push_of_some _ (N p hp).1, (N p hp).2⟩, ⟨c₀, rfl, hk, hp⟩, ?_, ?_⟩
  · intro hI
    rcases List.mem_cons.mp hI with e | hI
    · exact absurd F.ns.lt (e ▸ Nat.lt_irrefl _)
    · exact hax.2.1 (List.mem_singleton.mp hI).symm
  · intro b hb
    rw [List.mem_singleton.mp hb]
    exact next_is_new F
  · intro p hp hI
    exact absurd (Heap.lt_size (N p hp).1) ((List.mem_singleton.mp hI) ▸ Nat.lt_irrefl _)
  · rintro i v m₁ nx h₁ tk₁ own hin hP ⟨c, rfl, h1, hp'⟩ hnw hof hown hall hst₁ F₁ N₁
    obtain ⟨oI, hoI⟩ : ∃ oI, h₁.get? s.heap.objs.size = some oI := by
      obtain ⟨⟨o, e, _⟩, _⟩ := hst₁
      exact ⟨o, e⟩
    have hmI : (s.heap.objs.size, oI) ∈ own := hall _ (.head _) (next_is_new F) oI hoI
    have hax₁ := N₁ (ax, lo) (List.mem_append_right _ (hm c))
    have hone : ∀ p ∈ own, p = (s.heap.objs.size, oI) ∨ p = (ax, lo) := by
      intro p hp
      have hg := hown p hp
      rcases List.mem_cons.mp (hof p hp) with e | e
      · left
        rw [e, hoI] at hg
        exact Prod.ext e (Option.some.inj hg.symm)
      · right
        have e := List.mem_singleton.mp e
        rw [e, hax₁.1] at hg
        exact Prod.ext e (Option.some.inj hg.symm)
    obtain ⟨u, F₂⟩ := canon F₁ (ps c) h1
    have N₂ : News h₀ env.locals h₁ (Led c ++ [(s.heap.objs.size, oI)]) := news_sub N₁ fun p hp => by
      rcases List.mem_append.mp hp with h | h
      · exact List.mem_append_right _ h
      · rw [List.mem_singleton.mp h]; exact List.mem_append_left _ hmI
    have ht := turn c i v u h₁ tk₁ s.heap.objs.size oI hin hP (fun p hp q => hnw p hp (by rw [q]; exact .head _)) hp' F₂ N₂
    refine wpAny_mono ht (fun _ s₃ x => wpAny_mono x (fun f s₂ q => ?_) fun _ _ e => e) fun _ _ e => e
    have fin : Mark (KgEnd h₀ env.locals Led ps (P (i + 1)) s.heap.objs.size oI { s with heap := h₁, toks := tk₁ } s₂) → LoopStepU h₀ env.locals [s.heap.objs.size] own (fun m nx' => ∃ c : σ, nx' = Led c ∧ (∀ p ∈ ps c, m p.1 = some p.2) ∧ P (i + 1) c) { s with heap := h₁, toks := tk₁ } .next s₂ := by
      rintro ⟨c', h', tk, m', news', rfl, F', N', hn, hi, hI', hk', hp''⟩
      refine LoopStepU.intro (s₁ := { s with heap := h₁, toks := tk₁ }) F' (news_sub N' fun p hp => ?_) (fun p hp q => hI' p hp (List.mem_singleton.mp q)) ⟨c', rfl, hk', hp''⟩
      rcases List.mem_append.mp hp with h | h
      · rcases hone p h with e | e
        · rw [e]; exact hi
        · rw [e]; exact hn _ (hm c')
      · exact hn p h
    cases f with
    | ret v => exact .ret q
    | brk => exact .brk q
    | next => exact .next (fin q)
    | cont => exact .cont (fin q)
  · rintro h' tk m' news' F' N' _ ⟨c, rfl, h1, hp'⟩
    obtain ⟨u, F₂⟩ := canon F' (ps c) h1
    exact done c u h' tk hp' F₂ N'
/-- over a list of the ledger, whatever the target -/
theorem kt_list {ax : Addr} {lo : Obj} {vs : List Value} {n : Nat} {m₀ : Str → Option Value} (Led : List (Addr × Obj)) (ps : σ → List (Str × Value)) (P : Nat → σ → Prop) (c₀ : σ)
    (hh : A.handled = none) (hm : (ax, lo) ∈ Led) (hc : lo.cls = .type "list") (hd : lo.data = .seq vs.toArray n) (F : Fr h₀ env.locals s.heap m₀) (N : News h₀ env.locals s.heap Led) (hk : Has m₀ (ps c₀)) (hp : P 0 c₀)
    (turn : ∀ (c : σ) (i : Nat) v (u : Str → Option Value) h tk I oI, i < vs.length → vs[i]? = some v → (∀ p ∈ Led, p.1 ≠ I) → P i c →
      Fr h₀ env.locals h (kstB u (ps c)) → News h₀ env.locals h (Led ++ [(I, oI)]) →
      wpAny (model prog w) A (assign target env v) (fun _ s₃ => wpAny (model prog w) A (execs body env) (KgPost h₀ env.locals (fun _ => Led) ps (P (i + 1)) I oI { s with heap := h, toks := tk } Q) E s₃) E { s with heap := h, toks := tk })
    (done : ∀ (c : σ) (u : Str → Option Value) h tk, P vs.length c → Fr h₀ env.locals h (kstB u (ps c)) → News h₀ env.locals h Led → Q .next { s with heap := h, toks := tk }) :
    wpAny (model prog w) A (pyIter (.ref ax)) (fun it s₂ => TurnsAt prog w A h₀ env target body Q E it s₂) E s :=
  kt_listG (fun _ => Led) ps P c₀ hh (fun _ => hm) hc hd F N hk hp turn done
end

noncomputable def lawRest13 : List Stmt := (bodyOf "law").drop 13
theorem StatesAre.get {led : List (Addr × Obj)} {us : List Value} {Ss : List (Thing × Thing)} (h : StatesAre led us Ss) : ∀ {i : Nat} {v : Value}, us[i]? = some v → ∃ r S, v = .ref r ∧ Ss[i]? = some S ∧ PairIn led r S.1 S.2 := by
  induction h with
  | nil => intro i v e; simp at e
  | @cons r S us Ss h1 _ ih =>
    intro i v e
    cases i with
    | zero => simp at e; exact ⟨r, S, e.symm, rfl, h1⟩
    | succ i =>
      obtain ⟨r', S', e1, e2, e3⟩ := ih (i := i) (v := v) (by simpa using e)
      exact ⟨r', S', e1, by simpa using e2, e3⟩
structure AhS where
  a : List Nat
  b : List Nat
  ta : Tok
  tb : Tok
noncomputable def ahNames : Option AhS → List (Str × Value)
  | none => []
  | some z => [(Str.ofString "ahead", .str (tx z.a) z.ta), (Str.ofString "behind", .str (tx z.b) z.tb)]
noncomputable def ahAt (kn : List Nat) (S0 : Thing × Thing) (i : Nat) : Option AhS → Prop
  | none => i = 0
  | some z => ∃ S, 0 < i ∧ (trail kn S0)[i - 1]? = some S ∧ z.a = S.1.1 ++ S.2.1 ∧ z.b = S.2.1 ++ S.1.1
theorem lets4_lt : ∀ c ∈ letters4, c < 128 := by decide
section
variable {prog : Program} {w : World} {dp un : Nat} {fr : Option (List Env)} {gd : Option (List Code)} {s : Shared} {Q : Flow → Shared → Prop}
example : True := by
  (k_with "exec For Tuple Name cons nil" => ((guard_hyp stopq16 : True); ((refine Mark.out ?_))))
  trivial
example : True := by
  (k_with "call ref" => ((guard_hyp stopq17 : True); ((refine Mark.out ?_))))
  trivial
theorem law_d {h₀ : Heap} {L fa D1 Dk Dst : Addr} {cd : Value} {mg mb : Str → Option Value} {mean : ExcName → Option Value} {us kus uss : List Value} {kn : List Nat} {k1 kk kss : Nat} {o1 o2 o4 o5 : Obj} {LED : List (Addr × Obj)} {u0 : Str → Option Value} {x y : List Nat} {tK tf : Tok} {K far : Int} {S0 : Thing × Thing}
    (X : (hd.heap_1 w.params).In h₀) (T : Top lawView LS mean mg mb h₀) (hdp : dp + 100 < recursionLimit) (hu : un + 1000 < cLine)
    (hpo : PairOk x y) (hfar : far = price (x ++ y) (y ++ x)) (hk5 : kn.length = 5)
    (h0 : StOk x y K 15 5 S0.1 S0.2) (hSt : StatesAre LED uss (trail kn S0))
    (F : Fr h₀ L s.heap (kstB u0 [(Str.ofString "far", .int far tf), (Str.ofString "states", .ref Dst), (Str.ofString "kinds", .ref Dk), (Str.ofString "kept", .int K tK), (Str.ofString "draws", .ref D1)]))
    (N : News h₀ L s.heap ((Dst, W.listOf (List.toArray uss) kss) :: (Dk, W.listOf (List.toArray kus) kk) :: (D1, W.listOf (List.toArray us) k1) :: (L + 1 + 1 + 1 + 1 + 1, o5) :: (L + 1 + 1 + 1 + 1, o4) :: (L + 1 + 1, o2) :: (L + 1, o1) :: LED))
    (hQ : ∀ h' tk ta tb tf u', 
      Fr h₀ L h' (kstB u' [(Str.ofString "ahead", .str (tx ((runAll kn S0).1.1 ++ (runAll kn S0).2.1)) ta), (Str.ofString "behind", .str (tx ((runAll kn S0).2.1 ++ (runAll kn S0).1.1)) tb), (Str.ofString "far", .int far tf), (Str.ofString "states", .ref Dst), (Str.ofString "kinds", .ref Dk), (Str.ofString "draws", .ref D1)]) →
      News h₀ L h' ((Dst, W.listOf (List.toArray uss) kss) :: (Dk, W.listOf (List.toArray kus) kk) :: (D1, W.listOf (List.toArray us) k1) :: (L + 1 + 1 + 1 + 1 + 1, o5) :: (L + 1 + 1 + 1 + 1, o4) :: (L + 1 + 1, o2) :: (L + 1, o1) :: LED) →
      wpAny (model prog w) ((top0 dp un fr gd).deeper (envOfC "law" lawScope L fa cd)) (execs lawRest13 (envOfC "law" lawScope L fa cd)) Q (fun _ _ => False) { s with heap := h', toks := tk }) :
    wpAny (model prog w) ((top0 dp un fr gd).deeper (envOfC "law" lawScope L fa cd)) (execs lawRest12 (envOfC "law" lawScope L fa cd)) Q (fun _ _ => False) s := by
  have stopq16 := True.intro
  have stopq17 := True.intro
  obtain ⟨heap, gens, drawn, toks, os⟩ := s
  dsimp only [kstB] at F N hQ ⊢
  conv in (lawRest12) => whnf
  conv in (occs := *) lawScope => all_goals whnf
  k_steps
  refine ⟨?_⟩
  refine For_turns F ?_ (by intro _; with_unfolding_all rfl) passes_none
  k_steps
  refine ⟨?_⟩
  (with_reducible rename Fr _ _ _ _ => F1); (with_reducible rename News _ _ _ _ => N1)
  refine kt_list (σ := Option AhS) (vs := uss) ((Dst, W.listOf (List.toArray uss) kss) :: (Dk, W.listOf (List.toArray kus) kk) :: (D1, W.listOf (List.toArray us) k1) :: (L + 1 + 1 + 1 + 1 + 1, o5) :: (L + 1 + 1 + 1 + 1, o4) :: (L + 1 + 1, o2) :: (L + 1, o1) :: LED)
    (fun c => ahNames c ++ [(Str.ofString "far", .int far tf), (Str.ofString "states", .ref Dst), (Str.ofString "kinds", .ref Dk), (Str.ofString "kept", .int K tK), (Str.ofString "draws", .ref D1)])
    (ahAt kn S0) none rfl (.head _) rfl rfl F1 N1 ?_ rfl ?_ ?_
  · walk_at "HK"
  · clear F1 N1
    intro c i v u h tk I oI hi hv hnw hP F1 N1
    obtain ⟨r, S, rfl, hS, hPI⟩ := hSt.get hv
    obtain ⟨js, hj, hjs⟩ := trail_mem kn S0 S (List.mem_of_getElem? hS)
    have hok := h0.run5 (ks := js) (by omega)
    rw [← hjs] at hok
    clear hjs hj js
    obtain ⟨r0, r1, oP, hmP, hLP, ⟨w0, q0, cs0, kw0, tq0, m1, m2, c0, m3⟩, ⟨w1, q1, cs1, kw1, tq1, m4, m5, c1, m6⟩⟩ := hPI
    have hsz := hok.sz
    have l0 : S.1.1.length ≤ 1000 := by omega
    have l1' : S.2.1.length ≤ 1000 := by omega
    have l01 : (S.1.1 ++ S.2.1).length ≤ 1000 := by rw [List.length_append]; omega
    have l10 : (S.2.1 ++ S.1.1).length ≤ 1000 := by rw [List.length_append]; omega
    have s0 : cs0.length ≤ 1000 := by rw [c0.length]; omega
    have s1 : cs1.length ≤ 1000 := by rw [c1.length]; omega
    have c01 := c0.append c1
    have c10 := c1.append c0
    have hL : ∀ p ∈ LED, p ∈ LED ++ [(I, oI)] := fun p hp => List.mem_append_left _ hp
    have N2 : News h₀ L h ((r0, tupO #[.ref w0, .ref q0]) :: (w0, W.listOf (List.toArray cs0) kw0) :: (q0, quadO S.1.2 tq0) :: (r1, tupO #[.ref w1, .ref q1]) :: (w1, W.listOf (List.toArray cs1) kw1) :: (q1, quadO S.2.2 tq1) :: (Dst, W.listOf (List.toArray uss) kss) :: (Dk, W.listOf (List.toArray kus) kk) :: (D1, W.listOf (List.toArray us) k1) :: (L + 1 + 1 + 1 + 1 + 1, o5) :: (L + 1 + 1 + 1 + 1, o4) :: (L + 1 + 1, o2) :: (L + 1, o1) :: (LED ++ [(I, oI)])) := by
      have hLL : ∀ p ∈ LED, p ∈ ((Dst, W.listOf (List.toArray uss) kss) :: (Dk, W.listOf (List.toArray kus) kk) :: (D1, W.listOf (List.toArray us) k1) :: (L + 1 + 1 + 1 + 1 + 1, o5) :: (L + 1 + 1 + 1 + 1, o4) :: (L + 1 + 1, o2) :: (L + 1, o1) :: LED) ++ [(I, oI)] := fun p hp => List.mem_append_left _ (by
        show p ∈ [_, _, _, _, _, _, _] ++ LED
        exact List.mem_append_right _ hp)
      intro p hp
      rcases List.mem_append.mp (show p ∈ [_, _, _, _, _, _] ++ ((Dst, W.listOf (List.toArray uss) kss) :: (Dk, W.listOf (List.toArray kus) kk) :: (D1, W.listOf (List.toArray us) k1) :: (L + 1 + 1 + 1 + 1 + 1, o5) :: (L + 1 + 1 + 1 + 1, o4) :: (L + 1 + 1, o2) :: (L + 1, o1) :: (LED ++ [(I, oI)])) from hp) with hp6 | hp
      · refine N1 p (hLL p ?_)
        clear hp hLL hL N1 F1
        revert p
        refine List.forall_mem_cons.mpr ⟨m1, List.forall_mem_cons.mpr ⟨m2, List.forall_mem_cons.mpr ⟨m3, List.forall_mem_cons.mpr ⟨m4, List.forall_mem_cons.mpr ⟨m5, List.forall_mem_cons.mpr ⟨m6, List.forall_mem_nil _⟩⟩⟩⟩⟩⟩
      · exact N1 p hp
    have itP : h.IsList r #[Value.ref r0, .ref r1] := ⟨oP, (N1 (r, oP) (List.mem_append_left _ (by
      show (r, oP) ∈ [_, _, _, _, _, _, _] ++ LED
      exact List.mem_append_right _ hmP))).1, hLP.1, hLP.2⟩
    obtain ⟨u2, F2⟩ := canon F1 [(Str.ofString "far", .int far tf), (Str.ofString "states", .ref Dst), (Str.ofString "kinds", .ref Dk), (Str.ofString "kept", .int K tK), (Str.ofString "draws", .ref D1)] (by
      cases c with
      | none => dsimp only [ahNames, List.nil_append, kstB]; walk_at "HK"
      | some z => dsimp only [ahNames, List.cons_append, List.nil_append, kstB]; walk_at "HK")
    clear F1
    dsimp only [kstB] at F2
    refine kun_list (s := ⟨_, _, _, _, _⟩) F2 N2 itP rfl rfl rfl ?_
    intro h2 F3 N3
    clear F2 N2 N1 itP m1 m2 m3 m4 m5 m6 hmP hLP hL
    dsimp only at F3 N3 ⊢
    k_steps
    refine ⟨?_⟩
    (with_reducible rename Fr _ _ _ _ => F4); (with_reducible rename News _ _ _ _ => N4)
    refine' concat_spec (s := ⟨_, _, _, _, _⟩) (Base.of X T F4) ?k2 ?k3 (N4 (w0, _) (by k_mem)).1 (N4 (w1, _) (by k_mem)).1 s0 s1 ?_
    case k2 => walk_at "DEPTH"
    case k3 => walk_at "DEPTH"
    intro h4 tk4 Dc K4 n4 z4
    have N5 := news_addL F4 N4 K4 n4 z4
    have F5 := F4.keeps K4
    clear F4 N4 K4 n4 z4
    dsimp only at F5 N5 ⊢
    k_steps
    refine ⟨?_⟩
    (with_reducible rename Fr _ _ _ _ => F4); (with_reducible rename News _ _ _ _ => N4)
    refine' concat_spec (s := ⟨_, _, _, _, _⟩) (Base.of X T F4) ?k2 ?k3 (N4 (w1, _) (by k_mem)).1 (N4 (w0, _) (by k_mem)).1 s1 s0 ?_
    case k2 => walk_at "DEPTH"
    case k3 => walk_at "DEPTH"
    intro h4 tk4 Dc K4 n4 z4
    have N5 := news_addL F4 N4 K4 n4 z4
    have F5 := F4.keeps K4
    clear F4 N4 K4 n4 z4
    dsimp only at F5 N5 ⊢
    k_steps
    refine ⟨?_⟩
    (with_reducible rename Fr _ _ _ _ => F7); (with_reducible rename News _ _ _ _ => N7)
    have h01 : ∀ c ∈ S.1.1 ++ S.2.1, c < 128 := fun c hc => lets4_lt c (lets_app hok.la hok.lb c hc)
    have h10 : ∀ c ∈ S.2.1 ++ S.1.1, c < 128 := fun c hc => lets4_lt c (lets_app hok.lb hok.la c hc)
    refine' isfar_spec (s := ⟨_, _, _, _, _⟩) (Base.of X T F7) ?k2 ?k3 (S.1.1 ++ S.2.1) (S.2.1 ++ S.1.1) far _ _ _ l01 l10 h01 h10 ?_
    case k2 => walk_at "DEPTH"
    case k3 => walk_at "DEPTH"
    intro h9 tk9 K9
    have hff := hok.far hpo
    rw [← hfar] at hff
    rw [decide_eq_true ⟨hff.1, hff.2.1⟩]
    have F9 := F7.keeps K9
    have N9 := N7.grown K9
    clear F7 N7 K9
    dsimp only at F9 N9 ⊢
    k_steps
    refine ⟨?_⟩
    (with_reducible rename Fr _ _ _ _ => F7); (with_reducible rename News _ _ _ _ => N7)
    refine' kept_spec (s := ⟨_, _, _, _, _⟩) (Base.of X T F7) ?k2 ?k3 (N7 (q0, _) (by k_mem)).1 (N7 (q1, _) (by k_mem)).1 hok.qa hok.qb (by omega) ?_
    case k2 => walk_at "DEPTH"
    case k3 => walk_at "DEPTH"
    intro h11 tk11 t11 K11
    rw [hok.kept]
    have F11 := F7.keeps K11
    have N11 := N7.grown K11
    clear F7 N7 K11
    dsimp only at F11 N11 ⊢
    k_steps
    · (rename K ≠ K => hne)
      exact absurd rfl hne
    · (with_reducible rename Fr _ _ _ _ => F12); (with_reducible rename News _ _ _ _ => N12)
      obtain ⟨ta, hta⟩ : ∃ t, mapOf F12 (Str.ofString "ahead") = some (.str (tx (S.1.1 ++ S.2.1)) t) := ⟨_, rfl⟩
      obtain ⟨tb, htb⟩ : ∃ t, mapOf F12 (Str.ofString "behind") = some (.str (tx (S.2.1 ++ S.1.1)) t) := ⟨_, rfl⟩
      have hb5 : ∀ p ∈ [(Str.ofString "far", Value.int far tf), (Str.ofString "states", .ref Dst), (Str.ofString "kinds", .ref Dk), (Str.ofString "kept", .int K tK), (Str.ofString "draws", .ref D1)], mapOf F12 p.1 = some p.2 := by
        dsimp only [mapOf]
        walk_at "HK"
      refine kg_end (some (⟨S.1.1 ++ S.2.1, S.2.1 ++ S.1.1, ta, tb⟩ : AhS)) F12 N12 ?_ ?_ ?_ ?_ ?_
      · intro p hp
        exact List.mem_append_right [_, _, _, _, _, _, _, _] (List.mem_append_left [(I, oI)] hp)
      · show (I, oI) ∈ [_, _, _, _, _, _, _, _, _, _, _, _, _, _, _] ++ (LED ++ [(I, oI)])
        exact List.mem_append_right _ (List.mem_append_right _ (.head _))
      · exact hnw
      · intro p hp
        rcases List.mem_cons.mp hp with rfl | hp
        · exact hta
        · rcases List.mem_cons.mp hp with rfl | hp
          · exact htb
          · exact hb5 p hp
      · exact ⟨S, Nat.succ_pos i, by rw [Nat.add_sub_cancel]; exact hS, rfl, rfl⟩
  · clear F1 N1
    intro c u h tk hP F1 N1
    have hul : uss.length = 6 := by rw [hSt.length, trail_len, hk5]
    cases c with
    | none => exact absurd (show uss.length = 0 from hP) (by omega)
    | some z =>
      obtain ⟨a, b, ta, tb⟩ := z
      obtain ⟨S, _, hS, ha, hb⟩ := hP
      obtain ⟨pre, hpre⟩ := trail_last kn S0
      have hpl : pre.length = 5 := by
        have e := congrArg List.length hpre
        rw [trail_len, List.length_append, hk5] at e
        simpa using e.symm
      rw [hul, hpre, List.getElem?_append_right (by omega), hpl] at hS
      simp only [Nat.add_one_sub_one, Nat.sub_self, List.getElem?_cons_zero, Option.some.injEq] at hS
      subst hS
      dsimp only at ha hb
      subst ha hb
      dsimp only [ahNames, List.cons_append, List.nil_append] at F1
      obtain ⟨u2, F2⟩ := canon F1 [(Str.ofString "ahead", .str (tx ((runAll kn S0).1.1 ++ (runAll kn S0).2.1)) ta), (Str.ofString "behind", .str (tx ((runAll kn S0).2.1 ++ (runAll kn S0).1.1)) tb), (Str.ofString "far", .int far tf), (Str.ofString "states", .ref Dst), (Str.ofString "kinds", .ref Dk), (Str.ofString "draws", .ref D1)] (by dsimp only [kstB]; walk_at "HK")
      exact hQ _ _ _ _ _ _ F2 N1
end

noncomputable def lawRest16 : List Stmt := (bodyOf "law").drop 16
theorem charsAre_inj {vs : List Value} {l k : List Nat} (h : CharsAre vs l) : CharsAre vs k → l = k := by
  induction h generalizing k with
  | nil => intro h2; cases h2; rfl
  | cons c t _ ih =>
    intro h2
    cases h2 with
    | cons c' t' h3 => rw [ih h3]
section
variable {prog : Program} {w : World} {dp un : Nat} {fr : Option (List Env)} {gd : Option (List Code)} {s : Shared} {Q : Flow → Shared → Prop}
example : True := by
  (k_with "exec For Name List cons nil" => ((guard_hyp stopq18 : True); ((refine Mark.out ?_))))
  trivial
example : True := by
  (k_with "call ref" => ((guard_hyp stopq19 : True); ((refine Mark.out ?_))))
  trivial
example : True := by
  (k_with "subscriptTail Name UnaryOp ref int" => ((guard_hyp stopq20 : True); ((refine Mark.out ?_))))
  trivial
example : True := by
  (k_with "execs cons" => ((guard_hyp stopq21 : True); ((
  (with_reducible show wpAny _ _ (execs (List.cons (Stmt.Assign _ _ { line := 223, col := _, endLine := _, endCol := _ }) _) _) _ _ _)
  refine Mark.out ?_))))
  trivial
theorem law_e {h₀ : Heap} {L fa D1 Dk Dst : Addr} {cd : Value} {mg mb : Str → Option Value} {mean : ExcName → Option Value} {us kus uss : List Value} {ms : List Int} {kn : List Nat} {k1 kk kss : Nat} {o1 o2 o4 o5 : Obj} {LED : List (Addr × Obj)} {u0 : Str → Option Value} {x y : List Nat} {tf ta tb : Tok} {K far : Int} {S0 S : Thing × Thing}
    (hSe : runAll kn S0 = S)
    (X : (hd.heap_1 w.params).In h₀) (T : Top lawView LS mean mg mb h₀) (hdp : dp + 100 < recursionLimit) (hu : un + 1000 < cLine)
    (im : IntsAre us ms) (hm8 : ms.length = 8) (hpo : PairOk x y) (hfar : far = price (x ++ y) (y ++ x)) (hk5 : kn.length = 5)
    (h0 : StOk x y K 15 5 S0.1 S0.2) (hSt : StatesAre LED uss (trail kn S0))
    (F : Fr h₀ L s.heap (kstB u0 [(Str.ofString "ahead", .str (tx (S.1.1 ++ S.2.1)) ta), (Str.ofString "behind", .str (tx (S.2.1 ++ S.1.1)) tb), (Str.ofString "far", .int far tf), (Str.ofString "states", .ref Dst), (Str.ofString "kinds", .ref Dk), (Str.ofString "draws", .ref D1)]))
    (N : News h₀ L s.heap ((Dst, W.listOf (List.toArray uss) kss) :: (Dk, W.listOf (List.toArray kus) kk) :: (D1, W.listOf (List.toArray us) k1) :: (L + 1 + 1 + 1 + 1 + 1, o5) :: (L + 1 + 1 + 1 + 1, o4) :: (L + 1 + 1, o2) :: (L + 1, o1) :: LED))
    (hQ : ∀ h' tk Dl t1 t2 kl u', AllNe Dl [(L + 1 + 1 + 1 + 1 + 1, o5), (L + 1 + 1 + 1 + 1, o4)] →
      Fr h₀ L h' (kstB u' [(Str.ofString "last", .ref Dl), (Str.ofString "kinds", .ref Dk)]) →
      News h₀ L h' [(Dl, W.listOf #[.str (tx S.1.1) t1, .str (tx S.2.1) t2] kl), (Dk, W.listOf (List.toArray kus) kk), (L + 1 + 1 + 1 + 1 + 1, o5), (L + 1 + 1 + 1 + 1, o4), (L + 1 + 1, o2), (L + 1, o1)] →
      wpAny (model prog w) ((top0 dp un fr gd).deeper (envOfC "law" lawScope L fa cd)) (execs lawRest16 (envOfC "law" lawScope L fa cd)) Q (fun _ _ => False) { s with heap := h', toks := tk }) :
    wpAny (model prog w) ((top0 dp un fr gd).deeper (envOfC "law" lawScope L fa cd)) (execs lawRest13 (envOfC "law" lawScope L fa cd)) Q (fun _ _ => False) s := by
  have stopq18 := True.intro
  have stopq19 := True.intro
  have stopq20 := True.intro
  have stopq21 := True.intro
  obtain ⟨heap, gens, drawn, toks, os⟩ := s
  obtain ⟨pre, hpre⟩ := trail_last kn S0
  have hok := h0.run5 (ks := kn) (by omega)
  have hul : uss.length = 6 := by rw [hSt.length, trail_len, hk5]
  obtain ⟨upre, r, hus, hPI⟩ := hSt.last hpre
  rw [hSe] at hok hPI
  clear hpre pre h0 hSt hSe
  obtain ⟨r0, r1, oP, hmP, hLP, ⟨w0, q0, cs0, kw0, tq0, m1, m2, c0, m3⟩, ⟨w1, q1, cs1, kw1, tq1, m4, m5, c1, m6⟩⟩ := hPI
  have hm : ∀ p ∈ LED, p ∈ (Dst, W.listOf (List.toArray uss) kss) :: (Dk, W.listOf (List.toArray kus) kk) :: (D1, W.listOf (List.toArray us) k1) :: (L + 1 + 1 + 1 + 1 + 1, o5) :: (L + 1 + 1 + 1 + 1, o4) :: (L + 1 + 1, o2) :: (L + 1, o1) :: LED := fun p hp => by
    show p ∈ [_, _, _, _, _, _, _] ++ LED
    exact List.mem_append_right _ hp
  have N1 : News h₀ L heap [(r0, tupO #[.ref w0, .ref q0]), (w0, W.listOf (List.toArray cs0) kw0), (r1, tupO #[.ref w1, .ref q1]), (w1, W.listOf (List.toArray cs1) kw1), (r, oP), (Dst, W.listOf (List.toArray uss) kss), (Dk, W.listOf (List.toArray kus) kk), (D1, W.listOf (List.toArray us) k1), (L + 1 + 1 + 1 + 1 + 1, o5), (L + 1 + 1 + 1 + 1, o4), (L + 1 + 1, o2), (L + 1, o1)] := news_sub N
    (List.forall_mem_cons.mpr ⟨hm _ m1, List.forall_mem_cons.mpr ⟨hm _ m2, List.forall_mem_cons.mpr ⟨hm _ m4, List.forall_mem_cons.mpr ⟨hm _ m5, List.forall_mem_cons.mpr ⟨hm _ hmP, by walk_at "MEMS"⟩⟩⟩⟩⟩)
  have hAB : r0 = r1 → S.1.1 = S.2.1 := by
    intro e
    have e1 := (N1 (r0, _) (.head _)).1
    have e2 := (N1 (r1, tupO #[.ref w1, .ref q1]) (.tail _ (.tail _ (.head _)))).1
    rw [e] at e1
    dsimp only at e1 e2
    rw [e1] at e2
    simp only [tupO, Option.some.injEq, Obj.mk.injEq, Data.seq.injEq, true_and, and_true] at e2
    have ew : w0 = w1 := by
      have := congrArg (fun a => a[0]?) e2
      simpa using this
    have e3 := (N1 (w0, _) (.tail _ (.head _))).1
    have e4 := (N1 (w1, W.listOf (List.toArray cs1) kw1) (.tail _ (.tail _ (.tail _ (.head _))))).1
    rw [ew] at e3
    dsimp only at e3 e4
    rw [e3] at e4
    simp only [W.listOf, Option.some.injEq, Obj.mk.injEq, Data.seq.injEq, true_and, and_true] at e4
    have ec : cs0 = cs1 := by
      have := congrArg Array.toList e4.1
      simpa using this
    rw [ec] at c0
    exact charsAre_inj c0 c1
  clear N hm m1 m2 m3 m4 m5 m6 hmP
  dsimp only [kstB] at F hQ ⊢
  conv in (lawRest13) => whnf
  conv in (occs := *) lawScope => all_goals whnf
  k_steps
  refine ⟨?_⟩
  refine' comp_A (m := mapOf F) F N1 (fun _ => true) (fun v y => ∃ t, (v = .ref r0 ∧ y = .str (tx S.1.1) t) ∨ (v = .ref r1 ∧ y = .str (tx S.2.1) t)) ?hsw ?hclos ?hcell ?hkind ?hnames ?hx ?hy ?hp ?_ ?hs
  walk_at "COMPA"
  k_steps
  refine ⟨?_⟩
  (with_reducible rename Fr _ _ _ _ => F1); (with_reducible rename News _ _ _ _ => N2)
  refine item_last (s := ⟨_, _, _, _, _⟩) (vs := upre) (x := .ref r) (hus ▸ PySem.IsL.isList (N2 (Dst, W.listOf (List.toArray uss) kss) (by k_mem)).1) (by rw [hus, List.length_append] at hul; simp at hul; omega) ?_ (by with_unfolding_all rfl) (by intro _; with_unfolding_all rfl)
  k_steps
  walk_at "DONE"
  (with_reducible rename Fr _ _ _ _ => F3); (with_reducible rename News _ _ _ _ => N3)
  have it0 : IsTup _ r0 #[.ref w0, .ref q0] := ⟨_, (N3 (r0, _) (.head _)).1, rfl, _, rfl⟩
  have it1 : IsTup _ r1 #[.ref w1, .ref q1] := ⟨_, (N3 (r1, tupO #[.ref w1, .ref q1]) (.tail _ (.tail _ (.head _)))).1, rfl, _, rfl⟩
  have il0 : Heap.IsList _ w0 cs0.toArray := PySem.IsL.isList (N3 (w0, _) (.tail _ (.head _))).1
  have il1 : Heap.IsList _ w1 cs1.toArray := PySem.IsL.isList (N3 (w1, W.listOf (List.toArray cs1) kw1) (.tail _ (.tail _ (.tail _ (.head _))))).1
  have ilP : Heap.IsList _ r (List.toArray [Value.ref r0, .ref r1]) := ⟨oP, (N3 (r, oP) (by k_mem)).1, hLP.1, hLP.2⟩
  have hsz := hok.sz
  have l0 : S.1.1.length ≤ 1000 := by omega
  have l1 : S.2.1.length ≤ 1000 := by omega
  refine ⟨_, _, src_list rfl ilP (by rw [PySem.sizeLine_eq]; exact Nat.le_of_ble_eq_true rfl), CompOk.plain ?_, F3, N3, ?_⟩
  · intro C u i v s₂ E' hP FB NB
    obtain ⟨hp2, g2, d2, tk2, os2⟩ := s₂
    have kE := InElt.start hp2
    have X' := X.keeps F3.keep
    have T' := T.keeps F3.keep
    have it0' := it0.keeps FB.keep
    have it1' := it1.keeps FB.keep
    have il0' := isl_keeps il0 FB.keep
    have il1' := isl_keeps il1 FB.keep
    clear F3 N3 ilP
    match i, hP with
    | 0, hP =>
      have e : v = .ref r0 := (Option.some.inj hP).symm
      subst e
      k_steps
      walk_at "BLKEND"
      exact ⟨_, .inl ⟨trivial, rfl⟩⟩
    | 1, hP =>
      have e : v = .ref r1 := (Option.some.inj hP).symm
      subst e
      k_steps
      walk_at "BLKEND"
      exact ⟨_, .inr ⟨trivial, rfl⟩⟩
    | n + 2, hP => simp at hP
  intro Dl lus kl vs' h' tk' F' N' hne hl hP hG
  have ev := vals_of hl hP
  subst ev
  rw [List.filter_eq_self.mpr (fun _ _ => rfl)] at hG
  obtain ⟨t1, t2, rfl⟩ : ∃ t1 t2, lus = [.str (tx S.1.1) t1, .str (tx S.2.1) t2] := by
    cases hG with
    | cons g1 hG =>
      cases hG with
      | cons g2 hG =>
        cases hG
        obtain ⟨t1, g1⟩ := g1
        obtain ⟨t2, g2⟩ := g2
        refine ⟨t1, t2, ?_⟩
        have e1 := g1.elim (fun z => z.2) (fun z => by rw [z.2, hAB (by simpa using z.1)])
        have e2 := g2.elim (fun z => by rw [z.2, hAB (by simpa using z.1.symm)]) (fun z => z.2)
        rw [e1, e2]
  have nD5 := hne (L + 1 + 1 + 1 + 1 + 1, o5) (by k_mem)
  have nD4 := hne (L + 1 + 1 + 1 + 1, o4) (by k_mem)
  clear hl hP hG hne it0 it1 il0 il1 ilP
  dsimp only [mapOf] at F'
  (try clear F1); (try clear N2); clear F3 N3
  walk_at "DONE"
  (try k_unmd)
  k_steps
  refine ⟨?_⟩
  (with_reducible rename Fr _ _ _ _ => F4); (with_reducible rename News _ _ _ _ => N4)
  have h01 : ∀ c ∈ S.1.1 ++ S.2.1, c < 128 := fun c hc => lets4_lt c (lets_app hok.la hok.lb c hc)
  have h10 : ∀ c ∈ S.2.1 ++ S.1.1, c < 128 := fun c hc => lets4_lt c (lets_app hok.lb hok.la c hc)
  have hB : ∀ c ∈ S.2.1, c < 128 := fun c hc => lets4_lt c (hok.lb c hc)
  have l01 : (S.1.1 ++ S.2.1).length ≤ 1000 := by rw [List.length_append]; omega
  have l10 : (S.2.1 ++ S.1.1).length ≤ 1000 := by rw [List.length_append]; omega
  refine' lev_spec (s := ⟨_, _, _, _, _⟩) (Base.of X T F4) ?k2 ?k3 (S.1.1 ++ S.2.1) (S.2.1 ++ S.1.1) 0 _ _ _ l01 l10 h01 h10 ?_
  case k2 => walk_at "DEPTH"
  case k3 => walk_at "DEPTH"
  intro h5 tk5 t5 K5
  have hff := hok.far hpo
  rw [← hfar] at hff
  rw [hff.2.2]
  have F5 := F4.keeps K5
  have N5 := N4.grown K5
  clear F4 N4 K5
  dsimp only [minf] at F5 N5 ⊢
  k_steps
  · (rename ((if 1 < far then (1 : Int) else far) ≠ _) => hne)
    exact absurd rfl hne
  refine ⟨?_⟩
  (with_reducible rename Fr _ _ _ _ => F6); (with_reducible rename News _ _ _ _ => N6)
  refine For_turns F6 ?_ (by intro _; with_unfolding_all rfl) passes_none
  k_steps
  refine ⟨?_⟩
  (with_reducible rename Fr _ _ _ _ => F7); (with_reducible rename News _ _ _ _ => N7)
  (try dsimp only at F7 N7)
  refine kt_list (σ := Unit) (vs := [.str (tx (S.1.1 ++ S.2.1)) ta, .str (tx (S.2.1 ++ S.1.1)) tb]) ((_, W.listOf #[.str (tx (S.1.1 ++ S.2.1)) ta, .str (tx (S.2.1 ++ S.1.1)) tb] 0) :: (Dl, W.listOf #[.str (tx S.1.1) t1, .str (tx S.2.1) t2] kl) :: (Dk, W.listOf (List.toArray kus) kk) :: (D1, W.listOf (List.toArray us) k1) :: (L + 1 + 1 + 1 + 1 + 1, o5) :: (L + 1 + 1 + 1 + 1, o4) :: (L + 1 + 1, o2) :: [(L + 1, o1)])
    (fun _ => [(Str.ofString "last", .ref Dl), (Str.ofString "kinds", .ref Dk), (Str.ofString "draws", .ref D1)]) (fun _ _ => True) () rfl (.head _) rfl rfl F7 (news_sub N7 (by walk_at "MEMS")) ?_ trivial ?_ ?_
  · walk_at "HK"
  · clear F7 N7
    intro c i v u h tk I oI hi hv hnw _ F8 N8
    dsimp only [kstB, List.cons_append, List.nil_append] at F8 N8
    (try k_unmd)
    (try k_fold)
    obtain rfl | rfl : v = .str (tx (S.1.1 ++ S.2.1)) ta ∨ v = .str (tx (S.2.1 ++ S.1.1)) tb := by
      match i, hv with
      | 0, hv => exact .inl (Option.some.inj hv).symm
      | 1, hv => exact .inr (Option.some.inj hv).symm
      | n + 2, hv => simp at hv
    · k_steps
      refine ⟨?_⟩
      (with_reducible rename Fr _ _ _ _ => F9); (with_reducible rename News _ _ _ _ => N9)
      refine' lev_spec (s := ⟨_, _, _, _, _⟩) (Base.of X T F9) ?k2 ?k3 (S.1.1 ++ S.2.1) S.2.1 _ _ _ _ l01 l1 h01 hB ?_
      case k2 => walk_at "DEPTH"
      case k3 => walk_at "DEPTH"
      intro h5 tk5 t5 K5
      rw [lev_left _ _ _ hok.na]
      have F10 := F9.keeps K5
      have N10 := N9.grown K5
      clear F9 N9 K5
      dsimp only at F10 N10 ⊢
      k_steps
      · (rename (2 * (S.1.1.length : Int) ≠ _) => hne)
        exact absurd rfl hne
      (with_reducible rename Fr _ _ _ _ => F11); (with_reducible rename News _ _ _ _ => N11)
      refine kg_end (Led := fun _ : Unit => (_, W.listOf #[.str (tx (S.1.1 ++ S.2.1)) ta, .str (tx (S.2.1 ++ S.1.1)) tb] 0) :: (Dl, W.listOf #[.str (tx S.1.1) t1, .str (tx S.2.1) t2] kl) :: (Dk, W.listOf (List.toArray kus) kk) :: (D1, W.listOf (List.toArray us) k1) :: (L + 1 + 1 + 1 + 1 + 1, o5) :: (L + 1 + 1 + 1 + 1, o4) :: (L + 1 + 1, o2) :: [(L + 1, o1)]) () F11 N11 ?_ ?_ ?_ ?_ ?_
      · walk_at "MEMS"
      · k_mem
      · exact hnw
      · walk_at "HK"
      · trivial
    · k_steps
      refine ⟨?_⟩
      (with_reducible rename Fr _ _ _ _ => F9); (with_reducible rename News _ _ _ _ => N9)
      refine' lev_spec (s := ⟨_, _, _, _, _⟩) (Base.of X T F9) ?k2 ?k3 (S.2.1 ++ S.1.1) S.2.1 _ _ _ _ l10 l1 h10 hB ?_
      case k2 => walk_at "DEPTH"
      case k3 => walk_at "DEPTH"
      intro h5 tk5 t5 K5
      rw [lev_right _ _ _ hok.na]
      have F10 := F9.keeps K5
      have N10 := N9.grown K5
      clear F9 N9 K5
      dsimp only at F10 N10 ⊢
      k_steps
      · (rename (2 * (S.1.1.length : Int) ≠ _) => hne)
        exact absurd rfl hne
      (with_reducible rename Fr _ _ _ _ => F11); (with_reducible rename News _ _ _ _ => N11)
      refine kg_end (Led := fun _ : Unit => (_, W.listOf #[.str (tx (S.1.1 ++ S.2.1)) ta, .str (tx (S.2.1 ++ S.1.1)) tb] 0) :: (Dl, W.listOf #[.str (tx S.1.1) t1, .str (tx S.2.1) t2] kl) :: (Dk, W.listOf (List.toArray kus) kk) :: (D1, W.listOf (List.toArray us) k1) :: (L + 1 + 1 + 1 + 1 + 1, o5) :: (L + 1 + 1 + 1 + 1, o4) :: (L + 1 + 1, o2) :: [(L + 1, o1)]) () F11 N11 ?_ ?_ ?_ ?_ ?_
      · walk_at "MEMS"
      · k_mem
      · exact hnw
      · walk_at "HK"
      · trivial
  · clear F7 N7
    intro c u h tk _ F8 N8
    dsimp only [kstB] at F8 N8
    k_steps
    refine ⟨?_⟩
    (with_reducible rename Fr _ _ _ _ => F9); (with_reducible rename News _ _ _ _ => N9)
    obtain ⟨u9, F10⟩ := canon F9 [(Str.ofString "last", .ref Dl), (Str.ofString "kinds", .ref Dk)] (by walk_at "HK")
    have N10 := news_sub (news' := [(Dl, W.listOf #[.str (tx S.1.1) t1, .str (tx S.2.1) t2] kl), (Dk, W.listOf (List.toArray kus) kk), (L + 1 + 1 + 1 + 1 + 1, o5), (L + 1 + 1 + 1 + 1, o4), (L + 1 + 1, o2), (L + 1, o1)]) N9 (by walk_at "MEMS")
    have nn : AllNe Dl [(L + 1 + 1 + 1 + 1 + 1, o5), (L + 1 + 1 + 1 + 1, o4)] := ⟨nD5, nD4, True.intro⟩
    have hq := fun tk => @hQ h tk Dl t1 t2 kl u9 nn F10 N10
    clear hQ
    conv at hq in (lawRest16) => whnf
    conv at hq in (occs := *) lawScope => all_goals whnf
    dsimp only at hq ⊢
    with_reducible exact hq _
end

section
variable {prog : Program} {w : World} {A : Around} {R : Result → Shared → Prop} {s : Shared}
theorem turn_in (elt : Expr) (g0 : Comprehension) (target iter2 : Expr) (scope : Scope) (pos : Pos) (it acc : Value) (env : Env) :
    compTurn (.ListComp elt [g0, ⟨target, iter2, [], 0⟩] scope pos) 1 it acc env = (standAt iter2.pos >>= fun _ => pyNext it >>= fun r => match r with
      | none => pure (.done .next)
      | some v => letOwnedTupleGo target it v >>= fun _ => assign target env v >>= fun _ =>
        (eval elt env >>= fun x => call (.builtin "list.append") [acc, x] >>= fun _ => pure ()) >>= fun _ =>
          again (.compLoop (.ListComp elt [g0, ⟨target, iter2, [], 0⟩] scope pos) 1 it acc env)) := by rfl
theorem turn_out (elt target iter : Expr) (t2 iter2 : Expr) (scope : Scope) (pos : Pos) (it acc : Value) (env : Env) :
    compTurn (.ListComp elt [⟨target, iter, [], 0⟩, ⟨t2, iter2, [], 0⟩] scope pos) 0 it acc env = (standAt iter.pos >>= fun _ => pyNext it >>= fun r => match r with
      | none => pure (.done .next)
      | some v => letOwnedTupleGo target it v >>= fun _ => assign target env v >>= fun _ =>
        (eval iter2 env >>= fun x => standAt iter2.pos >>= fun _ => foldedSetIterable iter2 env x >>= fun x => holding [x] (pyIter x) >>= fun j =>
          runOwn (.compStart (.ListComp elt [⟨target, iter, [], 0⟩, ⟨t2, iter2, [], 0⟩] scope pos) 1 j acc env) env >>= fun _ =>
          again (.compLoop (.ListComp elt [⟨target, iter, [], 0⟩, ⟨t2, iter2, [], 0⟩] scope pos) 0 it acc env))) := by rfl
theorem start_in {elt : Expr} {g0 : Comprehension} {target iter2 : Expr} {scope : Scope} {pos : Pos} {I l : Addr} {i : Nat} {acc : Value} {env : Env} (hit : s.heap.IsListIter I l i)
    (h0 : codeAny (model prog w) A (.compLoop (.ListComp elt [g0, ⟨target, iter2, [], 0⟩] scope pos) 1 (.ref I) acc env) R s) :
    codeAny (model prog w) A (.compStart (.ListComp elt [g0, ⟨target, iter2, [], 0⟩] scope pos) 1 (.ref I) acc env) R s := by
  refine codeAny_of_tree ?_
  show wpAny _ _ ((compStart (.ListComp elt [g0, ⟨target, iter2, [], 0⟩] scope pos) 1 (.ref I) acc env).onRaise (fun x => do noteFrame x env; standAt theWindowsPlace)) _ _ s
  refine wpAny_notedAt ?_
  unfold compStart
  show wpAny _ _ (ask >>= _) _ _ s
  refine wpAny_bind (wpAny_askSetting (wpAny_ite ?_))
  split
  · exact wpAny_bind (wpAny_pure (wpAny_pure (And.intro rfl h0)))
  · refine wpAny_bind (wpAny_rule ?_)
    show wpAny _ _ (standAt iter2.pos >>= _) _ _ s
    exact wpAny_bind (wpAny_standAt (wpAny_bind (wpAny_pyIter_listiter hit (wpAny_pure (And.intro rfl h0)))))
theorem two_in {y : Str} {py py2 pos : Pos} {g0 : Comprehension} {iter2 : Expr} {scope : Scope} {I ax D : Addr} {items : List Value} {cenv : Env} {m : Str → Option Value} {acc : List Value}
    (hh : A.handled = none) (hf : cenv.scope.kind = .function) (hy : cenv.kindOf y = some .local) (hp : (cenv.scope.kind == .class || (cenv.scope.kind == .module && cenv.locals != cenv.globals)) = false) (hyd : (y == ("__debug__" : Str)) = false)
    (hDC : D ≠ cenv.locals) (hID : I ≠ D) (hIC : I ≠ cenv.locals) (haI : ax ≠ I) (haD : ax ≠ D) (haC : ax ≠ cenv.locals)
    (hit : s.heap.IsListIter I ax 0) (hl : s.heap.IsList ax items.toArray) (hacc : s.heap.PlainList D acc.toArray) (hn : s.heap.Ns cenv.locals m) (hz : acc.length + items.length ≤ 5000)
    (hR : ∀ h' tk m', h'.Ns cenv.locals m' → h'.PlainList D (acc ++ items).toArray → (∀ b o, b ≠ cenv.locals → b ≠ I → b ≠ D → s.heap.get? b = some o → h'.get? b = some o) → R (.ok .next) { s with heap := h', toks := tk }) :
    codeAny (model prog w) A (.compLoop (.ListComp (.Name y py) [g0, ⟨.Name y py2, iter2, [], 0⟩] scope pos) 1 (.ref I) (.ref D) cenv) R s := by
  refine codeAny_loop rfl (fun k s' => ∃ h' tk m' i, s' = { s with heap := h', toks := tk } ∧ h'.IsListIter I ax i ∧ h'.IsList ax items.toArray ∧ h'.PlainList D (acc ++ items.take i).toArray ∧ h'.Ns cenv.locals m' ∧ i ≤ items.length ∧ k = items.length + 1 - i ∧
      ∀ b o, b ≠ cenv.locals → b ≠ I → b ≠ D → s.heap.get? b = some o → h'.get? b = some o) ?_ (items.length + 1)
    ⟨s.heap, s.toks, m, 0, rfl, hit, hl, by simpa using hacc, hn, Nat.zero_le _, rfl, fun _ _ _ _ _ e => e⟩
  rintro k s' ⟨H, tk, m', i, rfl, hit', hl', hacc', hn', hi, rfl, hk⟩
  show wpAny _ A ((compTurn (.ListComp (.Name y py) [g0, ⟨.Name y py2, iter2, [], 0⟩] scope pos) 1 (.ref I) (.ref D) cenv).onRaise (fun x => do noteFrame x cenv; theTreesLotGoes x)) _ _ _
  refine wpAny_noted ?_
  rw [turn_in]
  refine wpAny_bind (wpAny_standAt (wpAny_bind ?_))
  cases hv : items[i]? with
  | none =>
    have hsz : items.length ≤ i := by simpa using hv
    refine wpAny_pyNext_list_end hh hit' hl' (by simpa using hv) fun h₁ he₁ => ?_
    refine wpAny_pure ?_
    rw [List.take_of_length_le hsz] at hacc'
    exact hR h₁ tk m' (hn'.extBut he₁ (Ne.symm hIC)) (hacc'.extBut he₁ (Ne.symm hID)) fun b o hbC hbI hbD e => he₁ b o hbI (hk b o hbC hbI hbD e)
  | some v =>
    have hlt : i < items.length := (List.getElem?_eq_some_iff.mp hv).1
    refine wpAny_pyNext_list_item hit' hl' (by simpa using hv) fun h₁ hit₁ hs₁ => ?_
    show wpAny _ _ (letOwnedTupleGo (.Name y py2) (.ref I) v >>= _) _ _ _
    refine wpAny_bind (wpAny_of_eq (rfl : letOwnedTupleGo (.Name y py2) (.ref I) v = pure ()) ?_)
    refine wpAny_bind (wpAny_assign_Name (wpAny_storeName_local hy (hn'.sameBut hs₁ (Ne.symm hIC)) (fun h₂ hn₂ hs₂ => ?_) hp))
    refine wpAny_bind (wpAny_bind (wpAny_Name (wpAny_loadName_local (v := v) hf hy hn₂ (by simp) ?_) hyd))
    have up₂ : ∀ b o, b ≠ cenv.locals → b ≠ I → H.get? b = some o → h₂.get? b = some o := fun b o hbC hbI e => hs₂.extBut b o hbC (hs₁.extBut b o hbI e)
    refine wpAny_bind (wpAny_list_append_plain (hsz := by rw [PySem.sizeLine_eq, List.size_toArray, List.length_append, List.length_take]; omega) (hacc'.at fun o e => up₂ D o hDC (Ne.symm hID) e) fun h₅ hl₅ hs₅ => ?_)
    refine wpAny_pure (wpAny_pure ⟨rfl, items.length + 1 - (i + 1), by omega, h₅, _, _, i + 1, rfl, (hit₁.extBut hs₂.extBut hIC).extBut hs₅.extBut hID, ?_, ?_, hn₂.sameBut hs₅ (Ne.symm hDC), hlt, rfl, fun b o hbC hbI hbD e => hs₅.extBut b o hbD (up₂ b o hbC hbI (hk b o hbC hbI hbD e))⟩)
    · exact (hl'.at fun o e => up₂ ax o haC haI e).extBut hs₅.extBut haD
    · rw [List.push_toArray, List.append_assoc] at hl₅
      rw [List.take_add_one, hv]
      exact hl₅
theorem two_out {x y : Str} {px py py2 pos : Pos} {iter iter2 : Expr} {scope : Scope} {I D : Addr} {fp wr : List Addr} {n : Nat} {P : Nat → Value → Prop} {St : Nat → Heap → Prop} {cenv : Env} {m : Str → Option Value} {h₁ : Heap} (G : Value → List Value → Prop)
    (W : Walks prog w A I fp wr n P St) (hh : A.handled = none) (hf : cenv.scope.kind = .function) (hx : cenv.kindOf x = some .local) (hy : cenv.kindOf y = some .local) (hp : (cenv.scope.kind == .class || (cenv.scope.kind == .module && cenv.locals != cenv.globals)) = false) (hyd : (y == ("__debug__" : Str)) = false)
    (hs2 : ∀ v, foldedSetIterable iter2 cenv v = pure v)
    (hDC : D ≠ cenv.locals) (hDf : D ∉ fp) (hCf : cenv.locals ∉ fp) (hfs : ∀ b ∈ fp, ∃ o, s.heap.get? b = some o) (hold : ∀ b o, h₁.get? b = some o → b ≠ cenv.locals ∧ b ∉ wr ∧ b ≠ D ∧ s.heap.get? b = some o)
    (hst : St 0 s.heap) (hlive : ∀ i h, St i h → ∀ b ∈ wr, ∃ o, h.get? b = some o) (hacc : s.heap.PlainList D #[]) (hn : s.heap.Ns cenv.locals m) (hz : n ≤ 1000)
    (hit2 : ∀ i v s₂ m₂ E', P i v → s₂.heap.Ns cenv.locals m₂ → m₂ x = some v → (∀ b o, h₁.get? b = some o → s₂.heap.get? b = some o) →
      wpAny (model prog w) A (eval iter2 cenv) (fun xv s₃ => (∃ ax items, xv = .ref ax ∧ h₁.IsList ax (List.toArray items) ∧ items.length ≤ 2 ∧ G v items) ∧ Keeps s₂ s₃) E' s₂)
    (hR : ∀ h' tk m' vs blocks, h'.Ns cenv.locals m' → h'.PlainList D (List.flatten blocks).toArray → vs.length = n → (∀ (j : Nat) v, vs[j]? = some v → P j v) → Paired G vs blocks →
      (∀ b o, b ≠ cenv.locals → b ∉ wr → b ≠ D → s.heap.get? b = some o → h'.get? b = some o) → R (.ok .next) { s with heap := h', toks := tk }) :
    codeAny (model prog w) A (.compLoop (.ListComp (.Name y py) [⟨.Name x px, iter, [], 0⟩, ⟨.Name y py2, iter2, [], 0⟩] scope pos) 0 (.ref I) (.ref D) cenv) R s := by
  have hCw : cenv.locals ∉ wr := fun h => hCf (W.sub _ h)
  have hDw : D ∉ wr := fun h => hDf (W.sub _ h)
  refine codeAny_loop rfl (fun k s' => ∃ h' tk m' vs blocks, s' = { s with heap := h', toks := tk } ∧ St vs.length h' ∧ h'.PlainList D (List.flatten blocks).toArray ∧ h'.Ns cenv.locals m' ∧ (∀ (j : Nat) v, vs[j]? = some v → P j v) ∧ Paired G vs blocks ∧ (List.flatten blocks).length ≤ 2 * vs.length ∧ vs.length ≤ n ∧ k = n + 1 - vs.length ∧
      (∀ b ∈ fp, ∃ o, h'.get? b = some o) ∧ ∀ b o, b ≠ cenv.locals → b ∉ wr → b ≠ D → s.heap.get? b = some o → h'.get? b = some o) ?_ (n + 1)
    ⟨s.heap, s.toks, m, [], [], rfl, hst, hacc, hn, by simp, .nil, by simp, Nat.zero_le _, rfl, hfs, fun _ _ _ _ _ e => e⟩
  rintro k s' ⟨H, tk, m', vs, blocks, rfl, hst', hacc', hn', hP, hG, hfl, hi, rfl, hfs', hk⟩
  show wpAny _ A ((compTurn (.ListComp (.Name y py) [⟨.Name x px, iter, [], 0⟩, ⟨.Name y py2, iter2, [], 0⟩] scope pos) 0 (.ref I) (.ref D) cenv).onRaise (fun x => do noteFrame x cenv; theTreesLotGoes x)) _ _ _
  refine wpAny_noted ?_
  rw [turn_out]
  refine wpAny_bind (wpAny_standAt (wpAny_bind ?_))
  by_cases hlt : vs.length < n
  · refine W.item vs.length _ _ _ hlt hst' fun v h₂ tk₂ hPv hst₂ hk₂ => ?_
    show wpAny _ _ (letOwnedTupleGo (.Name x px) (.ref I) v >>= _) _ _ _
    refine wpAny_bind (wpAny_of_eq (rfl : letOwnedTupleGo (.Name x px) (.ref I) v = pure ()) ?_)
    refine wpAny_bind (wpAny_assign_Name (wpAny_storeName_local hx (hn'.at' fun o e => hk₂ _ o hCw e) (fun h₃ hn₃ hs₃ => ?_) hp))
    have up₃ : ∀ b o, b ≠ cenv.locals → b ∉ wr → H.get? b = some o → h₃.get? b = some o := fun b o hbC hbw e => hs₃.extBut b o hbC (hk₂ b o hbw e)
    have old₃ : ∀ b o, h₁.get? b = some o → h₃.get? b = some o := fun b o e => by
      obtain ⟨a1, a2, a3, a4⟩ := hold b o e
      exact up₃ b o a1 a2 (hk b o a1 a2 a3 a4)
    have hst₃ : St (vs.length + 1) h₃ := W.frame _ _ _ hst₂ fun b hb o e => hs₃.extBut b o (fun h => hCf (h ▸ hb)) e
    refine wpAny_bind (wpAny_mono (hit2 vs.length v _ _ _ hPv hn₃ (if_pos rfl) old₃) (fun xv s₄ h₄ => ?_) fun _ _ e => e)
    obtain ⟨⟨ax, items, rfl, hl, hi2, hGv⟩, h₄, tk₄, rfl, hk₄⟩ := h₄
    obtain ⟨ol, hol, _⟩ := id hl
    obtain ⟨a1, a2, a3, a4⟩ := hold ax ol hol
    have hl₄ : h₄.IsList ax items.toArray := hl.at fun o e => hk₄ _ _ (old₃ _ o e)
    have hlt₄ : ax < h₄.objs.size := by obtain ⟨_, e, _⟩ := hl₄; exact Heap.lt_size e
    refine wpAny_bind (wpAny_standAt (wpAny_bind (wpAny_of_eq (hs2 _) ?_)))
    refine wpAny_bind (wpAny_holding (wpAny_pyIter_list hl₄ ?_))
    have hacc₄ : h₄.PlainList D (List.flatten blocks).toArray := hacc'.at fun o e => hk₄ _ _ (up₃ D o hDC hDw e)
    have hn₄ := hn₃.keeps hk₄
    have hfr : ∀ b, (∃ o, h₄.get? b = some o) → b ≠ h₄.objs.size := fun b ⟨o, e⟩ => Nat.ne_of_lt (Heap.lt_size e)
    have hDI : h₄.objs.size ≠ D := fun e => hfr D (by obtain ⟨_, ho⟩ := hacc₄; exact ⟨_, ho⟩) e.symm
    have hCI : h₄.objs.size ≠ cenv.locals := fun e => hfr cenv.locals (by obtain ⟨o, _, _, ho, _⟩ := hn₄; exact ⟨o, ho⟩) e.symm
    have hfs₃ : ∀ b ∈ fp, ∃ o, h₃.get? b = some o := fun b hb => by
      by_cases hbw : b ∈ wr
      · exact hlive _ _ hst₃ b hbw
      · obtain ⟨o, e⟩ := hfs' b hb
        exact ⟨o, up₃ b o (fun e => hCf (e ▸ hb)) hbw e⟩
    refine wpAny_bind (wpAny_runOwn (h := none) (start_in (i := 0) (l := ax) ⟨_, Heap.get?_push_size _ rfl, rfl, rfl⟩ ?_))
    refine two_in (acc := List.flatten blocks) hh hf hy hp hyd hDC hDI hCI (Nat.ne_of_lt hlt₄) a3 a1 ⟨_, Heap.get?_push_size _ rfl, rfl, rfl⟩ (hl₄.push _) (hacc₄.at fun o e => Heap.get?_push_of_some _ e) (hn₄.keeps fun b o e => Heap.get?_push_of_some _ e) (by omega) ?_
    intro h₇ tk₇ m₇ hn₇ hacc₇ hk₇
    have up₇ : ∀ b o, b ≠ cenv.locals → b ≠ D → h₃.get? b = some o → h₇.get? b = some o := fun b o hbC hbD e => hk₇ b o hbC (hfr b ⟨o, hk₄ b o e⟩) hbD (Heap.get?_push_of_some _ (hk₄ b o e))
    refine wpAny_pure ⟨rfl, n + 1 - (vs.length + 1), by omega, h₇, tk₇, m₇, vs ++ [v], blocks ++ [items], rfl, ?_, ?_, hn₇, ?_, ?_, ?_, ?_, ?_, ?_, ?_⟩
    · rw [List.length_append]
      exact W.frame _ _ _ hst₃ fun b hb o e => up₇ b o (fun h => hCf (h ▸ hb)) (fun h => hDf (h ▸ hb)) e
    · rw [List.flatten_append]
      simpa using hacc₇
    · intro j u hj
      rcases Nat.lt_trichotomy j vs.length with h | h | h
      · exact hP j u (by rwa [List.getElem?_append_left h] at hj)
      · subst h; simp at hj; subst hj; exact hPv
      · have hnone : (vs ++ [v])[j]? = none := List.getElem?_eq_none (by rw [List.length_append, List.length_singleton]; omega)
        rw [hnone] at hj; cases hj
    · exact Paired.snoc hG hGv
    · have e : (List.flatten [items]).length = items.length := by simp
      rw [List.flatten_append, List.length_append, List.length_append, e, List.length_singleton]
      omega
    · rw [List.length_append, List.length_singleton]; exact hlt
    · rw [List.length_append, List.length_singleton]
    · intro b hb
      obtain ⟨o, e⟩ := hfs₃ b hb
      exact ⟨o, up₇ b o (fun h => hCf (h ▸ hb)) (fun h => hDf (h ▸ hb)) e⟩
    · intro b o hbC hbw hbD e
      exact up₇ b o hbC hbD (up₃ b o hbC hbw (hk b o hbC hbw hbD e))
  · have hin : vs.length = n := by omega
    refine W.done _ _ _ (hin ▸ hst') fun h₂ tk₂ hk₂ => ?_
    refine wpAny_pure ?_
    exact hR h₂ tk₂ m' vs blocks (hn'.at' fun o e => hk₂ _ o hCw e) (hacc'.at fun o e => hk₂ _ o hDw e) hin hP hG fun b o hbC hbw hbD e => hk₂ b o hbw (hk b o hbC hbw hbD e)
end

noncomputable def ItOk (prog : Program) (w : World) (A : Around) (env : Env) (scope : Scope) (cl : List (Str × Addr)) (x : Str) (iter2 : Expr) (G : Value → List Value → Prop) (vs : List Value) (h₁ : Heap) : Prop :=
  ∀ C u (i : Nat) (v : Value) s₂ E', vs[i]? = some v → Fr h₁ C s₂.heap (kstB u [(x, v)]) → News h₁ C s₂.heap [] →
    wpAny (model prog w) A (eval iter2 (compEnvC scope cl C env)) (fun xv s₃ => Mark ((∃ ax items, xv = .ref ax ∧ h₁.IsList ax (List.toArray items) ∧ items.length ≤ 2 ∧ G v items) ∧ Keeps s₂ s₃)) E' s₂
noncomputable def EltO (prog : Program) (w : World) (A : Around) (env : Env) (scope : Scope) (cl : List (Str × Addr)) (x : Str) (elt : Expr) (G : Value → List Value → Prop) (vs : List Value) (h₁ : Heap) : Prop :=
  ∀ C u (i : Nat) (v : Value) s₂ E', vs[i]? = some v → Fr h₁ C s₂.heap (kstB u [(x, v)]) → News h₁ C s₂.heap [] →
    wpAny (model prog w) A (eval elt (compEnvC scope cl C env)) (fun y s₃ => Mark ((∃ T its, y = .ref T ∧ s₂.heap.get? T = none ∧ s₃.heap.IsList T (List.toArray its) ∧ G v its) ∧ Keeps s₂ s₃)) E' s₂
section
variable {prog : Program} {w : World} {A : Around} {E : Value → Shared → Prop} {s : Shared} {env : Env}
theorem fr_one {h₁ h : Heap} {C : Addr} {m : Str → Option Value} {x : Str} {v : Value} (hC : h₁.objs.size ≤ C) (hn : h.Ns C m) (hm : m x = some v) (hk : ∀ b o, h₁.get? b = some o → h.get? b = some o) : ∃ u, Fr h₁ C h (kstB u [(x, v)]) := by
  refine canon (h₀ := h₁) ⟨hn, hk, hC⟩ [(x, v)] ?_
  intro p hp
  cases hp with
  | head => exact hm
  | tail _ hp => cases hp
theorem comp2_E {x y : Str} {px py py2 : Pos} {iter iter2 : Expr} {scope : Scope} {cl : List (Str × Addr)} {pos : Pos} {Q : Value → Shared → Prop} (G : Value → List Value → Prop) (hh : A.handled = none)
    (hclos : closureFor scope env = pure cl) (hcell : ∀ z ∈ scope.names, z.2 ≠ .cell) (hkind : scope.kind = .function)
    (hnames : ∀ z ∈ scope.names, z.2 = .local → scope.names.lookup z.1 = some .local) (hx : scope.names.lookup x = some .local) (hy : scope.names.lookup y = some .local) (hyd : (y == ("__debug__" : Str)) = false)
    (hs2 : ∀ env v, foldedSetIterable iter2 env v = pure v)
    (h : wpAny (model prog w) A (eval iter env) (fun xv s₁ => Mark (∃ ax vs, xv = .ref ax ∧ s₁.heap.IsList ax (List.toArray vs) ∧ vs.length ≤ 1000 ∧ ItOk prog w A env scope cl x iter2 G vs s₁.heap ∧
      ∀ D blocks h' tk, s₁.heap.get? D = none → h'.IsList D (List.flatten blocks).toArray → Paired G vs blocks → Ext s₁.heap h' → Q (.ref D) { s₁ with heap := h', toks := tk })) E s)
    (hs : ∀ v, foldedSetIterable iter env v = pure v) :
    wpAny (model prog w) A (eval (.ListComp (.Name y py) [⟨.Name x px, iter, [], 0⟩, ⟨.Name y py2, iter2, [], 0⟩] scope pos) env) Q E s := by
  rw [eval_ListComp]
  refine wpAny_comprehension_free (use := none) rfl hs hclos hkind hnames (wpAny_mono h (fun xv s₁ h₁ => ?_) fun _ _ e => e)
  obtain ⟨ax, vs, rfl, hl, hz, hok, hQ⟩ := h₁.out
  have hlt : ax < s₁.heap.objs.size := by obtain ⟨_, e, _⟩ := hl; exact Heap.lt_size e
  refine wpAny_pyIter_list hl ?_
  refine wpAny_newObj_type (wpAny_newFunctionEnv hcell (by intro y hy; simp at hy) (fun h₁ hns₁ hsb₁ => ?_) hkind)
  dsimp only at hns₁ hsb₁ ⊢
  generalize hH1 : s₁.heap.push { cls := .type "list_iterator", data := .fields #[.ref ax, .int 0 0] } = H1 at hns₁ hsb₁ ⊢
  have h1s : H1.objs.size = s₁.heap.objs.size + 1 := by rw [← hH1, Heap.size_push]
  generalize hH2 : H1.push { cls := .type "list", dict := none, data := .seq ([] : List Value).toArray } = H2 at hns₁ hsb₁ ⊢
  have h2s : H2.objs.size = s₁.heap.objs.size + 1 + 1 := by rw [← hH2, Heap.size_push, h1s]
  have old2 : ∀ b o, H1.get? b = some o → b ≠ H2.objs.size → h₁.get? b = some o := fun b o e hb => hsb₁.extBut b o hb (Heap.get?_push_of_some _ (hH2 ▸ Heap.get?_push_of_some _ e))
  have up1 : ∀ b o, s₁.heap.get? b = some o → H1.get? b = some o := fun b o e => hH1 ▸ Heap.get?_push_of_some _ e
  have lt1 : ∀ b o, s₁.heap.get? b = some o → b < s₁.heap.objs.size := fun b o e => Heap.lt_size e
  have old : ∀ b o, s₁.heap.get? b = some o → h₁.get? b = some o := fun b o e => old2 b o (up1 b o e) (by have := lt1 b o e; rw [h2s]; exact Nat.ne_of_lt (Nat.lt_succ_of_lt (Nat.lt_succ_of_lt this)))
  have hDC : H1.objs.size ≠ H2.objs.size := by rw [h1s, h2s]; exact Nat.ne_of_lt (Nat.lt_succ_self _)
  have hID : s₁.heap.objs.size ≠ H1.objs.size := by rw [h1s]; exact Nat.ne_of_lt (Nat.lt_succ_self _)
  have hIC : s₁.heap.objs.size ≠ H2.objs.size := by rw [h2s]; exact Nat.ne_of_lt (Nat.lt_succ_of_lt (Nat.lt_succ_self _))
  have hI1 : H1.get? s₁.heap.objs.size = some { cls := .type "list_iterator", data := .fields #[.ref ax, .int 0 0] } := by rw [← hH1]; exact Heap.get?_push_size _ rfl
  have hIt : h₁.IsListIter s₁.heap.objs.size ax 0 := ⟨_, old2 _ _ hI1 hIC, rfl, rfl⟩
  have hacc : h₁.PlainList H1.objs.size #[] := ⟨_, hsb₁.extBut _ _ hDC (Heap.get?_push_of_some _ (hH2 ▸ Heap.get?_push_size _ rfl))⟩
  have W := Walks.list (prog := prog) (w := w) (A := A) hh s₁.heap.objs.size ax (Nat.ne_of_lt hlt) vs.toArray
  simp only [List.size_toArray, List.getElem?_toArray] at W
  have loop : codeAny (model prog w) A (.compLoop (.ListComp (.Name y py) [⟨.Name x px, iter, [], 0⟩, ⟨.Name y py2, iter2, [], 0⟩] scope pos) 0 (.ref s₁.heap.objs.size) (.ref H1.objs.size) (compEnvC scope cl H2.objs.size env))
      (compPost (model prog w) A E none Q (.ref H1.objs.size) H2.objs.size) { s₁ with heap := h₁, toks := s₁.toks + ([] : List (Str × Value)).length } := by
    refine two_out (h₁ := s₁.heap) (cenv := compEnvC scope cl H2.objs.size env) G W hh (by simp [compEnvC, relabel, hkind]) (lookup_relabel_local hx) (lookup_relabel_local hy) (by simp [compEnvC, relabel, hkind]) hyd (hs2 _) hDC ?_ ?_ ?_ ?_ ⟨hIt, hl.at fun o e => old _ o e⟩ ?_ hacc hns₁ hz ?_ ?_
    · intro hm
      rcases List.mem_cons.mp hm with e | hm
      · exact hID e.symm
      · have e := List.mem_singleton.mp hm
        rw [h1s] at e
        exact absurd e (Nat.ne_of_gt (Nat.lt_succ_of_lt hlt))
    · intro hm
      rcases List.mem_cons.mp hm with e | hm
      · exact hIC e.symm
      · have e : H2.objs.size = ax := List.mem_singleton.mp hm
        rw [h2s] at e
        exact absurd e (Nat.ne_of_gt (Nat.lt_succ_of_lt (Nat.lt_succ_of_lt hlt)))
    · intro b hb
      rcases List.mem_cons.mp hb with rfl | hb
      · exact ⟨_, old2 _ _ hI1 hIC⟩
      · rw [List.mem_singleton.mp hb]
        obtain ⟨o, e, _⟩ := hl
        exact ⟨o, old _ o e⟩
    · intro b o e
      have := lt1 b o e
      refine ⟨?_, ?_, ?_, old b o e⟩
      · show b ≠ H2.objs.size
        rw [h2s]; exact Nat.ne_of_lt (Nat.lt_succ_of_lt (Nat.lt_succ_of_lt this))
      · intro hb
        rw [List.mem_singleton.mp hb] at this
        exact absurd this (Nat.lt_irrefl _)
      · rw [h1s]; exact Nat.ne_of_lt (Nat.lt_succ_of_lt this)
    · intro i h hst b hb
      rw [List.mem_singleton.mp hb]
      obtain ⟨⟨o, e, _⟩, _⟩ := hst
      exact ⟨o, e⟩
    · intro i v s₂ m₂ E' hv hn hm hk
      obtain ⟨u, F⟩ := fr_one (h₁ := s₁.heap) (by rw [h2s]; exact Nat.le_succ_of_le (Nat.le_succ _)) hn hm hk
      exact wpAny_mono (hok _ u i v s₂ E' hv F News.nil) (fun _ _ z => z.out) fun _ _ z => z
    · intro h' tk m' ws blocks hn hpl hlen hP hG hk
      have ews := vals_of hlen hP
      subst ews
      refine ⟨m', hn, fun h'' hs'' => ?_⟩
      have nD : s₁.heap.get? H1.objs.size = none := fresh_none (by rw [h1s]; exact Nat.le_succ _)
      refine hQ _ blocks h'' tk nD (hpl.isList.extBut hs''.extBut hDC) hG fun b o e => ?_
      have := lt1 b o e
      have b1 : b ≠ H2.objs.size := by rw [h2s]; exact Nat.ne_of_lt (Nat.lt_succ_of_lt (Nat.lt_succ_of_lt this))
      exact hs''.extBut b o b1 (hk b o b1 (fun hb => by
        rw [List.mem_singleton.mp hb] at this
        exact absurd this (Nat.lt_irrefl _)) (by rw [h1s]; exact Nat.ne_of_lt (Nat.lt_succ_of_lt this)) (old b o e))
  exact codeAny_compStart_list loop (wpAny_pyIter_listiter hIt loop)
/-- a list made in a block, as it stands at the end -/
noncomputable def LstNew (h₁ : Heap) (L D : Addr) (G : Value → List Value → Prop) (h' : Heap) (v y : Value) : Prop :=
  ∃ T o its n, y = .ref T ∧ h₁.get? T = none ∧ T ≠ L ∧ T ≠ D ∧ h'.get? T = some o ∧ o.cls = .type "list" ∧ o.data = .seq (List.toArray its) n ∧ G v its
theorem comp_AO {elt iter : Expr} {x y : Str} {px py : Pos} {scope : Scope} {cl : List (Str × Addr)} {pos spos : Pos} {Q : Flow → Shared → Prop} {m : Str → Option Value} {news : List (Addr × Obj)} {h₀ : Heap}
    (F₀ : Fr h₀ env.locals s.heap m) (N₀ : News h₀ env.locals s.heap news) (G : Value → List Value → Prop) (hh : A.handled = none)
    (hsw : swapsWith (.ListComp elt [⟨.Name x px, iter, [], 0⟩] scope pos) (some (.Name y py)) spos.line env = pure true)
    (hclos : closureFor scope env = pure cl) (hcell : ∀ z ∈ scope.names, z.2 ≠ .cell) (hkind : scope.kind = .function)
    (hnames : ∀ z ∈ scope.names, z.2 = .local → scope.names.lookup z.1 = some .local) (hx : scope.names.lookup x = some .local)
    (hy : env.kindOf y = some .local) (hp : (env.scope.kind == .class || (env.scope.kind == .module && env.locals != env.globals)) = false)
    (h : wpAny (model prog w) A (eval iter env) (fun xv s₁ => Mark (∃ ax vs, xv = .ref ax ∧ s₁.heap.IsList ax (List.toArray vs) ∧ vs.length ≤ 1000 ∧ EltO prog w A env scope cl x elt G vs s₁.heap ∧ Fr h₀ env.locals s₁.heap m ∧ News h₀ env.locals s₁.heap news ∧
      ∀ D ys k h' tk, Fr h₀ env.locals h' (fun z => if z = y then some (.ref D) else m z) → News h₀ env.locals h' ((D, W.listOf (List.toArray ys) k) :: news) → (∀ p ∈ news, p.1 ≠ D) → Paired (LstNew s₁.heap env.locals D G h') vs ys → ys.Pairwise (· ≠ ·) →
        Q .next { s₁ with heap := h', toks := tk })) E s)
    (hs : ∀ v, foldedSetIterable iter env v = pure v) :
    wpAny (model prog w) A (exec (.Assign [.Name y py] (.ListComp elt [⟨.Name x px, iter, [], 0⟩] scope pos) spos) env) Q E s := by
  rw [exec_Assign_Name_used _ _ _ _ hsw]
  refine wpAny_bind (wpAny_standAt (wpAny_bind ?_))
  show wpAny _ A (do let _ ← comprehension (.ListComp elt [⟨.Name x px, iter, [], 0⟩] scope pos) scope env _ (newList []) false (eval iter env) (some (assign (.Name y py) env))) _ _ s
  refine wpAny_bind (wpAny_mono (wpAny_comprehension_free (use := some (assign (.Name y py) env)) (Q := fun _ s' => Q .next s') rfl hs hclos hkind hnames
    (wpAny_mono h (fun xv s₁ h₁ => ?_) fun _ _ e => e)) (fun _ s' hq => wpAny_pure (wpAny_pure hq)) fun _ _ e => e)
  obtain ⟨ax, vs, rfl, hl, hz, hok, F, N, hQ⟩ := h₁.out
  have hlt : ax < s₁.heap.objs.size := by obtain ⟨_, e, _⟩ := hl; exact Heap.lt_size e
  refine wpAny_pyIter_list hl ?_
  have W := Walks.list (prog := prog) (w := w) (A := A) hh s₁.heap.objs.size ax (Nat.ne_of_lt hlt) vs.toArray
  simp only [List.size_toArray, List.getElem?_toArray] at W
  have lt1 : ∀ b o, s₁.heap.get? b = some o → b ∉ [s₁.heap.objs.size] := fun b o e hb => by
    have := Heap.lt_size e
    rw [List.mem_singleton.mp hb] at this
    exact absurd this (Nat.lt_irrefl _)
  have up1 : ∀ b o, s₁.heap.get? b = some o → (s₁.heap.push { cls := .type "list_iterator", data := .fields #[.ref ax, .int 0 0] }).get? b = some o := fun b o e => Heap.get?_push_of_some _ e
  refine comp_block_walkCO (RR := fun acc C => compPost (model prog w) A E (some (assign (.Name y py) env)) (fun _ s' => Q .next s') acc C) W (by rw [PySem.sizeLine_eq]; omega) (fun _ => true) (fun v (its : Array Value) => G v its.toList) ?_ hcell hkind hx ⟨⟨_, Heap.get?_push_size _ rfl, rfl, rfl⟩, hl.push _⟩ ?_ ⟨?_, ?_⟩ ?_
  · intro i h hst b hb
    rw [List.mem_singleton.mp hb]
    obtain ⟨⟨o, e, _⟩, _⟩ := hst
    exact ⟨o, e⟩
  · intro b hb
    rw [Heap.size_push]
    rcases List.mem_cons.mp hb with rfl | hb
    · exact Nat.lt_succ_self _
    · rw [List.mem_singleton.mp hb]; exact Nat.lt_succ_of_lt hlt
  · intro C i v s₃ m₃ E' hC hv hn hm hk _
    exact wpAny_pure ⟨rfl, s₃.heap, s₃.toks, rfl, fun _ _ e => e⟩
  · intro C i v s₃ m₃ E' hC hv _ hn hm hk _
    rw [Heap.size_push] at hC
    obtain ⟨u, F⟩ := fr_one (h₁ := s₁.heap) (Nat.le_of_succ_le hC) hn hm fun b o e => hk b o (lt1 b o e) (up1 b o e)
    refine wpAny_mono (hok C u i v s₃ E' hv F News.nil) (fun y s₄ z => ?_) fun _ _ z => z
    obtain ⟨⟨T, its, rfl, hT, hlT, hG⟩, K⟩ := z.out
    exact ⟨⟨T, its.toArray, rfl, hT, hlT, hG⟩, K⟩
  intro D C h' tk m' ys ws hD hC hDC hnC hlD hplD hlen hP hF hnd hk
  have ews := vals_of hlen hP
  subst ews
  rw [List.filter_eq_self.mpr (fun _ _ => rfl)] at hF
  obtain ⟨oL, _, _, hL, _⟩ := id F.ns
  have hLC : env.locals ≠ C := by rintro rfl; rw [up1 _ _ hL] at hC; cases hC
  have hLD : env.locals ≠ D := by rintro rfl; rw [up1 _ _ hL] at hD; cases hD
  have hnL : h'.Ns env.locals m := F.ns.at' fun o e => hk _ o (lt1 _ o e) (up1 _ o e)
  show wpAny _ A (assign (.Name y py) env (.ref D)) _ _ _
  refine wpAny_assign_Name (wpAny_storeName_local hy hnL (fun h₂ hn₂ hs₂ => ?_) hp)
  refine ⟨m', hnC.sameBut hs₂ (Ne.symm hLC), fun h₃ hs₃ => ?_⟩
  have hD₁ : s₁.heap.get? D = none := by
    cases e : s₁.heap.get? D with
    | none => rfl
    | some o => rw [up1 _ _ e] at hD; cases hD
  have hC₁ : s₁.heap.get? C = none := by
    cases e : s₁.heap.get? C with
    | none => rfl
    | some o => rw [up1 _ _ e] at hC; cases hC
  have keep : ∀ b o, b ≠ env.locals → s₁.heap.get? b = some o → h₃.get? b = some o := fun b o hb e => hs₃.extBut b o (by rintro rfl; rw [hC₁] at e; cases e) (hs₂.extBut b o hb (hk b o (lt1 b o e) (up1 b o e)))
  have hDn : ∀ b o, s₁.heap.get? b = some o → b ≠ D := fun b o e hb => by
    rw [hb, hD₁] at e
    cases e
  obtain ⟨k, hplD⟩ := (hplD.extBut hs₂.extBut (Ne.symm hLD)).extBut hs₃.extBut hDC
  have hnD : h₃.get? D = some (PySem.W.listOf (List.toArray ys.toList) k) := by
    rw [Array.toArray_toList]
    exact hplD
  refine hQ D ys.toList k h₃ _ ⟨hn₂.sameBut hs₃ hLC, fun b o e => keep b o (Nat.ne_of_lt (Nat.lt_of_lt_of_le (Heap.lt_size e) F.above)) (F.keep b o e), F.above⟩ ?_ (fun p hp => hDn _ _ (N p hp).1) ?_ hnd
  · intro q hq
    rcases List.mem_cons.mp hq with rfl | hq
    · refine ⟨hnD, fun e => hLD e.symm, ?_⟩
      show h₀.get? D = none
      cases e : h₀.get? D with
      | none => rfl
      | some o' => exact absurd rfl (hDn D o' (F.keep _ _ e))
    · exact ⟨keep _ _ (N q hq).2.1 (N q hq).1, (N q hq).2⟩
  · refine hF.mono fun v y hy => ?_
    obtain ⟨T, its, rfl, h1, hTC, hTw, hTD, ⟨o, ho, hc, n, hd⟩, hG⟩ := hy
    have hT₁ : s₁.heap.get? T = none := by
      cases e : s₁.heap.get? T with
      | none => rfl
      | some o => rw [up1 _ _ e] at h1; cases h1
    have hTL : T ≠ env.locals := by rintro rfl; rw [hL] at hT₁; cases hT₁
    exact ⟨T, o, its.toList, n, rfl, hT₁, hTL, hTD, hs₃.extBut T o hTC (hs₂.extBut T o hTL ho), hc, hd, hG⟩
end

/-! the rows that the statements say -/
theorem img_lt (k p : Nat) : ∀ q ∈ imgAt k p, q < 2 := by
  rcases k with _ | _ | _ | _ | _ | _ | k <;> by_cases h : p = 0 <;> simp [imgAt, img, h]
theorem img_len (k p : Nat) : (imgAt k p).length ≤ 2 := by
  rcases k with _ | _ | _ | _ | _ | _ | k <;> by_cases h : p = 0 <;> simp [imgAt, img, h]
theorem sub_lt (k : Nat) (row : List Nat) : ∀ q ∈ sub1 k row, q < 2 := by
  intro q hq
  obtain ⟨p, _, h⟩ := List.mem_flatMap.mp hq
  exact img_lt k p q h
theorem sub_len (k : Nat) (row : List Nat) : (sub1 k row).length ≤ 2 * row.length := by
  induction row with
  | nil => exact Nat.le_refl _
  | cons p row ih =>
    have e : sub1 k (p :: row) = imgAt k p ++ sub1 k row := rfl
    have := img_len k p
    rw [e, List.length_append, List.length_cons]
    omega
theorem read_lt (ks : List Nat) (row : List Nat) (h : ∀ q ∈ row, q < 2) : ∀ q ∈ readAll ks row, q < 2 := by
  cases ks with
  | nil => exact h
  | cons k ks => exact sub_lt k _
theorem read_len (ks : List Nat) (row : List Nat) : (readAll ks row).length ≤ 2 ^ ks.length * row.length := by
  induction ks with
  | nil => show row.length ≤ _; simp
  | cons k ks ih =>
    have h1 := sub_len k (readAll ks row)
    show (sub1 k (readAll ks row)).length ≤ _
    rw [List.length_cons, Nat.pow_succ, Nat.mul_comm (2 ^ ks.length) 2, Nat.mul_assoc]
    exact Nat.le_trans h1 (Nat.mul_le_mul_left 2 ih)
/-- the row behind i statements, read from the last -/
noncomputable def rowAt (kn : List Nat) (i a : Nat) : List Nat := readAll (kn.drop (kn.length - i)) [a]
theorem rowAt_zero (kn : List Nat) (a : Nat) : rowAt kn 0 a = [a] := by
  unfold rowAt
  rw [Nat.sub_zero, List.drop_length]
  rfl
theorem rowAt_end (kn : List Nat) (a : Nat) : rowAt kn kn.length a = readAll kn [a] := by
  unfold rowAt
  rw [Nat.sub_self, List.drop_zero]
theorem rowAt_succ {kn : List Nat} {i k : Nat} (a : Nat) (h : kn.reverse[i]? = some k) : rowAt kn (i + 1) a = sub1 k (rowAt kn i a) := by
  have hi : i < kn.length := by
    have := (List.getElem?_eq_some_iff.mp h).1
    simpa using this
  rw [List.getElem?_reverse hi] at h
  unfold rowAt
  have e : kn.length - (i + 1) = kn.length - 1 - i := by omega
  obtain ⟨h1, h2⟩ := List.getElem?_eq_some_iff.mp h
  rw [e, List.drop_eq_getElem_cons h1, h2, show kn.length - 1 - i + 1 = kn.length - i by omega]
  rfl
theorem rowAt_lt (kn : List Nat) (i a : Nat) (ha : a < 2) : ∀ q ∈ rowAt kn i a, q < 2 := read_lt _ _ (by
  intro q hq
  rw [List.mem_singleton.mp hq]
  exact ha)
theorem rowAt_len {kn : List Nat} (h5 : kn.length = 5) (i a : Nat) : (rowAt kn i a).length ≤ 32 := by
  have h1 := read_len (kn.drop (kn.length - i)) [a]
  have h2 : (kn.drop (kn.length - i)).length ≤ 5 := by rw [List.length_drop, h5]; omega
  have h3 : 2 ^ (kn.drop (kn.length - i)).length ≤ 2 ^ 5 := Nat.pow_le_pow_right (by omega) h2
  show (readAll _ _).length ≤ 32
  simp only [List.length_singleton, Nat.mul_one] at h1
  exact Nat.le_trans h1 h3
theorem kinds_flat {k : Nat} {row : List Nat} {vs : List Value} {blocks : List (List Value)} (h : isKinds row vs) (g : Paired (fun v items => isKinds (imgAt k (numOf1 v).toNat) items) vs blocks) : isKinds (sub1 k row) blocks.flatten := by
  induction row generalizing vs blocks with
  | nil =>
    have := IntsAre.nil_inv h
    subst this
    cases g
    exact .nil
  | cons p row ih =>
    obtain ⟨t, vs', rfl, h'⟩ := IntsAre.cons_inv h
    cases g with
    | cons g1 g2 =>
      have h2 := ih h' g2
      have e : (numOf1 (Value.int (p : Int) t)).toNat = p := Int.toNat_natCast p
      rw [e] at g1
      have h3 := IntsAre.append g1 h2
      rw [← List.map_append] at h3
      exact h3
theorem kind_at {kn : List Nat} {vs : List Value} (h : isKinds kn vs) {i : Nat} {v : Value} (hv : vs[i]? = some v) : ∃ (k : Nat) (t : Tok), v = .int (k : Int) t ∧ kn[i]? = some k := by
  obtain ⟨t, e, hn⟩ := ints_at h i v hv
  rw [List.getElem?_map] at hn
  cases hk : kn[i]? with
  | none => rw [hk] at hn; cases hn
  | some k =>
    rw [hk] at hn
    refine ⟨k, t, ?_, rfl⟩
    rw [e]
    exact congrArg (fun z => Value.int z t) (Option.some.inj hn).symm
theorem pick_rev5 (a b c d e : Int) : pickNums [a, b, c, d, e] none none (some (-1)) = [e, d, c, b, a] := by
  with_unfolding_all rfl
theorem kinds_rev {kn : List Nat} {vs : List Value} (h : isKinds kn vs) (h5 : kn.length = 5) : isKinds kn.reverse (slicePick vs.toArray none none (some (-1))).toList := by
  have e := IntsAre.pick h none none (some (-1))
  unfold isKinds
  match kn, h5 with
  | [a, b, c, d, e'], _ =>
    rw [show pickNums (List.map (fun (k : Nat) => (k : Int)) [a, b, c, d, e']) none none (some (-1)) = _ from pick_rev5 _ _ _ _ _] at e
    exact e
/-- what stands behind images -/
noncomputable def ImgIs (h : Heap) (Di : Addr) : Prop := ∃ qs : List Value, h.IsList Di (List.toArray qs) ∧ ∀ k, k < 7 → ∃ q a b va vb, qs[k]? = some (.ref q) ∧ IsTup h q #[.ref a, .ref b] ∧ h.IsList a (List.toArray va) ∧ h.IsList b (List.toArray vb) ∧ isKinds (img k).1 va ∧ isKinds (img k).2 vb
theorem ImgIs.keeps {h h' : Heap} {Di : Addr} (x : ImgIs h Di) (k : Ext h h') : ImgIs h' Di := by
  obtain ⟨qs, h1, h2⟩ := x
  refine ⟨qs, isl_keeps h1 k, fun j hj => ?_⟩
  obtain ⟨q, a, b, va, vb, g1, g2, g3, g4, g5⟩ := h2 j hj
  exact ⟨q, a, b, va, vb, g1, g2.keeps k, isl_keeps g3 k, isl_keeps g4 k, g5⟩
/-! texts laid end to end -/
theorem joinE1 : ∀ ls : List (List Nat), Str.join (Str.ofString "") (ls.map tx) = tx ls.flatten
  | [] => rfl
  | [l] => by
    show tx l = tx ([l] : List (List Nat)).flatten
    simp
  | l :: k :: ls => by
    have ih := joinE1 (k :: ls)
    show tx l ++ Str.ofString "" ++ Str.join (Str.ofString "") ((k :: ls).map tx) = _
    rw [ih, app_tx]
    rfl
theorem joinE (ls : List (List Nat)) : Txt.join (Str.ofString "") (ls.map tx) = tx ls.flatten := by
  rw [← joinE1]
  exact StrLaws.glued_eq_join _ _
theorem joinE_sum (ls : List (List Nat)) (hl : ∀ l ∈ ls, l.length ≤ 7) (n : Nat) : List.foldl (fun (a : Nat) (b : Str) => a + b.length + (Str.ofString "").length) n (ls.map tx) ≤ n + 8 * ls.length := by
  induction ls generalizing n with
  | nil => exact Nat.le_refl _
  | cons l ls ih =>
    rw [List.map_cons, List.foldl_cons]
    have h1 := hl l (.head _)
    have e : n + (tx l).length + (Str.ofString "").length = n + l.length := by rw [len_tx]; rfl
    rw [e]
    refine Nat.le_trans (ih (fun x hx => hl x (.tail _ hx)) _) ?_
    rw [List.length_cons]
    omega
theorem joinOkE (ls : List (List Nat)) (hl : ∀ l ∈ ls, l.length ≤ 7) (hz : ls.length ≤ 100) : JoinOk (Str.ofString "") (ls.map tx) = true := by
  unfold JoinOk
  rw [Bool.not_eq_true']
  have e := joinE_sum ls hl 0
  rw [← List.foldl_toArray] at e
  unfold Builtin.Str.tooLong
  rw [PySem.sizeLine_eq]
  refine decide_eq_false ?_
  intro h
  have e1 : (Str.ofString "").length = 0 := rfl
  omega
section
variable {prog : Program} {w : World} {A : Around} {E : Value → Shared → Prop} {s : Shared} {Q : Value → Shared → Prop}
theorem join_plain {la : Addr} {vs : List Value} {ls : List (List Nat)} (hl : s.heap.IsList la vs.toArray) (hc : TextsAre vs ls) (h7 : ∀ l ∈ ls, l.length ≤ 7) (hz : ls.length ≤ 100) (t : Tok)
   (h : ∀ tk t', Q (.str (tx ls.flatten) t') { s with toks := tk }) : wpAny (model prog w) A (call (.builtin "str.join") [.str (Str.ofString "") t, .ref la]) Q E s := by
  obtain ⟨ps, rfl, e⟩ := textVals hc
  have hok := joinOkE ls h7 hz
  rw [← e] at hok
  have hok' := hok
  unfold JoinOk at hok'
  rw [Bool.not_eq_true'] at hok'
  refine call_meets F.slot_str_join (typeIs_str _ _ _) F.entry_str_join (F.args_str_join_2 _ _) (meets_str_join_list _ t la ps hok') ⟨hl, post_join ps ⟨joinFit_length hok', fun t' k => ?_⟩⟩
  rw [e, joinE]
  exact h _ _
end
/-- a row, each place for its word -/
theorem texts_row {A B : List Nat} {row : List Nat} {vs ys : List Value} (h : isKinds row vs) (g : Paired (fun v y => ∃ t, y = Value.str (tx (if (numOf1 v).toNat = 0 then A else B)) t) vs ys) : ∃ ls, TextsAre ys ls ∧ ls.flatten = say A B row ∧ ls.length = row.length ∧ ∀ l ∈ ls, l = A ∨ l = B := by
  induction row generalizing vs ys with
  | nil =>
    have := IntsAre.nil_inv h
    subst this
    cases g
    exact ⟨[], .nil, rfl, rfl, by intro l hl; cases hl⟩
  | cons p row ih =>
    obtain ⟨t, vs', rfl, h'⟩ := IntsAre.cons_inv h
    cases g with
    | cons g1 g2 =>
      obtain ⟨ls, h1, h2, h3, h4⟩ := ih h' g2
      obtain ⟨t', rfl⟩ := g1
      have e : (numOf1 (Value.int (p : Int) t)).toNat = p := Int.toNat_natCast p
      rw [e]
      refine ⟨_ :: ls, .cons _ t' h1, ?_, by simp [h3], ?_⟩
      · rw [List.flatten_cons, h2]
        rfl
      · intro l hl
        rcases List.mem_cons.mp hl with rfl | hl
        · by_cases hp : p = 0
          · rw [if_pos hp]; exact .inl rfl
          · rw [if_neg hp]; exact .inr rfl
        · exact h4 l hl
section
variable {prog : Program} {w : World} {A : Around} {E : Value → Shared → Prop} {s : Shared} {h₀ : Heap} {L l : Addr} {m : Str → Option Value} {news : List (Addr × Obj)} {value slice : PySem.Expr} {vs : List Value} {vl vu vk : Value} {lo hi st : Option Int} {Q : Value → Shared → Prop}
theorem slice_pick {ops : List Value} (F : Fr h₀ L s.heap m) (N : News h₀ L s.heap news) (hl : s.heap.IsList l vs.toArray) (pl : IsPart vl lo) (pu : IsPart vu hi) (pk : IsPart vk st) (h0 : st ≠ some 0)
    (h : ∀ D h', Fr h₀ L h' m → News h₀ L h' ((D, W.listOf (List.toArray (slicePick vs.toArray lo hi st).toList) 0) :: news) → (∀ p ∈ news, p.1 ≠ D) → Q (.ref D) { s with heap := h' })
    (hs : subscripted slice false (.ref l) (.ref s.heap.objs.size) = operate ops (getItem (.ref l) (.ref s.heap.objs.size))) (ht : ∀ r, letTemporaryGo value (.ref l) r = pure ()) (hz : vs.length ≤ 1000) :
    wpAny (model prog w) A (subscriptTail value slice (.ref l) (.ref s.heap.objs.size)) Q E { s with heap := s.heap.push { cls := .type "slice", data := .fields #[vl, vu, vk] } } := by
  refine subscriptTail_ops (Heap.IsList.typeIs (s := { s with heap := s.heap.push { cls := .type "slice", data := .fields #[vl, vu, vk] } }) (hl.push _)) PySem.list_getitem_lookup
    (wpAny_getItem_list_slice (hl.push _) (Heap.IsSliceOf.new ..) pl pu pk h0 ?_ (by rw [PySem.sizeLine_eq, List.size_toArray]; omega)) hs ht
  have N1 := News.push (F.push { cls := .type "slice", data := .fields #[vl, vu, vk] }) (N.grown fun _ _ e => Heap.get?_push_of_some _ e) { cls := .type "list", data := .seq (slicePick vs.toArray lo hi st) }
  rw [Heap.size_push] at N1
  show Q (.ref (s.heap.push _).objs.size) _
  rw [Heap.size_push]
  refine h _ _ ((F.push _).push _) ?_ (fun p hp => Nat.ne_of_lt (Nat.lt_succ_of_lt (Heap.lt_size (N p hp).1)))
  rw [Array.toArray_toList]
  exact N1
/-- a list that a block made, in the ledger -/
theorem lst_news {h₁ h' : Heap} {D : Addr} {G : Value → List Value → Prop} {v y : Value} (F : Fr h₀ L h₁ m) (x : LstNew h₁ L D G h' v y) : ∃ T o its n, y = .ref T ∧ News h₀ L h' [(T, o)] ∧ (∀ b o, h₁.get? b = some o → b ≠ T) ∧ o.cls = .type "list" ∧ o.data = .seq (List.toArray its) n ∧ G v its := by
  obtain ⟨T, o, its, n, rfl, h1, hL, hD, ho, hc, hd, hG⟩ := x
  refine ⟨T, o, its, n, rfl, ?_, ?_, hc, hd, hG⟩
  · intro p hp
    rw [List.mem_singleton.mp hp]
    refine ⟨ho, hL, ?_⟩
    show h₀.get? T = none
    cases e : h₀.get? T with
    | none => rfl
    | some o' => rw [F.keep _ _ e] at h1; cases h1
  · intro b o e hb
    rw [hb, h1] at e
    cases e
end

noncomputable def lawRest17 : List Stmt := (bodyOf "law").drop 17
section
variable {prog : Program} {w : World} {dp un : Nat} {fr : Option (List Env)} {gd : Option (List Code)} {s : Shared} {Q : Flow → Shared → Prop}
example : True := by
  (k_with "execs cons" => ((guard_hyp stopq22 : True); ((
  (with_reducible show wpAny _ _ (execs (List.cons (Stmt.Assign _ _ { line := 224, col := _, endLine := _, endCol := _ }) _) _) _ _ _)
  refine Mark.out ?_))))
  trivial
theorem law_f {h₀ : Heap} {L fa Dk Dl : Addr} {cd : Value} {mg mb : Str → Option Value} {mean : ExcName → Option Value} {kus : List Value} {kk kl : Nat} {o1 o2 o4 o5 : Obj} {u0 : Str → Option Value} {A B : List Nat} {t1 t2 : Tok}
    (X : (hd.heap_1 w.params).In h₀) (T : Top lawView LS mean mg mb h₀) (hdp : dp + 100 < recursionLimit) (hu : un + 1000 < cLine)
    (d5 : o5.data = Data.cell none)
    (nl : AllNe Dl [(L + 1 + 1 + 1 + 1 + 1, o5), (L + 1 + 1 + 1 + 1, o4)]) (nk : AllNe Dk [(L + 1 + 1 + 1 + 1 + 1, o5), (L + 1 + 1 + 1 + 1, o4)])
    (F : Fr h₀ L s.heap (kstB u0 [(Str.ofString "last", .ref Dl), (Str.ofString "kinds", .ref Dk)]))
    (N : News h₀ L s.heap [(Dl, W.listOf #[.str (tx A) t1, .str (tx B) t2] kl), (Dk, W.listOf (List.toArray kus) kk), (L + 1 + 1 + 1 + 1 + 1, o5), (L + 1 + 1 + 1 + 1, o4), (L + 1 + 1, o2), (L + 1, o1)])
    (hQ : ∀ h' tk (il : List (Addr × Obj)) (o5' : Obj) (Di : Addr) u', (∀ h' : Heap, (∀ p ∈ il, h'.get? p.1 = some p.2) → ImgIs h' Di) → (∀ p ∈ il, @LT.lt Nat _ (L + 1 + 1 + 1 + 1) p.1) → o5'.data = Data.cell (some (.ref Di)) →
      Fr h₀ L h' (kstB u' [(Str.ofString "last", .ref Dl), (Str.ofString "kinds", .ref Dk)]) →
      News h₀ L h' ((L + 1 + 1 + 1 + 1, o4) :: (Dl, W.listOf #[.str (tx A) t1, .str (tx B) t2] kl) :: (Dk, W.listOf (List.toArray kus) kk) :: (L + 1 + 1 + 1 + 1 + 1, o5') :: (L + 1 + 1, o2) :: (L + 1, o1) :: il) →
      wpAny (model prog w) ((top0 dp un fr gd).deeper (envOfC "law" lawScope L fa cd)) (execs lawRest17 (envOfC "law" lawScope L fa cd)) Q (fun _ _ => False) { s with heap := h', toks := tk }) :
    wpAny (model prog w) ((top0 dp un fr gd).deeper (envOfC "law" lawScope L fa cd)) (execs lawRest16 (envOfC "law" lawScope L fa cd)) Q (fun _ _ => False) s := by
  have stopq22 := True.intro
  obtain ⟨heap, gens, drawn, toks, os⟩ := s
  simp only [AllNe, and_true] at nl nk
  dsimp only [kstB] at F N hQ ⊢
  conv in (lawRest16) => whnf
  conv in (occs := *) lawScope => all_goals whnf
  k_steps
  refine ⟨?_⟩
  (with_reducible rename Fr _ _ _ _ => F1); (with_reducible rename News _ _ _ _ => N1)
  (rename (_ = Data.cell (some (Value.ref _))) => e5)
  obtain ⟨il, o5', Di, N2, himg, hil, e5'⟩ : ∃ (il : List (Addr × Obj)) (o5' : Obj) (Di : Addr), News h₀ L _ (il ++ (Dl, W.listOf #[.str (tx A) t1, .str (tx B) t2] kl) :: (Dk, W.listOf (List.toArray kus) kk) :: (L + 1 + 1 + 1 + 1 + 1, o5') :: (L + 1 + 1 + 1 + 1, o4) :: (L + 1 + 1, o2) :: (L + 1, o1) :: []) ∧
      (∀ h' : Heap, (∀ p ∈ il, h'.get? p.1 = some p.2) → ImgIs h' Di) ∧ (∀ p ∈ il, @LT.lt Nat _ (L + 1 + 1 + 1 + 1) p.1) ∧ o5'.data = Data.cell (some (.ref Di)) := by
    refine ⟨[_, _, _, _, _, _, _, _, _, _, _, _, _, _, _, _, _, _, _, _, _, _], _, _, N1, ?_, ?_, e5⟩
    · intro h' hh
      simp only [List.forall_mem_cons] at hh
      obtain ⟨i0, q6, b6, a6, q5, b5, a5, q4, b4, a4, q3, b3, a3, q2, b2, a2, q1, b1, a1, q0, b0, a0, -⟩ := hh
      refine ⟨[_, _, _, _, _, _, _], ⟨_, i0, rfl, _, rfl⟩, ?_⟩
      intro k hk
      have t : ∀ {q : Addr} {o : Obj} {vs : Array Value}, h'.get? q = some o → o.cls = .type "tuple" → (∃ n, o.data = .seq vs n) → IsTup h' q vs := fun e e1 e2 => ⟨_, e, e1, e2⟩
      have l : ∀ {q : Addr} {vs : List Value} {n : Nat}, h'.get? q = some (W.listOf (List.toArray vs) n) → h'.IsList q (List.toArray vs) := fun e => ⟨_, e, rfl, _, rfl⟩
      obtain rfl | rfl | rfl | rfl | rfl | rfl | rfl : k = 0 ∨ k = 1 ∨ k = 2 ∨ k = 3 ∨ k = 4 ∨ k = 5 ∨ k = 6 := by omega
      · exact ⟨_, _, _, [_, _], [_], rfl, t q0 rfl ⟨_, rfl⟩, l a0, l b0, .cons _ _ (.cons _ _ .nil), .cons _ _ .nil⟩
      · exact ⟨_, _, _, [_], [_, _], rfl, t q1 rfl ⟨_, rfl⟩, l a1, l b1, .cons _ _ .nil, .cons _ _ (.cons _ _ .nil)⟩
      · exact ⟨_, _, _, [_, _], [_], rfl, t q2 rfl ⟨_, rfl⟩, l a2, l b2, .cons _ _ (.cons _ _ .nil), .cons _ _ .nil⟩
      · exact ⟨_, _, _, [_], [_, _], rfl, t q3 rfl ⟨_, rfl⟩, l a3, l b3, .cons _ _ .nil, .cons _ _ (.cons _ _ .nil)⟩
      · exact ⟨_, _, _, [_, _], [_], rfl, t q4 rfl ⟨_, rfl⟩, l a4, l b4, .cons _ _ (.cons _ _ .nil), .cons _ _ .nil⟩
      · exact ⟨_, _, _, [_], [_, _], rfl, t q5 rfl ⟨_, rfl⟩, l a5, l b5, .cons _ _ .nil, .cons _ _ (.cons _ _ .nil)⟩
      · exact ⟨_, _, _, [_], [_], rfl, t q6 rfl ⟨_, rfl⟩, l a6, l b6, .cons _ _ .nil, .cons _ _ .nil⟩
    · skip
      (rename _ ∧ _ => q)
      refine List.forall_mem_cons.mpr ⟨q.2.2.2.2.2.2.2.2.2.2.2.2.2.2.2.2.2.2.2.2.2.2.2.2.1, ?_⟩
      clear q
      (rename _ ∧ _ => q)
      refine List.forall_mem_cons.mpr ⟨q.2.2.2.2.2.2.2.2.2.2.2.2.2.2.2.2.2.2.2.2.2.2.2.1, ?_⟩
      clear q
      (rename _ ∧ _ => q)
      refine List.forall_mem_cons.mpr ⟨q.2.2.2.2.2.2.2.2.2.2.2.2.2.2.2.2.2.2.2.2.2.2.1, ?_⟩
      clear q
      (rename _ ∧ _ => q)
      refine List.forall_mem_cons.mpr ⟨q.2.2.2.2.2.2.2.2.2.2.2.2.2.2.2.2.2.2.2.2.2.1, ?_⟩
      clear q
      (rename _ ∧ _ => q)
      refine List.forall_mem_cons.mpr ⟨q.2.2.2.2.2.2.2.2.2.2.2.2.2.2.2.2.2.2.2.2.1, ?_⟩
      clear q
      (rename _ ∧ _ => q)
      refine List.forall_mem_cons.mpr ⟨q.2.2.2.2.2.2.2.2.2.2.2.2.2.2.2.2.2.2.2.1, ?_⟩
      clear q
      (rename _ ∧ _ => q)
      refine List.forall_mem_cons.mpr ⟨q.2.2.2.2.2.2.2.2.2.2.2.2.2.2.2.2.2.2.1, ?_⟩
      clear q
      (rename _ ∧ _ => q)
      refine List.forall_mem_cons.mpr ⟨q.2.2.2.2.2.2.2.2.2.2.2.2.2.2.2.2.2.1, ?_⟩
      clear q
      (rename _ ∧ _ => q)
      refine List.forall_mem_cons.mpr ⟨q.2.2.2.2.2.2.2.2.2.2.2.2.2.2.2.2.1, ?_⟩
      clear q
      (rename _ ∧ _ => q)
      refine List.forall_mem_cons.mpr ⟨q.2.2.2.2.2.2.2.2.2.2.2.2.2.2.2.1, ?_⟩
      clear q
      (rename _ ∧ _ => q)
      refine List.forall_mem_cons.mpr ⟨q.2.2.2.2.2.2.2.2.2.2.2.2.2.2.1, ?_⟩
      clear q
      (rename _ ∧ _ => q)
      refine List.forall_mem_cons.mpr ⟨q.2.2.2.2.2.2.2.2.2.2.2.2.2.1, ?_⟩
      clear q
      (rename _ ∧ _ => q)
      refine List.forall_mem_cons.mpr ⟨q.2.2.2.2.2.2.2.2.2.2.2.2.1, ?_⟩
      clear q
      (rename _ ∧ _ => q)
      refine List.forall_mem_cons.mpr ⟨q.2.2.2.2.2.2.2.2.2.2.2.1, ?_⟩
      clear q
      (rename _ ∧ _ => q)
      refine List.forall_mem_cons.mpr ⟨q.2.2.2.2.2.2.2.2.2.2.1, ?_⟩
      clear q
      (rename _ ∧ _ => q)
      refine List.forall_mem_cons.mpr ⟨q.2.2.2.2.2.2.2.2.2.1, ?_⟩
      clear q
      (rename _ ∧ _ => q)
      refine List.forall_mem_cons.mpr ⟨q.2.2.2.2.2.2.2.2.1, ?_⟩
      clear q
      (rename _ ∧ _ => q)
      refine List.forall_mem_cons.mpr ⟨q.2.2.2.2.2.2.2.1, ?_⟩
      clear q
      (rename _ ∧ _ => q)
      refine List.forall_mem_cons.mpr ⟨q.2.2.2.2.2.2.1, ?_⟩
      clear q
      (rename _ ∧ _ => q)
      refine List.forall_mem_cons.mpr ⟨q.2.2.2.2.2.1, ?_⟩
      clear q
      (rename _ ∧ _ => q)
      refine List.forall_mem_cons.mpr ⟨q.2.2.2.2.1, ?_⟩
      clear q
      (rename _ ∧ _ => q)
      refine List.forall_mem_cons.mpr ⟨q.2.2.2.1, ?_⟩
      clear q
      exact List.forall_mem_nil _
  replace N2 : News h₀ L _ ((L + 1 + 1 + 1 + 1, o4) :: (Dl, W.listOf #[.str (tx A) t1, .str (tx B) t2] kl) :: (Dk, W.listOf (List.toArray kus) kk) :: (L + 1 + 1 + 1 + 1 + 1, o5') :: (L + 1 + 1, o2) :: (L + 1, o1) :: il) := news_sub N2 fun p hp => by
    have hp0 : p ∈ [_, _, _, _, _, _] ++ il := hp
    clear hp
    rcases List.mem_append.mp hp0 with hp | hp
    · refine List.mem_append_right _ ?_
      clear hp0
      revert p
      walk_at "MEMS"
    · exact List.mem_append_left _ hp
  clear N1 e5
  obtain ⟨u2, F2⟩ := canon F1 [(Str.ofString "last", .ref Dl), (Str.ofString "kinds", .ref Dk)] (by walk_at "HK")
  have hq := fun tk => @hQ _ tk il o5' Di u2 himg hil e5' F2 N2
  clear hQ
  conv at hq in (lawRest17) => whnf
  conv at hq in (occs := *) lawScope => all_goals whnf
  dsimp only at hq ⊢
  with_reducible exact hq _
end

noncomputable def lawRest19 : List Stmt := (bodyOf "law").drop 19
structure RwS where
  D : Addr
  a0 : Addr
  a1 : Addr
  k : Nat
  b0 : Obj
  b1 : Obj
  u0 : List Value
  u1 : List Value
  n0 : Nat
  n1 : Nat
  oc : Obj
noncomputable abbrev RwS.led (c : RwS) (K : Addr) (rest : List (Addr × Obj)) : List (Addr × Obj) := (K, c.oc) :: (c.D, W.listOf #[.ref c.a0, .ref c.a1] c.k) :: (c.a0, c.b0) :: (c.a1, c.b1) :: rest
structure RwS.Ok (c : RwS) (kn : List Nat) (K : Addr) (i : Nat) : Prop where
  oc : ∃ v, c.oc.data = Data.cell v
  nD : @Ne Nat c.D K
  n0 : @Ne Nat c.a0 K
  n1 : @Ne Nat c.a1 K
  n01 : c.a0 ≠ c.a1
  c0 : c.b0.cls = .type "list"
  c1 : c.b1.cls = .type "list"
  d0 : c.b0.data = .seq (List.toArray c.u0) c.n0
  d1 : c.b1.data = .seq (List.toArray c.u1) c.n1
  k0 : isKinds (rowAt kn i 0) c.u0
  k1 : isKinds (rowAt kn i 1) c.u1
section
variable {prog : Program} {w : World} {dp un : Nat} {fr : Option (List Env)} {gd : Option (List Code)} {s : Shared} {Q : Flow → Shared → Prop}
example : True := by
  (k_with "exec For Name Subscript cons nil" => ((guard_hyp stopq23 : True); ((refine Mark.out ?_))))
  trivial
example : True := by
  (k_with "subscriptTail Name Slice ref ref" => ((guard_hyp stopq24 : True); ((refine Mark.out ?_))))
  trivial
example : True := by
  (k_with "subscriptTail Name Name ref int" => ((guard_hyp stopq25 : True); ((refine Mark.out ?_))))
  trivial
example : True := by
  (k_with "subscriptTail Subscript Name Name Name ref int" => ((guard_hyp stopq26 : True); ((refine Mark.out ?_))))
  trivial
example : True := by
  (k_with "CLR" => ((guard_hyp stopq27 : True); ((all_goals (try (first | exact (0 : Addr) | exact (default : Str) | exact Value.none | exact ([] : List (Str × Addr))))))))
  trivial
theorem law_g {h₀ : Heap} {L fa Dk Dl Di : Addr} {cd : Value} {mg mb : Str → Option Value} {mean : ExcName → Option Value} {kus : List Value} {kn : List Nat} {kk : Nat} {o1 o2 o4 o5 ol : Obj} {u0 : Str → Option Value} {il : List (Addr × Obj)}
    (X : (hd.heap_1 w.params).In h₀) (T : Top lawView LS mean mg mb h₀) (hdp : dp + 100 < recursionLimit) (hu : un + 1000 < cLine)
    (ik : isKinds kn kus) (hk5 : kn.length = 5) (hk7 : ∀ k ∈ kn, k < 7) (d4 : o4.data = Data.cell none) (e5 : o5.data = Data.cell (some (.ref Di)))
    (himg : ∀ h' : Heap, (∀ p ∈ il, h'.get? p.1 = some p.2) → ImgIs h' Di) (hil : ∀ p ∈ il, @LT.lt Nat _ (L + 1 + 1 + 1 + 1) p.1)
    (nl : @Ne Nat Dl (L + 1 + 1 + 1 + 1)) (nk : @Ne Nat Dk (L + 1 + 1 + 1 + 1))
    (F : Fr h₀ L s.heap (kstB u0 [(Str.ofString "last", .ref Dl), (Str.ofString "kinds", .ref Dk)]))
    (N : News h₀ L s.heap ((L + 1 + 1 + 1 + 1, o4) :: (Dl, ol) :: (Dk, W.listOf (List.toArray kus) kk) :: (L + 1 + 1 + 1 + 1 + 1, o5) :: (L + 1 + 1, o2) :: (L + 1, o1) :: il))
    (hQ : ∀ h' tk (c : RwS) u', c.Ok kn (L + 1 + 1 + 1 + 1) 5 → Fr h₀ L h' (kstB u' [(Str.ofString "rows", .ref c.D), (Str.ofString "last", .ref Dl)]) →
      News h₀ L h' [(c.D, W.listOf #[.ref c.a0, .ref c.a1] c.k), (c.a0, c.b0), (c.a1, c.b1), (Dl, ol), (L + 1 + 1, o2), (L + 1, o1)] →
      wpAny (model prog w) ((top0 dp un fr gd).deeper (envOfC "law" lawScope L fa cd)) (execs lawRest19 (envOfC "law" lawScope L fa cd)) Q (fun _ _ => False) { s with heap := h', toks := tk }) :
    wpAny (model prog w) ((top0 dp un fr gd).deeper (envOfC "law" lawScope L fa cd)) (execs lawRest17 (envOfC "law" lawScope L fa cd)) Q (fun _ _ => False) s := by
  have stopq23 := True.intro
  have stopq24 := True.intro
  have stopq25 := True.intro
  have stopq26 := True.intro
  have stopq27 := True.intro
  obtain ⟨heap, gens, drawn, toks, os⟩ := s
  dsimp only [kstB] at F N hQ ⊢
  conv in (lawRest17) => whnf
  conv in (occs := *) lawScope => all_goals whnf
  k_steps
  refine ⟨?_⟩
  (with_reducible rename Fr _ _ _ _ => F0)
  refine For_turns F0 ?_ (by intro _; with_unfolding_all rfl) passes_none
  k_steps
  refine ⟨?_⟩
  (with_reducible rename Fr _ _ _ _ => F1); (with_reducible rename News _ _ _ _ => N1)
  have hkl : kus.length = 5 := by rw [IntsAre.length ik, List.length_map, hk5]
  refine slice_pick (s := ⟨_, _, _, _, _⟩) F1 N1 (PySem.IsL.isList (N1 (Dk, W.listOf (List.toArray kus) kk) (by k_mem)).1) .none .none (.int _ _) (by decide) ?_ (by with_unfolding_all rfl) (by intro _; with_unfolding_all rfl) (by omega)
  intro Dr h1 F2 N2 nr
  clear F1 N1
  k_steps
  refine ⟨?_⟩
  (with_reducible rename Fr _ _ _ _ => F3); (with_reducible rename News _ _ _ _ => N3)
  have nDr : @Ne Nat Dr (L + 1 + 1 + 1 + 1) := fun e => nr (L + 1 + 1 + 1 + 1, o4) (.tail _ (.tail _ (.tail _ (.head _)))) e.symm
  obtain ⟨D, a0, a1, t0, t1, N4, hD, q0, q1, q2, q3⟩ : ∃ (D a0 a1 : Addr) (t0 t1 : Tok), News h₀ L h1 ((Dr, W.listOf (slicePick kus.toArray none none (some (-1))).toList.toArray 0) :: (D, W.listOf #[.ref a0, .ref a1] 0) :: (a1, W.listOf #[.int 1 t1] 0) :: (a0, W.listOf #[.int 0 t0] 0) :: (L + 1 + 1 + 1 + 1, o4) :: (Dl, ol) :: (Dk, W.listOf kus.toArray kk) :: (L + 1 + 1 + 1 + 1 + 1, o5) :: (L + 1 + 1, o2) :: (L + 1, o1) :: il) ∧
      mapOf F3 (Str.ofString "rows") = some (.ref D) ∧ @Ne Nat D (L + 1 + 1 + 1 + 1) ∧ @Ne Nat a0 (L + 1 + 1 + 1 + 1) ∧ @Ne Nat a1 (L + 1 + 1 + 1 + 1) ∧ @Ne Nat a0 a1 :=
    ⟨_, _, _, _, _, N3, rfl, by omega, by omega, by omega, by omega⟩
  clear N3 nr
  have hL : mapOf F3 (Str.ofString "last") = some (.ref Dl) := rfl
  have kr := kinds_rev ik hk5
  have krl : (slicePick kus.toArray none none (some (-1))).toList.length = 5 := by rw [IntsAre.length kr, List.length_map, List.length_reverse, hk5]
  generalize (slicePick kus.toArray none none (some (-1))).toList = rus at N4 kr krl
  show wpAny _ _ _ _ _ { heap := h1, gens := gens, drawn := drawn, toks := _, os := os }
  refine kt_listG (σ := RwS) (vs := rus) (fun c => c.led (L + 1 + 1 + 1 + 1) ((Dr, W.listOf (List.toArray rus) 0) :: (Dl, ol) :: (L + 1 + 1 + 1 + 1 + 1, o5) :: (L + 1 + 1, o2) :: (L + 1, o1) :: il)) (fun c => [(Str.ofString "rows", .ref c.D), (Str.ofString "last", .ref Dl)]) (fun i c => c.Ok kn (L + 1 + 1 + 1 + 1) i)
    ⟨D, a0, a1, 0, W.listOf #[.int 0 t0] 0, W.listOf #[.int 1 t1] 0, [.int 0 t0], [.int 1 t1], 0, 0, o4⟩ rfl (fun c => .tail _ (.tail _ (.tail _ (.tail _ (.head _))))) rfl rfl F3 (news_sub N4 ?_) ?_ ?_ ?_ ?_
  · intro p hp
    have hp0 : p ∈ [_, _, _, _, _, _, _, _, _] ++ il := hp
    clear hp
    rcases List.mem_append.mp hp0 with hp | hp
    · show p ∈ [_, _, _, _, _, _, _, _, _, _] ++ il
      refine List.mem_append_left _ ?_
      clear hp0
      revert p
      walk_at "MEMS"
    · show p ∈ [_, _, _, _, _, _, _, _, _, _] ++ il
      exact List.mem_append_right _ hp
  · exact List.forall_mem_cons.mpr ⟨hD, List.forall_mem_cons.mpr ⟨hL, List.forall_mem_nil _⟩⟩
  · exact ⟨⟨_, d4⟩, q0, q1, q2, q3, rfl, rfl, rfl, rfl, by rw [rowAt_zero]; exact .cons _ _ .nil, by rw [rowAt_zero]; exact .cons _ _ .nil⟩
  · clear F3 N4 hD hL
    intro c i v u h tk I oI hi hv hnw hP F5 N5
    obtain ⟨k, tv, rfl, hk⟩ := kind_at kr hv
    have hk' : k < 7 := hk7 k (List.mem_reverse.mp (List.mem_of_getElem? hk))
    obtain ⟨v0, hoc⟩ := hP.oc
    have hneK : ∀ p ∈ (c.D, W.listOf #[.ref c.a0, .ref c.a1] c.k) :: (c.a0, c.b0) :: (c.a1, c.b1) :: (Dr, W.listOf (List.toArray rus) 0) :: (Dl, ol) :: (L + 1 + 1 + 1 + 1 + 1, o5) :: (L + 1 + 1, o2) :: (L + 1, o1) :: (il ++ [(I, oI)]), p.1 ≠ L + 1 + 1 + 1 + 1 :=
      List.forall_mem_cons.mpr ⟨hP.nD, List.forall_mem_cons.mpr ⟨hP.n0, List.forall_mem_cons.mpr ⟨hP.n1, List.forall_mem_cons.mpr ⟨nDr, List.forall_mem_cons.mpr ⟨nl, List.forall_mem_cons.mpr ⟨Nat.ne_of_gt (Nat.lt_succ_self _),
        List.forall_mem_cons.mpr ⟨Nat.ne_of_lt (Nat.lt_succ_of_lt (Nat.lt_succ_self _)), List.forall_mem_cons.mpr ⟨Nat.ne_of_lt (Nat.lt_succ_of_lt (Nat.lt_succ_of_lt (Nat.lt_succ_self _))), fun p hp => (List.mem_append.mp hp).elim (fun h => Nat.ne_of_gt (hil p h)) (fun h e => by
          rw [List.mem_singleton.mp h] at e
          exact hnw (L + 1 + 1 + 1 + 1, c.oc) (.head _) e.symm)⟩⟩⟩⟩⟩⟩⟩⟩
    refine wpAny_assign_Name (stCN (own := []) F5 N5 (by with_unfolding_all rfl) hoc (List.forall_mem_nil _) hneK ?_ (by with_unfolding_all rfl) (by with_unfolding_all rfl))
    intro h2 oc' F6 N6 eK
    dsimp only [kstB] at F6
    have N7 : News h₀ L h2 ((L + 1 + 1 + 1 + 1, oc') :: (c.D, W.listOf #[.ref c.a0, .ref c.a1] c.k) :: (c.a0, c.b0) :: (c.a1, c.b1) :: (Dr, W.listOf (List.toArray rus) 0) :: (Dl, ol) :: (L + 1 + 1 + 1 + 1 + 1, o5) :: (L + 1 + 1, o2) :: (L + 1, o1) :: (il ++ [(I, oI)])) := N6
    clear N6 N5 F5
    (try k_unmd)
    k_steps
    refine ⟨?_⟩
    refine' comp_AO (m := mapOf F6) (cl := [("kind", L + 1 + 1 + 1 + 1), ("images", L + 1 + 1 + 1 + 1 + 1)]) F6 N7 (fun v its => (v = .ref c.a0 → isKinds (rowAt kn (i + 1) 0) its) ∧ (v = .ref c.a1 → isKinds (rowAt kn (i + 1) 1) its)) rfl ?hsw ?hclos ?hcell ?hkind ?hnames ?hx ?hy ?hp ?_ ?hs
    walk_at "COMPA"
    k_steps
    walk_at "DONE"
    (with_reducible rename Fr _ _ _ _ => F8); (with_reducible rename News _ _ _ _ => N8)
    have kI : CellIs _ (L + 1 + 1 + 1 + 1 + 1) (.ref Di) := CellIs.of N8 (.tail _ (.tail _ (.tail _ (.tail _ (.tail _ (.tail _ (.head _))))))) e5 rfl
    have kK : CellIs _ (L + 1 + 1 + 1 + 1) (.int (k : Int) tv) := CellIs.of N8 (.head _) eK rfl
    have hIm := himg _ fun p hp => (N8 p (show p ∈ [_, _, _, _, _, _, _, _, _] ++ (il ++ [(I, oI)]) from List.mem_append_right _ (List.mem_append_left _ hp))).1
    have hl0 : Heap.IsList _ c.a0 (List.toArray c.u0) := ⟨_, (N8 (c.a0, c.b0) (.tail _ (.tail _ (.head _)))).1, hP.c0, _, hP.d0⟩
    have hl1 : Heap.IsList _ c.a1 (List.toArray c.u1) := ⟨_, (N8 (c.a1, c.b1) (.tail _ (.tail _ (.tail _ (.head _))))).1, hP.c1, _, hP.d1⟩
    refine ⟨_, [.ref c.a0, .ref c.a1], rfl, PySem.IsL.isList (N8 _ (.tail _ (.head _))).1, Nat.le_of_ble_eq_true rfl, ?_, F8, N8, ?_⟩
    · intro C u' j v' s₂ E' hv' FB NB
      obtain ⟨hp2, g2, dr2, tk2, os2⟩ := s₂
      obtain ⟨ar, us, row, rfl, hla, hka, hle, hlt, hGv⟩ : ∃ ar us row, v' = .ref ar ∧ Heap.IsList h2 ar (List.toArray us) ∧ isKinds row us ∧ row.length ≤ 32 ∧ (∀ q ∈ row, q < 2) ∧ ∀ its, isKinds (sub1 k row) its → (v' = .ref c.a0 → isKinds (rowAt kn (i + 1) 0) its) ∧ (v' = .ref c.a1 → isKinds (rowAt kn (i + 1) 1) its) := by
        have e0 := rowAt_succ 0 hk
        have e1 := rowAt_succ 1 hk
        match j, hv' with
        | 0, hv' =>
          have e : v' = .ref c.a0 := (Option.some.inj hv').symm
          subst e
          exact ⟨_, _, _, rfl, hl0, hP.k0, rowAt_len hk5 i 0, rowAt_lt kn i 0 (by omega), fun its h => ⟨fun _ => e0 ▸ h, fun e => absurd (Value.ref.inj e) hP.n01⟩⟩
        | 1, hv' =>
          have e : v' = .ref c.a1 := (Option.some.inj hv').symm
          subst e
          exact ⟨_, _, _, rfl, hl1, hP.k1, rowAt_len hk5 i 1, rowAt_lt kn i 1 (by omega), fun its h => ⟨fun e => absurd (Value.ref.inj e).symm hP.n01, fun _ => e1 ▸ h⟩⟩
        | n + 2, hv' => simp at hv'
      have X' := X.keeps F8.keep
      have T' := T.keeps F8.keep
      have hla' := isl_keeps hla FB.keep
      have husl : us.length = row.length := by rw [IntsAre.length hka, List.length_map]
      clear F8 N8 hl0 hl1 hv' hv hneK hnw
      k_steps
      refine ⟨?_⟩
      refine' comp2_E (cl := [("kind", L + 1 + 1 + 1 + 1), ("images", L + 1 + 1 + 1 + 1 + 1)]) (fun v its => isKinds (imgAt k (numOf1 v).toNat) its) rfl ?hclos ?hcell ?hkind ?hnames ?hx ?hy ?hyd ?hs2 ?_ ?hs
      walk_at "COMPE"
      case hy => with_unfolding_all rfl
      case hyd => decide
      case hs2 => intro _ _; with_unfolding_all rfl
      k_steps
      walk_at "CLR"
      walk_at "DONE"
      refine ⟨_, us, rfl, hla', by omega, ?_, ?_⟩
      · intro C2 u2 j2 v2 s₃ E2 hv2 FB2 NB2
        obtain ⟨hp3, g3, dr3, tk3, os3⟩ := s₃
        obtain ⟨pl, tp, rfl, hpl⟩ := kind_at hka hv2
        have hpl2 := hlt pl (List.mem_of_getElem? hpl)
        obtain ⟨qs, i1, i2⟩ := hIm.keeps FB.keep
        obtain ⟨q, qa, qb, va, vb, j1, jt, j3, j4, j5, j6⟩ := i2 k hk'
        have il3 := isl_keeps i1 FB2.keep
        have jt3 := jt.keeps FB2.keep
        have kE := InElt.start hp3
        have X2 := X'.keeps FB.keep
        have T2 := T'.keeps FB.keep
        have kI2 : CellIs hp2 (L + 1 + 1 + 1 + 1 + 1) (.ref Di) := ⟨kI.is.keeps FB.keep⟩
        have kK2 : CellIs hp2 (L + 1 + 1 + 1 + 1) (.int (k : Int) tv) := ⟨kK.is.keeps FB.keep⟩
        clear kI kK hla' hla X' T' FB NB
        obtain rfl | rfl : pl = 0 ∨ pl = 1 := by omega
        · k_steps
          refine ⟨?_⟩
          refine item_k (s := ⟨_, _, _, _, _⟩) il3 j1 (by omega) ?_ (by with_unfolding_all rfl) (by intro _; with_unfolding_all rfl)
          k_steps
          walk_at "CLR"
          refine ⟨?_⟩
          refine PyProof.Rows.item_tupleT (s := ⟨_, _, _, _, _⟩) (l := [.ref qa, .ref qb]) (j := 0) jt3 (by decide) (by decide) rfl rfl ?_ (by with_unfolding_all rfl)
          k_steps
          walk_at "BLKEND"
          exact ⟨_, va, rfl, j3, by rw [IntsAre.length j5, List.length_map]; exact img_len k 0, j5⟩
        · k_steps
          refine ⟨?_⟩
          refine item_k (s := ⟨_, _, _, _, _⟩) il3 j1 (by omega) ?_ (by with_unfolding_all rfl) (by intro _; with_unfolding_all rfl)
          k_steps
          walk_at "CLR"
          refine ⟨?_⟩
          refine PyProof.Rows.item_tupleT (s := ⟨_, _, _, _, _⟩) (l := [.ref qa, .ref qb]) (j := 1) jt3 (by decide) (by decide) rfl rfl ?_ (by with_unfolding_all rfl)
          k_steps
          walk_at "BLKEND"
          exact ⟨_, vb, rfl, j4, by rw [IntsAre.length j6, List.length_map]; exact img_len k 1, j6⟩
      · intro Dn blocks h' tk' nD hlD hG hext
        exact ⟨⟨Dn, blocks.flatten, rfl, nD, hlD, hGv _ (kinds_flat hka hG)⟩, h', tk', rfl, hext⟩
    · intro Dn ys kd h' tk' F9 N9 hne hG hnd
      dsimp only [mapOf] at F9
      obtain ⟨y0, y1, rfl, g0, g1⟩ : ∃ y0 y1, ys = [y0, y1] ∧ LstNew h2 L Dn (fun v its => (v = .ref c.a0 → isKinds (rowAt kn (i + 1) 0) its) ∧ (v = .ref c.a1 → isKinds (rowAt kn (i + 1) 1) its)) h' (.ref c.a0) y0 ∧
          LstNew h2 L Dn (fun v its => (v = .ref c.a0 → isKinds (rowAt kn (i + 1) 0) its) ∧ (v = .ref c.a1 → isKinds (rowAt kn (i + 1) 1) its)) h' (.ref c.a1) y1 := by
        cases hG with
        | cons z1 z2 =>
          cases z2 with
          | cons z3 z4 =>
            cases z4
            exact ⟨_, _, rfl, z1, z3⟩
      obtain ⟨T0, oT0, i0, n0, rfl, M0, ne0, cc0, dd0, G0⟩ := lst_news F8 g0
      obtain ⟨T1, oT1, i1, n1, rfl, M1, ne1, cc1, dd1, G1⟩ := lst_news F8 g1
      have hT : T0 ≠ T1 := fun e => (List.pairwise_cons.mp hnd).1 _ (.head _) (congrArg Value.ref e)
      have hI : (I, oI) ∈ [(L + 1 + 1 + 1 + 1, oc'), (c.D, W.listOf #[.ref c.a0, .ref c.a1] c.k), (c.a0, c.b0), (c.a1, c.b1), (Dr, W.listOf (List.toArray rus) 0), (Dl, ol), (L + 1 + 1 + 1 + 1 + 1, o5), (L + 1 + 1, o2), (L + 1, o1)] ++ (il ++ [(I, oI)]) := List.mem_append_right _ (List.mem_append_right _ (.head _))
      have nI0 := ne0 I oI (N8 _ hI).1
      have nI1 := ne1 I oI (N8 _ hI).1
      have nID := hne _ hI
      have nK0 := ne0 _ _ (N8 _ (.head _)).1
      have nK1 := ne1 _ _ (N8 _ (.head _)).1
      have nKD := hne _ (.head _)
      have N10 : News h₀ L h' ((T0, oT0) :: (T1, oT1) :: (Dn, W.listOf #[.ref T0, .ref T1] kd) :: (L + 1 + 1 + 1 + 1, oc') :: (c.D, W.listOf #[.ref c.a0, .ref c.a1] c.k) :: (c.a0, c.b0) :: (c.a1, c.b1) :: (Dr, W.listOf (List.toArray rus) 0) :: (Dl, ol) :: (L + 1 + 1 + 1 + 1 + 1, o5) :: (L + 1 + 1, o2) :: (L + 1, o1) :: (il ++ [(I, oI)])) := by
        intro p hp
        rcases List.mem_cons.mp hp with rfl | hp
        · exact M0 _ (.head _)
        · rcases List.mem_cons.mp hp with rfl | hp
          · exact M1 _ (.head _)
          · exact N9 p hp
      have hps : ∀ p ∈ [(Str.ofString "rows", Value.ref Dn), (Str.ofString "last", Value.ref Dl)], mapOf F9 p.1 = some p.2 := by
        dsimp only [mapOf]
        walk_at "HK"
      clear F8 N9 N8 hG g0 g1 M0 M1 kI kK hIm hl0 hl1 hne ne0 ne1
      walk_at "DONE"
      (try k_unmd)
      k_steps
      refine kg_end (Led := fun c : RwS => c.led (L + 1 + 1 + 1 + 1) ((Dr, W.listOf (List.toArray rus) 0) :: (Dl, ol) :: (L + 1 + 1 + 1 + 1 + 1, o5) :: (L + 1 + 1, o2) :: (L + 1, o1) :: il)) (⟨Dn, T0, T1, kd, oT0, oT1, i0, i1, n0, n1, oc'⟩ : RwS) F9 N10 ?_ ?_ ?_ hps ?_
      · intro p hp
        have hp0 : p ∈ [_, _, _, _, _, _, _, _, _] ++ il := hp
        clear hp
        show p ∈ [_, _, _, _, _, _, _, _, _, _, _, _] ++ (il ++ [(I, oI)])
        rcases List.mem_append.mp hp0 with hp | hp
        · refine List.mem_append_left _ ?_
          clear hp0
          revert p
          walk_at "MEMS"
        · exact List.mem_append_right _ (List.mem_append_left _ hp)
      · show (I, oI) ∈ [_, _, _, _, _, _, _, _, _, _, _, _] ++ (il ++ [(I, oI)])
        exact List.mem_append_right _ (List.mem_append_right _ (.head _))
      · exact List.forall_mem_cons.mpr ⟨hnw (L + 1 + 1 + 1 + 1, c.oc) (.head _), List.forall_mem_cons.mpr ⟨Ne.symm nID, List.forall_mem_cons.mpr ⟨Ne.symm nI0, List.forall_mem_cons.mpr ⟨Ne.symm nI1, fun p hp => hnw p (.tail _ (.tail _ (.tail _ (.tail _ hp))))⟩⟩⟩⟩
      · exact ⟨⟨_, eK⟩, Ne.symm nKD, Ne.symm nK0, Ne.symm nK1, hT, cc0, cc1, dd0, dd1, G0.1 rfl, G1.2 rfl⟩
  · clear F3 N4 hD hL
    intro c u h tk hP F5 N5
    rw [krl] at hP
    dsimp only [kstB] at F5
    obtain ⟨u9, F6⟩ := canon F5 [(Str.ofString "rows", .ref c.D), (Str.ofString "last", .ref Dl)] (by walk_at "HK")
    have N6 : News h₀ L h [(c.D, W.listOf #[.ref c.a0, .ref c.a1] c.k), (c.a0, c.b0), (c.a1, c.b1), (Dl, ol), (L + 1 + 1, o2), (L + 1, o1)] := news_sub N5 (by
      intro p hp
      show p ∈ [_, _, _, _, _, _, _, _, _] ++ il
      refine List.mem_append_left _ ?_
      revert p
      walk_at "MEMS")
    have hq := fun tk => @hQ h tk c u9 hP F6 N6
    clear hQ
    conv at hq in (lawRest19) => whnf
    conv at hq in (occs := *) lawScope => all_goals whnf
    dsimp only at hq ⊢
    with_reducible exact hq _
end

section
variable {prog : Program} {w : World} {A : Around} {E : Value → Shared → Prop} {s : Shared} {env : Env}
theorem comp1_E {elt iter : Expr} {x : Str} {px : Pos} {scope : Scope} {cl : List (Str × Addr)} {pos : Pos} {Q : Value → Shared → Prop} (G : Value → Value → Prop) (hh : A.handled = none)
    (hclos : closureFor scope env = pure cl) (hcell : ∀ y ∈ scope.names, y.2 ≠ .cell) (hkind : scope.kind = .function)
    (hnames : ∀ y ∈ scope.names, y.2 = .local → scope.names.lookup y.1 = some .local) (hx : scope.names.lookup x = some .local)
    (h : wpAny (model prog w) A (eval iter env) (fun xv s₁ => Mark (∃ ax vs, xv = .ref ax ∧ s₁.heap.IsList ax (List.toArray vs) ∧ vs.length ≤ 1000 ∧ CompOk prog w A env scope cl x [] elt (fun _ => true) G (fun i v => vs[i]? = some v) s₁.heap ∧
      ∀ D ys h' tk, h'.IsList D (List.toArray ys) → Paired G vs ys → Ext s₁.heap h' → Q (.ref D) { s₁ with heap := h', toks := tk })) E s)
    (hs : ∀ v, foldedSetIterable iter env v = pure v) :
    wpAny (model prog w) A (eval (.ListComp elt [⟨.Name x px, iter, [], 0⟩] scope pos) env) Q E s := by
  refine wpAny_ListComp_free (fun _ => true) G hclos hcell hkind hnames hx (wpAny_mono h (fun xv s₁ h₁ => ?_) fun _ _ e => e) hs
  obtain ⟨ax, vs, rfl, hl, hz, K, hQ⟩ := h₁.out
  have hlt : ax < s₁.heap.objs.size := by obtain ⟨_, e, _⟩ := hl; exact Heap.lt_size e
  refine wpAny_pyIter_list hl ?_
  have W := Walks.list (prog := prog) (w := w) (A := A) hh s₁.heap.objs.size ax (Nat.ne_of_lt hlt) vs.toArray
  simp only [List.size_toArray, List.getElem?_toArray] at W
  refine ⟨_, _, _, _, _, _, rfl, W, by rw [PySem.sizeLine_eq]; omega, ⟨⟨_, Heap.get?_push_size _ rfl, rfl, rfl⟩, hl.push _⟩, ?_, K.quiet ?_ (fun b o e => Heap.get?_push_of_some _ e) (by rw [Heap.size_push]; exact Nat.le_succ _), ?_⟩
  · intro b hb
    rw [Heap.size_push]
    rcases List.mem_cons.mp hb with rfl | hb
    · exact Nat.lt_succ_self _
    · rw [List.mem_singleton.mp hb]; exact Nat.lt_succ_of_lt hlt
  · intro b hb
    rw [List.mem_singleton.mp hb]
    exact fresh_none (Nat.le_refl _)
  · intro D h' tk ys ws hnew hlD hplD hlen hP hF hk
    have ews := vals_of hlen hP
    subst ews
    rw [List.filter_eq_self.mpr (fun _ _ => rfl)] at hF
    refine hQ D ys.toList h' tk (by rw [Array.toArray_toList]; exact hlD) hF fun b o e => hk b o (fun hb => ?_) (Heap.get?_push_of_some _ e)
    have := Heap.lt_size e
    rw [List.mem_singleton.mp hb] at this
    exact absurd this (Nat.lt_irrefl _)
end
theorem newList_KE {M : Model} {A : Around} {E : Value → Shared → Prop} {s : Shared} {h₀ : Heap} {L : Addr} {m : Str → Option Value} {news : List (Addr × Obj)} {vs : List Value} {Q : Value → Shared → Prop} (F : Fr h₀ L s.heap m) (N : News h₀ L s.heap news)
    (h : ∀ l h', Fr h₀ L h' m → News h₀ L h' ((l, W.listOf vs.toArray 0) :: news) → (∀ p ∈ news, p.1 < l) → Ext s.heap h' → Q (.ref l) { s with heap := h' }) (hz : vs.length ≤ sizeLine) : wpAny M A (newList vs) Q E s :=
  PyProof.Rows.newList_NK F N (fun h' F' N' K' => h _ h' F' N' (fun p hp => Heap.lt_size (N p hp).1) K') hz
section
variable {prog : Program} {w : World} {dp un : Nat} {fr : Option (List Env)} {gd : Option (List Code)} {s : Shared} {Q : Flow → Shared → Prop}
example : True := by
  (k_with "compareOp Eq ref ref" => ((guard_hyp stopq28 : True); ((refine Mark.out ?_))))
  trivial
example : True := by
  (k_with "call builtin:str.join" => ((guard_hyp stopq29 : True); ((refine Mark.out ?_))))
  trivial
example : True := by
  (k_with "CLR" => ((guard_hyp stopq30 : True); ((all_goals (try (first | exact (0 : Addr) | exact (default : Str) | exact Value.none | exact ([] : List (Str × Addr))))))))
  trivial
example : True := by
  (k_with "newList" => ((guard_hyp stopq31 : True); (((k_here; (with_reducible rename InElt _ _ => kE); (refine' newList_KE (s := ⟨_, _, _, _, _⟩) (by k_asm) (by k_asm) ?_ (by (rw [PySem.sizeLine_eq]; exact Nat.le_of_ble_eq_true rfl))); intro _ _ _ _ _ K'; (replace kE := inElt_next kE K'); clear K'; (try dsimp only); (try k_fold)); (try (revert kE; intro _))))))
  trivial
theorem law_h {h₀ : Heap} {L fa Dl : Addr} {cd : Value} {mg mb : Str → Option Value} {mean : ExcName → Option Value} {kn : List Nat} {kl : Nat} {o1 o2 : Obj} {u0 : Str → Option Value} {x y A B : List Nat} {tx' ty' t1 t2 : Tok} {K : Addr} (c : RwS)
    (X : (hd.heap_1 w.params).In h₀) (T : Top lawView LS mean mg mb h₀) (hdp : dp + 100 < recursionLimit) (hu : un + 1000 < cLine)
    (hk5 : kn.length = 5) (hc : c.Ok kn K 5) (hx3 : x.length ≤ 3) (hy2 : y.length ≤ 2)
    (hA : A = say x y (readAll kn [0])) (hB : B = say x y (readAll kn [1])) (cA : ∀ c ∈ A, c < 128) (cB : ∀ c ∈ B, c < 128)
    (d1 : o1.data = Data.cell (some (.str (tx x) tx'))) (d2 : o2.data = Data.cell (some (.str (tx y) ty')))
    (F : Fr h₀ L s.heap (kstB u0 [(Str.ofString "rows", .ref c.D), (Str.ofString "last", .ref Dl)]))
    (N : News h₀ L s.heap [(c.D, W.listOf #[.ref c.a0, .ref c.a1] c.k), (c.a0, c.b0), (c.a1, c.b1), (Dl, W.listOf #[.str (tx A) t1, .str (tx B) t2] kl), (L + 1 + 1, o2), (L + 1, o1)])
    (hQ : ∀ h' tk, Ext h₀ h' → Q (.ret (.bool true)) { s with heap := h', toks := tk }) :
    wpAny (model prog w) ((top0 dp un fr gd).deeper (envOfC "law" lawScope L fa cd)) (execs lawRest19 (envOfC "law" lawScope L fa cd)) Q (fun _ _ => False) s := by
  have stopq28 := True.intro
  have stopq29 := True.intro
  have stopq30 := True.intro
  have stopq31 := True.intro
  obtain ⟨heap, gens, drawn, toks, os⟩ := s
  have hA' : say x y (rowAt kn 5 0) = A := by rw [hA, ← hk5, rowAt_end]
  have hB' : say x y (rowAt kn 5 1) = B := by rw [hB, ← hk5, rowAt_end]
  dsimp only [kstB] at F N hQ ⊢
  conv in (lawRest19) => whnf
  conv in (occs := *) lawScope => all_goals whnf
  k_steps
  refine ⟨?_⟩
  (with_reducible rename Fr _ _ _ _ => F1); (with_reducible rename News _ _ _ _ => N1)
  refine' comp_E (m := mapOf F1) (cl := [("word", L + 1), ("other", L + 1 + 1)]) F1 N1 (fun _ => true) (fun v y => (v = .ref c.a0 → ∃ t, y = .str (tx A) t) ∧ (v = .ref c.a1 → ∃ t, y = .str (tx B) t)) ?hclos ?hcell ?hkind ?hnames ?hx ?_ ?hs
  walk_at "COMPE"
  k_steps
  walk_at "DONE"
  (with_reducible rename Fr _ _ _ _ => F2); (with_reducible rename News _ _ _ _ => N2)
  have kW : CellIs _ (L + 1) (.str (tx x) tx') := CellIs.of N2 (.tail _ (.tail _ (.tail _ (.tail _ (.tail _ (.head _)))))) d1 rfl
  have kO : CellIs _ (L + 1 + 1) (.str (tx y) ty') := CellIs.of N2 (.tail _ (.tail _ (.tail _ (.tail _ (.head _))))) d2 rfl
  have ilD : Heap.IsList _ c.D (List.toArray [.ref c.a0, .ref c.a1]) := PySem.IsL.isList (N2 _ (.head _)).1
  have hl0 : Heap.IsList _ c.a0 (List.toArray c.u0) := ⟨_, (N2 (c.a0, c.b0) (.tail _ (.head _))).1, hc.c0, _, hc.d0⟩
  have hl1 : Heap.IsList _ c.a1 (List.toArray c.u1) := ⟨_, (N2 (c.a1, c.b1) (.tail _ (.tail _ (.head _)))).1, hc.c1, _, hc.d1⟩
  refine ⟨_, _, src_list rfl ilD (by rw [PySem.sizeLine_eq]; exact Nat.le_of_ble_eq_true rfl), CompOk.plain ?_, F2, N2, ?_⟩
  · intro C u i v s₂ E' hP FB NB
    obtain ⟨hp2, g2, dr2, tk2, os2⟩ := s₂
    obtain ⟨ar, us, row, rfl, hla, hka, hle, hlt, hGv⟩ : ∃ ar us row, v = .ref ar ∧ Heap.IsList _ ar (List.toArray us) ∧ isKinds row us ∧ row.length ≤ 32 ∧ (∀ q ∈ row, q < 2) ∧ ∀ y' t, y' = Value.str (tx (say x y row)) t → (v = .ref c.a0 → ∃ t, y' = .str (tx A) t) ∧ (v = .ref c.a1 → ∃ t, y' = .str (tx B) t) := by
      match i, hP with
      | 0, hP =>
        have e : v = .ref c.a0 := (Option.some.inj hP).symm
        subst e
        exact ⟨_, _, _, rfl, hl0, hc.k0, rowAt_len hk5 5 0, rowAt_lt kn 5 0 (by omega), fun y' t h => ⟨fun _ => ⟨t, by rw [h, hA']⟩, fun e => absurd (Value.ref.inj e) hc.n01⟩⟩
      | 1, hP =>
        have e : v = .ref c.a1 := (Option.some.inj hP).symm
        subst e
        exact ⟨_, _, _, rfl, hl1, hc.k1, rowAt_len hk5 5 1, rowAt_lt kn 5 1 (by omega), fun y' t h => ⟨fun e => absurd (Value.ref.inj e).symm hc.n01, fun _ => ⟨t, by rw [h, hB']⟩⟩⟩
      | n + 2, hP => simp at hP
    have X' := X.keeps F2.keep
    have T' := T.keeps F2.keep
    have hla' := isl_keeps hla FB.keep
    have husl : us.length = row.length := by rw [IntsAre.length hka, List.length_map]
    have kE := InElt.start hp2
    clear F2 N2 hl0 hl1 hP ilD
    k_steps
    walk_at "CLR"
    refine ⟨?_⟩
    refine' comp1_E (cl := [("word", L + 1), ("other", L + 1 + 1)]) (fun v y' => ∃ t, y' = .str (tx (if (numOf1 v).toNat = 0 then x else y)) t) rfl ?hclos ?hcell ?hkind ?hnames ?hx ?_ ?hs
    walk_at "COMPE"
    k_steps
    walk_at "CLR"
    walk_at "DONE"
    refine ⟨_, us, rfl, hla', by omega, CompOk.plain ?_, ?_⟩
    · intro C2 u2 j2 v2 s₃ E2 hv2 FB2 NB2
      obtain ⟨hp3, g3, dr3, tk3, os3⟩ := s₃
      obtain ⟨pl, tp, rfl, hpl⟩ := kind_at hka hv2
      have hpl2 := hlt pl (List.mem_of_getElem? hpl)
      have X2 := X'.keeps FB.keep
      have T2 := T'.keeps FB.keep
      have kW2 : CellIs hp2 (L + 1) (.str (tx x) tx') := ⟨kW.is.keeps FB.keep⟩
      have kO2 : CellIs hp2 (L + 1 + 1) (.str (tx y) ty') := ⟨kO.is.keeps FB.keep⟩
      clear kW kO hla' hla X' T' FB NB kE
      have kE := InElt.start hp3
      obtain rfl | rfl : pl = 0 ∨ pl = 1 := by omega
      · k_steps
        walk_at "BLKEND"
        exact ⟨_, rfl⟩
      · k_steps
        walk_at "BLKEND"
        exact ⟨_, rfl⟩
    intro Dj yj hj tkj ilj hGj hext
    obtain ⟨ls, hls, hfl, hlen, hmem⟩ := texts_row hka hGj
    replace kE := inElt_next kE hext
    k_steps
    walk_at "CLR"
    refine ⟨?_⟩
    refine join_plain (s := ⟨_, _, _, _, _⟩) ilj hls ?_ (by omega) _ ?_
    · intro l hl
      rcases hmem l hl with rfl | rfl
      · omega
      · omega
    intro tk3 t3
    rw [hfl]
    dsimp only
    k_steps
    walk_at "BLKEND"
    exact hGv _ _ rfl
  intro Dc ys kd vs' h' tk' F' N' hne hl hP hG
  have ev := vals_of hl hP
  subst ev
  rw [List.filter_eq_self.mpr (fun _ _ => rfl)] at hG
  obtain ⟨s1, s2, rfl⟩ : ∃ s1 s2, ys = [.str (tx A) s1, .str (tx B) s2] := by
    cases hG with
    | cons g1 hG =>
      cases hG with
      | cons g2 hG =>
        cases hG
        obtain ⟨s1, e1⟩ := g1.1 rfl
        obtain ⟨s2, e2⟩ := g2.2 rfl
        exact ⟨s1, s2, by rw [e1, e2]⟩
  clear hl hP hG hne kW kO ilD hl0 hl1
  dsimp only [mapOf] at F'
  clear F2 N2
  walk_at "DONE"
  (try k_unmd)
  k_steps
  refine ⟨?_⟩
  (with_reducible rename Fr _ _ _ _ => F4); (with_reducible rename News _ _ _ _ => N4)
  refine eq_texts (s := ⟨_, _, _, _, _⟩) (PySem.IsL.isList (N4 (Dl, _) (by k_mem)).1) (PySem.IsL.isList (N4 (Dc, _) (by k_mem)).1) (.cons A t1 (.cons B t2 .nil)) (.cons A s1 (.cons B s2 .nil)) ?_ ?_ ?_ ?_
  · exact List.forall_mem_cons.mpr ⟨cA, List.forall_mem_cons.mpr ⟨cB, List.forall_mem_nil _⟩⟩
  · exact List.forall_mem_cons.mpr ⟨cA, List.forall_mem_cons.mpr ⟨cB, List.forall_mem_nil _⟩⟩
  · walk_at "DEPTH"
  rw [decide_eq_true rfl]
  k_steps
  exact hQ _ _ F4.keep
end

theorem say_one (A B : List Nat) : say A B [0] = A ∧ say A B [1] = B := by simp [say]
theorem bits15 {k : Int} (h : k.natAbs < 2 ^ 15) : Builtin.Int.intBits k ≤ 15 := by
  unfold Builtin.Int.intBits
  split
  · omega
  · rename_i h0
    have hk : k.natAbs ≠ 0 := by
      intro e
      have : k = 0 := by omega
      rw [this] at h0
      exact h0 rfl
    have := (Nat.log2_lt hk).2 h
    omega
theorem bits_of {k : Int} (h : -20000 ≤ k ∧ k ≤ 20000) : Builtin.Int.intBits k ≤ 15 := bits15 (by omega)
theorem bits_small {k : Int} (h : -100 ≤ k ∧ k ≤ 100) : Builtin.Int.intBits k ≤ 15 := bits_of ⟨Int.le_trans (by decide) h.1, Int.le_trans h.2 (by decide)⟩
theorem bits_next {k : Int} (h : -10000 ≤ k ∧ k ≤ 10000) : Builtin.Int.intBits (k + 1) ≤ 15 := bits_of (by omega)
theorem mul100 {a b : Int} (ha : -100 ≤ a ∧ a ≤ 100) (hb : -100 ≤ b ∧ b ≤ 100) : -10000 ≤ a * b ∧ a * b ≤ 10000 := by
  have h := Int.natAbs_mul a b
  have h1 : a.natAbs ≤ 100 := by omega
  have h2 : b.natAbs ≤ 100 := by omega
  have h3 : a.natAbs * b.natAbs ≤ 100 * 100 := Nat.mul_le_mul h1 h2
  rw [← h] at h3
  clear h h1 h2 ha hb
  omega
theorem h0_start {x y : List Nat} {p r u v : Int} (hx : ∀ c ∈ x, c ∈ letters) (hy : ∀ c ∈ y, c ∈ letters) (hx1 : 1 ≤ x.length) (hx3 : x.length ≤ 3) (hy1 : 1 ≤ y.length) (hy2 : y.length ≤ 2)
    (bp : -100 ≤ p ∧ p ≤ 100) (br : -100 ≤ r ∧ r ≤ 100) (bu : -100 ≤ u ∧ u ≤ 100) (bv : -100 ≤ v ∧ v ≤ 100) :
    StOk x y (qkept (1, p, r, p * r + 1) (u * v + 1, u, v, 1)) 15 5 (x, (1, p, r, p * r + 1)) (y, (u * v + 1, u, v, 1)) := by
  refine ⟨⟨[], [], .inl ⟨by simp, by simp⟩⟩, hx, hy, ?_, ?_, ?_, ?_, ?_, ?_, ?_, rfl⟩
  · intro e; rw [show x = [] from e] at hx1; simp at hx1
  · intro e; rw [show y = [] from e] at hy1; simp at hy1
  · show x.length + y.length ≤ 5; omega
  · exact ⟨bits_small (k := 1) (by decide), bits_small bp, bits_small br, bits_next (mul100 bp br)⟩
  · exact ⟨bits_next (mul100 bu bv), bits_small bu, bits_small bv, bits_small (k := 1) (by decide)⟩
  · simp only [qdet]; grind
  · simp only [qdet]; grind
section
variable {prog : Program} {w : World} {dp un : Nat} {fr : Option (List Env)} {gd : Option (List Code)} {s : Shared} {Q : Flow → Shared → Prop}
theorem law_body {h₀ : Heap} {L fa la : Addr} {cd : Value} {mg mb : Str → Option Value} {mean : ExcName → Option Value} {vs : List Value} {ns : List Int} {o1 o2 o3 o4 o5 : Obj} {u0 : Str → Option Value}
    (X : (hd.heap_1 w.params).In h₀) (T : Top lawView LS mean mg mb h₀) (hdp : dp + 100 < recursionLimit) (hu : un + 1000 < cLine)
    (il : h₀.IsList la vs.toArray) (iv : IntsAre vs ns) (hz : vs.length ≤ 63)
    (F : Fr h₀ L s.heap (kstB u0 [(Str.ofString "script", .ref la)])) (N : News h₀ L s.heap [(L + 1 + 1 + 1 + 1 + 1, o5), (L + 1 + 1 + 1 + 1, o4), (L + 1 + 1 + 1, o3), (L + 1 + 1, o2), (L + 1, o1)])
    (d1 : o1.data = Data.cell none) (d2 : o2.data = Data.cell none) (d3 : o3.data = Data.cell none) (d4 : o4.data = Data.cell none) (d5 : o5.data = Data.cell none)
    (hQ : ∀ h' tk, Ext h₀ h' → Q (.ret (.bool true)) { s with heap := h', toks := tk }) :
    wpAny (model prog w) ((top0 dp un fr gd).deeper (envOfC "law" lawScope L fa cd)) (execs lawBody (envOfC "law" lawScope L fa cd)) Q (fun _ _ => False) s := by
  refine law_a X T hdp hu il iv hz F N d1 d2 d3 d4 d5 ?_
  intro h1 tk1 D1 us ms k1 x y tx' ty' o1' o2' p r u v tp tr tu tv tK u1 im hm8 hx hy hx1 hx3 hy1 hy2 bp br bu bv e1 e2 nD1 F1 N1
  (try dsimp only)
  refine law_b X T hdp hu im hm8 hx hy hx1 hx3 hy1 hy2 bp br bu bv e1 e2 d3 nD1 F1 N1 ?_
  intro h2 tk2 Dt tt Dk kus kk kn o3' lt led tK2 u2 ik hk5 hk7 e3 hPI nD1' nDk hlo F2 N2
  have h0 := h0_start hx hy hx1 hx3 hy1 hy2 bp br bu bv
  have hpo := pair_ok hx hy hx1 hx3 hy1 hy2
  (try dsimp only)
  refine law_c X T hdp hu im hm8 hx hy hx1 hx3 hy1 hy2 ik hk5 hk7 e1 e2 e3 hPI h0 F2 N2 nD1' nDk hlo ?_
  intro h3 tk3 Dst uss kss LED tK3 tf u3 hSt nDst nDk3 nD13 hL4 hL5 F3 N3
  (try dsimp only)
  refine law_d X T hdp hu hpo rfl hk5 h0 hSt F3 N3 ?_
  intro h4 tk4 ta tb tf4 u4 F4 N4
  (try dsimp only)
  refine law_e rfl X T hdp hu im hm8 hpo rfl hk5 h0 hSt F4 N4 ?_
  intro h5 tk5 Dl t1 t2 kl u5 nl F5 N5
  (try dsimp only)
  have nk' : AllNe Dk [(L + 1 + 1 + 1 + 1 + 1, o5), (L + 1 + 1 + 1 + 1, o4)] := ⟨nDk3.2.1, nDk3.2.2.1, True.intro⟩
  with_reducible refine law_f X T hdp hu d5 nl nk' F5 N5 ?_
  intro h6 tk6 il6 o5' Di u6 himg hil e5 F6 N6
  (try dsimp only)
  refine law_g X T hdp hu ik hk5 hk7 d4 e5 himg hil (Ne.symm nl.2.1) (Ne.symm nDk3.2.2.1) F6 N6 ?_
  intro h7 tk7 c u7 hc F7 N7
  have hok := StOk.run5 (ks := kn) (S := ((x, (1, p, r, p * r + 1)), (y, (u * v + 1, u, v, 1)))) h0 (by omega)
  (try dsimp only)
  refine law_h c X T hdp hu hk5 hc hx3 hy2 ?_ ?_ (fun c hc => lets4_lt c (hok.la c hc)) (fun c hc => lets4_lt c (hok.lb c hc)) e1 e2 F7 N7 ?_
  · rw [say_read kn ((x, (1, p, r, p * r + 1)), (y, (u * v + 1, u, v, 1))) [0], (say_one _ _).1]
  · rw [say_read kn ((x, (1, p, r, p * r + 1)), (y, (u * v + 1, u, v, 1))) [1], (say_one _ _).2]
  intro h8 tk8 K8
  (try dsimp only)
  exact hQ _ _ K8
end

section
variable {prog : Program} {w : World} {dp un : Nat} {fr : Option (List Env)} {gd : Option (List Code)} {s : Shared} {Q : Flow → Shared → Prop}
theorem finish {h₀ : Heap} {L fa la : Addr} {cd : Value} {mg mb : Str → Option Value} {mean : ExcName → Option Value} {vs : List Value} {ns : List Int} {o1 o2 o3 o4 o5 : Obj} {m : Str → Option Value}
    (X : (hd.heap_1 w.params).In h₀) (T : Top lawView LS mean mg mb h₀) (hdp : dp + 100 < recursionLimit) (hu : un + 1000 < cLine)
    (il : h₀.IsList la vs.toArray) (iv : IntsAre vs ns) (hz : ns.length ≤ 63)
    (F : Fr h₀ L s.heap m) (hm : m (Str.ofString "script") = some (.ref la)) (N : News h₀ L s.heap [(L + 1 + 1 + 1 + 1 + 1, o5), (L + 1 + 1 + 1 + 1, o4), (L + 1 + 1 + 1, o3), (L + 1 + 1, o2), (L + 1, o1)])
    (d1 : o1.data = Data.cell none) (d2 : o2.data = Data.cell none) (d3 : o3.data = Data.cell none) (d4 : o4.data = Data.cell none) (d5 : o5.data = Data.cell none)
    (hQ : ∀ h' tk, Ext h₀ h' → Q (.ret (.bool true)) { s with heap := h', toks := tk }) :
    wpAny (model prog w) ((top0 dp un fr gd).deeper (envOfC "law" lawScope L fa cd)) (execs lawBody (envOfC "law" lawScope L fa cd)) Q (fun _ _ => False) s := by
  obtain ⟨u0, F1⟩ := canon F [(Str.ofString "script", .ref la)] (List.forall_mem_cons.mpr ⟨hm, List.forall_mem_nil _⟩)
  exact law_body X T hdp hu il iv (by rw [IntsAre.length iv]; exact hz) F1 N d1 d2 d3 d4 d5 hQ
end

end Mine
theorem PySem.Challenge.cw_ti0024_01_holds : PySem.Challenge.rw_ti0024_01.Holds := by
  exact Mine.hd2 (by
    intro w s₀ s₁ mg mb G Y fa o pm cd doc dV kV ho hd hcd hD hmg hg args vals as hpre hlay hrd hwl hlo
    have KX := kIn_of Y
    have X0 := (Ground.X G).1
    refine Ground.open G ?_
    intro T B D TE TW
    try (refine guard_noD D (by decide +kernel) ?_; clear D)
    obtain ⟨_, _, M⟩ := bmod_of_top T
    clear hmg
    wrow_args hpre hlay hrd hwl hlo
    first | refine callC_kw (enter_call ?_) | refine enter_call ?_ | refine callC_kw (enter_callW ?_) | refine enter_callW ?_ | w_how
    w_top on
    try refine codeAny_mono ?_ (fun _ _ g => GoodW.toG g)
    have K0 := below_caller (Top.heap T)
    w_call any ho hd hcd hD T F
    clear hd
    k_drop
    (with_reducible rename Fr _ _ _ _ => F)
    (with_reducible rename News _ _ _ _ => N)
    (with_reducible rename Top _ _ _ _ _ _ => T)
    (with_reducible rename IntsAre _ _ => iv)
    (with_reducible rename Heap.IsList _ _ _ => il)
    (with_reducible rename Frag.In _ _ => X)
    (rename ¬ _ < _ => hz)
    refine wpAny_mono (Mine.finish (dp := 301) (un := 4) (fr := some []) (gd := some []) X T (by decide) (by decide) il iv (by omega) F ?_ N ?_ ?_ ?_ ?_ ?_ ?_) (fun _ _ z => z) (fun _ _ z => z.elim)
    · with_unfolding_all rfl
    · with_unfolding_all assumption
    · with_unfolding_all assumption
    · with_unfolding_all assumption
    · with_unfolding_all assumption
    · with_unfolding_all assumption
    · intro h' tk K
      refine ⟨.inl ⟨_, _, _, rfl, raisesW_false ?_, .bool true, ?_, unshared_nil⟩, K, rfl, by assumption⟩
      · wrow_none_raised
      · wrow_post)
