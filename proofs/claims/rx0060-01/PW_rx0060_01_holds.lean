import PyProof.Rows.All
import Wide.All
import OpenK.AllK
import Wide.FinOn
import Lean
import PySem.Challenge.RW_rx0060_01
open PySem PySem.W PySem.Calls PyProof.Rows
set_option Elab.async false
set_option linter.unusedVariables false
set_option maxRecDepth 100000
set_option maxHeartbeats 4000000
namespace Mine
noncomputable abbrev pw : Program := PySem.Challenge.pw_rx0060_01
noncomputable def fdAt (i : Nat) (c : Addr) (kw : Value) : FuncData := match pw.main.body[i]? with
  | some (.FunctionDef name args body _ _ _ scope _ _ _) => { name, qualname := name, params := args, body := .stmts body, scope, globals := 3, closure := [], defaults := .none, kwdefaults := kw, code := .ref c, builtins := 0 }
  | _ => default
noncomputable def nameAt (i : Nat) : Str := match pw.main.body[i]? with
  | some (.FunctionDef name ..) => name
  | _ => default
noncomputable def fnTab : List (Addr × Nat × Addr × Value × String) :=
  [(46, 3, 45, .ref 39, "_deduplicate"), (53, 4, 52, .none, "_deduplicate_unhashable"), (60, 5, 59, .none, "_compare_args_orderless"), (72, 8, 71, .none, "translate"),
   (84, 11, 83, .none, "escape"), (91, 13, 90, .none, "_translate"), (98, 14, 97, .none, "_join_translated_parts"), (171, 23, 170, .none, "fspath"), (185, 27, 184, .none, "_get_sep"),
   (192, 28, 191, .none, "join"), (199, 29, 198, .none, "dirname"), (206, 31, 205, .none, "_law_joined"), (213, 32, 212, .none, "_law_spelled"), (218, 33, 217, .none, "_law_inside"),
   (223, 34, 222, .none, "_law_below"), (230, 35, 229, .none, "_law_way"), (235, 36, 234, .none, "_law_least"), (240, 37, 239, .none, "_law_meeting"), (247, 38, 246, .none, "_law_told"),
   (254, 39, 253, .none, "_law_above"), (259, 40, 258, .none, "_law_count"), (264, 41, 263, .none, "law")]
noncomputable def fnView (o : Option Obj) : Option (Value × Option Addr × FuncData × Array (Option Value)) := match o with
  | some ⟨c, d, .func fd, sl⟩ => some (c, d, { fd with pyModule := .none }, sl)
  | _ => none
noncomputable def codeName (o : Option Obj) : Option Str := match o with
  | some ⟨_, _, .fields vs, _⟩ => (match (vs[1]? : Option Value) with | some (Value.str q _) => some q | _ => none)
  | _ => none
noncomputable def untok : Value → Value
  | .int i _ => .int i 0
  | .str s _ => .str s 0
  | v => v
noncomputable def fieldsView (o : Option Obj) : Option (Value × Option Addr × List Value × Array (Option Value)) := match o with
  | some ⟨c, d, .fields vs, sl⟩ => some (c, d, vs.toList.map untok, sl)
  | _ => none
noncomputable def seqView (o : Option Obj) : Option (Value × Option Addr × List Value) := match o with
  | some ⟨c, d, .seq vs _, _⟩ => some (c, d, vs.toList.map untok)
  | _ => none
noncomputable def dictView (o : Option Obj) : Option (Value × Option Addr × Array (Option Value) × List (Int × Value × Value)) := match o with
  | some ⟨c, d, .dict es _, sl⟩ => some (c, d, sl, es.toList.map fun e => (e.hash, untok e.key, untok e.val))
  | _ => none
noncomputable def keysView (o : Option Obj) : Option (Value × Option Addr × Array (Option Value) × List (Value × Value)) := match o with
  | some ⟨c, d, .dict es _, sl⟩ => some (c, d, sl, es.toList.map fun e => (untok e.key, untok e.val))
  | _ => none
noncomputable def isStrV : Value → Bool | .str _ _ => true | _ => false
noncomputable def isIntV : Value → Bool | .int _ _ => true | _ => false
noncomputable def isBoolV : Value → Bool | .bool _ => true | _ => false
noncomputable def hdView (o : Option Obj) : Option (Value × Option Value × Bool × Bool × Bool × Bool) := match o with
  | some ⟨c, _, .fields vs, _⟩ => some (c, vs[11]?, isStrV (vs.getD 18 .none), isIntV (vs.getD 7 .none), isBoolV (vs.getD 9 .none), isIntV (vs.getD 10 .none))
  | _ => none
noncomputable def specials : List Nat := [40, 41, 91, 93, 123, 125, 63, 42, 43, 45, 124, 94, 36, 92, 46, 38, 126, 35, 32, 9, 10, 13, 11, 12]
noncomputable def reCode : List Value := ([14, 14, 4, 1, 1, 9, 0, 64, 0, 1342177280, 0, 0, 0, 0, 0, 17, 0, 13, 11, 9, 0, 64, 0, 1342177280, 0, 0, 0, 0, 0, 17, 1, 1] : List Int).map fun i => .int i 0
noncomputable def obsFn (s : Shared) := fnTab.map fun x => (fnView (s.heap.get? x.1), s.heap.nsMap 3 (Str.ofString x.2.2.2.2), codeName (s.heap.get? x.2.2.1))
noncomputable def valFn := fnTab.map fun x => (some (Value.type "function", (none : Option Addr), fdAt x.2.1 x.2.2.1 x.2.2.2.1, (#[] : Array (Option Value))), some (Value.ref x.1), some (nameAt x.2.1))
noncomputable def obsRest (s : Shared) := (s.heap.isNs 3, s.heap.nsMap 3 (Str.ofString "_special_chars_map"), s.heap.nsMap 3 (Str.ofString "_twin_re_1"), (s.heap.get? 232, s.heap.get? 86, hdView (s.heap.get? 234), hdView (s.heap.get? 90)),
  dictView (s.heap.get? 74), fieldsView (s.heap.get? 65), seqView (s.heap.get? 64), keysView (s.heap.get? 39))
noncomputable def valRest := (true, some (Value.ref 74), some (Value.ref 65), (some (tabObj #[]), some (tabObj #[]), some (Value.type "code", some (Value.ref 232), true, true, true, true), some (Value.type "code", some (Value.ref 86), true, true, true, true)),
  some (Value.type "dict", (none : Option Addr), (#[] : Array (Option Value)), specials.map fun (c : Nat) => ((c : Int), Value.int c 0, Value.str ⟨#[92, c]⟩ 0)),
  some (Value.type "re.Pattern", (none : Option Addr), [Value.str (Str.ofString "([&~|])") 0, .int 32 0, .int 1 0, .none, .none, .ref 64, .int 0 0], (#[] : Array (Option Value))),
  some (Value.type "tuple", (none : Option Addr), reCode),
  some (Value.type "dict", (none : Option Addr), (#[] : Array (Option Value)), [(Value.str (Str.ofString "unhashable_fallback") 0, Value.bool false)]))
noncomputable def obsAll (s : Shared) := (obsFn s, obsRest s)
noncomputable def valAll (_ : World) := (valFn, valRest)
noncomputable def q0 : Program := view pw [41]
noncomputable def loose0 : List Str := (["_sre", "_wall", "__name__", "_twin_re_1", "_special_chars_map", "_plain_name", "ABCMeta", "_ABCLike", "_abc_plain_meta", "_check_arg_types"] ++ (fnTab.map (·.2.2.2.2)).filter (· != "law")).map Str.ofString
noncomputable abbrev RunIs (w : World) : Prop := (openEnds treeTable pw w 5618).map (fun s => (openSeen q0 loose0 (importedModules pw.main.body) (fun _ => true) true s, obsAll s)) = some (openGood q0 loose0, valAll w)
noncomputable abbrev rows (w : World) (a b : Bool) : World := (w.withFollow "comprehension-iter-twice" a).withFollow "special-get-raises" b
theorem run_false_false : ∀ w : World, RunIs (rows w false false) := by
  unfold RunIs openEnds fencedOpening topFrom
  rw [PySem.W.Fast.te14082659384304107361, PySem.W.Fast.te10274390034422433532, PySem.W.Fast.te14289696077712309145, PySem.W.Fast.te14364793385576792824, PySem.W.Fast.te1435165496053646825, PySem.W.Fast.te4187177175401517315]
  intro w
  kernel_rfl
theorem run_false_true : ∀ w : World, RunIs (rows w false true) := by
  unfold RunIs openEnds fencedOpening topFrom
  rw [PySem.W.Fast.te14082659384304107361, PySem.W.Fast.te10274390034422433532, PySem.W.Fast.te14289696077712309145, PySem.W.Fast.te14364793385576792824, PySem.W.Fast.te1435165496053646825, PySem.W.Fast.te4187177175401517315]
  intro w
  kernel_rfl
theorem run_true_false : ∀ w : World, RunIs (rows w true false) := by
  unfold RunIs openEnds fencedOpening topFrom
  rw [PySem.W.Fast.te14082659384304107361, PySem.W.Fast.te10274390034422433532, PySem.W.Fast.te14289696077712309145, PySem.W.Fast.te14364793385576792824, PySem.W.Fast.te1435165496053646825, PySem.W.Fast.te4187177175401517315]
  intro w
  kernel_rfl
theorem run_true_true : ∀ w : World, RunIs (rows w true true) := by
  unfold RunIs openEnds fencedOpening topFrom
  rw [PySem.W.Fast.te14082659384304107361, PySem.W.Fast.te10274390034422433532, PySem.W.Fast.te14289696077712309145, PySem.W.Fast.te14364793385576792824, PySem.W.Fast.te1435165496053646825, PySem.W.Fast.te4187177175401517315]
  intro w
  kernel_rfl
end Mine
namespace Mine
noncomputable abbrev LW : OpenLaw := PySem.Challenge.rw_rx0060_01
theorem sd1 : (sreFenced pw.main && ((moduleNames pw.main.body).isEmpty || lookedIntoSs (moduleNames pw.main.body) pw.main.body)) = true := by kernel_rfl
theorem sd2 : namesResolve pw = true := by kernel_rfl
theorem sd3 : (pw.boundNames.all (fun n => !worldNames.contains n)) = true := by kernel_rfl
theorem sd4 : (noRoadLSs { strict := !(importedModules pw.main.body).all cThrough.contains, foot := none, bare := (["vars", "dir", "locals"] : List Str).filter (readsOut pw pw.main.body) } pw.main.body) = true := by kernel_rfl
theorem sd5 : (namesMeet pw pw.main.body fun _ n => attrL n) = true := by kernel_rfl
theorem sdA : looksOpen LW.row.prog = true := by
  unfold looksOpen
  exact look_both (look_both (look_both (look_both sd1 sd2) sd3) sd4) sd5
theorem said : LW.wellSaid = true := by
  unfold OpenLaw.wellSaid OpenRow.wellSaid OpenRow.partSaid
  repeat' (with_reducible refine look_both ?_ ?_)
  all_goals first
    | with_reducible exact sdA
    | kernel_rfl
theorem left : LeftO pw q0 loose0 (fun _ => true) obsAll valAll 5618 := by
  have h : ∀ w : World, RunIs w := by
    intro w
    refine byRow2 (P := RunIs) "special-get-raises" ?_ ?_ w
    · intro w
      exact byRow2 (P := fun w => RunIs (w.withFollow "special-get-raises" false)) "comprehension-iter-twice" (fun w => run_false_false w) (fun w => run_true_false w) w
    · intro w
      exact byRow2 (P := fun w => RunIs (w.withFollow "special-get-raises" true)) "comprehension-iter-twice" (fun w => run_false_true w) (fun w => run_true_true w) w
  exact h
noncomputable def dLaw : DefRec := match (pw.main.body[41]? : Option PySem.Stmt) with
  | some (.FunctionDef name args body _ _ _ scope _ _ pos) => ⟨name, args, body, scope, pos⟩
  | _ => ⟨default, default, default, default, default⟩
theorem defLaw : defOf q0 (PySem.Challenge.rw_rx0060_01.row.toRowW).name = some (dLaw, []) := by kernel_rfl
theorem thLaw : (PySem.Challenge.rw_rx0060_01.row.toRowW).prog.theDef (PySem.Challenge.rw_rx0060_01.row.toRowW).name = some (dLaw.params, dLaw.body, dLaw.scope) := by kernel_rfl
theorem kwLaw : kwWritten? dLaw.params.kwonlyargs dLaw.params.kw_defaults = some [] := by kernel_rfl
theorem okLaw : (chainsOk q0 && opensWell (PySem.Challenge.rw_rx0060_01.row.toRowW).prog && (frees (PySem.Challenge.rw_rx0060_01.row.toRowW) && (PySem.Challenge.rw_rx0060_01.row.toRowW).within.isEmpty)) = true := by kernel_rfl
theorem head (YP : World → Heap → Prop) (hY : ∀ w s, obsAll s = valAll w → YP w s.heap) (hYk : ∀ w h h', YP w h → (∀ b o, h.get? b = some o → h'.get? b = some o) → YP w h')
    (call : WalkO q0 loose0 (fun _ _ => True) YP (PySem.Challenge.rw_rx0060_01.row.toRowW) dLaw [] fun f vs => PySem.call f vs) : PySem.Challenge.rw_rx0060_01.Holds := by
  refine holds_law said fun k1 => holds_open (q := q0) (loose := loose0) (Xt := fun _ => true) (XP := fun _ _ => True) (Yf := obsAll) (Ya := valAll) (YP := YP) (d := dLaw) (kwd := []) (N := 5618)
    left hY hYk (fun _ _ => trivial) (fun _ _ _ _ _ => trivial) defLaw thLaw kwLaw (fun _ _ => recFacts_nil rfl) rfl k1 okLaw ⟨rfl, rfl, rfl, rfl, rfl, by decide +kernel⟩ ?_ call
  exact ⟨[.list [.int 3, .int 1]], by decide +kernel, by decide +kernel⟩
end Mine
namespace Mine
noncomputable def isTab (b : Addr) : Prop := b = 232 ∨ b = 86
noncomputable def Grow (F : List Addr) (h h' : Heap) : Prop := ∀ b o, h.get? b = some o → ¬ isTab b → ∃ sl, h'.get? b = some { o with slots := sl } ∧ ((b ∉ F ∨ ∀ es n, o.data ≠ .dict es n) → sl = o.slots)
variable {F : List Addr}
theorem Grow.of_keep {h h' : Heap} (k : ∀ b o, h.get? b = some o → h'.get? b = some o) : Grow F h h' := fun b o e _ => ⟨o.slots, k b o e, fun _ => rfl⟩
theorem Grow.refl (h : Heap) : Grow F h h := .of_keep fun _ _ e => e
theorem Grow.trans {h₁ h₂ h₃ : Heap} (x : Grow F h₁ h₂) (y : Grow F h₂ h₃) : Grow F h₁ h₃ := fun b o e nt => by
  obtain ⟨sl, e₂, hs⟩ := x b o e nt
  obtain ⟨sl₃, e₃, hs₃⟩ := y b _ e₂ nt
  exact ⟨sl₃, e₃, fun nd => (hs₃ nd).trans (hs nd)⟩
theorem Grow.exact {h h' : Heap} (g : Grow F h h') {b : Addr} {o : Obj} (e : h.get? b = some o) (nt : ¬ isTab b) (nd : b ∉ F ∨ ∀ es n, o.data ≠ .dict es n) : h'.get? b = some o := by
  obtain ⟨sl, e', hs⟩ := g b o e nt
  rw [hs nd] at e'
  exact e'
theorem Grow.data {h h' : Heap} (g : Grow F h h') {b : Addr} {o : Obj} (e : h.get? b = some o) (nt : ¬ isTab b) : ∃ o', h'.get? b = some o' ∧ o'.cls = o.cls ∧ o'.dict = o.dict ∧ o'.data = o.data := by
  obtain ⟨sl, e', _⟩ := g b o e nt
  exact ⟨_, e', rfl, rfl, rfl⟩
noncomputable def TabOk (h : Heap) (P : Addr) (line col : Nat) (qual : Str) : Prop :=
  ∃ ps, h.get? P = some (tabObj ps) ∧ (ps = #[] ∨ ∃ c, ps = #[rawInt line, rawInt col, .ref c] ∧ ¬ isTab c ∧ h.CodeRec (.ref c) qual)
structure TabsOk (h : Heap) : Prop where
  l : TabOk h 232 257 32 (Str.ofString "_law_least.<locals>.<lambda>")
  t : TabOk h 86 90 39 (Str.ofString "_translate.<locals>.<lambda>")
noncomputable def noCode (o : Obj) : Prop := (∀ ps, o ≠ tabObj ps) ∧ ∀ vs q t, o.data = .fields vs → vs[1]? ≠ some (.str q t)
theorem noCode.of {o : Obj} (h1 : o.cls ≠ .none) (h2 : ∀ vs q t, o.data = .fields vs → vs[1]? ≠ some (.str q t)) : noCode o := ⟨fun ps e => h1 (by rw [e]), h2⟩
theorem TabOk.same {h h' : Heap} {P a : Addr} {line col : Nat} {qual : Str} {oa : Obj} (x : TabOk h P line col qual) (hs : Heap.SameBut a h h') (ho : h.get? a = some oa) (hn : noCode oa) : TabOk h' P line col qual := by
  obtain ⟨ps, hP, hc⟩ := x
  have hne : P ≠ a := fun e => by rw [e, ho] at hP; cases hP; exact hn.1 _ rfl
  refine ⟨ps, (hs.2 P hne).trans hP, hc.imp id fun ⟨c, e, nt, c', o, vs, t, e', hoc, hd, hv⟩ => ⟨c, e, nt, c', o, vs, t, e', ?_, hd, hv⟩⟩
  refine (hs.2 c' fun e => ?_).trans hoc
  rw [e, ho] at hoc
  cases hoc
  exact hn.2 vs _ _ hd hv
theorem TabOk.keep {h h' : Heap} {P : Addr} {line col : Nat} {qual : Str} (x : TabOk h P line col qual) (k : ∀ b o, h.get? b = some o → h'.get? b = some o) : TabOk h' P line col qual := by
  obtain ⟨ps, hP, hc⟩ := x
  exact ⟨ps, k _ _ hP, hc.imp id fun ⟨c, e, nt, r⟩ => ⟨c, e, nt, r.keeps k⟩⟩
theorem TabsOk.same {h h' : Heap} {a : Addr} {oa : Obj} (x : TabsOk h) (hs : Heap.SameBut a h h') (ho : h.get? a = some oa) (hn : noCode oa) : TabsOk h' := ⟨x.l.same hs ho hn, x.t.same hs ho hn⟩
theorem TabsOk.keep {h h' : Heap} (x : TabsOk h) (k : ∀ b o, h.get? b = some o → h'.get? b = some o) : TabsOk h' := ⟨x.l.keep k, x.t.keep k⟩
theorem TabsOk.fields {h : Heap} (x : TabsOk h) {b : Addr} {o : Obj} (e : h.get? b = some o) (nt : isTab b) : ∃ ps, o = tabObj ps := by
  rcases nt with rfl | rfl
  · obtain ⟨ps, hP, _⟩ := x.l
    rw [hP] at e; cases e; exact ⟨ps, rfl⟩
  · obtain ⟨ps, hP, _⟩ := x.t
    rw [hP] at e; cases e; exact ⟨ps, rfl⟩
structure Ext (H : Heap) (F : List Addr) (h h' : Heap) : Prop where
  base : H.StaysIn h'
  grow : Grow F h h'
  tabs : TabsOk h'
theorem Ext.refl {H h : Heap} (hb : H.StaysIn h) (ht : TabsOk h) : Ext H F h h := ⟨hb, .refl h, ht⟩
theorem Ext.trans {H h₁ h₂ h₃ : Heap} (x : Ext H F h₁ h₂) (y : Ext H F h₂ h₃) : Ext H F h₁ h₃ := ⟨y.base, x.grow.trans y.grow, y.tabs⟩
theorem Ext.keep {H h h' : Heap} (hb : H.StaysIn h) (ht : TabsOk h) (k : ∀ b o, h.get? b = some o → h'.get? b = some o) : Ext H F h h' := ⟨fun b o e => k b o (hb b o e), .of_keep k, ht.keep k⟩
theorem Ext.push {H h : Heap} (hb : H.StaysIn h) (ht : TabsOk h) (o : Obj) : Ext H F h (h.push o) := .keep hb ht (fun b o' e => Heap.get?_push_of_some o e)
theorem Ext.same {H h₀ h h' : Heap} (x : Ext H F h₀ h) (hH : H.StaysIn h₀) {a : Addr} {oa : Obj} (hs : Heap.SameBut a h h') (ho : h.get? a = some oa) (hn : noCode oa) (ha : h₀.get? a = none) : Ext H F h₀ h' := by
  refine ⟨fun b o e => (hs.2 b fun q => ?_).trans (x.base b o e), fun b o e nt => ?_, x.tabs.same hs ho hn⟩
  · rw [q] at e; have := hH a o e; rw [ha] at this; cases this
  · obtain ⟨sl, e', r⟩ := x.grow b o e nt
    exact ⟨sl, (hs.2 b fun q => by rw [q, ha] at e; cases e).trans e', r⟩
theorem Ext.drop {H h h' : Heap} {L : Addr} (x : Ext H (L :: F) h h') (hL : h.get? L = none) : Ext H F h h' :=
  ⟨x.base, fun b o e nt => let ⟨sl, e', hs⟩ := x.grow b o e nt; ⟨sl, e', fun c => hs (c.imp (fun n m => (List.mem_cons.mp m).elim (fun q => by rw [q, hL] at e; cases e) n) id)⟩, x.tabs⟩
theorem Ext.there {H h h' : Heap} (t : TabsOk h) (x : Ext H F h h') {b : Addr} (e : ∃ o, h.get? b = some o) : ∃ o, h'.get? b = some o := by
  obtain ⟨o, e⟩ := e
  by_cases q : isTab b
  · rcases q with rfl | rfl
    · obtain ⟨ps, hP, _⟩ := x.tabs.l; exact ⟨_, hP⟩
    · obtain ⟨ps, hP, _⟩ := x.tabs.t; exact ⟨_, hP⟩
  · obtain ⟨sl, e', _⟩ := x.grow b o e q; exact ⟨_, e'⟩
theorem fresh_size {h : Heap} {a : Addr} (ha : h.objs.size ≤ a) : h.get? a = none := by
  cases e : h.get? a with
  | none => rfl
  | some o => exact absurd (Heap.lt_size e) (Nat.not_lt.mpr ha)
structure Wf (H : Heap) (A : Around) (frs : List Env) (h : Heap) : Prop where
  below : Below A H frs h
  tabs : TabsOk h
  handled : A.handled = none
  dicts : ∀ a ∈ frs.filterMap (·.frame), ∃ o es n, h.get? a = some o ∧ o.data = .dict es n
theorem Wf.stays {H h : Heap} {A : Around} {frs : List Env} (W : Wf H A frs h) : H.StaysIn h := W.below.stays
theorem Wf.refl {H h : Heap} {A : Around} {frs : List Env} (W : Wf H A frs h) : Ext H F h h := .refl W.stays W.tabs
theorem Wf.ext {H h h' : Heap} {A : Around} {frs : List Env} (W : Wf H A frs h) (x : Ext H (frs.filterMap (·.frame)) h h') : Wf H A frs h' := by
  refine ⟨⟨W.below.stack, x.base, W.below.frames.of_keeps fun b o e hd => ?_⟩, x.tabs, W.handled, fun a ha => ?_⟩
  case refine_2 =>
    obtain ⟨o, es, n, e, hd⟩ := W.dicts a ha
    have nt : ¬ isTab a := fun q => by obtain ⟨ps, rfl⟩ := W.tabs.fields e q; cases hd
    obtain ⟨o', e', _, _, d⟩ := x.grow.data e nt
    exact ⟨o', es, n, e', d.trans hd⟩
  have nt : ¬ isTab b := fun q => by obtain ⟨ps, rfl⟩ := W.tabs.fields e q; exact hd _ rfl
  obtain ⟨o', e', _, _, d⟩ := x.grow.data e nt
  exact ⟨o', e', d⟩
theorem Wf.same {H h h' : Heap} {A : Around} {frs : List Env} (W : Wf H A frs h) {a : Addr} {oa oa' : Obj} (hs : Heap.SameBut a h h') (ho : h.get? a = some oa) (hn : noCode oa) (ha : H.get? a = none)
    (ho' : h'.get? a = some oa') (hd : (∀ vs, oa.data ≠ .fields vs) → ∀ vs, oa'.data ≠ .fields vs) (hdd : ∀ es n, oa.data = .dict es n → ∃ es' n', oa'.data = .dict es' n') : Wf H A frs h' := by
  refine ⟨⟨W.below.stack, fun b o e => (hs.2 b fun q => by rw [q, ha] at e; cases e).trans (W.stays b o e), ?_⟩, W.tabs.same hs ho hn, W.handled, fun b hb => ?_⟩
  case refine_2 =>
    obtain ⟨o, es, n, e, hdb⟩ := W.dicts b hb
    by_cases q : b = a
    · subst q
      rw [ho] at e; cases e
      obtain ⟨es', n', h'⟩ := hdd es n hdb
      exact ⟨oa', es', n', ho', h'⟩
    · exact ⟨o, es, n, (hs.2 b q).trans e, hdb⟩
  have hf := W.below.frames
  revert hf
  generalize frs = l
  intro hf
  induction l with
  | nil => trivial
  | cons env rest ih =>
    obtain ⟨hk, ⟨L, o, hfr, hb, hL, hd'⟩, hr⟩ := hf
    refine ⟨hk, ?_, ih hr⟩
    by_cases q : L = a
    · subst q
      rw [ho] at hL; cases hL
      exact ⟨L, oa', hfr, hb, ho', hd hd'⟩
    · exact ⟨L, o, hfr, hb, (hs.2 L q).trans hL, hd'⟩
structure Room (n : Nat) (A : Around) : Prop where
  d : A.depth + n < recursionLimit
  u : A.units + 40 * n + 40 < cLine
theorem Room.mono {n m : Nat} {A : Around} (r : Room n A) (h : m ≤ n) : Room m A := ⟨by have := r.d; omega, by have := r.u; omega⟩
theorem Room.deeper {n : Nat} {A : Around} {env : Env} (r : Room (n + 1) A) : Room n (A.deeper env) := ⟨by have := r.d; show A.depth + 1 + n < _; omega, by have := r.u; show A.units + 3 + _ + _ < _; omega⟩
theorem Room.depth {n : Nat} {A : Around} (r : Room n A) : A.depth < recursionLimit := by have := r.d; omega
end Mine
namespace Mine
noncomputable def fnObj (x : Addr × Nat × Addr × Value × String) (pm : Value) : Obj := { cls := .type "function", data := .func { fdAt x.2.1 x.2.2.1 x.2.2.2.1 with pyModule := pm } }
noncomputable def bltNames : List Str := ["dict", "TypeError", "list", "ValueError", "object", "len", "isinstance", "str", "bytes", "type", "issubclass", "getattr", "zip", "sorted", "range", "int", "sum", "chr", "AttributeError"].map Str.ofString
structure TH (H : Heap) (mg mb : Str → Option Value) : Prop where
  g : H.Ns mainGlobals mg
  b : H.Ns builtinsNs mb
  blt : ∀ x : Str, x ≠ "__name__" → mb x = bootBuiltins x
  nolimit : H.NoLimit
  free : ∀ x ∈ bltNames, mg x = none
  fn : ∀ x ∈ fnTab, mg (Str.ofString x.2.2.2.2) = some (.ref x.1) ∧ (∃ pm, H.get? x.1 = some (fnObj x pm)) ∧ H.CodeRec (.ref x.2.2.1) (nameAt x.2.1)
  smap : mg (Str.ofString "_special_chars_map") = some (.ref 74)
  twin : mg (Str.ofString "_twin_re_1") = some (.ref 65)
  dict : dictView (H.get? 74) = some (Value.type "dict", (none : Option Addr), (#[] : Array (Option Value)), specials.map fun (c : Nat) => ((c : Int), Value.int c 0, Value.str ⟨#[92, c]⟩ 0))
  pat : fieldsView (H.get? 65) = some (Value.type "re.Pattern", (none : Option Addr), [Value.str (Str.ofString "([&~|])") 0, .int 32 0, .int 1 0, .none, .none, .ref 64, .int 0 0], (#[] : Array (Option Value)))
  code : seqView (H.get? 64) = some (Value.type "tuple", (none : Option Addr), reCode)
  kwd : keysView (H.get? 39) = some (Value.type "dict", (none : Option Addr), (#[] : Array (Option Value)), [(Value.str (Str.ofString "unhashable_fallback") 0, Value.bool false)])
  hdl : CodeHd H 234 232
  hdt : CodeHd H 90 86
  bmain : H.BuiltinsAt mg 232 ∧ H.BuiltinsAt mg 86
  notab : H.get? 232 = none ∧ H.get? 86 = none
variable {F : List Addr}
theorem Ns.grow {h h' : Heap} {L : Addr} {m : Str → Option Value} (x : h.Ns L m) (g : Grow F h h') (nt : ¬ isTab L) : h'.Ns L m := by
  obtain ⟨o, es, ep, ho, hd, r⟩ := x
  obtain ⟨o', ho', _, _, hd'⟩ := g.data ho nt
  exact ⟨o', es, ep, ho', hd'.trans hd, r⟩
theorem Ns.notTab {h : Heap} {L : Addr} {m : Str → Option Value} (x : h.Ns L m) (t : TabsOk h) : ¬ isTab L := fun q => by
  obtain ⟨o, es, ep, ho, hd, r⟩ := x
  obtain ⟨ps, rfl⟩ := t.fields ho q
  cases hd
theorem IsCell.grow {h h' : Heap} {c : Addr} {v : Option Value} (x : h.IsCell c v) (t : TabsOk h) (g : Grow F h h') : h'.IsCell c v := by
  obtain ⟨o, ho, hd⟩ := x
  have nt : ¬ isTab c := fun q => by obtain ⟨ps, rfl⟩ := t.fields ho q; cases hd
  obtain ⟨o', ho', _, _, hd'⟩ := g.data ho nt
  exact ⟨o', ho', hd'.trans hd⟩
noncomputable abbrev Lst (h : Heap) (a : Addr) (vs : List Value) : Prop := h.PlainList a vs.toArray
theorem Lst.grow {h h' : Heap} {a : Addr} {vs : List Value} (x : Lst h a vs) (t : TabsOk h) (g : Grow F h h') : Lst h' a vs := by
  obtain ⟨n, ho⟩ := x
  have nt : ¬ isTab a := fun q => by obtain ⟨ps, e⟩ := t.fields ho q; cases e
  exact ⟨n, g.exact ho nt (.inr fun _ _ e => by cases e)⟩
theorem Lst.same {h h' : Heap} {a b : Addr} {vs : List Value} (x : Lst h a vs) (hs : Heap.ExtBut b h h') (ha : a ≠ b) : Lst h' a vs :=
  let ⟨n, ho⟩ := x; ⟨n, hs a _ ha ho⟩
theorem IsList.grow {h h' : Heap} {a : Addr} {vs : Array Value} (x : h.IsList a vs) (t : TabsOk h) (g : Grow F h h') : h'.IsList a vs := by
  obtain ⟨o, ho, hc, n, hd⟩ := x
  have nt : ¬ isTab a := fun q => by obtain ⟨ps, rfl⟩ := t.fields ho q; cases hc
  obtain ⟨o', ho', hc', _, hd'⟩ := g.data ho nt
  exact ⟨o', ho', hc'.trans hc, n, hd'.trans hd⟩
inductive PV where
  | none
  | bool (b : Bool)
  | int (i : Int)
  | str (x : Str)
  | list (l : List PV)
  | arg (l : List PV)
  | dict (ks : List Str) (vs : List PV)
  | raw (v : Value)
mutual
noncomputable def Rp (w : World) (X : List Addr) (h : Heap) : PV → Value → Prop
  | .none, v => v = .none
  | .bool b, v => v = .bool b
  | .int i, v => ∃ t, v = .int i t
  | .str x, v => ∃ t, v = .str x t
  | .list l, v => ∃ a vs, v = .ref a ∧ a ∉ X ∧ Lst h a vs ∧ Rps w X h l vs
  | .arg l, v => ∃ a vs, v = .ref a ∧ a ∉ X ∧ h.IsList a vs.toArray ∧ Rps w X h l vs
  | .dict ks ds, v => ∃ a kvs, v = .ref a ∧ a ∉ X ∧ (a == sysModules) = false ∧ h.DictOf (strKind pw w) a kvs ∧ kvs.map (·.1) = ks ∧ Rps w X h ds (kvs.map (·.2))
  | .raw u, v => v = u
noncomputable def Rps (w : World) (X : List Addr) (h : Heap) : List PV → List Value → Prop
  | [], vs => vs = []
  | d :: ds, vs => ∃ v r, vs = v :: r ∧ Rp w X h d v ∧ Rps w X h ds r
end
theorem DictOf.notTab {w : World} {h : Heap} {a : Addr} {kvs : List (Str × Value)} (x : h.DictOf (strKind pw w) a kvs) (t : TabsOk h) : ¬ isTab a := fun q => by
  obtain ⟨o, es, ep, ho, hc, _⟩ := x
  obtain ⟨ps, rfl⟩ := t.fields ho q
  cases hc.1
theorem DictOf.grow {w : World} {h h' : Heap} {a : Addr} {kvs : List (Str × Value)} (x : h.DictOf (strKind pw w) a kvs) (t : TabsOk h) (g : Grow F h h') (ha : a ∉ F) : h'.DictOf (strKind pw w) a kvs := by
  have nt := DictOf.notTab x t
  obtain ⟨o, es, ep, ho, r⟩ := x
  exact ⟨o, es, ep, g.exact ho nt (.inl ha), r⟩
mutual
theorem Rp.grow {w : World} {X : List Addr} {h h' : Heap} (hF : ∀ a ∈ F, a ∈ X) (t : TabsOk h) (g : Grow F h h') : ∀ (d : PV) (v : Value), Rp w X h d v → Rp w X h' d v
  | .none, _, r => r
  | .bool _, _, r => r
  | .int _, _, r => r
  | .str _, _, r => r
  | .raw _, _, r => r
  | .list l, _, ⟨a, vs, e, ha, hl, r⟩ => ⟨a, vs, e, ha, Lst.grow hl t g, Rps.grow hF t g l vs r⟩
  | .arg l, _, ⟨a, vs, e, ha, hl, r⟩ => ⟨a, vs, e, ha, IsList.grow hl t g, Rps.grow hF t g l vs r⟩
  | .dict _ ds, _, ⟨a, kvs, e, ha, h0, hd, hk, r⟩ => ⟨a, kvs, e, ha, h0, DictOf.grow hd t g fun m => ha (hF a m), hk, Rps.grow hF t g ds _ r⟩
theorem Rps.grow {w : World} {X : List Addr} {h h' : Heap} (hF : ∀ a ∈ F, a ∈ X) (t : TabsOk h) (g : Grow F h h') : ∀ (ds : List PV) (vs : List Value), Rps w X h ds vs → Rps w X h' ds vs
  | [], _, r => r
  | d :: ds, _, ⟨v, r, e, h1, h2⟩ => ⟨v, r, e, Rp.grow hF t g d v h1, Rps.grow hF t g ds r h2⟩
end
theorem IsList.same {h h' : Heap} {a b : Addr} {vs : Array Value} (x : h.IsList a vs) (hs : Heap.ExtBut b h h') (ha : a ≠ b) : h'.IsList a vs :=
  let ⟨o, ho, r⟩ := x; ⟨o, hs a _ ha ho, r⟩
mutual
theorem Rp.same {w : World} {X : List Addr} {h h' : Heap} {b : Addr} (hs : Heap.ExtBut b h h') (hb : b ∈ X ∨ ∀ o, h.get? b = some o → o.cls ≠ .type "list" ∧ o.cls ≠ .type "dict") : ∀ (d : PV) (v : Value), Rp w X h d v → Rp w X h' d v
  | .none, _, r => r
  | .bool _, _, r => r
  | .int _, _, r => r
  | .str _, _, r => r
  | .raw _, _, r => r
  | .list l, _, ⟨a, vs, e, ha, hl, r⟩ => ⟨a, vs, e, ha, Lst.same hl hs (fun q => by
      subst q
      rcases hb with hb | hb
      · exact ha hb
      · obtain ⟨o, ho⟩ := hl; exact (hb _ ho).1 rfl), Rps.same hs hb l vs r⟩
  | .arg l, _, ⟨a, vs, e, ha, hl, r⟩ => ⟨a, vs, e, ha, IsList.same hl hs (fun q => by
      subst q
      rcases hb with hb | hb
      · exact ha hb
      · obtain ⟨o, ho, hc, _⟩ := hl; exact (hb o ho).1 hc), Rps.same hs hb l vs r⟩
  | .dict _ ds, _, ⟨a, kvs, e, ha, h0, hd, hk, r⟩ => ⟨a, kvs, e, ha, h0, hd.extBut hs (fun q => by
      subst q
      rcases hb with hb | hb
      · exact ha hb
      · obtain ⟨o, _, _, ho, hc, _⟩ := hd; exact (hb o ho).2 hc.1), hk, Rps.same hs hb ds _ r⟩
theorem Rps.same {w : World} {X : List Addr} {h h' : Heap} {b : Addr} (hs : Heap.ExtBut b h h') (hb : b ∈ X ∨ ∀ o, h.get? b = some o → o.cls ≠ .type "list" ∧ o.cls ≠ .type "dict") : ∀ (ds : List PV) (vs : List Value), Rps w X h ds vs → Rps w X h' ds vs
  | [], _, r => r
  | d :: ds, _, ⟨v, r, e, h1, h2⟩ => ⟨v, r, e, Rp.same hs hb d v h1, Rps.same hs hb ds r h2⟩
end
mutual
theorem Rp.mono {w : World} {X Y : List Addr} {h : Heap} (hs : ∀ a ∈ Y, a ∈ X) : ∀ (d : PV) (v : Value), Rp w X h d v → Rp w Y h d v
  | .none, _, r => r
  | .bool _, _, r => r
  | .int _, _, r => r
  | .str _, _, r => r
  | .raw _, _, r => r
  | .list l, _, ⟨a, vs, e, ha, hl, r⟩ => ⟨a, vs, e, fun m => ha (hs a m), hl, Rps.mono hs l vs r⟩
  | .arg l, _, ⟨a, vs, e, ha, hl, r⟩ => ⟨a, vs, e, fun m => ha (hs a m), hl, Rps.mono hs l vs r⟩
  | .dict _ ds, _, ⟨a, kvs, e, ha, h0, hd, hk, r⟩ => ⟨a, kvs, e, fun m => ha (hs a m), h0, hd, hk, Rps.mono hs ds _ r⟩
theorem Rps.mono {w : World} {X Y : List Addr} {h : Heap} (hs : ∀ a ∈ Y, a ∈ X) : ∀ (ds : List PV) (vs : List Value), Rps w X h ds vs → Rps w Y h ds vs
  | [], _, r => r
  | d :: ds, _, ⟨v, r, e, h1, h2⟩ => ⟨v, r, e, Rp.mono hs d v h1, Rps.mono hs ds r h2⟩
end
mutual
theorem Rp.fresh {w : World} {X : List Addr} {h : Heap} {b : Addr} (hb : h.get? b = none) : ∀ (d : PV) (v : Value), Rp w X h d v → Rp w (b :: X) h d v
  | .none, _, r => r
  | .bool _, _, r => r
  | .int _, _, r => r
  | .str _, _, r => r
  | .raw _, _, r => r
  | .list l, _, ⟨a, vs, e, ha, hl, r⟩ => ⟨a, vs, e, fun m => (List.mem_cons.mp m).elim (fun q => by obtain ⟨o, ho⟩ := hl; rw [q, hb] at ho; cases ho) ha, hl, Rps.fresh hb l vs r⟩
  | .arg l, _, ⟨a, vs, e, ha, hl, r⟩ => ⟨a, vs, e, fun m => (List.mem_cons.mp m).elim (fun q => by obtain ⟨o, ho, _⟩ := hl; rw [q, hb] at ho; cases ho) ha, hl, Rps.fresh hb l vs r⟩
  | .dict _ ds, _, ⟨a, kvs, e, ha, h0, hd, hk, r⟩ => ⟨a, kvs, e, fun m => (List.mem_cons.mp m).elim (fun q => by obtain ⟨o, _, _, ho, _⟩ := hd; rw [q, hb] at ho; cases ho) ha, h0, hd, hk, Rps.fresh hb ds _ r⟩
theorem Rps.fresh {w : World} {X : List Addr} {h : Heap} {b : Addr} (hb : h.get? b = none) : ∀ (ds : List PV) (vs : List Value), Rps w X h ds vs → Rps w (b :: X) h ds vs
  | [], _, r => r
  | d :: ds, _, ⟨v, r, e, h1, h2⟩ => ⟨v, r, e, Rp.fresh hb d v h1, Rps.fresh hb ds r h2⟩
end
theorem Rps.length {w : World} {X : List Addr} {h : Heap} : ∀ {ds : List PV} {vs : List Value}, Rps w X h ds vs → vs.length = ds.length
  | [], _, r => by rw [show _ = [] from r]; rfl
  | d :: ds, _, ⟨v, r, e, h1, h2⟩ => by rw [e, List.length_cons, List.length_cons, Rps.length h2]
theorem Rps.append {w : World} {X : List Addr} {h : Heap} : ∀ {ds es : List PV} {vs us : List Value}, Rps w X h ds vs → Rps w X h es us → Rps w X h (ds ++ es) (vs ++ us)
  | [], _, _, _, r, q => by rw [show _ = [] from r]; exact q
  | d :: ds, _, _, _, ⟨v, r, e, h1, h2⟩, q => ⟨v, r ++ _, by rw [e]; rfl, h1, Rps.append h2 q⟩
theorem Rps.one {w : World} {X : List Addr} {h : Heap} {d : PV} {v : Value} (r : Rp w X h d v) : Rps w X h [d] [v] := ⟨v, [], rfl, r, rfl⟩
theorem Rps.snoc {w : World} {X : List Addr} {h : Heap} {ds : List PV} {d : PV} {vs : List Value} {v : Value} (r : Rps w X h ds vs) (q : Rp w X h d v) : Rps w X h (ds ++ [d]) (vs ++ [v]) := r.append (.one q)
theorem Rps.at {w : World} {X : List Addr} {h : Heap} : ∀ {ds : List PV} {vs : List Value}, Rps w X h ds vs → ∀ (i : Nat) (d : PV), ds[i]? = some d → ∃ v, vs[i]? = some v ∧ Rp w X h d v
  | [], _, _, _, _, hd => by simp at hd
  | d :: ds, _, ⟨v, r, e, h1, h2⟩, 0, _, hd => by simp at hd; subst hd; exact ⟨v, by rw [e]; rfl, h1⟩
  | d :: ds, _, ⟨v, r, e, h1, h2⟩, i + 1, d', hd => by
    obtain ⟨v', hv', r'⟩ := Rps.at h2 i d' (by simpa using hd)
    exact ⟨v', by rw [e]; simpa using hv', r'⟩
theorem Rps.take {w : World} {X : List Addr} {h : Heap} : ∀ {ds : List PV} {vs : List Value}, Rps w X h ds vs → ∀ n, Rps w X h (ds.take n) (vs.take n)
  | [], _, r, n => by rw [show _ = [] from r]; simp [Rps]
  | d :: ds, _, ⟨v, r, e, h1, h2⟩, 0 => by simp [Rps]
  | d :: ds, _, ⟨v, r, e, h1, h2⟩, n + 1 => by rw [e]; exact ⟨v, _, rfl, h1, Rps.take h2 n⟩
theorem Rps.drop {w : World} {X : List Addr} {h : Heap} : ∀ {ds : List PV} {vs : List Value}, Rps w X h ds vs → ∀ n, Rps w X h (ds.drop n) (vs.drop n)
  | [], _, r, n => by rw [show _ = [] from r]; simp [Rps]
  | d :: ds, _, ⟨v, r, e, h1, h2⟩, 0 => ⟨v, r, e, h1, h2⟩
  | d :: ds, _, ⟨v, r, e, h1, h2⟩, n + 1 => by rw [e]; exact Rps.drop h2 n
mutual
noncomputable def toD : PV → Option PyData
  | .none => some .none
  | .bool b => some (.bool b)
  | .int i => some (.int i)
  | .str x => some (.str x)
  | .list l => (toDs l).map .list
  | .arg _ => none
  | .dict _ _ => none
  | .raw _ => none
noncomputable def toDs : List PV → Option (List PyData)
  | [] => some []
  | d :: ds => match toD d, toDs ds with
    | some x, some r => some (x :: r)
    | _, _ => none
end
mutual
theorem Rp.reads {w : World} {X : List Addr} {h : Heap} : ∀ (d : PV) (v : Value) (p : PyData), Rp w X h d v → toD d = some p → ∃ as, Reads h v p as
  | .none, _, _, r, e => by cases e; cases r; exact ⟨_, .none⟩
  | .bool b, _, _, r, e => by cases e; cases r; exact ⟨_, .bool b⟩
  | .int i, _, _, ⟨t, r⟩, e => by cases e; subst r; exact ⟨_, .int i t⟩
  | .str x, _, _, ⟨t, r⟩, e => by cases e; subst r; exact ⟨_, .str x t⟩
  | .list l, _, _, ⟨a, vs, q, ha, hl, r⟩, e => by
    simp only [toD, Option.map_eq_some_iff] at e
    obtain ⟨ps, e1, rfl⟩ := e
    obtain ⟨as, h2⟩ := Rps.reads l vs ps r e1
    obtain ⟨n, ho⟩ := hl
    subst q
    exact ⟨_, .list ho rfl rfl (by simpa using h2)⟩
  | .arg _, _, _, _, e => by simp [toD] at e
  | .dict _ _, _, _, _, e => by simp [toD] at e
  | .raw _, _, _, _, e => by simp [toD] at e
theorem Rps.reads {w : World} {X : List Addr} {h : Heap} : ∀ (ds : List PV) (vs : List Value) (ps : List PyData), Rps w X h ds vs → toDs ds = some ps → ∃ as, ReadsAll h vs ps as
  | [], _, _, r, e => by cases e; cases r; exact ⟨_, .nil⟩
  | d :: ds, _, _, ⟨v, r, q, h1, h2⟩, e => by
    simp only [toDs] at e
    split at e
    · rename_i x r' e1 e2
      cases e
      obtain ⟨as, a2⟩ := Rp.reads d v x h1 e1
      obtain ⟨bs, b2⟩ := Rps.reads ds r r' h2 e2
      subst q
      exact ⟨_, .cons a2 b2⟩
    · cases e
end
noncomputable def Rb (w : World) (X : List Addr) (h : Heap) (d : PV) (v : Value) : Prop := match d with
  | .list l => ∃ a vs, v = .ref a ∧ Lst h a vs ∧ Rps w X h l vs
  | d => Rp w X h d v
theorem Rp.rb {w : World} {X : List Addr} {h : Heap} {d : PV} {v : Value} (r : Rp w X h d v) : Rb w X h d v := by
  cases d with
  | list l => obtain ⟨a, vs, e, _, hl, r⟩ := r; exact ⟨a, vs, e, hl, r⟩
  | _ => exact r
theorem Rb.grow {w : World} {X : List Addr} {h h' : Heap} (hF : ∀ a ∈ F, a ∈ X) (t : TabsOk h) (g : Grow F h h') {d : PV} {v : Value} (r : Rb w X h d v) : Rb w X h' d v := by
  cases d with
  | list l => obtain ⟨a, vs, e, hl, r⟩ := r; exact ⟨a, vs, e, hl.grow t g, Rps.grow hF t g _ _ r⟩
  | _ => exact Rp.grow hF t g _ _ r
theorem Rb.reads {w : World} {X : List Addr} {h : Heap} {d : PV} {v : Value} {p : PyData} (r : Rb w X h d v) (e : toD d = some p) : ∃ as, Reads h v p as := by
  cases d with
  | list l =>
    obtain ⟨a, vs, q, ⟨n, ho⟩, r⟩ := r
    simp only [toD, Option.map_eq_some_iff] at e
    obtain ⟨ps, e1, rfl⟩ := e
    obtain ⟨as, h2⟩ := Rps.reads l vs ps r e1
    subst q
    exact ⟨_, .list ho rfl rfl (by simpa using h2)⟩
  | _ => exact Rp.reads _ _ _ r e
end Mine
namespace Mine
inductive T (α : Type) where
  | ret (a : α)
  | fail
  | ite (b : Bool) (t e : T α)
  | any (p : PV → Prop) (k : PV → T α)
namespace T
variable {α β : Type}
noncomputable def bind : T α → (α → T β) → T β
  | .ret a, k => k a
  | .fail, _ => .fail
  | .ite b t e, k => .ite b (t.bind k) (e.bind k)
  | .any p f, k => .any p fun d => (f d).bind k
noncomputable def Holds (P : α → Prop) : T α → Prop
  | .ret a => P a
  | .fail => False
  | .ite b t e => if b = true then Holds P t else Holds P e
  | .any p f => ∀ d, p d → Holds P (f d)
noncomputable def chk (b : Bool) (t : T α) : T α := .ite b t .fail
noncomputable def ofOpt : Option α → T α
  | some a => .ret a
  | none => .fail
theorem holds_bind {P : β → Prop} {k : α → T β} : ∀ (t : T α), Holds P (t.bind k) → Holds (fun a => Holds P (k a)) t
  | .ret _, h => h
  | .fail, h => h
  | .ite b t e, h => by
    simp only [bind, Holds] at h ⊢
    split at h
    · rename_i q; rw [if_pos q]; exact holds_bind t h
    · rename_i q; rw [if_neg q]; exact holds_bind e h
  | .any p f, h => fun d hd => holds_bind (f d) (h d hd)
theorem bind_holds {P : β → Prop} {k : α → T β} : ∀ (t : T α), Holds (fun a => Holds P (k a)) t → Holds P (t.bind k)
  | .ret _, h => h
  | .fail, h => h
  | .ite b t e, h => by
    simp only [bind, Holds] at h ⊢
    split at h
    · rename_i q; rw [if_pos q]; exact bind_holds t h
    · rename_i q; rw [if_neg q]; exact bind_holds e h
  | .any p f, h => fun d hd => bind_holds (f d) (h d hd)
theorem holds_mono {P P' : α → Prop} (hp : ∀ a, P a → P' a) : ∀ (t : T α), Holds P t → Holds P' t
  | .ret a, h => hp a h
  | .fail, h => h
  | .ite b t e, h => by
    simp only [Holds] at h ⊢
    split at h
    · rename_i q; rw [if_pos q]; exact holds_mono hp t h
    · rename_i q; rw [if_neg q]; exact holds_mono hp e h
  | .any p f, h => fun d hd => holds_mono hp (f d) (h d hd)
theorem holds_chk {P : α → Prop} {b : Bool} {t : T α} (h : Holds P (chk b t)) : b = true ∧ Holds P t := by
  simp only [chk, Holds] at h
  split at h
  · rename_i q; exact ⟨q, h⟩
  · exact h.elim
theorem chk_holds {P : α → Prop} {b : Bool} {t : T α} (hb : b = true) (h : Holds P t) : Holds P (chk b t) := by simp only [chk, Holds, hb, if_true]; exact h
theorem holds_opt {P : α → Prop} {o : Option α} (h : Holds P (ofOpt o)) : ∃ a, o = some a ∧ P a := by
  cases o with
  | none => exact h.elim
  | some a => exact ⟨a, rfl, h⟩
end T
inductive Ent where
  | val (d : PV)
  | own (l : List PV)
  | app (y : Str)
noncomputable abbrev Rho := List (Str × Ent)
structure Cx where
  w : World
  H : Heap
  mg : Str → Option Value
  mb : Str → Option Value
  A : Around
  env : Env
  frs : List Env
  X0 : List Addr
  h0 : Heap
  g0 : Array GenState
  o0 : OsState
  pin : List (Addr × Obj)
  gh : List (Value × PV)
noncomputable def Cx.F (c : Cx) : List Addr := c.frs.filterMap (·.frame)
structure Nxt (H : Heap) (F : List Addr) (s s' : Shared) : Prop where
  ext : Ext H F s.heap s'.heap
  gens : s'.gens = s.gens
  os : s'.os = s.os
theorem Nxt.trans {H : Heap} {F : List Addr} {s s' s'' : Shared} (x : Nxt H F s s') (y : Nxt H F s' s'') : Nxt H F s s'' := ⟨x.ext.trans y.ext, y.gens.trans x.gens, y.os.trans x.os⟩
noncomputable def EntIn (w : World) (X : List Addr) (ad : Str → Addr) (h : Heap) (x : Str) (v : Value) : Ent → Prop
  | .val d => Rp w X h d v
  | .own l => v = .ref (ad x) ∧ ad x ∈ X ∧ ∃ vs, Lst h (ad x) vs ∧ Rps w X h l vs
  | .app y => ∃ b, v = .ref b ∧ h.get? b = some { cls := .type "builtin_function_or_method", dict := none, data := .fields #[.builtin "list.append", .ref (ad y)], slots := #[] }
structure Ok (sc : Scope) (n : Nat) (c : Cx) : Prop where
  th : TH c.H c.mg c.mb
  room : Room (n + 1) c.A
  kind : c.env.scope.kind = .function
  names : ∀ x, c.env.kindOf x = sc.names.lookup x
  glob : c.env.globals = mainGlobals
  blt : c.env.builtins = builtinsNs
  hF : ∀ a ∈ c.F, a ∈ c.X0
  base : c.H.StaysIn c.h0
  hL : c.h0.get? c.env.locals = none
  cellEx : ∀ x, sc.names.lookup x = some .cell → ∃ a, c.env.cells.lookup x = some a
  locX : c.env.locals ∈ c.X0
  celX : ∀ x a, c.env.cells.lookup x = some a → a ∈ c.X0
structure Inv (c : Cx) (X : List Addr) (ad : Str → Addr) (ρ : Rho) (s : Shared) : Prop where
  wf : Wf c.H c.A c.frs s.heap
  ext : Ext c.H c.F c.h0 s.heap
  gens : s.gens = c.g0
  os : s.os = c.o0
  sub : ∀ a ∈ c.X0, a ∈ X
  ex : ∀ a ∈ X, ∃ o, s.heap.get? a = some o
  pins : ∀ p ∈ c.pin, s.heap.get? p.1 = some p.2 ∧ ¬ isTab p.1 ∧ (∀ es n, p.2.data ≠ .dict es n) ∧ (∀ v, p.2.data ≠ .cell v) ∧ p.1 ∉ X
  cells : ∀ x a, c.env.cells.lookup x = some a → ∃ v, s.heap.IsCell a v
  ghs : ∀ g ∈ c.gh, Rp c.w X s.heap g.2 g.1
  kinds : ∀ x e, (x, e) ∈ ρ → c.env.kindOf x = some .local ∨ c.env.kindOf x = some .cell
  nd : (ρ.map (·.1)).Nodup
  ns : ∃ m, s.heap.Ns c.env.locals m ∧ ∀ x e, (x, e) ∈ ρ → c.env.kindOf x = some .local → ∃ v, m x = some v ∧ EntIn c.w X ad s.heap x v e
  cel : ∀ x e, (x, e) ∈ ρ → c.env.kindOf x = some .cell → ∃ a v, c.env.cells.lookup x = some a ∧ s.heap.IsCell a (some v) ∧ EntIn c.w X ad s.heap x v e
  inj : ∀ x y l l', (x, Ent.own l) ∈ ρ → (y, Ent.own l') ∈ ρ → ad x = ad y → x = y
  ownf : ∀ x l, (x, Ent.own l) ∈ ρ → c.h0.get? (ad x) = none ∧ ad x ∉ c.X0 ∧ ∀ p ∈ c.pin, p.1 ≠ ad x
section
variable {c : Cx} {X : List Addr} {ad : Str → Addr} {ρ : Rho} {s s' : Shared}
theorem Inv.refl (I : Inv c X ad ρ s) : Nxt c.H c.F s s := ⟨I.wf.refl, rfl, rfl⟩
theorem EntIn.grow {w : World} {F : List Addr} {h h' : Heap} {x : Str} {v : Value} (hF : ∀ a ∈ F, a ∈ X) (t : TabsOk h) (g : Grow F h h') : ∀ {e : Ent}, EntIn w X ad h x v e → EntIn w X ad h' x v e
  | .val d, r => Rp.grow hF t g d v r
  | .own l, ⟨e, hm, vs, hl, r⟩ => ⟨e, hm, vs, hl.grow t g, Rps.grow hF t g l vs r⟩
  | .app y, ⟨b, e, hb⟩ => ⟨b, e, g.exact hb (fun q => by obtain ⟨ps, e⟩ := t.fields hb q; cases e) (.inr fun _ _ e => by cases e)⟩
theorem Inv.nxt {sc : Scope} {n : Nat} (O : Ok sc n c) (I : Inv c X ad ρ s) (x : Nxt c.H c.F s s') : Inv c X ad ρ s' := by
  have hF : ∀ a ∈ c.F, a ∈ X := fun a h => I.sub a (O.hF a h)
  refine ⟨I.wf.ext x.ext, I.ext.trans x.ext, x.gens.trans I.gens, x.os.trans I.os, I.sub, fun a h => x.ext.there I.wf.tabs (I.ex a h), fun p hp => let ⟨h1, h2, h3⟩ := I.pins p hp; ⟨x.ext.grow.exact h1 h2 (.inr h3.1), h2, h3⟩, fun y a hy => let ⟨v, hv⟩ := I.cells y a hy; ⟨v, IsCell.grow hv I.wf.tabs x.ext.grow⟩, fun g hg => Rp.grow hF I.wf.tabs x.ext.grow _ _ (I.ghs g hg), I.kinds, I.nd, ?_, ?_, I.inj, I.ownf⟩
  · obtain ⟨m, hn, hm⟩ := I.ns
    exact ⟨m, Ns.grow hn x.ext.grow (Ns.notTab hn I.wf.tabs), fun y e hy hk => let ⟨v, hv, r⟩ := hm y e hy hk; ⟨v, hv, r.grow hF I.wf.tabs x.ext.grow⟩⟩
  · intro y e hy hk
    obtain ⟨a, v, hc, hv, r⟩ := I.cel y e hy hk
    exact ⟨a, v, hc, IsCell.grow hv I.wf.tabs x.ext.grow, r.grow hF I.wf.tabs x.ext.grow⟩
theorem Inv.ent (I : Inv c X ad ρ s) {x : Str} {e : Ent} (h : (x, e) ∈ ρ) : ∃ v, EntIn c.w X ad s.heap x v e := by
  rcases I.kinds x e h with hk | hk
  · obtain ⟨m, _, hm⟩ := I.ns; obtain ⟨v, _, r⟩ := hm x e h hk; exact ⟨v, r⟩
  · obtain ⟨a, v, _, _, r⟩ := I.cel x e h hk; exact ⟨v, r⟩
theorem Inv.rp {sc : Scope} {n : Nat} (O : Ok sc n c) (I : Inv c X ad ρ s) (x : Nxt c.H c.F s s') {d : PV} {v : Value} (r : Rp c.w X s.heap d v) : Rp c.w X s'.heap d v :=
  Rp.grow (fun a h => I.sub a (O.hF a h)) I.wf.tabs x.ext.grow d v r
theorem Inv.rb {sc : Scope} {n : Nat} (O : Ok sc n c) (I : Inv c X ad ρ s) (x : Nxt c.H c.F s s') {d : PV} {v : Value} (r : Rb c.w X s.heap d v) : Rb c.w X s'.heap d v :=
  Rb.grow (fun a h => I.sub a (O.hF a h)) I.wf.tabs x.ext.grow r
theorem Inv.rps {sc : Scope} {n : Nat} (O : Ok sc n c) (I : Inv c X ad ρ s) (x : Nxt c.H c.F s s') {d : List PV} {v : List Value} (r : Rps c.w X s.heap d v) : Rps c.w X s'.heap d v :=
  Rps.grow (fun a h => I.sub a (O.hF a h)) I.wf.tabs x.ext.grow d v r
theorem Inv.tok (I : Inv c X ad ρ s) (t : Nat) : Nxt c.H c.F s { s with toks := t } := ⟨I.wf.refl, rfl, rfl⟩
theorem Inv.push (I : Inv c X ad ρ s) (o : Obj) (t : Nat) : Nxt c.H c.F s { s with heap := s.heap.push o, toks := t } := ⟨.push I.wf.stays I.wf.tabs o, rfl, rfl⟩
theorem Inv.fresh (I : Inv c X ad ρ s) {a : Addr} (ha : s.heap.objs.size ≤ a) : a ∉ X := fun h => by obtain ⟨o, e⟩ := I.ex a h; rw [fresh_size ha] at e; cases e
end
noncomputable def SndE (sc : Scope) (n : Nat) (e : Expr) (t : Rho → T PV) : Prop :=
  ∀ c : Cx, Ok sc n c → ∀ X ad ρ s, Inv c X ad ρ s → ∀ (Q E : Value → Shared → Prop),
    (t ρ).Holds (fun d => ∀ v s', Nxt c.H c.F s s' → Rp c.w X s'.heap d v → Q v s') → wpAny (model pw c.w) c.A (eval e c.env) Q E s
noncomputable def SndB (sc : Scope) (n : Nat) (e : Expr) (t : Rho → T PV) : Prop :=
  ∀ c : Cx, Ok sc n c → ∀ X ad ρ s, Inv c X ad ρ s → ∀ (Q E : Value → Shared → Prop),
    (t ρ).Holds (fun d => ∀ v s', Nxt c.H c.F s s' → Rb c.w X s'.heap d v → Q v s') → wpAny (model pw c.w) c.A (eval e c.env) Q E s
theorem SndE.b {sc : Scope} {n : Nat} {e : Expr} {t : Rho → T PV} (he : SndE sc n e t) : SndB sc n e t := fun c O X ad ρ s I Q E h =>
  he c O X ad ρ s I Q E (T.holds_mono (fun d hd v s' x r => hd v s' x r.rb) _ h)
noncomputable def SndT (sc : Scope) (n : Nat) (e : Expr) (t : Rho → T Bool) : Prop :=
  ∀ c : Cx, Ok sc n c → ∀ X ad ρ s, Inv c X ad ρ s → ∀ (Q : Bool → Shared → Prop) (E : Value → Shared → Prop),
    (t ρ).Holds (fun d => ∀ s', Nxt c.H c.F s s' → Q d s') → wpAny (model pw c.w) c.A (isTrue e c.env (eval e c.env)) Q E s
noncomputable def SndL (sc : Scope) (n : Nat) (es : List Expr) (t : Rho → T (List PV)) : Prop :=
  ∀ c : Cx, Ok sc n c → ∀ X ad ρ s, Inv c X ad ρ s → ∀ (pos : Pos) (Q : List Value → Shared → Prop) (E : Value → Shared → Prop),
    (t ρ).Holds (fun ds => ∀ vs s', Nxt c.H c.F s s' → Rps c.w X s'.heap ds vs → Q vs s') → wpAny (model pw c.w) c.A (spliced (backTo pos (starEach es c.env))) Q E s
section
variable {sc : Scope} {n : Nat}
theorem sndE_fail {e : Expr} : SndE sc n e fun _ => .fail := fun _ _ _ _ _ _ _ _ _ h => h.elim
theorem sndT_fail {e : Expr} : SndT sc n e fun _ => .fail := fun _ _ _ _ _ _ _ _ _ h => h.elim
theorem sndL_fail {e : List Expr} : SndL sc n e fun _ => .fail := fun _ _ _ _ _ _ _ _ _ _ h => h.elim
theorem sndL_nil : SndL sc n [] fun _ => .ret [] := fun c O X ad ρ s I pos Q E h => Calls.spliced_nil (h [] s I.refl rfl)
theorem sndL_cons {e : Expr} {es : List Expr} {t : Rho → T PV} {ts : Rho → T (List PV)} (he : SndE sc n e t) (hes : SndL sc n es ts) (hn : ∀ x p, e ≠ .Starred x p) :
    SndL sc n (e :: es) fun ρ => (t ρ).bind fun d => (ts ρ).bind fun ds => .ret (d :: ds) := fun c O X ad ρ s I pos Q E h => by
  have hs : backTo pos (starEach (e :: es) c.env) = (false, eval e c.env) :: backTo pos (starEach es c.env) := by
    cases e <;> first | rfl | exact absurd rfl (hn _ _)
  rw [hs]
  refine Calls.spliced_cons (he c O X ad ρ s I _ _ (T.holds_mono (fun d hd v s' x r => ?_) _ (T.holds_bind _ h)))
  have I' := I.nxt O x
  refine hes c O X ad ρ s' I' pos _ _ (T.holds_mono (fun ds hds vs s'' x' rs => ?_) _ (T.holds_bind _ hd))
  exact hds _ _ (x.trans x') ⟨v, vs, rfl, I'.rp O x' r, rs⟩
theorem sndE_int {i : Int} {k : Nat} {pos : Pos} : SndE sc n (.Constant (.int i) k pos) fun _ => .ret (.int i) := fun c O X ad ρ s I Q E h => wpAny_Constant_int (h _ _ (I.tok _) ⟨_, rfl⟩)
theorem sndE_str {i : Str} {k : Nat} {pos : Pos} : SndE sc n (.Constant (.str i) k pos) fun _ => .ret (.str i) := fun c O X ad ρ s I Q E h => wpAny_Constant_str (h _ _ (I.tok _) ⟨_, rfl⟩)
theorem sndE_bool {i : Bool} {k : Nat} {pos : Pos} : SndE sc n (.Constant (.bool i) k pos) fun _ => .ret (.bool i) := fun c O X ad ρ s I Q E h => wpAny_Constant_bool (h _ _ I.refl rfl)
theorem sndE_none {k : Nat} {pos : Pos} : SndE sc n (.Constant .none k pos) fun _ => .ret .none := fun c O X ad ρ s I Q E h => wpAny_Constant_none (h _ _ I.refl rfl)
noncomputable def findE (ρ : Rho) (x : Str) : Option Ent := match ρ with
  | [] => none
  | (y, e) :: r => if y == x then some e else findE r x
theorem findE_mem : ∀ {ρ : Rho} {x : Str} {e : Ent}, findE ρ x = some e → (x, e) ∈ ρ
  | (y, e') :: r, x, e, h => by
    simp only [findE] at h
    split at h
    · rename_i q
      have : y = x := by simpa using q
      subst this; cases h; exact .head _
    · exact .tail _ (findE_mem h)
theorem ldName {c : Cx} {X : List Addr} {ad : Str → Addr} {ρ : Rho} {s : Shared} (O : Ok sc n c) (I : Inv c X ad ρ s) {x : Str} {e : Ent} (hx : (x, e) ∈ ρ) (hk : sc.names.lookup x = some .local ∨ sc.names.lookup x = some .cell)
    {Q E : Value → Shared → Prop} (h : ∀ v, EntIn c.w X ad s.heap x v e → Q v s) : wpAny (model pw c.w) c.A (loadName c.env x) Q E s := by
  rcases hk with hk | hk
  · obtain ⟨m, hn, hm⟩ := I.ns
    obtain ⟨v, hv, r⟩ := hm x e hx ((O.names x).trans hk)
    exact wpAny_loadName_local O.kind ((O.names x).trans hk) hn hv (h v r)
  · obtain ⟨a, v, hc, hv, r⟩ := I.cel x e hx ((O.names x).trans hk)
    exact wpAny_loadName_cell O.kind ((O.names x).trans hk) hc hv (h v r)
noncomputable def isVar (sc : Scope) (x : Str) : Bool := sc.names.lookup x == some .local || sc.names.lookup x == some .cell
theorem isVar_or {x : Str} (h : isVar sc x = true) : sc.names.lookup x = some .local ∨ sc.names.lookup x = some .cell := by simpa [isVar] using h
theorem sndE_Name {x : Str} {pos : Pos} (hv : isVar sc x = true) (hd : (x == ("__debug__" : Str)) = false) : SndE sc n (.Name x pos) fun ρ => match findE ρ x with | some (.val d) => .ret d | _ => .fail := fun c O X ad ρ s I Q E h => by
  refine wpAny_Name ?_ hd
  dsimp only at h
  split at h
  · rename_i d he
    exact ldName O I (findE_mem he) (isVar_or hv) fun v r => h v s I.refl r
  · exact h.elim
theorem sndB_Name {x : Str} {pos : Pos} (hv : isVar sc x = true) (hd : (x == ("__debug__" : Str)) = false) : SndB sc n (.Name x pos) fun ρ => match findE ρ x with | some (.val d) => .ret d | some (.own l) => .ret (.list l) | _ => .fail := fun c O X ad ρ s I Q E h => by
  refine wpAny_Name ?_ hd
  dsimp only at h
  split at h
  · rename_i d he
    exact ldName O I (findE_mem he) (isVar_or hv) fun v r => h v s I.refl (Rp.rb r)
  · rename_i l he
    exact ldName O I (findE_mem he) (isVar_or hv) fun v r => by
      obtain ⟨rfl, _, vs, hl, r⟩ := r
      exact h _ s I.refl ⟨_, vs, rfl, hl, r⟩
  · exact h.elim
end
end Mine
namespace Mine
noncomputable def intMulOk (a b : Int) : Bool := !(decide (Builtin.Int.intBits a > shortFactorBits) && decide (Builtin.Int.intBits b > shortFactorBits) && Builtin.Int.intTooBig (↑(Builtin.Int.intBits a) + ↑(Builtin.Int.intBits b)))
noncomputable def mulOkB (x : Str) (n : Int) : Bool := !(decide (n < -2 ^ 63) || decide (n ≥ 2 ^ 63)) && (decide (n < 1) || (n == 1 || x.length == 0) || (!decide ((x.length : Int) > (2 ^ 63 - 1) / n) && !Builtin.Str.tooLong (x.length * n.toNat)))
theorem intMulOk_is {a b : Int} (h : intMulOk a b = true) : IntMulOk a b := by
  unfold IntMulOk; unfold intMulOk at h
  intro q; rw [q] at h; cases h
theorem mulOkB_is {x : Str} {n : Int} (h : mulOkB x n = true) : MulOk x n := by
  unfold mulOkB at h
  simp only [Bool.and_eq_true, Bool.not_eq_true'] at h
  obtain ⟨h1, h2⟩ := h
  refine ⟨h1, fun a b => ?_, fun a b => ?_⟩
  · rw [b, decide_eq_false a] at h2
    simp only [Bool.false_or, Bool.and_eq_true, Bool.not_eq_true', decide_eq_false_iff_not] at h2
    exact h2.1
  · rw [b, decide_eq_false a] at h2
    simp only [Bool.false_or, Bool.and_eq_true, Bool.not_eq_true', decide_eq_false_iff_not] at h2
    exact h2.2
noncomputable def ii (f : Int → Int → T PV) (a b : PV) : T PV := match a, b with
  | .int i, .int j => f i j
  | _, _ => .fail
theorem ii_inv {f : Int → Int → T PV} {a b : PV} {P : PV → Prop} (h : (ii f a b).Holds P) : ∃ i j, a = .int i ∧ b = .int j ∧ (f i j).Holds P := by
  unfold ii at h
  split at h
  · exact ⟨_, _, rfl, rfl, h⟩
  · exact h.elim
noncomputable def addP (a b : PV) : T PV := match a with
  | .int i => (match b with | .int j => .ret (.int (i + j)) | _ => .fail)
  | .str x => (match b with | .str y => .chk (decide (x.length + y.length ≤ sizeLine)) (.ret (.str (x ++ y))) | _ => .fail)
  | .list l => (match b with | .list m => .chk (decide (l.length + m.length ≤ sizeLine)) (.ret (.list (l ++ m))) | _ => .fail)
  | _ => .fail
noncomputable def mulP (a b : PV) : T PV := match b with
  | .int k => (match a with
    | .int i => .chk (intMulOk i k) (.ret (.int (i * k)))
    | .str x => .chk (mulOkB x k) (.ret (.str (Txt.mul x k)))
    | _ => .fail)
  | _ => .fail
noncomputable def binP (op : Operator) (a b : PV) : T PV := match op with
  | .Add => addP a b
  | .Sub => ii (fun a b => .ret (.int (a - b))) a b
  | .Mult => mulP a b
  | .Mod => ii (fun a b => .chk (b != 0) (.ret (.int (a.fmod b)))) a b
  | .FloorDiv => ii (fun a b => .chk (b != 0 && !Builtin.divisionGoesByPylong a b) (.ret (.int (a.fdiv b)))) a b
  | .Pow => ii (fun a b => .chk (decide (0 ≤ b) && decide (b ≤ 1000000) && decide (a.natAbs < 2 ^ 64)) (.ret (.int (a ^ b.toNat)))) a b
  | _ => .fail
section
variable {sc : Scope} {n : Nat} {c : Cx} {X : List Addr} {ad : Str → Addr} {ρ : Rho} {s : Shared}
theorem addP_ok (O : Ok sc n c) (I : Inv c X ad ρ s) {a b : PV} {va vb : Value} {Q E : Value → Shared → Prop} (ra : Rb c.w X s.heap a va) (rb : Rb c.w X s.heap b vb)
    (h : (addP a b).Holds fun d => ∀ v s', Nxt c.H c.F s s' → Rp c.w X s'.heap d v → Q v s') : wpAny (model pw c.w) c.A (binaryOp .Add va vb) Q E s := by
  unfold addP at h
  split at h
  · split at h
    · obtain ⟨t, rfl⟩ := ra; obtain ⟨u, rfl⟩ := rb
      exact add_int (h _ _ (I.tok _) ⟨_, rfl⟩)
    · exact h.elim
  · split at h
    · obtain ⟨t, rfl⟩ := ra; obtain ⟨u, rfl⟩ := rb
      obtain ⟨hb, h⟩ := T.holds_chk h
      exact SB.add (fun t' k => h _ _ (I.tok _) ⟨_, rfl⟩) (of_decide_eq_true hb)
    · exact h.elim
  · split at h
    · rename_i l _ m
      obtain ⟨a, vs, rfl, ⟨n1, hl⟩, r1⟩ := ra; obtain ⟨b, us, rfl, ⟨n2, hm⟩, r2⟩ := rb
      obtain ⟨hb, h⟩ := T.holds_chk h
      have hs : vs.length + us.length ≤ sizeLine := by rw [r1.length, r2.length]; exact of_decide_eq_true hb
      refine PySem.P.add_list hl hm (h _ _ (I.push _ _) ⟨_, vs ++ us, rfl, I.fresh (Nat.le_refl _), ⟨0, ?_⟩, ?_⟩) (by simpa using hs)
      · rw [Heap.get?_push_size _ (by rfl)]; simp
      · exact (I.rps O (I.push _ _) r1).append (I.rps O (I.push _ s.toks) r2)
    · exact h.elim
  · exact h.elim
theorem mulP_ok (I : Inv c X ad ρ s) {a b : PV} {va vb : Value} {Q E : Value → Shared → Prop} (ra : Rb c.w X s.heap a va) (rb : Rb c.w X s.heap b vb)
    (h : (mulP a b).Holds fun d => ∀ v s', Nxt c.H c.F s s' → Rp c.w X s'.heap d v → Q v s') : wpAny (model pw c.w) c.A (binaryOp .Mult va vb) Q E s := by
  unfold mulP at h
  split at h
  · split at h
    · obtain ⟨t, rfl⟩ := ra; obtain ⟨u, rfl⟩ := rb
      obtain ⟨hb, h⟩ := T.holds_chk h
      exact mul_int (h _ _ (I.tok _) ⟨_, rfl⟩) (intMulOk_is hb)
    · obtain ⟨t, rfl⟩ := ra; obtain ⟨u, rfl⟩ := rb
      obtain ⟨hb, h⟩ := T.holds_chk h
      exact SB.mul (mulOkB_is hb) fun t' k => h _ _ (I.tok _) ⟨_, rfl⟩
    · exact h.elim
  · exact h.elim
theorem binP_ok (O : Ok sc n c) (I : Inv c X ad ρ s) {op : Operator} {a b : PV} {va vb : Value} {Q E : Value → Shared → Prop} (ra : Rb c.w X s.heap a va) (rb : Rb c.w X s.heap b vb)
    (h : (binP op a b).Holds fun d => ∀ v s', Nxt c.H c.F s s' → Rp c.w X s'.heap d v → Q v s') : wpAny (model pw c.w) c.A (binaryOp op va vb) Q E s := by
  cases op with
  | Add => exact addP_ok O I ra rb h
  | Mult => exact mulP_ok I ra rb h
  | Sub =>
    obtain ⟨i, j, rfl, rfl, h⟩ := ii_inv h
    obtain ⟨t, rfl⟩ := ra; obtain ⟨u, rfl⟩ := rb
    exact sub_int (h _ _ (I.tok _) ⟨_, rfl⟩)
  | Mod =>
    obtain ⟨i, j, rfl, rfl, h⟩ := ii_inv h
    obtain ⟨t, rfl⟩ := ra; obtain ⟨u, rfl⟩ := rb
    obtain ⟨hb, h⟩ := T.holds_chk h
    exact mod_int (bne_iff_ne.mp hb) (h _ _ (I.tok _) ⟨_, rfl⟩)
  | FloorDiv =>
    obtain ⟨i, j, rfl, rfl, h⟩ := ii_inv h
    obtain ⟨t, rfl⟩ := ra; obtain ⟨u, rfl⟩ := rb
    obtain ⟨hb, h⟩ := T.holds_chk h
    obtain ⟨h1, h2⟩ := Bool.and_eq_true_iff.mp hb
    exact floordiv_int (bne_iff_ne.mp h1) (h _ _ (I.tok _) ⟨_, rfl⟩) (.inl (by rw [Bool.not_eq_true'] at h2; exact h2))
  | Pow =>
    obtain ⟨i, j, rfl, rfl, h⟩ := ii_inv h
    obtain ⟨t, rfl⟩ := ra; obtain ⟨u, rfl⟩ := rb
    obtain ⟨hb, h⟩ := T.holds_chk h
    obtain ⟨h1, h3⟩ := Bool.and_eq_true_iff.mp hb
    obtain ⟨h1, h2⟩ := Bool.and_eq_true_iff.mp h1
    exact pow_int_small (of_decide_eq_true h1) (of_decide_eq_true h2) (of_decide_eq_true h3) (h _ _ (I.tok _) ⟨_, rfl⟩)
  | _ => exact h.elim
noncomputable def truP : PV → T Bool
  | .none => .ret false
  | .bool b => .ret b
  | .int i => .ret (i != 0)
  | .str x => .chk (decide (x.length ≤ sizeLine)) (.ret (x.length != 0))
  | .list l => .chk (decide (l.length ≤ sizeLine)) (.ret (!l.isEmpty))
  | _ => .fail
theorem size_small {k : Nat} (h : k ≤ sizeLine) : (k : Int) < 2 ^ 63 := by
  have : k ≤ 2 ^ 24 := h
  omega
theorem truP_ok (O : Ok sc n c) (I : Inv c X ad ρ s) {a : PV} {va : Value} {Q : Bool → Shared → Prop} {E : Value → Shared → Prop} (ra : Rb c.w X s.heap a va)
    (h : (truP a).Holds fun d => ∀ s', Nxt c.H c.F s s' → Q d s') : wpAny (model pw c.w) c.A (truthy va) Q E s := by
  unfold truP at h
  split at h
  · obtain rfl := ra; exact truthy_none (h _ I.refl)
  · obtain rfl := ra; exact wpAny_truthy_bool (h _ I.refl)
  · obtain ⟨t, rfl⟩ := ra; exact P.truthy_int (h _ I.refl)
  · rename_i x
    obtain ⟨t, rfl⟩ := ra
    obtain ⟨hb, h⟩ := T.holds_chk h
    have hb' := size_small (by simpa using hb)
    refine P.truthy_str (by omega) ?_
    have e : ((x.length : Int) != 0) = (x.length != 0) := by
      rw [Bool.eq_iff_iff]; simp
    rw [e]
    exact h _ (I.tok _)
  · rename_i l
    obtain ⟨a, vs, rfl, ⟨n1, hl⟩, r1⟩ := ra
    obtain ⟨hb, h⟩ := T.holds_chk h
    have hb' := size_small (k := vs.length) (by rw [r1.length]; simpa using hb)
    refine wpAny_truthy_list ⟨_, hl, rfl, _, rfl⟩ (by simpa using hb') ?_
    have e : vs.toArray.isEmpty = l.isEmpty := by
      have := r1.length
      cases vs <;> cases l <;> simp_all
    rw [e]
    exact h _ (I.tok _)
  · exact h.elim
noncomputable def eqvP (a b : PV) : T Bool := match a, b with
  | .int a, .int b => .ret (a == b)
  | .str x, .str y => .ret (x.cps.toList == y.cps.toList)
  | a, b => (T.ofOpt (toD a)).bind fun p => (T.ofOpt (toD b)).bind fun q =>
    .chk (p.canLay0 && q.canLay0 && decide (min p.depth q.depth ≤ 30)) (.ret (PyData.eqv p q))
noncomputable def inP (a : PV) (l : List PV) : T Bool := (T.ofOpt (toD a)).bind fun p => (T.ofOpt (toDs l)).bind fun q =>
    .chk (PyData.canLayAll0 q && p.canLay0 && decide (min (PyData.depthAll q) p.depth ≤ 30)) (.ret (q.any fun y => PyData.eqv y p))
noncomputable def ng (neg r : Bool) : Bool := match neg with | true => !r | false => r
noncomputable def inC (neg : Bool) (a b : PV) : T PV := match b with
  | .list l => (inP a l).bind fun r => .ret (.bool (ng neg r))
  | .str x => (match a with | .str y => .ret (.bool (ng neg (Txt.contains x y))) | _ => .fail)
  | _ => .fail
noncomputable def refOf : PV → Option Addr
  | .raw v => (match v with | .ref a => some a | _ => none)
  | _ => none
theorem refOf_inv {d : PV} {a : Addr} (h : refOf d = some a) : d = .raw (.ref a) := by
  unfold refOf at h
  split at h
  · split at h
    · cases h; rfl
    · cases h
  · cases h
noncomputable def isC (neg : Bool) (a b : PV) : T PV := match refOf b with
  | some y => (match refOf a with
    | some x => .chk (x == y) (.ret (.bool (!neg)))
    | none => (match a with | .str _ => .chk neg (.ret (.bool true)) | _ => .fail))
  | none => .fail
noncomputable def cmpP (op : CmpOp) (a b : PV) : T PV := match op with
  | .Eq => (eqvP a b).bind fun r => .ret (.bool r)
  | .NotEq => (eqvP a b).bind fun r => .ret (.bool (!r))
  | .Lt => ii (fun a b => .ret (.bool (decide (a < b)))) a b
  | .Gt => ii (fun a b => .ret (.bool (decide (a > b)))) a b
  | .LtE => ii (fun a b => .ret (.bool (decide (a ≤ b)))) a b
  | .GtE => ii (fun a b => .ret (.bool (decide (a ≥ b)))) a b
  | .In => inC false a b
  | .NotIn => inC true a b
  | .IsNot => isC true a b
  | .Is => isC false a b
theorem Ok.depth30 (O : Ok sc n c) {k : Nat} (h : k ≤ 30) : c.A.units + 1 + k < cLine := by
  have := O.room.u
  omega
theorem eqvP_ok (O : Ok sc n c) {a b : PV} {va vb : Value} {Q E : Value → Shared → Prop} (neg : Bool) (ra : Rb c.w X s.heap a va) (rb : Rb c.w X s.heap b vb)
    (h : (eqvP a b).Holds fun r => Q (.bool (ng neg r)) s) : wpAny (model pw c.w) c.A (compareOp (if neg then .NotEq else .Eq) va vb) Q E s := by
  unfold eqvP at h
  split at h
  · obtain ⟨t, rfl⟩ := ra; obtain ⟨u, rfl⟩ := rb
    cases neg with
    | false => exact P.eq_int h
    | true => exact P.ne_int h
  · obtain ⟨t, rfl⟩ := ra; obtain ⟨u, rfl⟩ := rb
    cases neg with
    | false => exact P.eq_str h
    | true => exact P.ne_str h
  · obtain ⟨p, hp, h⟩ := T.holds_opt (T.holds_bind _ h)
    obtain ⟨q, hq, h⟩ := T.holds_opt (T.holds_bind _ h)
    obtain ⟨hb, h⟩ := T.holds_chk h
    obtain ⟨h1, h3⟩ := Bool.and_eq_true_iff.mp hb
    obtain ⟨h1, h2⟩ := Bool.and_eq_true_iff.mp h1
    obtain ⟨as, r1⟩ := ra.reads hp
    obtain ⟨bs, r2⟩ := rb.reads hq
    have hd := O.depth30 (of_decide_eq_true h3)
    cases neg with
    | false => exact SeqAt.compareEq_reads r1 r2 h1 h2 (by omega) h
    | true => exact SeqAt.compareNe_reads r1 r2 h1 h2 (by omega) h
theorem inC_ok (O : Ok sc n c) {a b : PV} {va vb : Value} {Q E : Value → Shared → Prop} (neg : Bool) (ra : Rb c.w X s.heap a va) (rb : Rb c.w X s.heap b vb)
    (h : (inC neg a b).Holds fun d => ∀ v, Rp c.w X s.heap d v → Q v s) : wpAny (model pw c.w) c.A (compareOp (if neg then .NotIn else .In) va vb) Q E s := by
  unfold inC at h
  split at h
  · rename_i l
    obtain ⟨p, hp, h⟩ := T.holds_opt (T.holds_bind _ (T.holds_bind _ h))
    obtain ⟨q, hq, h⟩ := T.holds_opt (T.holds_bind _ h)
    obtain ⟨hb, h⟩ := T.holds_chk h
    obtain ⟨h1, h3⟩ := Bool.and_eq_true_iff.mp hb
    obtain ⟨h1, h2⟩ := Bool.and_eq_true_iff.mp h1
    obtain ⟨as, r1⟩ := ra.reads hp
    obtain ⟨bs, r2⟩ := rb.reads (p := .list q) (by unfold toD; rw [hq]; rfl)
    have hd := O.depth30 (of_decide_eq_true h3)
    cases neg with
    | false => exact SeqAt.in_list_reads r2 r1 h1 h2 hd (h _ rfl)
    | true => exact SeqAt.notIn_list_reads r2 r1 h1 h2 hd (h _ rfl)
  · split at h
    · obtain ⟨t, rfl⟩ := ra; obtain ⟨u, rfl⟩ := rb
      cases neg with
      | false => exact SB.contains (h _ rfl)
      | true => exact SB.notContains (h _ rfl)
    · exact h.elim
  · exact h.elim
theorem isC_ok {a b : PV} {va vb : Value} {Q E : Value → Shared → Prop} (neg : Bool) (ra : Rb c.w X s.heap a va) (rb : Rb c.w X s.heap b vb)
    (h : (isC neg a b).Holds fun d => ∀ v, Rp c.w X s.heap d v → Q v s) : wpAny (model pw c.w) c.A (compareOp (if neg then .IsNot else .Is) va vb) Q E s := by
  unfold isC at h
  split at h
  · rename_i y hy
    obtain rfl := refOf_inv hy
    obtain rfl := rb
    split at h
    · rename_i x hx
      obtain rfl := refOf_inv hx
      obtain rfl := ra
      obtain ⟨hb, h'⟩ := T.holds_chk h
      obtain rfl := beq_iff_eq.mp hb
      cases neg with
      | false => exact wpAny_is_ref_self (h' _ rfl)
      | true => exact wpAny_isNot_ref_self (h' _ rfl)
    · split at h
      · obtain ⟨t, rfl⟩ := ra
        obtain ⟨hb, h⟩ := T.holds_chk h
        subst hb
        exact wpAny_isNot_other rfl (by intro q; cases q) (h _ rfl)
      · exact h.elim
  · exact h.elim
theorem cmpP_ok (O : Ok sc n c) (I : Inv c X ad ρ s) {op : CmpOp} {a b : PV} {va vb : Value} {Q E : Value → Shared → Prop} (ra : Rb c.w X s.heap a va) (rb : Rb c.w X s.heap b vb)
    (h : (cmpP op a b).Holds fun d => ∀ v s', Nxt c.H c.F s s' → Rp c.w X s'.heap d v → Q v s') : wpAny (model pw c.w) c.A (compareOp op va vb) Q E s := by
  cases op with
  | Eq => exact eqvP_ok O false ra rb (T.holds_mono (fun r h => h _ s I.refl rfl) _ (T.holds_bind _ h))
  | NotEq => exact eqvP_ok O true ra rb (T.holds_mono (fun r h => h _ s I.refl rfl) _ (T.holds_bind _ h))
  | In => exact inC_ok O false ra rb (T.holds_mono (fun r h v hv => h v s I.refl hv) _ h)
  | NotIn => exact inC_ok O true ra rb (T.holds_mono (fun r h v hv => h v s I.refl hv) _ h)
  | Is => exact isC_ok false ra rb (T.holds_mono (fun r h v hv => h v s I.refl hv) _ h)
  | IsNot => exact isC_ok true ra rb (T.holds_mono (fun r h v hv => h v s I.refl hv) _ h)
  | Lt =>
    obtain ⟨i, j, rfl, rfl, h⟩ := ii_inv h
    obtain ⟨t, rfl⟩ := ra; obtain ⟨u, rfl⟩ := rb
    exact P.lt_int (h _ _ I.refl rfl)
  | Gt =>
    obtain ⟨i, j, rfl, rfl, h⟩ := ii_inv h
    obtain ⟨t, rfl⟩ := ra; obtain ⟨u, rfl⟩ := rb
    exact P.gt_int (h _ _ I.refl rfl)
  | LtE =>
    obtain ⟨i, j, rfl, rfl, h⟩ := ii_inv h
    obtain ⟨t, rfl⟩ := ra; obtain ⟨u, rfl⟩ := rb
    exact P.le_int (h _ _ I.refl rfl)
  | GtE =>
    obtain ⟨i, j, rfl, rfl, h⟩ := ii_inv h
    obtain ⟨t, rfl⟩ := ra; obtain ⟨u, rfl⟩ := rb
    exact P.ge_int (h _ _ I.refl rfl)
noncomputable def itmL (l : List PV) (i : Int) : T PV := .chk (decide (l.length ≤ sizeLine)) (T.ite (decide (0 ≤ i)) (.chk (decide (i < 2 ^ 63)) (T.ofOpt l[i.toNat]?)) (.chk (decide (-(l.length : Int) ≤ i)) (T.ofOpt l[(i + l.length).toNat]?)))
noncomputable def itmP (a i : PV) : T PV := match a with
  | .list l => (match i with | .int i => itmL l i | _ => .fail)
  | .str x => (match i with | .int i => .chk (fitsSsize i && (Txt.charAt x i).isSome) (.ret (.str (Txt.item x i))) | _ => .fail)
  | .dict ks vs => (match i with | .str x => T.ofOpt ((ks.zip vs).lookup x) | _ => .fail)
  | _ => .fail
theorem valueAt_rps {X : List Addr} {h : Heap} {w : World} {x : Str} {d : PV} : ∀ (kvs : List (Str × Value)) (ds : List PV), Rps w X h ds (kvs.map (·.2)) → ((kvs.map (·.1)).zip ds).lookup x = some d → ∃ v, valueAt kvs x = some v ∧ Rp w X h d v
  | [], _, _, e => by simp at e
  | (k, u) :: kvs, [], r, e => by simp at e
  | (k, u) :: kvs, d' :: ds, ⟨v, r, q, h1, h2⟩, e => by
    simp only [List.map_cons, List.cons.injEq] at q
    obtain ⟨rfl, rfl⟩ := q
    simp only [List.map_cons, List.zip_cons_cons, List.lookup_cons] at e
    by_cases hk : k = x
    · subst hk
      simp only [beq_self_eq_true] at e
      cases e
      exact ⟨u, by simp [valueAt], h1⟩
    · have : (x == k) = false := by simp; exact fun q => hk q.symm
      rw [this] at e
      obtain ⟨v, hv, r⟩ := valueAt_rps kvs ds h2 e
      exact ⟨v, by simpa [valueAt, hk] using hv, r⟩
theorem itmP_ok (O : Ok sc n c) (I : Inv c X ad ρ s) {a i : PV} {va vi : Value} {Q E : Value → Shared → Prop} (ra : Rb c.w X s.heap a va) (ri : Rb c.w X s.heap i vi)
    (h : (itmP a i).Holds fun d => ∀ v s', Nxt c.H c.F s s' → Rp c.w X s'.heap d v → Q v s') : SubscriptOn (model pw c.w) c.A va vi Q E s := by
  unfold itmP at h
  split at h
  · split at h
    · rename_i l _ i
      unfold itmL at h
      obtain ⟨a, vs, rfl, ⟨n1, hl⟩, r1⟩ := ra; obtain ⟨u, rfl⟩ := ri
      obtain ⟨hb, h⟩ := T.holds_chk h
      have hb' := size_small (k := vs.length) (by rw [r1.length]; simpa using hb)
      have hi : s.heap.IsList a vs.toArray := ⟨_, hl, rfl, _, rfl⟩
      refine ⟨"list", _, list_getitem_lookup, hi.typeIs, ?_⟩
      simp only [T.Holds, T.chk] at h
      split at h
      · rename_i h0
        obtain ⟨hb2, h⟩ := T.holds_chk (t := T.ofOpt l[i.toNat]?) (by simpa only [T.Holds, T.chk] using h)
        obtain ⟨d, hd, h⟩ := T.holds_opt h
        obtain ⟨v, hv, r⟩ := r1.at _ _ hd
        exact wpAny_getItem_list hi (by simpa using h0) (by simpa using hb2) (by simpa using hv) (h _ _ I.refl r)
      · rename_i h0
        obtain ⟨hb2, h⟩ := T.holds_chk (t := T.ofOpt l[(i + l.length).toNat]?) (by simpa only [T.Holds, T.chk] using h)
        obtain ⟨d, hd, h⟩ := T.holds_opt h
        have h0' : i < 0 := by simpa using h0
        have hb2' : -(l.length : Int) ≤ i := by simpa using hb2
        rw [← r1.length] at hd hb2'
        obtain ⟨v, hv, r⟩ := r1.at _ _ hd
        exact wpAny_getItem_list_neg hi h0' (by simpa using hb2') (by omega) (by simpa using hv) (h _ _ I.refl r)
    · exact h.elim
  · split at h
    · obtain ⟨t, rfl⟩ := ra; obtain ⟨u, rfl⟩ := ri
      obtain ⟨hb, h⟩ := T.holds_chk h
      simp only [Bool.and_eq_true] at hb
      exact ⟨"str", _, F.slot_str_getitem.lookup, rfl, SB.getItem hb.1 hb.2 (h _ _ (I.tok _) ⟨_, rfl⟩)⟩
    · exact h.elim
  · split at h
    · obtain ⟨a, kvs, rfl, ha, h0, hd, rfl, r1⟩ := ra; obtain ⟨u, rfl⟩ := ri
      obtain ⟨d, he, h⟩ := T.holds_opt h
      obtain ⟨v, hv, r⟩ := valueAt_rps _ _ r1 he
      exact ⟨"dict", _, F.slot_dict_getitem.lookup, hd.typeIs, wpAny_getItem_of (knd := strKind pw c.w) (strKind_is _ _ _ _) hd.mapOf hv (h _ _ (I.tok _) r)⟩
    · exact h.elim
  · exact h.elim
end
end Mine
namespace Mine
section
variable {sc : Scope} {n : Nat}
theorem sndE_BinOp {l r : Expr} {op : Operator} {pos : Pos} {tl tr : Rho → T PV} (hl : SndB sc n l tl) (hr : SndB sc n r tr) :
    SndE sc n (.BinOp l op r pos) fun ρ => (tl ρ).bind fun a => (tr ρ).bind fun b => binP op a b := fun c O X ad ρ s I Q E h => by
  refine wpAny_BinOp (hl c O X ad ρ s I _ _ (T.holds_mono (fun a ha va s₁ x₁ ra => ?_) _ (T.holds_bind _ h)))
  have I₁ := I.nxt O x₁
  refine hr c O X ad ρ s₁ I₁ _ _ (T.holds_mono (fun b hb vb s₂ x₂ rb => ?_) _ (T.holds_bind _ ha))
  exact binP_ok O (I₁.nxt O x₂) (I₁.rb O x₂ ra) rb (T.holds_mono (fun d hd v s' x r => hd v s' ((x₁.trans x₂).trans x) r) _ hb)
theorem sndE_Compare {l r : Expr} {op : CmpOp} {pos : Pos} {tl tr : Rho → T PV} (hl : SndB sc n l tl) (hr : SndB sc n r tr) (hm : behindInMarks op r = false) :
    SndE sc n (.Compare l [op] [r] pos) fun ρ => (tl ρ).bind fun a => (tr ρ).bind fun b => cmpP op a b := fun c O X ad ρ s I Q E h => by
  refine wpAny_Compare1 (hl c O X ad ρ s I _ _ (T.holds_mono (fun a ha va s₁ x₁ ra => ?_) _ (T.holds_bind _ h))) hm
  have I₁ := I.nxt O x₁
  refine hr c O X ad ρ s₁ I₁ _ _ (T.holds_mono (fun b hb vb s₂ x₂ rb => ?_) _ (T.holds_bind _ ha))
  exact cmpP_ok O (I₁.nxt O x₂) (I₁.rb O x₂ ra) rb (T.holds_mono (fun d hd v s' x r => hd v s' ((x₁.trans x₂).trans x) r) _ hb)
theorem sndT_Compare {l r : Expr} {op : CmpOp} {pos : Pos} {tl tr : Rho → T PV} (hl : SndB sc n l tl) (hr : SndB sc n r tr) (hm : behindInMarks op r = false) :
    SndT sc n (.Compare l [op] [r] pos) fun ρ => (tl ρ).bind fun a => (tr ρ).bind fun b => (cmpP op a b).bind truP := fun c O X ad ρ s I Q E h => by
  refine wpAny_isTrue_Compare1 (hl c O X ad ρ s I _ _ (T.holds_mono (fun a ha va s₁ x₁ ra => ?_) _ (T.holds_bind _ h))) hm
  have I₁ := I.nxt O x₁
  refine hr c O X ad ρ s₁ I₁ _ _ (T.holds_mono (fun b hb vb s₂ x₂ rb => ?_) _ (T.holds_bind _ ha))
  have I₂ := I₁.nxt O x₂
  refine cmpP_ok O I₂ (I₁.rb O x₂ ra) rb (T.holds_mono (fun d hd v s₃ x₃ r => ?_) _ (T.holds_bind _ hb))
  exact truP_ok O (I₂.nxt O x₃) r.rb (T.holds_mono (fun d hd s' x => hd s' (((x₁.trans x₂).trans x₃).trans x)) _ hd)
theorem sndT_value {e : Expr} {t : Rho → T PV} (he : SndB sc n e t) (hi : ∀ env whole, isTrue e env whole = (do let v ← whole; standAt e.pos; holding [v] (truthy v))) :
    SndT sc n e fun ρ => (t ρ).bind truP := fun c O X ad ρ s I Q E h => by
  refine wpAny_isTrue_value (he c O X ad ρ s I _ _ (T.holds_mono (fun a ha va s₁ x₁ ra => ?_) _ (T.holds_bind _ h))) (hi _ _)
  exact truP_ok O (I.nxt O x₁) ra (T.holds_mono (fun d hd s' x => hd s' (x₁.trans x)) _ ha)
theorem sndT_Not {e : Expr} {pos : Pos} {t : Rho → T Bool} (he : SndT sc n e t) : SndT sc n (.UnaryOp .Not e pos) fun ρ => (t ρ).bind fun b => .ret (!b) := fun c O X ad ρ s I Q E h =>
  wpAny_isTrue_Not (he c O X ad ρ s I _ _ (T.holds_bind _ h))
theorem sndT_Or2 {a b : Expr} {pos : Pos} {ta tb : Rho → T Bool} (ha : SndT sc n a ta) (hb : SndT sc n b tb) :
    SndT sc n (.BoolOp .Or [a, b] pos) fun ρ => (ta ρ).bind fun x => .ite x (.ret true) (tb ρ) := fun c O X ad ρ s I Q E h => by
  refine wpAny_isTrue_BoolOp ?_
  show wpAny _ _ (PySem.isTrue a c.env (eval a c.env) >>= fun r => _) _ _ _
  refine wpAny_bind (ha c O X ad ρ s I _ _ (T.holds_mono (fun x hx s₁ x₁ => ?_) _ (T.holds_bind _ h)))
  cases x with
  | true => exact wpAny_pure (hx _ x₁)
  | false =>
    show wpAny _ _ (PySem.isTrue b c.env (eval b c.env) >>= fun r => _) _ _ _
    refine wpAny_bind (hb c O X ad ρ s₁ (I.nxt O x₁) _ _ (T.holds_mono (fun y hy s₂ x₂ => ?_) _ hx))
    cases y <;> exact wpAny_pure (hy _ (x₁.trans x₂))
theorem sndT_And2 {a b : Expr} {pos : Pos} {ta tb : Rho → T Bool} (ha : SndT sc n a ta) (hb : SndT sc n b tb) :
    SndT sc n (.BoolOp .And [a, b] pos) fun ρ => (ta ρ).bind fun x => .ite x (tb ρ) (.ret false) := fun c O X ad ρ s I Q E h => by
  refine wpAny_isTrue_BoolOp ?_
  show wpAny _ _ (PySem.isTrue a c.env (eval a c.env) >>= fun r => _) _ _ _
  refine wpAny_bind (ha c O X ad ρ s I _ _ (T.holds_mono (fun x hx s₁ x₁ => ?_) _ (T.holds_bind _ h)))
  cases x with
  | false => exact wpAny_pure (hx _ x₁)
  | true =>
    show wpAny _ _ (PySem.isTrue b c.env (eval b c.env) >>= fun r => _) _ _ _
    refine wpAny_bind (hb c O X ad ρ s₁ (I.nxt O x₁) _ _ (T.holds_mono (fun y hy s₂ x₂ => ?_) _ hx))
    cases y <;> exact wpAny_pure (hy _ (x₁.trans x₂))
theorem sndE_IfExp {a b e : Expr} {pos : Pos} {te : Rho → T Bool} {ta tb : Rho → T PV} (he : SndT sc n e te) (ha : SndE sc n a ta) (hb : SndE sc n b tb) :
    SndE sc n (.IfExp e a b pos) fun ρ => (te ρ).bind fun x => .ite x (ta ρ) (tb ρ) := fun c O X ad ρ s I Q E h => by
  refine wpAny_IfExp (he c O X ad ρ s I _ _ (T.holds_mono (fun x hx s₁ x₁ => ?_) _ (T.holds_bind _ h)))
  cases x with
  | true => exact ha c O X ad ρ s₁ (I.nxt O x₁) _ _ (T.holds_mono (fun d hd v s' x r => hd v s' (x₁.trans x) r) _ hx)
  | false => exact hb c O X ad ρ s₁ (I.nxt O x₁) _ _ (T.holds_mono (fun d hd v s' x r => hd v s' (x₁.trans x) r) _ hx)
theorem sndE_Not {e : Expr} {pos : Pos} {t : Rho → T PV} (he : SndB sc n e t) : SndE sc n (.UnaryOp .Not e pos) fun ρ => (t ρ).bind fun d => (truP d).bind fun b => .ret (.bool (!b)) := fun c O X ad ρ s I Q E h => by
  refine wpAny_UnaryOp (he c O X ad ρ s I _ _ (T.holds_mono (fun a ha va s₁ x₁ ra => ?_) _ (T.holds_bind _ h)))
  exact not_value (truP_ok O (I.nxt O x₁) ra (T.holds_mono (fun d hd s' x => hd _ s' (x₁.trans x) rfl) _ (T.holds_bind _ ha)))
theorem sndE_USub {e : Expr} {pos : Pos} {t : Rho → T PV} (he : SndE sc n e t) : SndE sc n (.UnaryOp .USub e pos) fun ρ => (t ρ).bind fun d => match d with | .int i => .ret (.int (-i)) | _ => .fail := fun c O X ad ρ s I Q E h => by
  refine wpAny_UnaryOp (he c O X ad ρ s I _ _ (T.holds_mono (fun a ha va s₁ x₁ ra => ?_) _ (T.holds_bind _ h)))
  split at ha
  · obtain ⟨u, rfl⟩ := ra
    exact P.neg_int (ha _ _ (x₁.trans ((I.nxt O x₁).tok _)) ⟨_, rfl⟩)
  · exact ha.elim
theorem sndE_List {es : List Expr} {pos : Pos} {t : Rho → T (List PV)} (he : SndL sc n es t) : SndE sc n (.List es pos) fun ρ => (t ρ).bind fun ds => .chk (decide (ds.length ≤ sizeLine)) (.ret (.list ds)) := fun c O X ad ρ s I Q E h => by
  refine wpAny_List (he c O X ad ρ s I pos _ _ (T.holds_mono (fun ds hd vs s₁ x₁ rs => ?_) _ (T.holds_bind _ h)))
  obtain ⟨hb, hd⟩ := T.holds_chk hd
  have I₁ := I.nxt O x₁
  refine ⟨by rw [rs.length]; simpa using hb, hd _ _ (x₁.trans (I₁.push _ _)) ⟨_, vs, rfl, I₁.fresh (Nat.le_refl _), ⟨0, ?_⟩, ?_⟩⟩
  · rw [Heap.get?_push_size _ (by rfl)]
  · exact I₁.rps O (I₁.push _ s₁.toks) rs
end
end Mine
namespace Mine
section
variable {sc : Scope} {n : Nat}
theorem wpAny_Subscript_gen {w : World} {A : Around} {E : Value → Shared → Prop} {s : Shared} {env : Env} {value slice : Expr} {pos : Pos} {Q : Value → Shared → Prop}
    (h : wpAny (model pw w) A (eval value env) (fun o s₁ => wpAny (model pw w) A (eval slice env) (fun i s₂ => SubscriptOn (model pw w) A o i Q E s₂) E s₁) E s)
    (hs : ∀ o i, ∃ vs, subscripted slice false o i = operate vs (getItem o i)) :
    wpAny (model pw w) A (eval (.Subscript value slice pos) env) Q E s := by
  rw [eval_Subscript]
  refine wpAny_bind (wpAny_mono h (fun o s₁ h₁ => wpAny_bind (wpAny_holding (wpAny_mono h₁ (fun i s₂ h₂ => wpAny_bind (wpAny_standAt ?_)) fun _ _ x => x)))
    fun _ _ x => x)
  obtain ⟨T, id, hl, hT, hg⟩ := h₂
  refine wpAny_bind ?_
  rw [getitemInPython_of_ne hT.not_modules]
  refine wpAny_bind (wpAny_specialOf hT hl ?_)
  obtain ⟨vs, hvs⟩ := hs o i
  have fin : wpAny (model pw w) A (subscripted slice false o i) (fun r s₃ => wpAny (model pw w) A (letTemporaryGo value o r >>= fun _ => pure r) Q E s₃) E s₂ := by
    rw [hvs]
    exact wpAny_operating (wpAny_mono hg (fun r s₃ h₃ => wpAny_bind (wpAny_letTemporaryGo (wpAny_pure h₃))) fun _ _ x => x)
  first
    | exact wpAny_pure (wpAny_bind fin)
    | exact wpAny_bind (wpAny_pure (wpAny_bind fin))
    | exact wpAny_bind fin
noncomputable def noSlice : Expr → Bool
  | .Slice .. => false
  | _ => true
theorem sndE_Subscript {b i : Expr} {pos : Pos} {tb ti : Rho → T PV} (hb : SndB sc n b tb) (hi : SndB sc n i ti) (hn : noSlice i = true) :
    SndE sc n (.Subscript b i pos) fun ρ => (tb ρ).bind fun d => (ti ρ).bind fun k => itmP d k := fun c O X ad ρ s I Q E h => by
  refine wpAny_Subscript_gen (hb c O X ad ρ s I _ _ (T.holds_mono (fun a ha va s₁ x₁ ra => ?_) _ (T.holds_bind _ h))) fun o i' => ⟨[o, i'], by cases i <;> first | rfl | cases hn⟩
  have I₁ := I.nxt O x₁
  refine hi c O X ad ρ s₁ I₁ _ _ (T.holds_mono (fun b hb vb s₂ x₂ rb => ?_) _ (T.holds_bind _ ha))
  exact itmP_ok O (I₁.nxt O x₂) (I₁.rb O x₂ ra) rb (T.holds_mono (fun d hd v s' x r => hd v s' ((x₁.trans x₂).trans x) r) _ hb)
noncomputable def SndP (sc : Scope) (n : Nat) (e : Option Expr) (t : Rho → T (Option Int)) : Prop :=
  ∀ c : Cx, Ok sc n c → ∀ X ad ρ s, Inv c X ad ρ s → ∀ (Q E : Value → Shared → Prop),
    (t ρ).Holds (fun d => ∀ l s', Nxt c.H c.F s s' → l.map (·.1) = d → Q (partValue l) s') → wpAny (model pw c.w) c.A (evalPart e c.env) Q E s
theorem sndP_none : SndP sc n none fun _ => .ret none := fun c O X ad ρ s I Q E h => by
  rw [evalPart_none]; exact wpAny_pure (h none _ I.refl rfl)
theorem sndP_some {e : Expr} {t : Rho → T PV} (he : SndE sc n e t) : SndP sc n (some e) fun ρ => (t ρ).bind fun d => match d with | .int i => .ret (some i) | _ => .fail := fun c O X ad ρ s I Q E h => by
  rw [evalPart_some]
  refine he c O X ad ρ s I _ _ (T.holds_mono (fun a ha va s₁ x₁ ra => ?_) _ (T.holds_bind _ h))
  split at ha
  · obtain ⟨t, rfl⟩ := ra; exact ha (some (_, t)) s₁ x₁ rfl
  · exact ha.elim
theorem isPart_of {l : Option (Int × Tok)} : IsPart (partValue l) (l.map (·.1)) := by
  cases l with
  | none => exact .none
  | some p => exact .int _ _
noncomputable def slcL (l : List PV) (lo hi : Option Int) : T PV := match lo with
  | none => (match hi with
    | some k => .chk (decide (0 ≤ k) && decide (l.length ≤ sizeLine)) (.ret (.list (l.take k.toNat)))
    | none => .fail)
  | some k => (match hi with
    | none => .chk (decide (0 ≤ k) && decide (l.length ≤ sizeLine)) (.ret (.list (l.drop k.toNat)))
    | some _ => .fail)
noncomputable def slcA (l : List PV) (lo hi : Option Int) : T PV := match lo with
  | none => (match hi with
    | some k => .chk (decide (0 ≤ k) && decide (l.length ≤ sizeLine)) (.ret (.list (l.take k.toNat)))
    | none => .fail)
  | some _ => .fail
noncomputable def slcP (a : PV) (lo hi : Option Int) : T PV := match a with
  | .str x => .chk (decide (x.length ≤ sizeLine)) (.ret (.str (Txt.slice x lo hi)))
  | .list l => slcL l lo hi
  | .arg l => slcA l lo hi
  | _ => .fail
theorem sndE_Slice {b : Expr} {lo hi : Option Expr} {p pos : Pos} {tb : Rho → T PV} {tl th : Rho → T (Option Int)} (hb : SndB sc n b tb) (hl : SndP sc n lo tl) (hh : SndP sc n hi th) :
    SndE sc n (.Subscript b (.Slice lo hi none p) pos) fun ρ => (tb ρ).bind fun d => (tl ρ).bind fun x => (th ρ).bind fun y => slcP d x y := fun c O X ad ρ s I Q E h => by
  refine wpAny_Subscript_gen (hb c O X ad ρ s I _ _ (T.holds_mono (fun a ha va s₁ x₁ ra => ?_) _ (T.holds_bind _ h))) fun o i' => ⟨[i', o], rfl⟩
  have I₁ := I.nxt O x₁
  refine wpAny_Slice (hl c O X ad ρ s₁ I₁ _ _ (T.holds_mono (fun xl hxl pl s₂ x₂ el => ?_) _ (T.holds_bind _ ha)))
  have I₂ := I₁.nxt O x₂
  refine hh c O X ad ρ s₂ I₂ _ _ (T.holds_mono (fun xh hxh ph s₃ x₃ eh => ?_) _ (T.holds_bind _ hxl))
  have I₃ := I₂.nxt O x₃
  have r₃ := I₂.rb O x₃ (I₁.rb O x₂ ra)
  rw [evalPart_none]
  refine wpAny_pure ?_
  have x₄ := I₃.push { cls := .type "slice", dict := none, data := .fields #[partValue pl, partValue ph, .none], slots := #[] } s₃.toks
  have I₄ := I₃.nxt O x₄
  have r₄ := I₃.rb O x₄ r₃
  have x := ((x₁.trans x₂).trans x₃).trans x₄
  unfold slcP at hxh
  split at hxh
  · rename_i y
    obtain ⟨t, rfl⟩ := r₄
    obtain ⟨hz, hxh⟩ := T.holds_chk hxh
    have hz' : y.length ≤ sizeLine := by simpa using hz
    refine ⟨"str", _, F.slot_str_getitem.lookup, rfl, wpAny_getItem_str_slice (l := pl) (u := ph) (st := none) ⟨_, Heap.get?_push_size _ rfl, rfl, rfl⟩ rfl ?_⟩
    have e2 : (sliceMade y t pl ph none).post Q = (if ((1 : Int) == 1 && (Builtin.Str.strSliceIndices xl xh 1 y.length).length == y.length) = true then Made.val (.str y t) else Made.str ⟨((Builtin.Str.strSliceIndices xl xh 1 y.length).filterMap (y.cps[·]?)).toArray⟩).post Q := by
      rw [← el, ← eh]; rfl
    rw [e2]
    refine post_val_or_str ⟨?_, fun t' k => ?_⟩
    · show (Txt.slice y xl xh).length ≤ sizeLine
      unfold Txt.slice
      split
      · exact hz'
      · refine Nat.le_trans ?_ hz'
        show (List.filterMap _ _).toArray.size ≤ _
        rw [List.size_toArray]
        exact Nat.le_trans (List.length_filterMap_le _ _) (sliceIndices_le _ _ _)
    · exact hxh _ _ (x.trans (I₄.tok _)) ⟨_, rfl⟩
  · rename_i l
    unfold slcL at hxh
    split at hxh
    · split at hxh
      · rename_i k
        obtain ⟨a, vs, rfl, ⟨n1, hl⟩, r1⟩ := r₄
        obtain ⟨hz, hxh⟩ := T.holds_chk hxh
        simp only [Bool.and_eq_true, decide_eq_true_eq] at hz
        have hi : Heap.IsList _ a vs.toArray := ⟨_, hl, rfl, _, rfl⟩
        refine ⟨"list", _, list_getitem_lookup, Heap.IsList.typeIs hi, wpAny_getItem_list_slice hi (Heap.IsSliceOf.new ..) (el ▸ isPart_of) (eh ▸ isPart_of) .none (by simp) ?_ (by simpa [r1.length] using hz.2)⟩
        obtain ⟨k', rfl⟩ := Int.eq_ofNat_of_zero_le hz.1
        have e : slicePick vs.toArray none (some (k' : Int)) none = (vs.take k').toArray := by rw [slicePick_upto']
        rw [e]
        refine hxh _ _ (x.trans (I₄.push _ _)) ⟨_, vs.take k', rfl, I₄.fresh (Nat.le_refl _), ⟨0, ?_⟩, ?_⟩
        · rw [Heap.get?_push_size _ (by rfl)]
        · simpa using I₄.rps O (I₄.push _ s₃.toks) (r1.take k')
      · exact hxh.elim
    · rename_i k
      split at hxh
      · skip
        obtain ⟨a, vs, rfl, ⟨n1, hl⟩, r1⟩ := r₄
        obtain ⟨hz, hxh⟩ := T.holds_chk hxh
        simp only [Bool.and_eq_true, decide_eq_true_eq] at hz
        have hi : Heap.IsList _ a vs.toArray := ⟨_, hl, rfl, _, rfl⟩
        refine ⟨"list", _, list_getitem_lookup, Heap.IsList.typeIs hi, wpAny_getItem_list_slice hi (Heap.IsSliceOf.new ..) (el ▸ isPart_of) (eh ▸ isPart_of) .none (by simp) ?_ (by simpa [r1.length] using hz.2)⟩
        obtain ⟨k', rfl⟩ := Int.eq_ofNat_of_zero_le hz.1
        have e : slicePick vs.toArray (some (k' : Int)) none none = (vs.drop k').toArray := by rw [slicePick_from']
        rw [e]
        refine hxh _ _ (x.trans (I₄.push _ _)) ⟨_, vs.drop k', rfl, I₄.fresh (Nat.le_refl _), ⟨0, ?_⟩, ?_⟩
        · rw [Heap.get?_push_size _ (by rfl)]
        · simpa using I₄.rps O (I₄.push _ s₃.toks) (r1.drop k')
      · exact hxh.elim
  · rename_i l
    unfold slcA at hxh
    split at hxh
    · split at hxh
      · rename_i k
        obtain ⟨a, vs, rfl, ha, hi, r1⟩ := r₄
        obtain ⟨hz, hxh⟩ := T.holds_chk hxh
        simp only [Bool.and_eq_true, decide_eq_true_eq] at hz
        refine ⟨"list", _, list_getitem_lookup, hi.typeIs, wpAny_getItem_list_slice hi (Heap.IsSliceOf.new ..) (el ▸ isPart_of) (eh ▸ isPart_of) .none (by simp) ?_ (by simpa [r1.length] using hz.2)⟩
        obtain ⟨k', rfl⟩ := Int.eq_ofNat_of_zero_le hz.1
        have e : slicePick vs.toArray none (some (k' : Int)) none = (vs.take k').toArray := by rw [slicePick_upto']
        rw [e]
        refine hxh _ _ (x.trans (I₄.push _ _)) ⟨_, vs.take k', rfl, I₄.fresh (Nat.le_refl _), ⟨0, ?_⟩, ?_⟩
        · rw [Heap.get?_push_size _ (by rfl)]
        · simpa using I₄.rps O (I₄.push _ s₃.toks) (r1.take k')
      · exact hxh.elim
    · exact hxh.elim
  · exact hxh.elim
noncomputable def SndJ (sc : Scope) (n : Nat) (es : List Expr) (t : Rho → Str → T Str) : Prop :=
  ∀ c : Cx, Ok sc n c → ∀ X ad ρ s, Inv c X ad ρ s → ∀ (acc : Str) (Q : Str → Shared → Prop) (E : Value → Shared → Prop),
    (t ρ acc).Holds (fun d => ∀ s', Nxt c.H c.F s s' → Q d s') → Joins (model pw c.w) c.A E (evalEach es c.env) acc Q s
theorem sndJ_nil : SndJ sc n [] fun _ acc => .ret acc := fun c O X ad ρ s I acc Q E h => h s I.refl
theorem sndJ_str {x : Str} {k : Nat} {pos : Pos} {es : List Expr} {t : Rho → Str → T Str} (he : SndJ sc n es t) : SndJ sc n (.Constant (.str x) k pos :: es) fun ρ acc => .chk (decide ((acc ++ x).length ≤ sizeLine)) (t ρ (acc ++ x)) := fun c O X ad ρ s I acc Q E h => by
  obtain ⟨hb, h⟩ := T.holds_chk h
  exact wpAny_Constant_str ⟨x, _, rfl, by simpa using hb, he c O X ad ρ _ (I.nxt O (I.tok _)) _ _ _ (T.holds_mono (fun d hd s' x => hd s' ((I.tok _).trans x)) _ h)⟩
theorem sndJ_val {e : Expr} {pos : Pos} {es : List Expr} {te : Rho → T PV} {t : Rho → Str → T Str} (h1 : SndE sc n e te) (he : SndJ sc n es t) : SndJ sc n (.FormattedValue e (-1) none pos :: es) fun ρ acc => (te ρ).bind fun d => match d with
    | .str x => .chk (decide (x.length ≤ sizeLine) && decide ((acc ++ x).length ≤ sizeLine)) (t ρ (acc ++ x)) | _ => .fail := fun c O X ad ρ s I acc Q E h => by
  refine wpAny_FormattedValue_plain (h1 c O X ad ρ s I _ _ (T.holds_mono (fun a ha va s₁ x₁ ra => ?_) _ (T.holds_bind _ h)))
  split at ha
  · rename_i x
    obtain ⟨u, rfl⟩ := ra
    obtain ⟨hb, ha⟩ := T.holds_chk ha
    simp only [Bool.and_eq_true, decide_eq_true_eq] at hb
    have I₁ := I.nxt O x₁
    refine SB.field_str (fun t' k => ⟨x, _, rfl, hb.2, he c O X ad ρ _ (I₁.nxt O (I₁.tok _)) _ _ _ (T.holds_mono (fun d hd s' y => hd s' ((x₁.trans (I₁.tok _)).trans y)) _ ha)⟩) hb.1
  · exact ha.elim
theorem sndE_Joined {e1 e2 : Expr} {es : List Expr} {pos : Pos} {t : Rho → Str → T Str} (he : SndJ sc n (e1 :: e2 :: es) t) : SndE sc n (.JoinedStr (e1 :: e2 :: es) pos) fun ρ => (t ρ Str.empty).bind fun x => .chk (decide (x.length ≤ sizeLine)) (.ret (.str x)) := fun c O X ad ρ s I Q E h => by
  refine wpAny_JoinedStr (he c O X ad ρ s I _ _ _ (T.holds_mono (fun a ha s₁ x₁ => ?_) _ (T.holds_bind _ h)))
  obtain ⟨hb, ha⟩ := T.holds_chk ha
  exact ⟨by simpa using hb, ha _ _ (x₁.trans ((I.nxt O x₁).tok _)) ⟨_, rfl⟩⟩
end
end Mine
namespace Mine
noncomputable def Con (name : String) (n : Nat) (spec : List PV → T PV) : Prop :=
  ∀ (w : World) (H : Heap) (mg mb : Str → Option Value), TH H mg mb → ∀ x ∈ fnTab, x.2.2.2.2 = name → ∀ (A : Around) (frs : List Env) (s : Shared) (X : List Addr) (vs : List Value) (ds : List PV) (Q E : Value → Shared → Prop),
    Wf H A frs s.heap → Room n A → (∀ a ∈ frs.filterMap (·.frame), a ∈ X) → (∀ a ∈ X, ∃ o, s.heap.get? a = some o) → Rps w X s.heap ds vs →
    (spec ds).Holds (fun d => ∀ v s', Nxt H (frs.filterMap (·.frame)) s s' → Rp w X s'.heap d v → Q v s') → wpAny (model pw w) A (call (.ref x.1) vs) Q E s
theorem Con.mono {name : String} {n m : Nat} {spec : List PV → T PV} (c : Con name n spec) (h : n ≤ m) : Con name m spec :=
  fun w H mg mb th x hx hn A frs s X vs ds Q E W R => c w H mg mb th x hx hn A frs s X vs ds Q E W (R.mono h)
noncomputable def noStar : Expr → Bool
  | .Starred .. => false
  | _ => true
section
variable {sc : Scope} {n : Nat}
theorem starEach_cons {e : Expr} {es : List Expr} {env : Env} {pos : Pos} (hn : noStar e = true) : backTo pos (starEach (e :: es) env) = (false, eval e env) :: backTo pos (starEach es env) := by
  cases e <;> first | rfl | cases hn
theorem sndL_cons' {e : Expr} {es : List Expr} {t : Rho → T PV} {ts : Rho → T (List PV)} (he : SndE sc n e t) (hes : SndL sc n es ts) (hn : noStar e = true) :
    SndL sc n (e :: es) fun ρ => (t ρ).bind fun d => (ts ρ).bind fun ds => .ret (d :: ds) := sndL_cons he hes fun x p q => by rw [q] at hn; cases hn
noncomputable def plainArgs (es : List Expr) : Bool := es.all noStar
theorem plain_any {env : Env} {pos : Pos} : ∀ {es : List Expr}, plainArgs es = true → (backTo pos (starEach es env)).any (·.1) = false
  | [], _ => rfl
  | e :: es, h => by
    simp only [plainArgs, List.all_cons, Bool.and_eq_true] at h
    rw [starEach_cons h.1, List.any_cons, plain_any h.2]; rfl
theorem plain_all {env : Env} {pos : Pos} : ∀ {es : List Expr}, plainArgs es = true → (backTo pos (starEach es env)).all (fun x => !x.1) = true
  | [], _ => rfl
  | e :: es, h => by
    simp only [plainArgs, List.all_cons, Bool.and_eq_true] at h
    rw [starEach_cons h.1, List.all_cons, plain_all h.2]; rfl
theorem argsOf {e : Expr} {es : List Expr} {t : Rho → T (List PV)} (he : SndL sc n (e :: es) t) (hn : noStar e = true) {c : Cx} (O : Ok sc n c) {X : List Addr} {ad : Str → Addr} {ρ : Rho} {s : Shared} (I : Inv c X ad ρ s) {pos : Pos} {f : Value}
    {Q : Args → Shared → Prop} {E : Value → Shared → Prop} (h : (t ρ).Holds (fun ds => ∀ vs s', Nxt c.H c.F s s' → Rps c.w X s'.heap ds vs → Q ⟨vs, []⟩ s')) :
    wpAny (model pw c.w) c.A (evalArgs f true (backTo pos (starEach (e :: es) c.env)) []) Q E s := by
  have := he c O X ad ρ s I pos (fun vs s' => Q ⟨vs, []⟩ s') E h
  rw [starEach_cons hn] at this ⊢
  exact evalArgs_plain this
theorem Inv.mgNs {c : Cx} (O : Ok sc n c) {X : List Addr} {ad : Str → Addr} {ρ : Rho} {s : Shared} (I : Inv c X ad ρ s) : s.heap.Ns c.env.globals c.mg := by
  rw [O.glob]; exact Heap.Ns.at' O.th.g fun o e => I.wf.stays _ o e
theorem Inv.mbNs {c : Cx} (O : Ok sc n c) {X : List Addr} {ad : Str → Addr} {ρ : Rho} {s : Shared} (I : Inv c X ad ρ s) : s.heap.Ns c.env.builtins c.mb := by
  rw [O.blt]; exact Heap.Ns.at' O.th.b fun o e => I.wf.stays _ o e
theorem sndE_CallF {name : String} {f : Str} {p pos : Pos} {e : Expr} {es : List Expr} {t : Rho → T (List PV)} {spec : List PV → T PV} (hc : Con name (n + 1) spec) (hf : f = Str.ofString name)
    (hx : (fnTab.any fun x => x.2.2.2.2 == name) = true) (hk : sc.names.lookup f = some .globalImplicit) (hd : (f == ("__debug__" : Str)) = false) (he : SndL sc n (e :: es) t) (hn : noStar e = true) :
    SndE sc n (.Call (.Name f p) (e :: es) [] pos) fun ρ => (t ρ).bind spec := fun c O X ad ρ s I Q E h => by
  obtain ⟨x, hx, hxn⟩ := List.any_eq_true.mp hx
  have hxn : x.2.2.2.2 = name := by simpa using hxn
  obtain ⟨h1, ⟨pm, h2⟩, h3⟩ := O.th.fn x hx
  refine wpAny_Call_NameR (Name_function_global O.kind ((O.names f).trans hk) (loadGlobal_global (I.mgNs O) (by rw [hf, ← hxn]; exact h1) ?_) hd)
  refine callWith_function (o := fnObj x pm) (fd := { fdAt x.2.1 x.2.2.1 x.2.2.2.1 with pyModule := pm }) (argsOf he hn O I (T.holds_mono (fun ds hd vs s₁ x₁ rs => ?_) _ (T.holds_bind _ h)))
  have I₁ := I.nxt O x₁
  refine ⟨⟨I₁.wf.stays _ _ h2, rfl⟩, ?_⟩
  exact hc c.w c.H c.mg c.mb O.th x hx hxn c.A c.frs s₁ X vs ds Q E I₁.wf O.room (fun a ha => I.sub a (O.hF a ha)) I₁.ex rs (T.holds_mono (fun d hd v s' y r => hd v s' (x₁.trans y) r) _ hd)
theorem ldBuiltin {c : Cx} (O : Ok sc n c) {X : List Addr} {ad : Str → Addr} {ρ : Rho} {s : Shared} (I : Inv c X ad ρ s) {f : Str} {p : Pos} {v : Value} {Q E : Value → Shared → Prop}
    (hk : sc.names.lookup f = some .globalImplicit) (hb : bltNames.contains f = true) (hv : bootBuiltins f = some v) (h : Q v s) (hd : (f == ("__debug__" : Str)) = false) (hm : (f == ("__name__" : Str)) = false) : wpAny (model pw c.w) c.A (eval (.Name f p) c.env) Q E s := by
  refine Name_function_global O.kind ((O.names f).trans hk) (loadGlobal_builtin (I.mgNs O) (O.th.free f (by simpa using hb)) (I.mbNs O) ((O.th.blt f (by simpa using hm)).trans hv) h) hd
noncomputable def Blt (n : Nat) (fv : Value) (spec : List PV → T PV) : Prop :=
  ∀ (sc : Scope) (c : Cx), Ok sc n c → ∀ X ad ρ s, Inv c X ad ρ s → ∀ (vs : List Value) (ds : List PV) (Q E : Value → Shared → Prop), Rps c.w X s.heap ds vs →
    (spec ds).Holds (fun d => ∀ v s', Nxt c.H c.F s s' → Rp c.w X s'.heap d v → Q v s') → wpAny (model pw c.w) c.A (call fv vs) Q E s
theorem sndE_CallB {id : String} {f : Str} {p pos : Pos} {e : Expr} {es : List Expr} {t : Rho → T (List PV)} {spec : List PV → T PV} (hc : Blt n (.builtin id) spec)
    (hk : sc.names.lookup f = some .globalImplicit) (hb : bltNames.contains f = true) (hv : bootBuiltins f = some (.builtin id)) (hd : (f == ("__debug__" : Str)) = false) (hm : (f == ("__name__" : Str)) = false)
    (he : SndL sc n (e :: es) t) (hn : plainArgs (e :: es) = true) :
    SndE sc n (.Call (.Name f p) (e :: es) [] pos) fun ρ => (t ρ).bind spec := fun c O X ad ρ s I Q E h => by
  have h1 : noStar e = true := by simp only [plainArgs, List.all_cons, Bool.and_eq_true] at hn; exact hn.1
  refine wpAny_Call_NameR (ldBuiltin O I hk hb hv ?_ hd hm)
  refine callWith_builtin (plain_any hn) (argsOf he h1 O I (T.holds_mono (fun ds hd vs s₁ x₁ rs => ?_) _ (T.holds_bind _ h)))
  exact hc sc c O X ad ρ s₁ (I.nxt O x₁) vs ds Q E rs (T.holds_mono (fun d hd v s' y r => hd v s' (x₁.trans y) r) _ hd)
theorem sndE_CallT {id : String} {f : Str} {p pos : Pos} {e : Expr} {es : List Expr} {t : Rho → T (List PV)} {spec : List PV → T PV} (hc : Blt n (.type id) spec)
    (hk : sc.names.lookup f = some .globalImplicit) (hb : bltNames.contains f = true) (hv : bootBuiltins f = some (.type id)) (hd : (f == ("__debug__" : Str)) = false) (hm : (f == ("__name__" : Str)) = false)
    (he : SndL sc n (e :: es) t) (hn : plainArgs (e :: es) = true) :
    SndE sc n (.Call (.Name f p) (e :: es) [] pos) fun ρ => (t ρ).bind spec := fun c O X ad ρ s I Q E h => by
  have h1 : noStar e = true := by simp only [plainArgs, List.all_cons, Bool.and_eq_true] at hn; exact hn.1
  refine wpAny_Call_NameR (ldBuiltin O I hk hb hv ?_ hd hm)
  refine PySem.callWith_type (plain_any hn) (argsOf he h1 O I (T.holds_mono (fun ds hd vs s₁ x₁ rs => ?_) _ (T.holds_bind _ h)))
  exact hc sc c O X ad ρ s₁ (I.nxt O x₁) vs ds Q E rs (T.holds_mono (fun d hd v s' y r => hd v s' (x₁.trans y) r) _ hd)
noncomputable def lenP : PV → T PV
  | .str x => .chk (decide (x.length ≤ sizeLine)) (.ret (.int x.length))
  | .list l => .chk (decide (l.length ≤ sizeLine)) (.ret (.int l.length))
  | .dict ks _ => .chk (decide (ks.length ≤ sizeLine)) (.ret (.int ks.length))
  | _ => .fail
theorem sndE_Len {f : Str} {p pos : Pos} {e : Expr} {t : Rho → T PV} (hf : f = ("len" : Str)) (hk : sc.names.lookup f = some .globalImplicit) (he : SndB sc n e t) (hn : noStar e = true) :
    SndE sc n (.Call (.Name f p) [e] [] pos) fun ρ => (t ρ).bind lenP := fun c O X ad ρ s I Q E h => by
  subst hf
  refine wpAny_Call_NameR (ldBuiltin O I hk (by decide +kernel) (v := .builtin "len") (by decide +kernel) ?_ (by decide +kernel) (by decide +kernel))
  rw [show backTo pos (starEach [e] c.env) = [(false, eval e c.env)] from by rw [starEach_cons hn]; rfl]
  refine callWith_builtin rfl (evalArgs_plain (Calls.spliced_cons (he c O X ad ρ s I _ _ (T.holds_mono (fun a ha va s₁ x₁ ra => ?_) _ (T.holds_bind _ h)))))
  refine Calls.spliced_nil ?_
  have I₁ := I.nxt O x₁
  unfold lenP at ha
  split at ha
  · obtain ⟨u, rfl⟩ := ra
    obtain ⟨hb, ha⟩ := T.holds_chk ha
    have := size_small (by simpa using hb)
    exact PyProof.Rows.len_str (by omega) (ha _ _ (x₁.trans (I₁.tok _)) ⟨_, rfl⟩)
  · obtain ⟨a, vs, rfl, ⟨n1, hl⟩, r1⟩ := ra
    obtain ⟨hb, ha⟩ := T.holds_chk ha
    have := size_small (k := vs.length) (by rw [r1.length]; simpa using hb)
    exact call_len_list ⟨_, hl, rfl, _, rfl⟩ (by simpa using this) (by rw [List.size_toArray, r1.length]; exact ha _ _ (x₁.trans (I₁.tok _)) ⟨_, rfl⟩)
  · obtain ⟨a, kvs, rfl, _, h0, hd, rfl, r1⟩ := ra
    obtain ⟨hb, ha⟩ := T.holds_chk ha
    have := size_small (k := kvs.length) (by simpa [List.length_map] using hb)
    exact call_len_dict h0 hd this (by rw [← List.length_map (f := (·.1))]; exact ha _ _ (x₁.trans (I₁.tok _)) ⟨_, rfl⟩)
  · exact ha.elim
end
end Mine
namespace Mine
noncomputable def Sim : PV → Value → Prop
  | .bool b, v => v = .bool b
  | .int i, v => ∃ t, v = .int i t
  | .str x, v => ∃ t, v = .str x t
  | .none, v => v = .none
  | _, _ => False
theorem Sim.rp {w : World} {X : List Addr} {h : Heap} : ∀ {d : PV} {v : Value}, Sim d v → Rp w X h d v
  | .bool _, _, r => r
  | .int _, _, r => r
  | .str _, _, r => r
  | .none, _, r => r
  | .list _, _, r => r.elim
  | .arg _, _, r => r.elim
  | .dict _ _, _, r => r.elim
  | .raw _, _, r => r.elim
structure Same (s s' : Shared) : Prop where
  heap : s'.heap = s.heap
  gens : s'.gens = s.gens
  os : s'.os = s.os
theorem Same.nxt {c : Cx} {X : List Addr} {ad : Str → Addr} {ρ : Rho} {s s' : Shared} (I : Inv c X ad ρ s) (x : Same s s') : Nxt c.H c.F s s' := by
  obtain ⟨h, g, d, t, o⟩ := s'
  obtain ⟨rfl, rfl, rfl⟩ := x
  exact ⟨I.wf.refl, rfl, rfl⟩
noncomputable def noCall : Expr → Bool
  | .Call .. => false
  | _ => true
theorem base_noCall {o : Expr} {nm : Str} {env : Env} (h : noCall o = true) : attributeBase o nm env (eval o env) = eval o env := by
  cases o <;> first | rfl | cases h
noncomputable def fewArgs (es : List Expr) : Bool := decide (es.length < 20)
theorem few_ok {es : List Expr} {env : Env} {pos : Pos} (hp : plainArgs es = true) (hf : fewArgs es = true) :
    ((backTo pos (starEach es env)).all (fun x => !x.1) && (backToKw pos (keywordEach [] env)).all (fun x => x.1.isSome) && decide (es.length + ([] : List Keyword).length + (if ([] : List Keyword).isEmpty then 0 else 1) < 30)) = true := by
  rw [plain_all hp]
  have : es.length < 20 := by simpa [fewArgs] using hf
  rw [show keywordEach [] env = [] from rfl, show backToKw pos [] = [] from rfl]
  refine Bool.and_eq_true_iff.mpr ⟨rfl, decide_eq_true ?_⟩
  show es.length + 0 + 0 < 30
  omega
section
variable {sc : Scope} {n : Nat}
theorem sndE_SM1 {nm : Str} {r : Str → PV → T PV} {o a : Expr} {apos pos : Pos} {to ta : Rho → T PV}
    (hm : ∀ {w : World} {A : Around} {E : Value → Shared → Prop} {s : Shared} {x : Str} {t : Tok} {pos : Pos} {Q : Value → Shared → Prop} {a : Sem Value} {X : List Addr}, x.length ≤ sizeLine →
      wpAny (model pw w) A a (fun v s₁ => ∃ y, Rb w X s₁.heap y v ∧ (r x y).Holds fun d => ∀ v' s', Same s₁ s' → Sim d v' → Q v' s') E s → MethodOnS pw w A E nm (.str x t) pos [(false, a)] Q s)
    (hb : noCall o = true) (hl : (apos.endLine == pos.line) = true) (hn : noStar a = true) (ho : SndB sc n o to) (ha : SndB sc n a ta) :
    SndE sc n (.Call (.Attribute o nm apos) [a] [] pos) fun ρ => (to ρ).bind fun d => match d with
      | .str x => .chk (decide (x.length ≤ sizeLine)) ((ta ρ).bind fun y => r x y)
      | _ => .fail := fun c O X ad ρ s I Q E h => by
  refine Call_method1 (base_noCall hb) (by cases a <;> first | rfl | cases hn) hl (ho c O X ad ρ s I _ _ (T.holds_mono (fun d hd vo s₁ x₁ ro => ?_) _ (T.holds_bind _ h)))
  split at hd
  · rename_i x
    obtain ⟨t, rfl⟩ := ro
    obtain ⟨hz, hd⟩ := T.holds_chk hd
    refine hm (X := X) (by simpa using hz) (ha c O X ad ρ s₁ (I.nxt O x₁) _ _ (T.holds_mono (fun y hy va s₂ x₂ ra => ⟨y, ra, ?_⟩) _ (T.holds_bind _ hd)))
    have I₂ := (I.nxt O x₁).nxt O x₂
    exact T.holds_mono (fun d' hd' v' s' e r => hd' v' s' ((x₁.trans x₂).trans (e.nxt I₂)) r.rp) _ hy
  · exact hd.elim
noncomputable def strArg (k : Str → T PV) : PV → T PV
  | .str y => k y
  | _ => .fail
theorem wp_str {w : World} {X : List Addr} {A : Around} {E : Value → Shared → Prop} {s : Shared} {a : Sem Value} {k : Str → T PV} {Q : Value → Shared → Prop} {P : Value → Shared → Prop}
    (h : wpAny (model pw w) A a (fun v s₁ => ∃ y, Rb w X s₁.heap y v ∧ (strArg k y).Holds fun d => ∀ v' s', Same s₁ s' → Sim d v' → Q v' s') E s)
    (hP : ∀ y u s₁, ((k y).Holds fun d => ∀ v' s', Same s₁ s' → Sim d v' → Q v' s') → P (.str y u) s₁) : wpAny (model pw w) A a P E s := by
  refine wpAny_mono h (fun v s₁ h₁ => ?_) fun _ _ e => e
  obtain ⟨y, r, h₁⟩ := h₁
  unfold strArg at h₁
  split at h₁
  · obtain ⟨u, rfl⟩ := r; exact hP _ _ _ h₁
  · exact h₁.elim
theorem sndE_startswith {o a : Expr} {apos pos : Pos} {to ta : Rho → T PV} (hb : noCall o = true) (hl : (apos.endLine == pos.line) = true) (hn : noStar a = true) (ho : SndB sc n o to) (ha : SndB sc n a ta) :
    SndE sc n (.Call (.Attribute o ("startswith" : Str) apos) [a] [] pos) fun ρ => (to ρ).bind fun d => match d with
      | .str x => .chk (decide (x.length ≤ sizeLine)) ((ta ρ).bind fun y => strArg (fun y => .ret (.bool (Txt.startswith x y))) y) | _ => .fail :=
  sndE_SM1 (r := fun x => strArg fun y => .ret (.bool (Txt.startswith x y))) (fun hz h => SB.startswith (wp_str h fun y u s₁ hq => ⟨y, u, rfl, hq _ _ ⟨rfl, rfl, rfl⟩ rfl⟩)) hb hl hn ho ha
theorem sndE_endswith {o a : Expr} {apos pos : Pos} {to ta : Rho → T PV} (hb : noCall o = true) (hl : (apos.endLine == pos.line) = true) (hn : noStar a = true) (ho : SndB sc n o to) (ha : SndB sc n a ta) :
    SndE sc n (.Call (.Attribute o ("endswith" : Str) apos) [a] [] pos) fun ρ => (to ρ).bind fun d => match d with
      | .str x => .chk (decide (x.length ≤ sizeLine)) ((ta ρ).bind fun y => strArg (fun y => .ret (.bool (Txt.endswith x y))) y) | _ => .fail :=
  sndE_SM1 (r := fun x => strArg fun y => .ret (.bool (Txt.endswith x y))) (fun hz h => SB.endswith (wp_str h fun y u s₁ hq => ⟨y, u, rfl, hq _ _ ⟨rfl, rfl, rfl⟩ rfl⟩)) hb hl hn ho ha
theorem sndE_rfind {o a : Expr} {apos pos : Pos} {to ta : Rho → T PV} (hb : noCall o = true) (hl : (apos.endLine == pos.line) = true) (hn : noStar a = true) (ho : SndB sc n o to) (ha : SndB sc n a ta) :
    SndE sc n (.Call (.Attribute o ("rfind" : Str) apos) [a] [] pos) fun ρ => (to ρ).bind fun d => match d with
      | .str x => .chk (decide (x.length ≤ sizeLine)) ((ta ρ).bind fun y => strArg (fun y => .ret (.int (Txt.rfind x y))) y) | _ => .fail :=
  sndE_SM1 (r := fun x => strArg fun y => .ret (.int (Txt.rfind x y))) (fun hz h => SB.rfind (wp_str h fun y u s₁ hq => ⟨y, u, rfl, hq _ _ ⟨rfl, rfl, rfl⟩ ⟨_, rfl⟩⟩)) hb hl hn ho ha
theorem sndE_rstrip {o a : Expr} {apos pos : Pos} {to ta : Rho → T PV} (hb : noCall o = true) (hl : (apos.endLine == pos.line) = true) (hn : noStar a = true) (ho : SndB sc n o to) (ha : SndB sc n a ta) :
    SndE sc n (.Call (.Attribute o ("rstrip" : Str) apos) [a] [] pos) fun ρ => (to ρ).bind fun d => match d with
      | .str x => .chk (decide (x.length ≤ sizeLine)) ((ta ρ).bind fun y => strArg (fun y => .ret (.str (Txt.rstripChars x y))) y) | _ => .fail :=
  sndE_SM1 (r := fun x => strArg fun y => .ret (.str (Txt.rstripChars x y))) (fun hz h => SB.rstripChars (wp_str h fun y u s₁ hq => ⟨y, u, rfl, fun _ _ => hq _ _ ⟨rfl, rfl, rfl⟩ ⟨_, rfl⟩⟩) hz) hb hl hn ho ha
noncomputable def strsOf : List PV → Option (List Str)
  | [] => some []
  | .str x :: r => (strsOf r).map (x :: ·)
  | _ :: _ => none
noncomputable def joinP (x : Str) : PV → T PV
  | .list l => (T.ofOpt (strsOf l)).bind fun ys => .chk (JoinOk x ys) (.ret (.str (Txt.join x ys)))
  | _ => .fail
theorem strsOf_vals {w : World} {X : List Addr} {h : Heap} : ∀ {l : List PV} {ys : List Str} {vs : List Value}, strsOf l = some ys → Rps w X h l vs → ∃ z : List (Str × Tok), vs = strValues z ∧ z.map (·.1) = ys
  | [], _, _, e, r => by cases e; cases r; exact ⟨[], rfl, rfl⟩
  | d :: l, ys, vs, e, ⟨v, r, q, h1, h2⟩ => by
    cases d <;> simp only [strsOf, Option.map_eq_some_iff, reduceCtorEq] at e
    obtain ⟨zs, e1, rfl⟩ := e
    obtain ⟨t, rfl⟩ := h1
    obtain ⟨z, rfl, hz⟩ := strsOf_vals e1 h2
    exact ⟨(_, t) :: z, by rw [q]; rfl, by rw [List.map_cons, hz]⟩
theorem sndE_join {o a : Expr} {apos pos : Pos} {to ta : Rho → T PV} (hb : noCall o = true) (hl : (apos.endLine == pos.line) = true) (hn : noStar a = true) (ho : SndB sc n o to) (ha : SndB sc n a ta) :
    SndE sc n (.Call (.Attribute o ("join" : Str) apos) [a] [] pos) fun ρ => (to ρ).bind fun d => match d with
      | .str x => .chk (decide (x.length ≤ sizeLine)) ((ta ρ).bind fun y => joinP x y) | _ => .fail :=
  sndE_SM1 (r := joinP) (fun hz h => SB.join (wpAny_mono h (fun v s₁ h₁ => by
    obtain ⟨y, r, h₁⟩ := h₁
    unfold joinP at h₁
    split at h₁
    · obtain ⟨a, vs, rfl, ⟨n1, hl⟩, r1⟩ := r
      obtain ⟨ys, he, h₁⟩ := T.holds_opt (T.holds_bind _ h₁)
      obtain ⟨hk, h₁⟩ := T.holds_chk h₁
      obtain ⟨z, rfl, hz⟩ := strsOf_vals he r1
      exact ⟨a, z, rfl, ⟨_, hl, rfl, _, rfl⟩, ys, hz, hk, fun _ _ => h₁ _ _ ⟨rfl, rfl, rfl⟩ ⟨_, rfl⟩⟩
    · exact h₁.elim) fun _ _ e => e)) hb hl hn ho ha
theorem sndE_MethS {nm : Str} {id : String} {spec : Str → List PV → T PV} {o e : Expr} {es : List Expr} {apos pos : Pos} {to : Rho → T PV} {t : Rho → T (List PV)} (slot : Slot "str" nm id) (ty : typeOf (.builtin id) = pure (.type "method_descriptor"))
    (hm : ∀ {w : World} {A : Around} {E : Value → Shared → Prop} {s : Shared} {x : Str} {t : Tok} {Q : Value → Shared → Prop} {X : List Addr} {vs : List Value} {ds : List PV}, Rps w X s.heap ds vs →
      ((spec x ds).Holds fun d => ∀ v' s', Same s s' → Sim d v' → Q v' s') → wpAny (model pw w) A (call (.builtin id) (.str x t :: vs)) Q E s)
    (hb : noCall o = true) (hl : (apos.endLine == pos.line) = true) (hn : plainArgs (e :: es) = true) (hw : fewArgs (e :: es) = true) (ho : SndB sc n o to) (he : SndL sc n (e :: es) t) :
    SndE sc n (.Call (.Attribute o nm apos) (e :: es) [] pos) fun ρ => (to ρ).bind fun d => match d with
      | .str x => (t ρ).bind fun ds => spec x ds
      | _ => .fail := fun c O X ad ρ s I Q E h => by
  refine wpAny_Call_method_lateS (base_noCall hb) (few_ok hn hw) hl (ho c O X ad ρ s I _ _ (T.holds_mono (fun d hd vo s₁ x₁ ro => ?_) _ (T.holds_bind _ h)))
  split at hd
  · rename_i x
    obtain ⟨u, rfl⟩ := ro
    refine ⟨"str", id, F.plainAttrs_str, slot, ty, rfl, (fun _ e => nomatch e), ?_⟩
    have h1 : noStar e = true := by simp only [plainArgs, List.all_cons, Bool.and_eq_true] at hn; exact hn.1
    have I₁ := I.nxt O x₁
    refine callWith_builtin (plain_any hn) (argsOf he h1 O I₁ (T.holds_mono (fun ds hds vs s₂ x₂ rs => ?_) _ (T.holds_bind _ hd)))
    have I₂ := I₁.nxt O x₂
    exact hm rs (T.holds_mono (fun d' hd' v' s' e r => hd' v' s' ((x₁.trans x₂).trans (e.nxt I₂)) r.rp) _ hds)
  · exact hd.elim
noncomputable def replP (x : Str) : List PV → T PV
  | [.str y, .str z] => .chk (Builtin.Str.occurrences x y 0 x.length (x.length + 1)).isEmpty (.ret (.str x))
  | _ => .fail
theorem replP_ok {w : World} {A : Around} {E : Value → Shared → Prop} {s : Shared} {x : Str} {t : Tok} {Q : Value → Shared → Prop} {X : List Addr} {vs : List Value} {ds : List PV} (r : Rps w X s.heap ds vs)
    (h : (replP x ds).Holds fun d => ∀ v' s', Same s s' → Sim d v' → Q v' s') : wpAny (model pw w) A (call (.builtin "str.replace") (.str x t :: vs)) Q E s := by
  unfold replP at h
  split at h
  · rename_i y z
    obtain ⟨_, _, rfl, ⟨u, rfl⟩, _, _, rfl, ⟨v, rfl⟩, rfl⟩ := r
    obtain ⟨hz, h⟩ := T.holds_chk h
    refine call_gives F.slot_str_replace rfl F.entry_str_replace (F.args_str_replace_3 _ _ _) (PySem.gives_str_replace x y z t u v (fun q => by rw [hz] at q; cases q)) ?_
    simp only [hz, Bool.true_or, if_true]
    exact h _ _ ⟨rfl, rfl, rfl⟩ ⟨_, rfl⟩
  · exact h.elim
noncomputable def idxP (x : Str) : List PV → T PV
  | [.str y, .int i] => .chk (decide (0 ≤ i) && decide (i ≤ x.length) && decide (x.length ≤ sizeLine)) (match Builtin.Str.occurrences x y i.toNat x.length 1 with | k :: _ => .ret (.int k) | [] => .fail)
  | _ => .fail
theorem idxP_ok {w : World} {A : Around} {E : Value → Shared → Prop} {s : Shared} {x : Str} {t : Tok} {Q : Value → Shared → Prop} {X : List Addr} {vs : List Value} {ds : List PV} (r : Rps w X s.heap ds vs)
    (h : (idxP x ds).Holds fun d => ∀ v' s', Same s s' → Sim d v' → Q v' s') : wpAny (model pw w) A (call (.builtin "str.index") (.str x t :: vs)) Q E s := by
  unfold idxP at h
  split at h
  · rename_i y i
    obtain ⟨_, _, rfl, ⟨u, rfl⟩, _, _, rfl, ⟨v, rfl⟩, rfl⟩ := r
    obtain ⟨hz, h⟩ := T.holds_chk h
    simp only [Bool.and_eq_true, decide_eq_true_eq] at hz
    split at h
    · rename_i k rest hk
      have hr : ∀ (M : Model) (A : Around) (E : Value → Shared → Prop) (s : Shared) (Q : Nat × Nat → Shared → Prop), Q (i.toNat, x.length) s → wpAny M A (Builtin.Str.searchRange x.length [.int i v]) Q E s := fun M A E s Q hq => by
        unfold Builtin.Str.searchRange
        refine wpAny_bind (wpAny_bind (wpAny_specialOf (T := "int") (typeIs_int s i v) int_index ?_))
        refine wpAny_bind (wpAny_of_eq (a := i) rfl (wpAny_pure ?_))
        refine wpAny_bind (wpAny_pure (wpAny_pure ?_))
        have e1 : max 0 (if i < 0 then i + (x.length : Int) else i) = i := by rw [if_neg (by omega)]; omega
        have e2 : min ((x.length : Int).toNat) x.length = x.length := by simp
        rw [e1, e2]
        exact hq
      refine call_gives F.slot_str_index rfl F.entry_str_index (F.args_str_index_3 _ _ _) (m := .int k) ?_ (h _ _ ⟨rfl, rfl, rfl⟩ ⟨_, rfl⟩)
      show Gives (do let r ← Builtin.Str.searchRange x.length [.int i v]; match Builtin.Str.occurrences x y r.1 r.2 1 with | i :: _ => retInt i | [] => (do rule "str.index.not-found"; raiseError "ValueError" "substring not found")) _
      intro prog w A R s hq
      refine wpAny_bind (hr _ _ _ _ _ ?_)
      show wpAny _ _ (match Builtin.Str.occurrences x y i.toNat x.length 1 with | i :: _ => retInt i | [] => (do rule "str.index.not-found"; raiseError "ValueError" "substring not found")) _ _ s
      rw [hk]
      exact Gives.of_eq rfl prog w A R s hq
    · exact h.elim
  · exact h.elim
end
end Mine
namespace Mine
noncomputable def isMeth (o : Obj) : Prop := o.cls = .type "builtin_function_or_method"
section
variable {sc : Scope} {n : Nat} {c : Cx} {X : List Addr} {ad : Str → Addr} {ρ : Rho} {s : Shared}
theorem EntIn.same {w : World} {h h' : Heap} {a : Addr} {oa : Obj} (hs : Heap.ExtBut a h h') (ho : h.get? a = some oa) (h3 : ¬ isMeth oa) (h4 : a ∈ X ∨ (oa.cls ≠ .type "list" ∧ oa.cls ≠ .type "dict")) {x : Str} {v : Value} :
    ∀ {e : Ent}, (∀ l, e = .own l → ad x ≠ a) → EntIn w X ad h x v e → EntIn w X ad h' x v e
  | .val d, _, r => Rp.same hs (h4.imp id fun q o e => by rw [ho] at e; cases e; exact q) d v r
  | .own l, ne, ⟨e, hm, vs, hl, r⟩ => ⟨e, hm, vs, hl.same hs (ne l rfl), Rps.same hs (h4.imp id fun q o e => by rw [ho] at e; cases e; exact q) l vs r⟩
  | .app y, _, ⟨b, e, hb⟩ => ⟨b, e, hs b _ (fun q => by rw [q, ho] at hb; cases hb; exact h3 rfl) hb⟩
theorem Inv.ch (O : Ok sc n c) (I : Inv c X ad ρ s) {a : Addr} {h' : Heap} {t : Nat} {oa : Obj} (hk : Heap.ExtBut a s.heap h') (W' : Wf c.H c.A c.frs h') (E' : Ext c.H c.F c.h0 h') (hX : a ∈ X → ∃ o, h'.get? a = some o)
    (ho : s.heap.get? a = some oa) (h1 : ∀ es n, oa.data ≠ .dict es n) (h2 : ∀ v, oa.data ≠ .cell v) (h3 : ¬ isMeth oa) (h4 : a ∈ X ∨ (oa.cls ≠ .type "list" ∧ oa.cls ≠ .type "dict"))
    (hp : ∀ p ∈ c.pin, p.1 ≠ a) (hw : ∀ x l, (x, Ent.own l) ∈ ρ → ad x ≠ a) : Inv c X ad ρ { s with heap := h', toks := t } := by
  refine ⟨W', E', I.gens, I.os, I.sub, fun b hb => ?_, fun p hq => ?_, fun y b hy => let ⟨w, o, e1, e2⟩ := I.cells y b hy; ⟨w, o, hk b o (fun q => by rw [q, ho] at e1; cases e1; exact h2 _ e2) e1, e2⟩, fun g hg => Rp.same hk (h4.imp id fun q o e => by rw [ho] at e; cases e; exact q) _ _ (I.ghs g hg), I.kinds, I.nd, ?_, ?_, I.inj, I.ownf⟩
  · by_cases q : b = a
    · subst q; exact hX hb
    · obtain ⟨o, e⟩ := I.ex b hb; exact ⟨o, hk b o q e⟩
  · obtain ⟨k1, k2, k3⟩ := I.pins p hq
    exact ⟨hk _ _ (hp p hq) k1, k2, k3⟩
  · obtain ⟨m, hn, hm⟩ := I.ns
    have hL : c.env.locals ≠ a := fun q => by
      obtain ⟨o, es, ep, e, hd, _⟩ := hn
      rw [q, ho] at e; cases e; exact h1 _ _ hd
    refine ⟨m, Heap.Ns.at' hn fun o e => hk _ o hL e, fun x e hx hkd => ?_⟩
    obtain ⟨v, hv, r⟩ := hm x e hx hkd
    exact ⟨v, hv, r.same hk ho h3 h4 fun l q => hw x l (q ▸ hx)⟩
  · intro x e hx hkd
    obtain ⟨b, v, hc, ⟨o, e1, e2⟩, r⟩ := I.cel x e hx hkd
    exact ⟨b, v, hc, ⟨o, hk b o (fun q => by rw [q, ho] at e1; cases e1; exact h2 _ e2) e1, e2⟩, r.same hk ho h3 h4 fun l q => hw x l (q ▸ hx)⟩
noncomputable def isIter (o : Obj) : Prop := (∃ vs, o.data = .fields vs) ∧ o.cls ≠ .type "list" ∧ o.cls ≠ .type "dict" ∧ ¬ isMeth o ∧ noCode o
theorem Inv.iter (O : Ok sc n c) (I : Inv c X ad ρ s) {a : Addr} {h' : Heap} {t : Nat} {oa : Obj} (hk : Heap.ExtBut a s.heap h') (hX : a ∈ X → ∃ o, h'.get? a = some o)
    (ho : s.heap.get? a = some oa) (hi : isIter oa) (h0 : c.h0.get? a = none) (hp : ∀ p ∈ c.pin, p.1 ≠ a) : Inv c X ad ρ { s with heap := h', toks := t } := by
  obtain ⟨⟨vs, hd⟩, h1, h2, h3, hn⟩ := hi
  have hH : c.H.get? a = none := by
    cases e : c.H.get? a with
    | none => rfl
    | some o => have := O.base a o e; rw [h0] at this; cases this
  have T' : TabsOk h' := by
    refine ⟨?_, ?_⟩
    · obtain ⟨ps, hP, hc⟩ := I.wf.tabs.l
      have hne : 232 ≠ a := fun q => by rw [q, ho] at hP; cases hP; exact hn.1 _ rfl
      refine ⟨ps, hk _ _ hne hP, hc.imp id fun ⟨cc, e, nt, c', o, vs, t, e', hoc, hd, hv⟩ => ⟨cc, e, nt, c', o, vs, t, e', hk _ _ (fun q => ?_) hoc, hd, hv⟩⟩
      rw [q, ho] at hoc; cases hoc; exact hn.2 vs _ _ hd hv
    · obtain ⟨ps, hP, hc⟩ := I.wf.tabs.t
      have hne : 86 ≠ a := fun q => by rw [q, ho] at hP; cases hP; exact hn.1 _ rfl
      refine ⟨ps, hk _ _ hne hP, hc.imp id fun ⟨cc, e, nt, c', o, vs, t, e', hoc, hd, hv⟩ => ⟨cc, e, nt, c', o, vs, t, e', hk _ _ (fun q => ?_) hoc, hd, hv⟩⟩
      rw [q, ho] at hoc; cases hoc; exact hn.2 vs _ _ hd hv
  have hb : c.H.StaysIn h' := fun b o e => hk b o (fun q => by rw [q, hH] at e; cases e) (I.wf.stays b o e)
  refine I.ch O hk ⟨⟨I.wf.below.stack, hb, I.wf.below.frames.of_keeps fun b o e hnd => ⟨o, hk b o (fun q => ?_) e, rfl⟩⟩, T', I.wf.handled, fun b hb => let ⟨o, es, n, e, hdd⟩ := I.wf.dicts b hb; ⟨o, es, n, hk b o (fun q => by rw [q, ho] at e; cases e; rw [hd] at hdd; cases hdd) e, hdd⟩⟩ ⟨hb, fun b o e nt => ?_, T'⟩ hX ho (fun es n e => ?_) (fun v e => ?_) h3 (.inr ⟨h1, h2⟩) hp fun x l hx q => ?_
  · rw [q, ho] at e; cases e; exact hnd vs hd
  · obtain ⟨sl, e', r⟩ := I.ext.grow b o e nt
    exact ⟨sl, hk _ _ (fun q => by rw [q, h0] at e; cases e) e', r⟩
  · rw [hd] at e; cases e
  · rw [hd] at e; cases e
  · obtain ⟨v, _, _, us, ⟨k, hl⟩, _⟩ := I.ent hx
    rw [q, ho] at hl; cases hl; exact h1 rfl
theorem Inv.lst (O : Ok sc n c) (I : Inv c X ad ρ s) {a : Addr} {h' : Heap} {t : Nat} {vs us : List Value} (hs : Heap.SameBut a s.heap h') (hl : Lst s.heap a vs) (hl' : Lst h' a us)
    (ha : a ∈ X) (h0 : c.h0.get? a = none) (hp : ∀ p ∈ c.pin, p.1 ≠ a) (hw : ∀ x l, (x, Ent.own l) ∈ ρ → ad x ≠ a) : Inv c X ad ρ { s with heap := h', toks := t } := by
  obtain ⟨k, hl⟩ := hl
  obtain ⟨k', hl'⟩ := hl'
  have hH : c.H.get? a = none := by
    cases e : c.H.get? a with
    | none => rfl
    | some o => have := O.base a o e; rw [h0] at this; cases this
  have hn : noCode (⟨.type "list", none, .seq vs.toArray k, #[]⟩ : Obj) := .of (by intro e; simp at e) (by intro _ _ _ e; simp at e)
  exact I.ch O hs.extBut (I.wf.same hs hl hn hH hl' (fun _ vs e => by cases e) fun _ _ e => by cases e) (I.ext.same O.base hs hl hn h0) (fun _ => ⟨_, hl'⟩) hl (by intro _ _ e; simp at e) (by intro _ e; simp at e) (by intro e; simp [isMeth] at e) (.inl ha) hp hw
structure Src (c : Cx) (J : Addr) (ax : List Addr) (G : List (Value × PV)) (ds : List PV) (P : Nat → Value → Prop) (St : Nat → Heap → Prop) : Prop where
  W : Walks pw c.w c.A J (J :: ax) [J] ds.length P St
  val : ∀ i v d, P i v → ds[i]? = some d → (v, d) ∈ G ∨ Sim d v
  it : ∀ i h, St i h → ∃ o, h.get? J = some o ∧ isIter o
  soft : ∀ i h, St i h → ∀ b ∈ ax, ∃ o, h.get? b = some o ∧ o.cls ≠ .none ∧ (∀ es n, o.data ≠ .dict es n) ∧ ∀ v, o.data ≠ .cell v
theorem Src.grow {J : Addr} {ax : List Addr} {G : List (Value × PV)} {ds : List PV} {P : Nat → Value → Prop} {St : Nat → Heap → Prop} (S : Src c J ax G ds P St) {F : List Addr} {i : Nat} {h h' : Heap} (st : St i h) (t : TabsOk h) (g : Grow F h h') : St i h' := by
  refine S.W.frame i h h' st fun b hb o e => ?_
  rcases List.mem_cons.mp hb with rfl | hb
  · obtain ⟨o', e', ⟨vs, hd⟩, _, _, _, hn⟩ := S.it i h st
    rw [e'] at e; cases e
    exact g.exact e' (fun q => by obtain ⟨ps, rfl⟩ := t.fields e' q; exact hn.1 _ rfl) (.inr fun _ _ q => by rw [hd] at q; cases q)
  · obtain ⟨o', e', hc, hd, _⟩ := S.soft i h st b hb
    rw [e'] at e; cases e
    exact g.exact e' (fun q => by obtain ⟨ps, rfl⟩ := t.fields e' q; exact hc rfl) (.inr hd)
end
noncomputable def SndI (sc : Scope) (n : Nat) (e : Expr) (t : Rho → T (List PV)) (apart : Bool) : Prop :=
  ∀ c : Cx, Ok sc n c → ∀ X ad ρ s, Inv c X ad ρ s → ∀ (Q E : Value → Shared → Prop),
    (t ρ).Holds (fun ds => ∀ s' J ax G P St, Nxt c.H c.F s s' → Src c J ax G ds P St → St 0 s'.heap → (∀ g ∈ G, Rp c.w X s'.heap g.2 g.1) → s.heap.get? J = none → J ∉ ax → (apart = true → ∀ b ∈ ax, b ∉ X) → Q (.ref J) s') →
    wpAny (model pw c.w) c.A (eval e c.env) (fun v s' => wpAny (model pw c.w) c.A (pyIter v) Q E s') E s
end Mine
namespace Mine
section
variable {sc : Scope} {n : Nat}
theorem zip_mem : ∀ {vs : List Value} {ds : List PV} {i : Nat} {v : Value} {d : PV}, vs[i]? = some v → ds[i]? = some d → (v, d) ∈ vs.zip ds
  | [], _, _, _, _, h, _ => by simp at h
  | _ :: _, [], _, _, _, _, h => by simp at h
  | a :: vs, b :: ds, 0, v, d, h, h' => by simp at h h'; subst h; subst h'; simp
  | a :: vs, b :: ds, i + 1, v, d, h, h' => List.mem_cons_of_mem _ (zip_mem (by simpa using h) (by simpa using h'))
theorem zip_rp {w : World} {X : List Addr} {h : Heap} : ∀ {ds : List PV} {vs : List Value}, Rps w X h ds vs → ∀ g ∈ vs.zip ds, Rp w X h g.2 g.1
  | [], _, r, g, hg => by rw [show _ = [] from r] at hg; simp at hg
  | d :: ds, _, ⟨v, r, e, h1, h2⟩, g, hg => by
    rw [e, List.zip_cons_cons] at hg
    rcases List.mem_cons.mp hg with rfl | hg
    · exact h1
    · exact zip_rp h2 g hg
theorem iter_list {J ax : Addr} {i : Nat} {h : Heap} (x : h.IsListIter J ax i) : ∃ o, h.get? J = some o ∧ isIter o := by
  obtain ⟨o, ho, hc, hd⟩ := x
  refine ⟨o, ho, ⟨_, hd⟩, ?_, ?_, ?_, .of ?_ ?_⟩
  · rw [hc]; simp
  · rw [hc]; simp
  · unfold isMeth; rw [hc]; simp
  · rw [hc]; simp
  · intro vs q t e; rw [hd] at e; cases e; simp
theorem src_list (c : Cx) (hh : c.A.handled = none) {J ax : Addr} (hne : ax ≠ J) {ds : List PV} {vs : List Value} (hl : vs.length = ds.length) :
    Src c J [ax] (vs.zip ds) ds (fun i v => vs.toArray[i]? = some v) (fun i h => h.IsListIter J ax i ∧ h.IsList ax vs.toArray) where
  W := by
    have := Walks.list (prog := pw) (w := c.w) (A := c.A) hh J ax hne vs.toArray
    rwa [List.size_toArray, hl] at this
  val := fun i v d hv hd => .inl (zip_mem (by simpa using hv) hd)
  it := fun i h st => iter_list st.1
  soft := fun i h st b hb => by
    rw [List.mem_singleton.mp hb]
    obtain ⟨o, ho, hc, k, hd⟩ := st.2
    exact ⟨o, ho, by rw [hc]; simp, fun es m e => (by rw [hd] at e; cases e), fun v e => by rw [hd] at e; cases e⟩
theorem fresh_before {c : Cx} {X : List Addr} {ad : Str → Addr} {ρ : Rho} {s s₁ : Shared} (I : Inv c X ad ρ s) (x : Nxt c.H c.F s s₁) : s.heap.get? s₁.heap.objs.size = none := by
  cases e : s.heap.get? s₁.heap.objs.size with
  | none => rfl
  | some o => obtain ⟨o', e'⟩ := x.ext.there I.wf.tabs ⟨o, e⟩; rw [fresh_size (Nat.le_refl _)] at e'; cases e'
noncomputable def signs (x : Str) : List PV := x.cps.toList.map fun k => .str ⟨#[k]⟩
theorem sign_at {x : Str} {i : Nat} {v : Value} {d : PV} (h : SignAt x i v) (hd : (signs x)[i]? = some d) : Sim d v := by
  obtain ⟨k, u, hk, rfl⟩ := h
  simp only [signs, List.getElem?_map, Array.getElem?_toList, hk, Option.map_some, Option.some.injEq] at hd
  subst hd
  exact ⟨u, rfl⟩
theorem iter_str {J : Addr} {ty : String} {x : Str} {t : Tok} {i : Nat} {h : Heap} (hty : ty = "str_iterator" ∨ ty = "str_ascii_iterator") (y : h.IsStrIter J ty x t i) : ∃ o, h.get? J = some o ∧ isIter o := by
  obtain ⟨o, ho, hc, hd⟩ := y
  refine ⟨o, ho, ⟨_, hd⟩, ?_, ?_, ?_, .of ?_ ?_⟩
  · rw [hc]; rcases hty with rfl | rfl <;> simp
  · rw [hc]; rcases hty with rfl | rfl <;> simp
  · unfold isMeth; rw [hc]; rcases hty with rfl | rfl <;> simp
  · rw [hc]; simp
  · intro vs q t' e; rw [hd] at e; cases e; simp
theorem sndI_str {e : Expr} {t : Rho → T PV} (he : SndB sc n e t) (b : Bool) : SndI sc n e (fun ρ => (t ρ).bind fun d => match d with | .str x => .chk (decide (x.length ≤ sizeLine)) (.ret (signs x)) | _ => .fail) b := fun c O X ad ρ s I Q E h => by
  refine he c O X ad ρ s I _ _ (T.holds_mono (fun d hd v s₁ x₁ r => ?_) _ (T.holds_bind _ h))
  split at hd
  · rename_i x
    obtain ⟨hz, hd⟩ := T.holds_chk hd
    obtain ⟨u, rfl⟩ := r
    have I₁ := I.nxt O x₁
    have hlen : (signs x).length = x.cps.size := by simp [signs]
    cases ha : x.cps.all (· < 128)
    · refine wpAny_pyIter_wide ha (hd _ _ [] [] (SignAt x) (fun i h => h.IsStrIter s₁.heap.objs.size "str_iterator" x u i) (x₁.trans (I₁.push _ _)) ⟨by rw [hlen]; exact Walks.strWide I.wf.handled _ x u, fun i v d hv hd => .inr (sign_at hv hd), fun i h st => iter_str (.inl rfl) st, fun _ _ _ _ hb => (nomatch hb)⟩ ⟨_, Heap.get?_push_size _ rfl, rfl, rfl⟩ (fun _ hg => (nomatch hg)) (fresh_before I x₁) (by simp) fun _ _ hb => (nomatch hb))
    · refine wpAny_pyIter_ascii ha (hd _ _ [] [] (SignAt x) (fun i h => h.IsStrIter s₁.heap.objs.size "str_ascii_iterator" x u i) (x₁.trans (I₁.push _ _)) ⟨by rw [hlen]; exact Walks.strAscii I.wf.handled _ x u, fun i v d hv hd => .inr (sign_at hv hd), fun i h st => iter_str (.inr rfl) st, fun _ _ _ _ hb => (nomatch hb)⟩ ⟨_, Heap.get?_push_size _ rfl, rfl, rfl⟩ (fun _ hg => (nomatch hg)) (fresh_before I x₁) (by simp) fun _ _ hb => (nomatch hb))
  · exact hd.elim
noncomputable def intsTo (k : Nat) : List PV := (List.range k).map fun i => .int (i : Nat)
theorem iter_range {J : Addr} {x l st : Int} {h : Heap} (y : IsRangeIter h J x l st) : ∃ o, h.get? J = some o ∧ isIter o := by
  refine ⟨_, y, ⟨_, rfl⟩, by simp, by simp, by simp [isMeth], .of (by simp) ?_⟩
  intro vs q t e; cases e; simp [rawInt]
theorem sndI_range {f : Str} {p pos : Pos} {e : Expr} {t : Rho → T PV} (hf : f = ("range" : Str)) (hk : sc.names.lookup f = some .globalImplicit) (he : SndE sc n e t) (hn : noStar e = true) (b : Bool) :
    SndI sc n (.Call (.Name f p) [e] [] pos) (fun ρ => (t ρ).bind fun d => match d with | .int k => .chk (decide (0 ≤ k) && decide (k ≤ 1000)) (.ret (intsTo k.toNat)) | _ => .fail) b := fun c O X ad ρ s I Q E h => by
  subst hf
  refine wpAny_Call_NameR (ldBuiltin O I hk (by decide +kernel) (v := .type "range") (by decide +kernel) ?_ (by decide +kernel) (by decide +kernel))
  rw [show backTo pos (starEach [e] c.env) = [(false, eval e c.env)] from by rw [starEach_cons hn]; rfl]
  refine PySem.callWith_type rfl (evalArgs_plain (Calls.spliced_cons (he c O X ad ρ s I _ _ (T.holds_mono (fun d hd v s₁ x₁ r => ?_) _ (T.holds_bind _ h)))))
  refine Calls.spliced_nil ?_
  split at hd
  · rename_i k
    obtain ⟨hz, hd⟩ := T.holds_chk hd
    simp only [Bool.and_eq_true, decide_eq_true_eq] at hz
    obtain ⟨u, rfl⟩ := r
    have I₁ := I.nxt O x₁
    obtain ⟨k', rfl⟩ := Int.eq_ofNat_of_zero_le hz.1
    have x₂ := I₁.push { cls := .type "range", dict := none, data := .fields #[.int 0 s₁.toks, .int (k' : Int) u, .int 1 (s₁.toks + 1)], slots := #[] } (s₁.toks + 1 + 1)
    have I₂ := I₁.nxt O x₂
    have hsz : Builtin.Range.rangeSize 0 (k' : Int) 1 = (k' : Int) := by rw [rangeSize_one]; split <;> omega
    refine call_range_1 (wpAny_pyIter_range (IsRange.new _ _ _ _ _ _ _) ?_ ?_)
    · exact small_one (by omega) (by omega) (by omega) (by omega)
    · have hlen : (intsTo k').length = k' := by simp [intsTo]
      rw [hsz]
      refine hd _ _ [] [] (fun i v => ∃ t, v = .int (0 + i * 1) t) (fun i h => IsRangeIter h _ (0 + (i : Nat) * 1) ((k' : Int) - (i : Nat)) 1) ((x₁.trans x₂).trans (I₂.push _ _)) ⟨by rw [show (intsTo (k' : Int).toNat).length = k' from by simp [intsTo]]; exact Walks.range I.wf.handled _ 0 1 k', fun i v d hv hd => .inr ?_, fun i h st => iter_range st, fun _ _ _ _ hb => (nomatch hb)⟩ ?_ (fun _ hg => (nomatch hg)) (fresh_before I (x₁.trans x₂)) (by simp) fun _ _ hb => (nomatch hb)
      · obtain ⟨t', rfl⟩ := hv
        simp only [intsTo, Int.toNat_natCast, List.getElem?_map, Option.map_eq_some_iff] at hd
        obtain ⟨j, hj, rfl⟩ := hd
        have : j = i := by
          have := List.getElem?_eq_some_iff.mp hj
          obtain ⟨h1, h2⟩ := this
          simpa using h2.symm
        subst this
        exact ⟨t', by simp⟩
      · show IsRangeIter _ _ _ _ _
        have e1 : (0 : Int) + ((0 : Nat) : Int) * 1 = 0 := rfl
        have e2 : (k' : Int) - ((0 : Nat) : Int) = k' := by omega
        rw [e1, e2]
        exact Heap.get?_push_size _ rfl
  · exact hd.elim
end
end Mine
namespace Mine
noncomputable def isApp (x : Str) : Ent → Bool
  | .app y => y == x
  | _ => false
noncomputable def isVal : Ent → Bool
  | .val _ => true
  | _ => false
noncomputable def isOwn : Ent → Bool
  | .own _ => true
  | _ => false
noncomputable def without (ρ : Rho) (x : Str) : Rho := ρ.filter fun p => p.1 != x && !isApp x p.2
noncomputable def setE (ρ : Rho) (x : Str) (e : Ent) : Rho := (x, e) :: without ρ x
theorem mem_without {ρ : Rho} {x y : Str} {e : Ent} (h : (y, e) ∈ without ρ x) : (y, e) ∈ ρ ∧ y ≠ x ∧ isApp x e = false := by
  simp only [without, List.mem_filter, Bool.and_eq_true, bne_iff_ne, Bool.not_eq_true'] at h
  exact ⟨h.1, h.2.1, h.2.2⟩
theorem nd_without {ρ : Rho} {x : Str} (h : (ρ.map (·.1)).Nodup) : ((without ρ x).map (·.1)).Nodup := h.sublist ((List.filter_sublist).map _)
theorem nd_setE {ρ : Rho} {x : Str} {e : Ent} (h : (ρ.map (·.1)).Nodup) : ((setE ρ x e).map (·.1)).Nodup := by
  simp only [setE, List.map_cons, List.nodup_cons]
  refine ⟨fun hm => ?_, nd_without h⟩
  obtain ⟨⟨y, e'⟩, hy, rfl⟩ := List.mem_map.mp hm
  exact (mem_without hy).2.1 rfl
section
variable {sc : Scope} {n : Nat} {c : Cx} {X : List Addr} {ad : Str → Addr} {ρ : Rho} {s : Shared}
theorem Inv.sub' (I : Inv c X ad ρ s) {ρ' : Rho} (nd : (ρ'.map (·.1)).Nodup) (h : ∀ x e, (x, e) ∈ ρ' → (x, e) ∈ ρ) : Inv c X ad ρ' s :=
  ⟨I.wf, I.ext, I.gens, I.os, I.sub, I.ex, I.pins, I.cells, I.ghs, fun x e hx => I.kinds x e (h x e hx), nd, let ⟨m, hn, hm⟩ := I.ns; ⟨m, hn, fun x e hx => hm x e (h x e hx)⟩,
    fun x e hx => I.cel x e (h x e hx), fun x y l l' hx hy => I.inj x y l l' (h _ _ hx) (h _ _ hy), fun x l hx => I.ownf x l (h _ _ hx)⟩
theorem Inv.wo (I : Inv c X ad ρ s) (x : Str) : Inv c X ad (without ρ x) s := I.sub' (nd_without I.nd) fun y e h => (mem_without h).1
theorem nsObj {h : Heap} {L : Addr} {m : Str → Option Value} (hn : h.Ns L m) : ∃ o es n, h.get? L = some o ∧ o.data = .dict es n := let ⟨o, es, n, ho, hd, _⟩ := hn; ⟨o, es, n, ho, hd⟩
theorem EntIn.loc {w : World} {h h' : Heap} {a : Addr} {oa : Obj} (hs : Heap.ExtBut a h h') (ho : h.get? a = some oa) (ha : a ∈ X) (hnl : ∀ us k, oa.data ≠ .seq us k) (hnf : ∀ us, oa.data ≠ .fields us) {x : Str} {v : Value} :
    ∀ {e : Ent}, EntIn w X ad h x v e → EntIn w X ad h' x v e
  | .val d, r => Rp.same hs (.inl ha) d v r
  | .own l, ⟨e, hm, vs, ⟨k, hl⟩, r⟩ => ⟨e, hm, vs, ⟨k, hs _ _ (fun q => by rw [q, ho] at hl; cases hl; exact hnl _ _ rfl) hl⟩, Rps.same hs (.inl ha) l vs r⟩
  | .app y, ⟨b, e, hb⟩ => ⟨b, e, hs b _ (fun q => by rw [q, ho] at hb; cases hb; exact hnf _ rfl) hb⟩
theorem Inv.store (O : Ok sc n c) (I : Inv c X ad ρ s) {x : Str} {v : Value} {e : Ent} {m : Str → Option Value} {h' : Heap} {t : Nat} (hk : c.env.kindOf x = some .local) (hnl : isOwn e = false)
    (hn : s.heap.Ns c.env.locals m) (hm : ∀ y e', (y, e') ∈ without ρ x → c.env.kindOf y = some .local → ∃ v, m y = some v ∧ EntIn c.w X ad s.heap y v e')
    (r : EntIn c.w X ad s.heap x v e) (hn' : h'.Ns c.env.locals fun y => if y = x then some v else m y) (hs : Heap.SameBut c.env.locals s.heap h') : Inv c X ad (setE ρ x e) { s with heap := h', toks := t } := by
  obtain ⟨oa, es, k, ho, hd⟩ := nsObj hn
  have hX : c.env.locals ∈ X := I.sub _ O.locX
  have h1 : ∀ us k, oa.data ≠ .seq us k := fun us k e => by rw [hd] at e; cases e
  have h2 : ∀ us, oa.data ≠ .fields us := fun us e => by rw [hd] at e; cases e
  have hcell : ∀ w, oa.data ≠ .cell w := fun w e => by rw [hd] at e; cases e
  have hcode : noCode oa := by
    exact ⟨fun ps e => (by rw [e] at hd; cases hd), fun vs q t e => (h2 vs e).elim⟩
  obtain ⟨ob, es', k', ho', hd'⟩ := nsObj hn'
  have hH : c.H.get? c.env.locals = none := by
    cases e : c.H.get? c.env.locals with
    | none => rfl
    | some o => have := O.base _ o e; rw [O.hL] at this; cases this
  refine ⟨I.wf.same hs ho hcode hH ho' (fun _ vs e => by rw [hd'] at e; cases e) (fun _ _ _ => ⟨_, _, hd'⟩), I.ext.same O.base hs ho hcode O.hL, I.gens, I.os, I.sub, fun b hb => ?_, fun p hp => ?_, fun y b hy => let ⟨w, o, e1, e2⟩ := I.cells y b hy; ⟨w, o, (hs.2 b fun q => by rw [q, ho] at e1; cases e1; exact hcell _ e2).trans e1, e2⟩, fun g hg => Rp.same hs.extBut (.inl hX) _ _ (I.ghs g hg), fun y e' hy => ?_, nd_setE I.nd, ⟨_, hn', fun y e' hy hky => ?_⟩, fun y e' hy hky => ?_, fun y z l l' hy hz => ?_, fun y l hy => ?_⟩
  · by_cases q : b = c.env.locals
    · subst q; exact ⟨_, ho'⟩
    · obtain ⟨o, e⟩ := I.ex b hb; exact ⟨o, (hs.2 b q).trans e⟩
  · obtain ⟨k1, k2, k3⟩ := I.pins p hp
    exact ⟨(hs.2 _ fun q => by rw [q, ho] at k1; cases k1; exact k3.1 _ _ hd).trans k1, k2, k3⟩
  · rcases List.mem_cons.mp hy with q | q
    · cases q; exact .inl hk
    · exact I.kinds y e' (mem_without q).1
  · rcases List.mem_cons.mp hy with q | q
    · cases q; exact ⟨v, by simp, r.loc hs.extBut ho hX h1 h2⟩
    · obtain ⟨u, hu, r'⟩ := hm y e' q hky
      exact ⟨u, by simp [(mem_without q).2.1, hu], r'.loc hs.extBut ho hX h1 h2⟩
  · rcases List.mem_cons.mp hy with q | q
    · cases q; rw [hk] at hky; cases hky
    · obtain ⟨b, u, hc, ⟨o, e1, e2⟩, r'⟩ := I.cel y e' (mem_without q).1 hky
      exact ⟨b, u, hc, ⟨o, (hs.2 b fun q => by rw [q, ho] at e1; cases e1; exact hcell _ e2).trans e1, e2⟩, r'.loc hs.extBut ho hX h1 h2⟩
  · rcases List.mem_cons.mp hy with q | q
    · cases q; cases hnl
    · rcases List.mem_cons.mp hz with q' | q'
      · cases q'; cases hnl
      · exact I.inj y z l l' (mem_without q).1 (mem_without q').1
  · rcases List.mem_cons.mp hy with q | q
    · cases q; cases hnl
    · exact I.ownf y l (mem_without q).1
end
end Mine
namespace Mine
noncomputable def closOf (cells : List (Str × Addr)) : List (Str × NameKind) → List (Str × Addr) → Option (List (Str × Addr))
  | [], acc => some acc
  | (x, k) :: r, acc => if k == .free then (match cells.lookup x with | some a => closOf cells r ((x, a) :: acc) | none => none) else closOf cells r acc
theorem closureFor_of {scope : Scope} {env : Env} {cl : List (Str × Addr)} (h : closOf env.cells scope.names [] = some cl) : closureFor scope env = pure cl := by
  have key : ∀ (names : List (Str × NameKind)) (acc cl : List (Str × Addr)), closOf env.cells names acc = some cl →
      (forIn names acc (fun (x : Str × NameKind) (cs : List (Str × Addr)) => (match x with
        | (name, kind) => if (kind == NameKind.free) = true then do
            let a ← cellOf env name
            pure (ForInStep.yield ((name, a) :: cs))
          else pure (ForInStep.yield cs) : Sem (ForInStep (List (Str × Addr))))) : Sem (List (Str × Addr))) = pure cl := by
    intro names
    induction names with
    | nil => intro acc cl h; cases h; rfl
    | cons y r ih =>
      intro acc cl h
      obtain ⟨x, k⟩ := y
      rw [List.forIn_cons]
      simp only [closOf] at h
      by_cases hk : (k == NameKind.free) = true
      · rw [if_pos hk] at h
        simp only [hk, if_true]
        cases hc : env.cells.lookup x with
        | none => rw [hc] at h; cases h
        | some a =>
          rw [hc] at h
          have e : cellOf env x = pure a := by unfold cellOf; rw [hc]
          rw [e]
          exact ih _ _ h
      · rw [if_neg hk] at h
        simp only [hk]
        exact ih _ _ h
  unfold closureFor
  exact Eq.trans (congrArg (fun z => z >>= fun cs => (pure cs : Sem (List (Str × Addr)))) (key scope.names [] cl h)) rfl
theorem closOf_some {cells : List (Str × Addr)} : ∀ (names : List (Str × NameKind)) (acc : List (Str × Addr)), (∀ x, (x, NameKind.free) ∈ names → ∃ a, cells.lookup x = some a) → ∃ cl, closOf cells names acc = some cl
  | [], acc, _ => ⟨acc, rfl⟩
  | (x, k) :: r, acc, h => by
    simp only [closOf]
    by_cases hk : (k == NameKind.free) = true
    · rw [if_pos hk]
      obtain ⟨a, ha⟩ := h x (by have : k = .free := by simpa using hk
                                subst this; exact .head _)
      rw [ha]
      exact closOf_some r _ fun y hy => h y (.tail _ hy)
    · rw [if_neg hk]
      exact closOf_some r _ fun y hy => h y (.tail _ hy)
theorem closOf_in {cells : List (Str × Addr)} : ∀ (names : List (Str × NameKind)) (acc cl : List (Str × Addr)), closOf cells names acc = some cl → (∀ x a, acc.lookup x = some a → cells.lookup x = some a) →
    ∀ x a, cl.lookup x = some a → cells.lookup x = some a
  | [], acc, cl, h, hacc, x, a, hx => by cases h; exact hacc x a hx
  | (y, k) :: r, acc, cl, h, hacc, x, a, hx => by
    simp only [closOf] at h
    by_cases hk : (k == NameKind.free) = true
    · rw [if_pos hk] at h
      cases hc : cells.lookup y with
      | none => rw [hc] at h; cases h
      | some b =>
        rw [hc] at h
        refine closOf_in r _ _ h (fun z d hz => ?_) x a hx
        simp only [List.lookup_cons] at hz
        by_cases q : z = y
        · subst q; simp at hz; subst hz; exact hc
        · have : (z == y) = false := by simpa using q
          rw [this] at hz; exact hacc z d hz
    · rw [if_neg hk] at h
      exact closOf_in r _ _ h hacc x a hx
theorem closOf_has {cells : List (Str × Addr)} : ∀ (names : List (Str × NameKind)) (acc cl : List (Str × Addr)), closOf cells names acc = some cl → ∀ x, ((x, NameKind.free) ∈ names ∨ (acc.lookup x).isSome = true) → ∃ a, cl.lookup x = some a
  | [], acc, cl, h, x, hx => by
    cases h
    rcases hx with hx | hx
    · cases hx
    · exact Option.isSome_iff_exists.mp hx
  | (y, k) :: r, acc, cl, h, x, hx => by
    simp only [closOf] at h
    by_cases hk : (k == NameKind.free) = true
    · rw [if_pos hk] at h
      cases hc : cells.lookup y with
      | none => rw [hc] at h; cases h
      | some b =>
        rw [hc] at h
        refine closOf_has r _ _ h x ?_
        by_cases q : x = y
        · subst q; exact .inr (by simp)
        · rcases hx with hx | hx
          · rcases List.mem_cons.mp hx with e | e
            · cases e; exact absurd rfl q
            · exact .inl e
          · have : (x == y) = false := by simpa using q
            exact .inr (by simp only [List.lookup_cons, this]; exact hx)
    · rw [if_neg hk] at h
      refine closOf_has r _ _ h x ?_
      rcases hx with hx | hx
      · rcases List.mem_cons.mp hx with e | e
        · cases e; exact absurd rfl hk
        · exact .inl e
      · exact .inr hx
noncomputable def relab (scope sc : Scope) : Scope := { scope with names := scope.names.map fun p => if (p.2 == .free && sc.names.lookup p.1 == some .cell) then (p.1, .cell) else p }
theorem relabel_is {scope sc : Scope} {env : Env} (hk : env.scope.kind = .function) (hn : ∀ x, env.kindOf x = sc.names.lookup x) : relabel scope env = relab scope sc := by
  unfold relabel relab
  simp only [hk, hn, beq_self_eq_true, Bool.and_true]
noncomputable def compOk (scope sc : Scope) (x : Str) : Bool :=
  scope.kind == .function && scope.names.all (fun y => y.2 != .cell && (y.2 != .local || scope.names.lookup y.1 == some .local) && (y.2 != .free || sc.names.lookup y.1 == some .cell)) && scope.names.lookup x == some .local
theorem relab_cell {scope sc : Scope} (h : ∀ y ∈ scope.names, y.2 ≠ .cell) {x : Str} (hx : (relab scope sc).names.lookup x = some .cell) : (x, NameKind.free) ∈ scope.names := by
  have key : ∀ names : List (Str × NameKind), (∀ y ∈ names, y.2 ≠ .cell) → (names.map fun p => if (p.2 == .free && sc.names.lookup p.1 == some .cell) = true then (p.1, NameKind.cell) else p).lookup x = some .cell → (x, NameKind.free) ∈ names := by
    intro names
    induction names with
    | nil => intro _ h; simp at h
    | cons y r ih =>
      intro hc hl
      obtain ⟨z, k⟩ := y
      rw [List.map_cons] at hl
      by_cases hb : (k == NameKind.free && sc.names.lookup z == some NameKind.cell) = true
      · simp only [hb, if_true, List.lookup_cons] at hl
        by_cases q : x = z
        · subst q
          have : k = .free := by simp at hb; exact hb.1
          subst this; exact .head _
        · have : (x == z) = false := by simpa using q
          rw [this] at hl; exact .tail _ (ih (fun y hy => hc y (.tail _ hy)) hl)
      · simp only [hb] at hl
        rw [if_neg (by decide), List.lookup_cons] at hl
        by_cases q : x = z
        · subst q
          simp at hl
          exact absurd hl (hc (x, k) (.head _))
        · have : (x == z) = false := by simpa using q
          rw [this] at hl; exact .tail _ (ih (fun y hy => hc y (.tail _ hy)) hl)
  exact key scope.names h hx
noncomputable def capt (scope sc : Scope) (ρ : Rho) : Rho := ρ.filter fun p => (relab scope sc).names.lookup p.1 == some .cell && sc.names.lookup p.1 == some .cell && isVal p.2
end Mine
namespace Mine
noncomputable def SndIfs (sc : Scope) (n : Nat) (ifs : List Expr) (t : Rho → T Bool) : Prop :=
  ∀ c : Cx, Ok sc n c → ∀ X ad ρ s, Inv c X ad ρ s → ∀ (Q : Bool → Shared → Prop) (E : Value → Shared → Prop),
    (t ρ).Holds (fun d => ∀ s', Nxt c.H c.F s s' → Q d s') →
    wpAny (model pw c.w) c.A (forIn ifs true fun e r => if r = true then do let ok ← PySem.isTrue e c.env (eval e c.env); pure (ForInStep.yield ok) else pure (ForInStep.yield r)) Q E s
section
variable {sc : Scope} {n : Nat}
theorem sndIfs_nil : SndIfs sc n [] fun _ => .ret true := fun c O X ad ρ s I Q E h => by
  rw [List.forIn_nil]; exact wpAny_pure (h s I.refl)
theorem sndIfs_one {e : Expr} {t : Rho → T Bool} (he : SndT sc n e t) : SndIfs sc n [e] t := fun c O X ad ρ s I Q E h => by
  rw [List.forIn_cons]
  simp only [if_true]
  refine wpAny_bind (wpAny_bind (he c O X ad ρ s I _ _ (T.holds_mono (fun b hb s' x => wpAny_pure ?_) _ h)))
  exact wpAny_pure (hb s' x)
end
noncomputable def noSet : Expr → Bool
  | .Set .. => false
  | _ => true
theorem noSet_ok {e : Expr} (h : noSet e = true) (env : Env) : ∀ x, foldedSetIterable e env x = pure x := by
  intro x; cases e <;> first | rfl | cases h
noncomputable def compT (tt : Rho → T Bool) (te : Rho → T PV) (ρ : Rho) (x : Str) : List PV → List PV → T (List PV)
  | [], acc => .ret acc
  | d :: ds, acc => (tt (setE ρ x (.val d))).bind fun b => .ite b ((te (setE ρ x (.val d))).bind fun y => compT tt te ρ x ds (acc ++ [y])) (compT tt te ρ x ds acc)
section
variable {sc : Scope} {n : Nat} {c : Cx} {X : List Addr} {ad : Str → Addr} {ρ : Rho} {s : Shared}
noncomputable def inCx (c : Cx) (scope : Scope) (cl : List (Str × Addr)) (C D : Addr) (X : List Addr) (s : Shared) (G : List (Value × PV)) : Cx :=
  { c with env := compEnvC scope cl C c.env, X0 := C :: D :: X, h0 := s.heap, g0 := s.gens, o0 := s.os, pin := [], gh := G }
theorem in_ok (O : Ok sc n c) (I : Inv c X ad ρ s) {scope : Scope} {x : Str} (hc : compOk scope sc x = true) {cl : List (Str × Addr)} (hcl : closOf c.env.cells scope.names [] = some cl) {C D : Addr} (hC : s.heap.get? C = none) (G : List (Value × PV)) :
    Ok (relab scope sc) n (inCx c scope cl C D X s G) := by
  simp only [compOk, Bool.and_eq_true, List.all_eq_true, Bool.or_eq_true, beq_iff_eq, bne_iff_ne] at hc
  obtain ⟨⟨hk, hall⟩, hx⟩ := hc
  have hrel : relabel scope c.env = relab scope sc := relabel_is O.kind O.names
  refine ⟨O.th, O.room, ?_, ?_, O.glob, O.blt, fun a h => .tail _ (.tail _ (I.sub a (O.hF a h))), I.wf.stays, hC, fun y hy => ?_, .head _, fun y a hy => .tail _ (.tail _ (I.sub a (O.celX y a ?_)))⟩
  · show (relabel scope c.env).kind = _; exact hk
  · intro y
    show (relabel scope c.env).names.lookup y = _
    rw [hrel]
  · exact closOf_has _ _ _ hcl y (.inl (relab_cell (fun z hz => (hall z hz).1.1) hy))
  · exact closOf_in _ _ _ hcl (fun z a h => by simp at h) y a hy
theorem in_inv (O : Ok sc n c) (I : Inv c X ad ρ s) {scope : Scope} {x : Str} (hc : compOk scope sc x = true) {cl : List (Str × Addr)} (hcl : closOf c.env.cells scope.names [] = some cl) {C D : Addr} (hC : s.heap.get? C = none) (hD : s.heap.get? D = none)
    {G : List (Value × PV)} {s₂ s₃ : Shared} (x₂ : Nxt c.H c.F s s₂) (x₃ : Nxt c.H c.F s₂ s₃) (hC₂ : s₂.heap.get? C = none) (hD₂ : s₂.heap.get? D = none) (hG : ∀ g ∈ G, Rp c.w X s₂.heap g.2 g.1) {m : Str → Option Value} (hn : s₃.heap.Ns C m) (hDe : ∃ o, s₃.heap.get? D = some o) :
    Inv (inCx c scope cl C D X s G) (C :: D :: X) ad (capt scope sc ρ) s₃ := by
  have hc' := hc
  simp only [compOk, Bool.and_eq_true, List.all_eq_true, Bool.or_eq_true, beq_iff_eq, bne_iff_ne] at hc
  obtain ⟨⟨hk, hall⟩, hx⟩ := hc
  have hrel : relabel scope c.env = relab scope sc := relabel_is O.kind O.names
  have I₂ := I.nxt O x₂
  have I₃ := I₂.nxt O x₃
  have hF' : ∀ a ∈ c.F, a ∈ C :: D :: X := fun a h => .tail _ (.tail _ (I.sub a (O.hF a h)))
  have x := x₂.trans x₃
  have hkd : ∀ y e, (y, e) ∈ capt scope sc ρ → (y, e) ∈ ρ ∧ (relab scope sc).names.lookup y = some .cell ∧ sc.names.lookup y = some .cell ∧ isVal e = true := fun y e h => by
    simp only [capt, List.mem_filter, Bool.and_eq_true, beq_iff_eq] at h
    exact ⟨h.1, h.2.1.1, h.2.1.2, h.2.2⟩
  have hkd' : ∀ y, (inCx c scope cl C D X s G).env.kindOf y = (relab scope sc).names.lookup y := fun y => by
    show (relabel scope c.env).names.lookup y = _
    rw [hrel]
  refine ⟨I₃.wf, x.ext, x.gens, x.os, fun a h => h, fun a h => ?_, fun p hp => (nomatch hp), fun y a hy => ?_, fun g hg => ?_, fun y e h => .inr ?_, I.nd.sublist ((List.filter_sublist).map _), ⟨m, hn, fun y e h hl => ?_⟩, fun y e h hl => ?_, fun y z l l' hy hz => ?_, fun y l hy => ?_⟩
  · rcases List.mem_cons.mp h with rfl | h
    · obtain ⟨o, _, _, ho, _⟩ := hn; exact ⟨o, ho⟩
    · rcases List.mem_cons.mp h with rfl | h
      · exact hDe
      · exact I₃.ex a h
  · exact I₃.cells y a (closOf_in _ _ _ hcl (fun z a h => by simp at h) y a hy)
  · exact Rp.grow hF' I₂.wf.tabs x₃.ext.grow _ _ (Rp.fresh hC₂ _ _ (Rp.fresh hD₂ _ _ (hG g hg)))
  · rw [hkd']; exact (hkd y e h).2.1
  · rw [hkd', (hkd y e h).2.1] at hl; cases hl
  · obtain ⟨h1, h2, h3, h4⟩ := hkd y e h
    obtain ⟨a, v, hca, hv, r⟩ := I.cel y e h1 ((O.names y).trans h3)
    obtain ⟨b, hb⟩ := closOf_has _ _ _ hcl y (.inl (relab_cell (fun z hz => (hall z hz).1.1) h2))
    have := closOf_in _ _ _ hcl (fun z a h => by simp at h) y b hb
    rw [hca] at this; cases this
    refine ⟨a, v, hb, IsCell.grow hv I.wf.tabs x.ext.grow, ?_⟩
    cases e with
    | val d => exact Rp.grow hF' I.wf.tabs x.ext.grow _ _ (Rp.fresh hC _ _ (Rp.fresh hD _ _ r))
    | own l => cases h4
    | app z => cases h4
  · have := (hkd y _ hy).2.2.2; cases this
  · have := (hkd y _ hy).2.2.2; cases this
structure Shown (c : Cx) (X : List Addr) (s : Shared) (D C : Addr) (s' : Shared) (rs : List PV) : Prop where
  dn : s.heap.get? D = none
  cn : s.heap.get? C = none
  ne : D ≠ C
  nxt : Nxt c.H c.F s s'
  ns : ∃ m, s'.heap.Ns C m
  lst : ∃ ys, Lst s'.heap D ys ∧ Rps c.w (C :: D :: X) s'.heap rs ys
theorem drop_at {ds : List PV} {i : Nat} {d : PV} (h : ds[i]? = some d) : ds.drop i = d :: ds.drop (i + 1) := by
  obtain ⟨hlt, e⟩ := List.getElem?_eq_some_iff.mp h
  rw [List.drop_eq_getElem_cons hlt, e]
theorem capt_own {scope : Scope} {x : Str} {d : PV} {z : Str} {l : List PV} : (z, Ent.own l) ∉ setE (capt scope sc ρ) x (.val d) := fun hz => by
  rcases List.mem_cons.mp hz with q | q
  · cases q
  · have := (mem_without q).1
    simp only [capt, List.mem_filter, Bool.and_eq_true] at this
    cases this.2.2
theorem capt_back {scope : Scope} {x : Str} (hx : (relab scope sc).names.lookup x = some .local) {c' : Cx} {X' : List Addr} {d : PV} {s₀ s₄ : Shared} (I₀ : Inv c' X' ad (capt scope sc ρ) s₀) (J : Inv c' X' ad (setE (capt scope sc ρ) x (.val d)) s₄) : Inv c' X' ad (capt scope sc ρ) s₄ :=
  J.sub' I₀.nd fun y e hy => by
    refine .tail _ (List.mem_filter.mpr ?_)
    simp only [Bool.and_eq_true, bne_iff_ne, Bool.not_eq_true']
    simp only [capt, List.mem_filter, Bool.and_eq_true, beq_iff_eq] at hy
    refine ⟨by simp only [capt, List.mem_filter, Bool.and_eq_true, beq_iff_eq]; exact hy, fun q => ?_, ?_⟩
    · rw [q, hx] at hy; cases hy.2.1.1
    · cases e <;> first | rfl | cases hy.2.2
theorem comp_in {sc' : Scope} {c' : Cx} {X' : List Addr} {ρ' : Rho} (O' : Ok sc' n c') {x : Str} {px : Pos} {elt iter : Expr} {ifs : List Expr} {scope : Scope} {pos : Pos} (hkx : c'.env.kindOf x = some .local) (hpin : c'.pin = [])
    (back : ∀ d s, Inv c' X' ad (setE ρ' x (.val d)) s → Inv c' X' ad ρ' s) (vals : ∀ d z l, (z, Ent.own l) ∉ setE ρ' x (.val d)) {tt : Rho → T Bool} {te : Rho → T PV} (htt : SndIfs sc' n ifs tt) (hte : SndE sc' n elt te)
    {D J : Addr} {ax : List Addr} {ds : List PV} {P : Nat → Value → Prop} {St : Nat → Heap → Prop} (hD0 : c'.h0.get? D = none) (hJ0 : c'.h0.get? J = none) (hDX : D ∈ X') (hCD : D ≠ c'.env.locals) (hJC : J ≠ c'.env.locals) (hJD : J ≠ D) (hJX : J ∉ X')
    (S : Src c' J ax c'.gh ds P St) (hDax : D ∉ ax) (hCax : c'.env.locals ∉ ax) (hlen : ds.length ≤ sizeLine) {R : Result → Shared → Prop} {s₀ : Shared} (I₀ : Inv c' X' ad ρ' s₀) (st₀ : St 0 s₀.heap) (hl₀ : Lst s₀.heap D [])
    {K : List PV → Prop} (hK : ∀ rs, K rs → ∀ s', Inv c' X' ad ρ' s' → (∃ ys, Lst s'.heap D ys ∧ Rps c'.w X' s'.heap rs ys) → R (.ok .next) s') (h : (compT tt te ρ' x ds []).Holds K) :
    codeAny (model pw c'.w) c'.A (.compLoop (.ListComp elt [⟨.Name x px, iter, ifs, 0⟩] scope pos) 0 (.ref J) (.ref D) c'.env) R s₀ := by
  have nopin : ∀ (a : Addr), ∀ p ∈ c'.pin, p.1 ≠ a := fun a p hp => by rw [hpin] at hp; cases hp
  have hCX : c'.env.locals ∈ X' := I₀.sub _ O'.locX
  refine codeAny_compLoop_tests (fun k s' => ∃ i acc ys, k = ds.length + 1 - i ∧ i ≤ ds.length ∧ Inv c' X' ad ρ' s' ∧ St i s'.heap ∧ Lst s'.heap D ys ∧ Rps c'.w X' s'.heap acc ys ∧ acc.length ≤ i ∧
    (compT tt te ρ' x (ds.drop i) acc).Holds K) ?_ (ds.length + 1) ⟨0, [], [], rfl, Nat.zero_le _, I₀, st₀, hl₀, rfl, Nat.le_refl _, h⟩
  rintro k s' ⟨i, acc, ys, rfl, hi, I', st, hl, hr, hacc, h'⟩
  obtain ⟨oJ, hoJ, hiJ⟩ := S.it i _ st
  have ext : ∀ {h₁ : Heap}, (∀ b o, b ∉ [J] → s'.heap.get? b = some o → h₁.get? b = some o) → Heap.ExtBut J s'.heap h₁ := fun hk b o hb e => hk b o (fun q => hb (List.mem_singleton.mp q)) e
  by_cases hlt : i < ds.length
  · refine S.W.item i s' _ _ hlt st fun v h₁ tk hP st₁ hk => ?_
    have hk' := ext hk
    have I₁ : Inv c' X' ad ρ' { s' with heap := h₁, toks := tk } := I'.iter O' hk' (fun hm => absurd hm hJX) hoJ hiJ hJ0 (nopin _)
    have hl₁ : Lst h₁ D ys := hl.same hk' fun q => hJD q.symm
    have hr₁ : Rps c'.w X' h₁ acc ys := Rps.same hk' (.inr fun o e => by rw [hoJ] at e; cases e; exact ⟨hiJ.2.1, hiJ.2.2.1⟩) _ _ hr
    obtain ⟨d, hd⟩ : ∃ d, ds[i]? = some d := ⟨_, List.getElem?_eq_getElem hlt⟩
    have rv : Rp c'.w X' h₁ d v := (S.val i v d hP hd).elim (fun q => I₁.ghs _ q) fun q => q.rp
    rw [drop_at hd] at h'
    obtain ⟨m, hn, hm⟩ := I₁.ns
    refine wpAny_assign_Name (wpAny_storeName_local hkx hn (fun h₂ hn₂ hs₂ => ?_) ?_)
    · have I₂ : Inv c' X' ad (setE ρ' x (.val d)) { s' with heap := h₂, toks := tk + 1 } :=
        I₁.store O' hkx rfl hn (fun y e hy hky => hm y e (mem_without hy).1 hky) (show EntIn _ _ _ _ _ _ (.val d) from rv) hn₂ hs₂
      have st₂ : St (i + 1) h₂ := S.W.frame _ _ _ st₁ fun b hb o e => hs₂.extBut b o (fun q => (List.mem_cons.mp hb).elim (fun q' => hJC (q'.symm.trans q)) fun q' => hCax (q ▸ q')) e
      have hl₂ : Lst h₂ D ys := hl₁.same hs₂.extBut hCD
      have hr₂ : Rps c'.w X' h₂ acc ys := Rps.same hs₂.extBut (.inl hCX) _ _ hr₁
      refine htt _ O' _ _ _ _ I₂ _ _ (T.holds_mono (fun b hb s₃ x₃ => ?_) _ (T.holds_bind _ h'))
      have I₃ := I₂.nxt O' x₃
      have st₃ : St (i + 1) s₃.heap := S.grow st₂ I₂.wf.tabs x₃.ext.grow
      have hl₃ := hl₂.grow I₂.wf.tabs x₃.ext.grow
      have hr₃ := I₂.rps O' x₃ hr₂
      cases b with
      | false =>
        rw [if_neg (by decide)]
        exact ⟨ds.length + 1 - (i + 1), by omega, i + 1, acc, ys, rfl, hlt, back d _ I₃, st₃, hl₃, hr₃, Nat.le_succ_of_le hacc, hb⟩
      | true =>
        rw [if_pos rfl]
        refine hte _ O' _ _ _ _ I₃ _ _ (T.holds_mono (fun y hy vy s₄ x₄ ry => ?_) _ (T.holds_bind _ hb))
        have I₄ := I₃.nxt O' x₄
        have st₄ : St (i + 1) s₄.heap := S.grow st₃ I₃.wf.tabs x₄.ext.grow
        have hl₄ := hl₃.grow I₃.wf.tabs x₄.ext.grow
        have hr₄ := I₃.rps O' x₄ hr₃
        refine wpAny_list_append_plain hl₄ (fun h₅ hl₅ hs₅ => ?_) (by rw [List.size_toArray, hr₄.length]; omega)
        have hl₅' : Lst h₅ D (ys ++ [vy]) := by simpa [Lst] using hl₅
        have I₅ : Inv c' X' ad (setE ρ' x (.val d)) { s₄ with heap := h₅ } := I₄.lst O' (t := s₄.toks) hs₅ hl₄ hl₅' hDX hD0 (nopin _) fun z l hz => absurd hz (vals d z l)
        refine ⟨ds.length + 1 - (i + 1), by omega, i + 1, acc ++ [y], ys ++ [vy], rfl, hlt, back d _ I₅, ?_, hl₅', ?_, by rw [List.length_append]; exact Nat.succ_le_succ hacc, hy⟩
        · exact S.W.frame _ _ _ st₄ fun b hb o e => hs₅.extBut b o (fun q => (List.mem_cons.mp hb).elim (fun q' => hJD (q'.symm.trans q)) fun q' => hDax (q ▸ q')) e
        · exact (Rps.same hs₅.extBut (.inl hDX) _ _ hr₄).snoc (Rp.same hs₅.extBut (.inl hDX) _ _ ry)
    · show (c'.env.scope.kind == .class || (c'.env.scope.kind == .module && _)) = false
      rw [O'.kind]; rfl
  · have hin : i = ds.length := by omega
    subst hin
    refine S.W.done s' _ _ st fun h₁ tk hk => ?_
    have hk' := ext hk
    rw [List.drop_length] at h'
    exact hK _ h' _ (I'.iter O' hk' (fun hm => absurd hm hJX) hoJ hiJ hJ0 (nopin _)) ⟨ys, hl.same hk' fun q => hJD q.symm, Rps.same hk' (.inr fun o e => by rw [hoJ] at e; cases e; exact ⟨hiJ.2.1, hiJ.2.2.1⟩) _ _ hr⟩
theorem comp_var (O : Ok sc n c) {scope : Scope} {x : Str} (hc : compOk scope sc x = true) : (relab scope sc).names.lookup x = some .local := by
  simp only [compOk, Bool.and_eq_true, beq_iff_eq] at hc
  have := lookup_relabel_local (env := c.env) (x := x) hc.2
  rw [← relabel_is O.kind O.names]; exact this
theorem comp_loop (O : Ok sc n c) (I : Inv c X ad ρ s) {scope : Scope} {x : Str} {px : Pos} {elt iter : Expr} {ifs : List Expr} {pos : Pos} (hc : compOk scope sc x = true) {cl : List (Str × Addr)} (hcl : closOf c.env.cells scope.names [] = some cl)
    {tt : Rho → T Bool} {te : Rho → T PV} (htt : SndIfs (relab scope sc) n ifs tt) (hte : SndE (relab scope sc) n elt te)
    {C D J : Addr} {ax : List Addr} {G : List (Value × PV)} {ds : List PV} {P : Nat → Value → Prop} {St : Nat → Heap → Prop} (hC : s.heap.get? C = none) (hD : s.heap.get? D = none) (hJ : s.heap.get? J = none) (hCD : D ≠ C) (hJC : J ≠ C) (hJD : J ≠ D)
    (S : Src c J ax G ds P St) (hDax : D ∉ ax) (hCax : C ∉ ax) (hlen : ds.length ≤ sizeLine) {R : Result → Shared → Prop} {s₀ : Shared} (I₀ : Inv (inCx c scope cl C D X s G) (C :: D :: X) ad (capt scope sc ρ) s₀) (st₀ : St 0 s₀.heap) (hl₀ : Lst s₀.heap D [])
    (h : (compT tt te (capt scope sc ρ) x ds []).Holds fun rs => ∀ s', Shown c X s D C s' rs → R (.ok .next) s') :
    codeAny (model pw c.w) c.A (.compLoop (.ListComp elt [⟨.Name x px, iter, ifs, 0⟩] scope pos) 0 (.ref J) (.ref D) (compEnvC scope cl C c.env)) R s₀ := by
  have O' := in_ok O I hc hcl hC (D := D) G
  have hx := comp_var O hc
  have hJX : J ∉ C :: D :: X := fun hm => by
    rcases List.mem_cons.mp hm with q | hm
    · exact hJC q
    · rcases List.mem_cons.mp hm with q | hm
      · exact hJD q
      · obtain ⟨o, e⟩ := I.ex J hm; rw [hJ] at e; cases e
  exact comp_in (c' := inCx c scope cl C D X s G) O' ((O'.names x).trans hx) rfl (fun d s J => capt_back hx I₀ J) (fun d z l => capt_own) htt hte hD hJ (.tail _ (.head _)) hCD hJC hJD hJX ⟨S.W, S.val, S.it, S.soft⟩ hDax hCax hlen I₀ st₀ hl₀
    (fun rs hr s' I' hy => hr s' ⟨hD, hC, hCD, ⟨I'.ext, I'.gens, I'.os⟩, let ⟨m, hn, _⟩ := I'.ns; ⟨m, hn⟩, hy⟩) h
end
end Mine
namespace Mine
section
variable {sc : Scope} {n : Nat}
theorem comp_core {c : Cx} (O : Ok sc n c) {X : List Addr} {ad : Str → Addr} {ρ : Rho} {s : Shared} (I : Inv c X ad ρ s) {scope : Scope} {x : Str} {px : Pos} {elt iter : Expr} {ifs : List Expr} {pos pos' : Pos} (hc : compOk scope sc x = true) (hset : noSet iter = true)
    {ti : Rho → T (List PV)} {tt : Rho → T Bool} {te : Rho → T PV} (hi : SndI sc n iter ti false) (htt : SndIfs (relab scope sc) n ifs tt) (hte : SndE (relab scope sc) n elt te) {use : Option (Value → Sem Unit)} {Q E : Value → Shared → Prop}
    (h : (ti ρ).Holds fun ds => ds.length ≤ sizeLine ∧ (compT tt te (capt scope sc ρ) x ds []).Holds fun rs => ∀ D C s', Shown c X s D C s' rs → compPost (model pw c.w) c.A E use Q (.ref D) C (.ok .next) s') :
    wpAny (model pw c.w) c.A (comprehension (.ListComp elt [⟨.Name x px, iter, ifs, 0⟩] scope pos) scope c.env pos' (newList []) false (eval iter c.env) use) Q E s := by
  have hc' := hc
  simp only [compOk, Bool.and_eq_true, List.all_eq_true, Bool.or_eq_true, beq_iff_eq, bne_iff_ne] at hc'
  obtain ⟨⟨hk, hall⟩, hx⟩ := hc'
  obtain ⟨cl, hcl⟩ := closOf_some (cells := c.env.cells) scope.names [] fun y hy => O.cellEx y (((hall _ hy).2).resolve_left (by simp))
  refine wpAny_comprehension_free (use := use) rfl (noSet_ok hset c.env) (closureFor_of hcl) hk (fun y hy hl => ((hall y hy).1.2).resolve_left (by simp [hl])) ?_
  refine hi c O X ad ρ s I _ _ (T.holds_mono (fun ds hds s₂ J ax G P St x₂ S st hG hJ hJax _ => ?_) _ h)
  obtain ⟨hlen, hds⟩ := hds
  refine wpAny_newObj_type (wpAny_newFunctionEnv (fun y hy => (hall y hy).1.1) (by intro y hy; simp at hy) (fun h₁ hns₁ hsb₁ => ?_) hk)
  dsimp only at hns₁ hsb₁ ⊢
  have I₂ := I.nxt O x₂
  generalize hH2 : s₂.heap.push { cls := .type "list", dict := none, data := .seq ([] : List Value).toArray } = H2 at hns₁ hsb₁ ⊢
  have hCs : H2.objs.size = s₂.heap.objs.size + 1 := by rw [← hH2, Heap.size_push]
  have hDC : s₂.heap.objs.size ≠ H2.objs.size := by rw [hCs]; exact Nat.ne_of_lt (Nat.lt_succ_self _)
  have below : ∀ b, b < s₂.heap.objs.size → b ≠ H2.objs.size ∧ b ≠ s₂.heap.objs.size := fun b hb => ⟨by rw [hCs]; exact Nat.ne_of_lt (Nat.lt_succ_of_lt hb), Nat.ne_of_lt hb⟩
  have old : ∀ b o, s₂.heap.get? b = some o → h₁.get? b = some o := fun b o e => hsb₁.extBut b o (below b (Heap.lt_size e)).1 (Heap.get?_push_of_some _ (hH2 ▸ Heap.get?_push_of_some _ e))
  have hl₀ : Lst h₁ s₂.heap.objs.size [] := ⟨_, hsb₁.extBut _ _ hDC (Heap.get?_push_of_some _ (hH2 ▸ Heap.get?_push_size _ rfl))⟩
  have x₃ : Nxt c.H c.F s₂ { s₂ with heap := h₁, toks := s₂.toks + ([] : List (Str × Value)).length } := ⟨.keep I₂.wf.stays I₂.wf.tabs old, rfl, rfl⟩
  have hD₂ : s₂.heap.get? s₂.heap.objs.size = none := fresh_size (Nat.le_refl _)
  have hC₂ : s₂.heap.get? H2.objs.size = none := fresh_size (by rw [hCs]; omega)
  have back : ∀ b, s₂.heap.get? b = none → s.heap.get? b = none := fun b e => by
    cases q : s.heap.get? b with
    | none => rfl
    | some o => obtain ⟨o', e'⟩ := x₂.ext.there I.wf.tabs ⟨o, q⟩; rw [e] at e'; cases e'
  obtain ⟨oJ, hoJ, _⟩ := S.it 0 _ st
  have hJC : J ≠ H2.objs.size := fun q => by rw [q, hC₂] at hoJ; cases hoJ
  have hJD : J ≠ s₂.heap.objs.size := fun q => by rw [q, hD₂] at hoJ; cases hoJ
  have hax : ∀ b ∈ ax, s₂.heap.get? b ≠ none := fun b hb e => by obtain ⟨o, ho, _⟩ := S.soft 0 _ st b hb; rw [e] at ho; cases ho
  have st₁ : St 0 h₁ := S.W.frame _ _ _ st fun b _ o e => old b o e
  have I₁ := in_inv O I hc hcl (back _ hC₂) (back _ hD₂) x₂ x₃ hC₂ hD₂ hG hns₁ (let ⟨k, e⟩ := hl₀; ⟨_, e⟩)
  have loop : ∀ s₃ : Shared, s₃ = { s₂ with heap := h₁, toks := s₂.toks + ([] : List (Str × Value)).length } →
      codeAny (model pw c.w) c.A (.compLoop (.ListComp elt [⟨.Name x px, iter, ifs, 0⟩] scope pos) 0 (.ref J) (.ref s₂.heap.objs.size) (compEnvC scope cl H2.objs.size c.env))
        (compPost (model pw c.w) c.A E use Q (.ref s₂.heap.objs.size) H2.objs.size) s₃ := by
    rintro s₃ rfl
    exact comp_loop O I hc hcl htt hte (back _ hC₂) (back _ hD₂) hJ hDC hJC hJD S (fun q => hax _ q hD₂) (fun q => hax _ q hC₂) hlen I₁ st₁ hl₀ (T.holds_mono (fun rs hr s' sh => hr _ _ s' sh) _ hds)
  exact codeAny_compStart_list (loop _ rfl) (S.W.self 0 _ _ _ st₁ (loop _ rfl))
theorem Shown.last {c : Cx} (O : Ok sc n c) {X : List Addr} {ad : Str → Addr} {ρ : Rho} {s s' : Shared} (I : Inv c X ad ρ s) {D C : Addr} {rs : List PV} (sh : Shown c X s D C s' rs) {h' : Heap} (hs : Heap.SameBut C s'.heap h') :
    Nxt c.H c.F s { s' with heap := h' } ∧ Rp c.w X h' (.list rs) (.ref D) := by
  obtain ⟨m, hn⟩ := sh.ns
  obtain ⟨oC, es, k, hoC, hdC⟩ := nsObj hn
  have hcode : noCode oC := ⟨fun ps e => (by rw [e] at hdC; cases hdC), fun vs q t e => by rw [hdC] at e; cases e⟩
  obtain ⟨ys, hl, hr⟩ := sh.lst
  refine ⟨⟨sh.nxt.ext.same I.wf.stays hs hoC hcode sh.cn, sh.nxt.gens, sh.nxt.os⟩, D, ys, rfl, fun q => ?_, hl.same hs.extBut sh.ne, ?_⟩
  · obtain ⟨o, e⟩ := I.ex D q; rw [sh.dn] at e; cases e
  · exact Rps.mono (fun a ha => .tail _ (.tail _ ha)) _ _ (Rps.same hs.extBut (.inl (.head _)) _ _ hr)
noncomputable def compTs (ti : Rho → T (List PV)) (tt : Rho → T Bool) (te : Rho → T PV) (scope sc : Scope) (x : Str) (ρ : Rho) : T (List PV) :=
  (ti ρ).bind fun ds => .chk (decide (ds.length ≤ sizeLine)) (compT tt te (capt scope sc ρ) x ds [])
theorem sndE_ListComp {scope : Scope} {x : Str} {px : Pos} {elt iter : Expr} {ifs : List Expr} {pos : Pos} (hc : compOk scope sc x = true) (hset : noSet iter = true)
    {ti : Rho → T (List PV)} {tt : Rho → T Bool} {te : Rho → T PV} (hi : SndI sc n iter ti false) (htt : SndIfs (relab scope sc) n ifs tt) (hte : SndE (relab scope sc) n elt te) :
    SndE sc n (.ListComp elt [⟨.Name x px, iter, ifs, 0⟩] scope pos) fun ρ => (compTs ti tt te scope sc x ρ).bind fun rs => .ret (.list rs) := fun c O X ad ρ s I Q E h => by
  rw [eval_ListComp]
  refine comp_core O I hc hset hi htt hte (use := none) ?_
  have h := T.holds_bind _ (T.holds_bind _ h)
  refine T.holds_mono (fun ds hd => ?_) _ h
  obtain ⟨hl, hd⟩ := T.holds_chk hd
  refine ⟨by simpa using hl, T.holds_mono (fun rs hr D C s' sh => ?_) _ hd⟩
  obtain ⟨m, hn⟩ := sh.ns
  refine ⟨m, hn, fun h' hs => ?_⟩
  obtain ⟨a, b⟩ := sh.last O I hs
  exact hr _ _ a b
end
end Mine
namespace Mine
section
variable {sc : Scope} {n : Nat} {c : Cx} {X : List Addr} {ad : Str → Addr} {ρ : Rho} {s : Shared}
noncomputable def Fits (c : Cx) (ad : Str → Addr) (ρ : Rho) (x : Str) (e : Ent) : Prop := ∀ l, e = .own l → c.h0.get? (ad x) = none ∧ ad x ∉ c.X0 ∧ (∀ p ∈ c.pin, p.1 ≠ ad x) ∧ ∀ y l', (y, Ent.own l') ∈ without ρ x → ad y ≠ ad x
theorem Fits.val {d : PV} {x : Str} : Fits c ad ρ x (.val d) := fun _ e => by cases e
theorem Inv.put (O : Ok sc n c) (I : Inv c X ad (without ρ x) s) {v : Value} {e : Ent} {a : Addr} {oa ob : Obj} {h' : Heap} {t : Nat} (hf : Fits c ad ρ x e)
    (ho : s.heap.get? a = some oa) (ho' : h'.get? a = some ob) (h1 : ∀ us k, oa.data ≠ .seq us k) (h2 : ∀ us, oa.data ≠ .fields us) (h2' : ∀ us, ob.data ≠ .fields us) (h3 : ∀ es n, oa.data = .dict es n → ∃ es' n', ob.data = .dict es' n') (hcode : noCode oa) (haX : a ∈ X) (h0 : c.h0.get? a = none) (hpin : ∀ p ∈ c.pin, p.1 ≠ a)
    (hs : Heap.SameBut a s.heap h') (r : EntIn c.w X ad s.heap x v e) (hkx : c.env.kindOf x = some .local ∨ c.env.kindOf x = some .cell)
    (hns : ∃ m', h'.Ns c.env.locals m' ∧ (∀ y e', (y, e') ∈ without ρ x → c.env.kindOf y = some .local → ∃ u, m' y = some u ∧ EntIn c.w X ad s.heap y u e') ∧ (c.env.kindOf x = some .local → m' x = some v))
    (hcl : ∀ y e', (y, e') ∈ without ρ x → c.env.kindOf y = some .cell → ∃ b u, c.env.cells.lookup y = some b ∧ h'.IsCell b (some u) ∧ EntIn c.w X ad s.heap y u e')
    (hcs : ∀ y b, c.env.cells.lookup y = some b → ∃ u, h'.IsCell b u)
    (hcx : c.env.kindOf x = some .cell → ∃ b, c.env.cells.lookup x = some b ∧ h'.IsCell b (some v)) : Inv c X ad (setE ρ x e) { s with heap := h', toks := t } := by
  have hH : c.H.get? a = none := by
    cases e : c.H.get? a with
    | none => rfl
    | some o => have := O.base _ o e; rw [h0] at this; cases this
  refine ⟨I.wf.same hs ho hcode hH ho' (fun _ vs e => h2' vs e) h3, I.ext.same O.base hs ho hcode h0, I.gens, I.os, I.sub, fun b hb => ?_, fun p hp => ?_, hcs, fun g hg => Rp.same hs.extBut (.inl haX) _ _ (I.ghs g hg), fun y e' hy => ?_, ?_, ?_, fun y e' hy hky => ?_, fun y z l l' hy hz => ?_, fun y l hy => ?_⟩
  · by_cases q : b = a
    · subst q; exact ⟨_, ho'⟩
    · obtain ⟨o, e⟩ := I.ex b hb; exact ⟨o, (hs.2 b q).trans e⟩
  · obtain ⟨k1, k2, k3⟩ := I.pins p hp
    exact ⟨(hs.2 _ (hpin p hp)).trans k1, k2, k3⟩
  · rcases List.mem_cons.mp hy with q | q
    · cases q; exact hkx
    · exact I.kinds y e' q
  · simp only [setE, List.map_cons, List.nodup_cons]
    refine ⟨fun hm => ?_, I.nd⟩
    obtain ⟨⟨y, e'⟩, hy, rfl⟩ := List.mem_map.mp hm
    exact (mem_without hy).2.1 rfl
  · obtain ⟨m', hn', hm', hx'⟩ := hns
    refine ⟨m', hn', fun y e' hy hky => ?_⟩
    rcases List.mem_cons.mp hy with q | q
    · cases q; exact ⟨v, hx' hky, r.loc hs.extBut ho haX h1 h2⟩
    · obtain ⟨u, hu, r'⟩ := hm' y e' q hky; exact ⟨u, hu, r'.loc hs.extBut ho haX h1 h2⟩
  · rcases List.mem_cons.mp hy with q | q
    · cases q; obtain ⟨b, hb, hv⟩ := hcx hky; exact ⟨b, v, hb, hv, r.loc hs.extBut ho haX h1 h2⟩
    · obtain ⟨b, u, hb, hu, r'⟩ := hcl y e' q hky; exact ⟨b, u, hb, hu, r'.loc hs.extBut ho haX h1 h2⟩
  · rcases List.mem_cons.mp hy with q | q
    · rcases List.mem_cons.mp hz with q' | q'
      · cases q; cases q'; exact fun _ => rfl
      · cases q; exact fun e => absurd e.symm ((hf l rfl).2.2.2 z l' q')
    · rcases List.mem_cons.mp hz with q' | q'
      · cases q'; exact fun e => absurd e ((hf l' rfl).2.2.2 y l q)
      · exact I.inj y z l l' q q'
  · rcases List.mem_cons.mp hy with q | q
    · cases q; exact ⟨(hf l rfl).1, (hf l rfl).2.1, (hf l rfl).2.2.1⟩
    · exact I.ownf y l q
structure Apart (c : Cx) : Prop where
  cinj : ∀ x y a, c.env.cells.lookup x = some a → c.env.cells.lookup y = some a → x = y
  cnew : ∀ x a, c.env.cells.lookup x = some a → c.h0.get? a = none
  top : ∃ outer, c.frs = c.env :: outer ∧ c.env.frame = some c.env.locals
  own : ∃ x ∈ fnTab, c.env.code = .ref x.2.2.1 ∧ c.env.qual = nameAt x.2.1 ++ ".<locals>." ∧ c.env.scope = (fdAt x.2.1 0 .none).scope
theorem wp_store (O : Ok sc n c) (Ap : Apart c) (I : Inv c X ad (without ρ x) s) (hv : isVar sc x = true) {v : Value} {e : Ent} (hf : Fits c ad ρ x e) (r : EntIn c.w X ad s.heap x v e) {Q : Unit → Shared → Prop} {E : Value → Shared → Prop}
    (h : ∀ s', Inv c X ad (setE ρ x e) s' → Q () s') : wpAny (model pw c.w) c.A (storeName c.env x v) Q E s := by
  have hp : (c.env.scope.kind == .class || (c.env.scope.kind == .module && c.env.locals != c.env.globals)) = false := by rw [O.kind]; rfl
  obtain ⟨m, hn, hm⟩ := id I.ns
  rcases isVar_or hv with hk | hk
  · have hk' : c.env.kindOf x = some .local := (O.names x).trans hk
    refine wpAny_storeName_local hk' hn (fun h' hn' hs => h _ ?_) hp
    obtain ⟨oa, es, k, ho, hd⟩ := nsObj hn
    obtain ⟨ob, es', k', ho', hd'⟩ := nsObj hn'
    refine I.put O hf ho ho' (fun us k e => by rw [hd] at e; cases e) (fun us e => by rw [hd] at e; cases e) (fun us e => by rw [hd'] at e; cases e) (fun _ _ _ => ⟨_, _, hd'⟩) ⟨fun ps e => (by rw [e] at hd; cases hd), fun vs q t e => by rw [hd] at e; cases e⟩ (I.sub _ O.locX) O.hL (fun p hp q => by obtain ⟨k1, _, k3, _⟩ := I.pins p hp; rw [q, ho] at k1; cases k1; exact k3 _ _ hd) hs r (.inl hk') ⟨_, hn', fun y e' hy hky => ?_, fun _ => by simp⟩ (fun y e' hy hky => ?_) (fun y b hb => let ⟨w, o, e1, e2⟩ := I.cells y b hb; ⟨w, o, (hs.2 b fun q => by rw [q, ho] at e1; cases e1; rw [hd] at e2; cases e2).trans e1, e2⟩) (fun q => by rw [hk'] at q; cases q)
    · obtain ⟨u, hu, r'⟩ := hm y e' hy hky
      exact ⟨u, by simp [(mem_without hy).2.1, hu], r'⟩
    · obtain ⟨b, u, hc, ⟨o, e1, e2⟩, r'⟩ := I.cel y e' hy hky
      exact ⟨b, u, hc, ⟨o, (hs.2 b fun q => by rw [q, ho] at e1; cases e1; rw [hd] at e2; cases e2).trans e1, e2⟩, r'⟩
  · have hk' : c.env.kindOf x = some .cell := (O.names x).trans hk
    obtain ⟨a, ha⟩ := O.cellEx x hk
    obtain ⟨v₀, hv₀⟩ := I.cells x a ha
    refine wpAny_storeName_cell O.kind hk' ha hv₀ fun h' hc' hs => h _ ?_
    obtain ⟨oa, ho, hd⟩ := hv₀
    obtain ⟨ob, ho', hd'⟩ := id hc'
    have := I.put O (t := s.toks) hf ho ho' (fun us k e => by rw [hd] at e; cases e) (fun us e => by rw [hd] at e; cases e) (fun us e => by rw [hd'] at e; cases e) (fun es n e => by rw [hd] at e; cases e) ⟨fun ps e => (by rw [e] at hd; cases hd), fun vs q t e => by rw [hd] at e; cases e⟩ (I.sub _ (O.celX x a ha)) (Ap.cnew x a ha) (fun p hp q => by obtain ⟨k1, _, _, k4, _⟩ := I.pins p hp; rw [q, ho] at k1; cases k1; exact k4 _ hd) hs r (.inr hk') ⟨m, Heap.Ns.at' hn fun o e => (hs.2 _ fun q => by
        obtain ⟨o1, es, k, e1, e2⟩ := nsObj hn
        rw [q, ho] at e1; cases e1; rw [hd] at e2; cases e2).trans e, hm, fun q => by rw [hk'] at q; cases q⟩ (fun y e' hy hky => ?_) (fun y b hb => by
        by_cases q : b = a
        · subst q; exact ⟨_, hc'⟩
        · obtain ⟨w, o, e1, e2⟩ := I.cells y b hb; exact ⟨w, o, (hs.2 b q).trans e1, e2⟩) (fun _ => ⟨a, ha, hc'⟩)
    · exact this
    · obtain ⟨b, u, hb, ⟨o, e1, e2⟩, r'⟩ := I.cel y e' hy hky
      exact ⟨b, u, hb, ⟨o, (hs.2 b fun q => (mem_without hy).2.1 (Ap.cinj _ _ _ hb (q ▸ ha))).trans e1, e2⟩, r'⟩
end
end Mine
namespace Mine
inductive Fl where
  | next
  | brk
  | ret (d : PV)
noncomputable def FlOk (c : Cx) (s : Shared) : Fl → Flow → Prop
  | .next, .next => True
  | .brk, .brk => True
  | .ret d, .ret v => Rp c.w c.X0 s.heap d v
  | _, _ => False
noncomputable abbrev St (c : Cx) (Q : Flow → Shared → Prop) (r : Rho × Fl) : Prop := ∀ s' X' ad' fl, Inv c X' ad' r.1 s' → FlOk c s' r.2 fl → Q fl s'
noncomputable def SndX (sc : Scope) (n : Nat) (st : Stmt) (t : Rho → T (Rho × Fl)) : Prop :=
  ∀ c : Cx, Ok sc n c → Apart c → ∀ X ad ρ s, Inv c X ad ρ s → ∀ (Q : Flow → Shared → Prop) (E : Value → Shared → Prop), (t ρ).Holds (St c Q) → wpAny (model pw c.w) c.A (exec st c.env) Q E s
noncomputable def SndS (sc : Scope) (n : Nat) (ss : List Stmt) (t : Rho → T (Rho × Fl)) : Prop :=
  ∀ c : Cx, Ok sc n c → Apart c → ∀ X ad ρ s, Inv c X ad ρ s → ∀ (Q : Flow → Shared → Prop) (E : Value → Shared → Prop), (t ρ).Holds (St c Q) → wpAny (model pw c.w) c.A (execs ss c.env) Q E s
section
variable {sc : Scope} {n : Nat}
theorem sndX_fail {st : Stmt} : SndX sc n st fun _ => .fail := fun _ _ _ _ _ _ _ _ _ _ h => h.elim
theorem sndS_nil : SndS sc n [] fun ρ => .ret (ρ, .next) := fun c O Ap X ad ρ s I Q E h => wpAny_execs_nil (h s X ad _ I trivial)
noncomputable def seqT (t1 t2 : Rho → T (Rho × Fl)) (ρ : Rho) : T (Rho × Fl) := (t1 ρ).bind fun r => match r.2 with | .next => t2 r.1 | .brk => .ret r | .ret _ => .ret r
theorem sndS_cons {st : Stmt} {ss : List Stmt} {t1 t2 : Rho → T (Rho × Fl)} (h1 : SndX sc n st t1) (h2 : SndS sc n ss t2) : SndS sc n (st :: ss) (seqT t1 t2) := fun c O Ap X ad ρ s I Q E h => by
  refine wpAny_execs_cons (h1 c O Ap X ad ρ s I _ _ (T.holds_mono (fun r hr s' X' ad' fl I' hf => ?_) _ (T.holds_bind _ h)))
  obtain ⟨ρ', f⟩ := r
  cases f <;> cases fl <;> first | exact hf.elim | skip
  · exact h2 c O Ap X' ad' ρ' s' I' _ _ hr
  · exact hr s' X' ad' _ I' trivial
  · exact hr s' X' ad' _ I' hf
theorem sndX_Return {e : Expr} {pos : Pos} {t : Rho → T PV} (he : SndE sc n e t) : SndX sc n (.Return (some e) pos) fun ρ => (t ρ).bind fun d => .ret (ρ, .ret d) := fun c O Ap X ad ρ s I Q E h =>
  wpAny_Return_some (he c O X ad ρ s I _ _ (T.holds_mono (fun d hd v s' x r => hd s' X ad (.ret v) (I.nxt O x) (Rp.mono (fun a ha => (I.sub a ha)) _ _ r)) _ (T.holds_bind _ h)))
theorem sndX_Break {pos : Pos} : SndX sc n (.Break pos) fun ρ => .ret (ρ, .brk) := fun c O Ap X ad ρ s I Q E h => by
  show wpAny _ _ (do standAt pos; pure Flow.brk) _ _ _
  exact wpAny_bind (wpAny_standAt (wpAny_pure (h s X ad _ I trivial)))
theorem sndX_If {e : Expr} {a b : List Stmt} {pos : Pos} {t : Rho → T Bool} {ta tb : Rho → T (Rho × Fl)} (he : SndT sc n e t) (ha : SndS sc n a ta) (hb : SndS sc n b tb) :
    SndX sc n (.If e a b pos) fun ρ => (t ρ).bind fun c => .ite c (ta ρ) (tb ρ) := fun c O Ap X ad ρ s I Q E h => by
  refine wpAny_If (he c O X ad ρ s I _ _ (T.holds_mono (fun d hd s' x => ?_) _ (T.holds_bind _ h)))
  have I' := I.nxt O x
  cases d with
  | true => exact ha c O Ap X ad ρ s' I' _ _ hd
  | false => exact hb c O Ap X ad ρ s' I' _ _ hd
theorem sndX_Assert {e : Expr} {m : Option Expr} {pos : Pos} {t : Rho → T Bool} (he : SndT sc n e t) : SndX sc n (.Assert e m pos) fun ρ => (t ρ).bind fun c => .chk c (.ret (ρ, .next)) := fun c O Ap X ad ρ s I Q E h => by
  show wpAny _ _ (do standAt pos; if ← PySem.isTrue e c.env (eval e c.env) then pure Flow.next else assertFails e.pos (evalOpt m c.env)) _ _ _
  refine wpAny_bind (wpAny_standAt (wpAny_bind (he c O X ad ρ s I _ _ (T.holds_mono (fun d hd s' x => ?_) _ (T.holds_bind _ h)))))
  obtain ⟨hb, hd⟩ := T.holds_chk hd
  rw [if_pos hb]
  exact wpAny_pure (hd s' X ad _ (I.nxt O x) trivial)
noncomputable def noComp : Expr → Bool
  | .ListComp .. => false
  | .SetComp .. => false
  | .DictComp .. => false
  | _ => true
theorem swaps_no {e : Expr} (h : noComp e = true) (t : Option Expr) (l : Nat) (env : Env) : swapsWith e t l env = pure false := by
  cases e <;> first | rfl | cases h
theorem sndX_Assign {x : Str} {px pos : Pos} {e : Expr} {t : Rho → T PV} (hv : isVar sc x = true) (hc : noComp e = true) (he : SndE sc n e t) :
    SndX sc n (.Assign [.Name x px] e pos) fun ρ => (t ρ).bind fun d => .ret (setE ρ x (.val d), .next) := fun c O Ap X ad ρ s I Q E h => by
  refine wpAny_Assign_Name (he c O X ad ρ s I _ _ (T.holds_mono (fun d hd v s' x r => ?_) _ (T.holds_bind _ h))) (swaps_no hc _ _ _)
  exact wp_store O Ap ((I.nxt O x).wo _) hv .val r fun s₂ I₂ => hd s₂ X ad _ I₂ trivial
theorem Inv.addX {c : Cx} (O : Ok sc n c) {X : List Addr} {ad ad' : Str → Addr} {ρ : Rho} {s s₂ : Shared} (I : Inv c X ad ρ s) {a : Addr} (ha : s.heap.get? a = none) (x : Nxt c.H c.F s s₂) (he : ∃ o, s₂.heap.get? a = some o)
    (had : ∀ y l, (y, Ent.own l) ∈ ρ → ad' y = ad y) (hap : ∀ y z, (z, Ent.app y) ∈ ρ → ad' y = ad y) : Inv c (a :: X) ad' ρ s₂ := by
  have I₂ := I.nxt O x
  have hF : ∀ b ∈ c.F, b ∈ a :: X := fun b hb => .tail _ (I.sub b (O.hF b hb))
  have ent : ∀ y e v, (y, e) ∈ ρ → EntIn c.w X ad s.heap y v e → EntIn c.w (a :: X) ad' s₂.heap y v e := fun y e v hy r => by
    cases e with
    | val d => exact Rp.grow hF I.wf.tabs x.ext.grow _ _ (Rp.fresh ha _ _ r)
    | own l =>
      obtain ⟨e, hm, vs, hl, r⟩ := r
      exact ⟨by rw [had y l hy]; exact e, by rw [had y l hy]; exact .tail _ hm, vs, by rw [had y l hy]; exact hl.grow I.wf.tabs x.ext.grow, Rps.grow hF I.wf.tabs x.ext.grow _ _ (Rps.fresh ha _ _ r)⟩
    | app z =>
      obtain ⟨b, e, hb⟩ := EntIn.grow (fun b hb => I.sub b (O.hF b hb)) I.wf.tabs x.ext.grow r
      exact ⟨b, e, by rw [hap z y hy]; exact hb⟩
  refine ⟨I₂.wf, I₂.ext, I₂.gens, I₂.os, fun b hb => .tail _ (I.sub b hb), fun b hb => ?_, fun p hp => let ⟨k1, k2, k3, k4, k5⟩ := I₂.pins p hp; ⟨k1, k2, k3, k4, fun q => (List.mem_cons.mp q).elim (fun q => by obtain ⟨j1, _⟩ := I.pins p hp; rw [q, ha] at j1; cases j1) k5⟩, I₂.cells, fun g hg => Rp.grow hF I.wf.tabs x.ext.grow _ _ (Rp.fresh ha _ _ (I.ghs g hg)), I.kinds, I.nd, ?_, ?_, fun y z l l' hy hz => by rw [had y l hy, had z l' hz]; exact I.inj y z l l' hy hz, fun y l hy => by rw [had y l hy]; exact I.ownf y l hy⟩
  · rcases List.mem_cons.mp hb with rfl | hb
    · exact he
    · exact I₂.ex b hb
  · obtain ⟨m, hn, hm⟩ := I.ns
    exact ⟨m, Ns.grow hn x.ext.grow (Ns.notTab hn I.wf.tabs), fun y e hy hk => let ⟨v, hv, r⟩ := hm y e hy hk; ⟨v, hv, ent y e v hy r⟩⟩
  · intro y e hy hk
    obtain ⟨b, v, hc, hv, r⟩ := I.cel y e hy hk
    exact ⟨b, v, hc, IsCell.grow hv I.wf.tabs x.ext.grow, ent y e v hy r⟩
theorem Inv.h0fresh {c : Cx} {X : List Addr} {ad : Str → Addr} {ρ : Rho} {s : Shared} (I : Inv c X ad ρ s) {a : Addr} (ha : s.heap.get? a = none) : c.h0.get? a = none := by
  cases e : c.h0.get? a with
  | none => rfl
  | some o =>
    by_cases q : isTab a
    · rcases q with rfl | rfl
      · obtain ⟨ps, hP, _⟩ := I.wf.tabs.l; rw [ha] at hP; cases hP
      · obtain ⟨ps, hP, _⟩ := I.wf.tabs.t; rw [ha] at hP; cases hP
    · obtain ⟨sl, e', _⟩ := I.ext.grow a o e q; rw [ha] at e'; cases e'
theorem wp_storeOwn {c : Cx} (O : Ok sc n c) (Ap : Apart c) {X : List Addr} {ad : Str → Addr} {ρ : Rho} {s s₂ : Shared} (I : Inv c X ad ρ s) {x : Str} (hv : isVar sc x = true) {a : Addr} {vs : List Value} {ds : List PV} (ha : s.heap.get? a = none) (x₂ : Nxt c.H c.F s s₂)
    (hl : Lst s₂.heap a vs) (r : Rps c.w X s₂.heap ds vs) {Q : Unit → Shared → Prop} {E : Value → Shared → Prop} (hap : Rps c.w (a :: X) s₂.heap ds vs)
    (h : ∀ s' X' ad', Inv c X' ad' (setE ρ x (.own ds)) s' → Q () s') : wpAny (model pw c.w) c.A (storeName c.env x (.ref a)) Q E s₂ := by
  have hadd : ∀ y, y ≠ x → (fun y => if y = x then a else ad y) y = ad y := fun y hy => if_neg hy
  have Ia := (I.wo x).addX O ha x₂ (let ⟨k, e⟩ := hl; ⟨_, e⟩) (ad' := fun y => if y = x then a else ad y) (fun y l hy => hadd y (mem_without hy).2.1) (fun y z hz => hadd y (fun q => by have := (mem_without hz).2.2; simp [isApp, q] at this))
  refine wp_store O Ap Ia hv (e := .own ds) (fun l e => ?_) ⟨by simp, by simp, vs, by simpa using hl, hap⟩ fun s' I' => h s' _ _ I'
  cases e
  simp only [if_true]
  refine ⟨I.h0fresh ha, fun q => ?_, fun p hp q => ?_, fun y l' hy q => ?_⟩
  · obtain ⟨o, e⟩ := I.ex a (I.sub a q); rw [ha] at e; cases e
  · obtain ⟨k1, _⟩ := I.pins p hp; rw [q, ha] at k1; cases k1
  · rw [if_neg (mem_without hy).2.1] at q
    obtain ⟨v, _, hm, _⟩ := I.ent (mem_without hy).1
    obtain ⟨o, e⟩ := I.ex _ hm; rw [q, ha] at e; cases e
theorem sndX_AssignL {x : Str} {px pos lp : Pos} {es : List Expr} {t : Rho → T (List PV)} (hv : isVar sc x = true) (he : SndL sc n es t) :
    SndX sc n (.Assign [.Name x px] (.List es lp) pos) fun ρ => (t ρ).bind fun ds => .chk (decide (ds.length ≤ sizeLine)) (.ret (setE ρ x (.own ds), .next)) := fun c O Ap X ad ρ s I Q E h => by
  refine wpAny_Assign_Name (wpAny_List (he c O X ad ρ s I lp _ _ (T.holds_mono (fun ds hd vs s₁ x₁ r => ?_) _ (T.holds_bind _ h)))) rfl
  obtain ⟨hb, hd⟩ := T.holds_chk hd
  have I₁ := I.nxt O x₁
  have x₂ := I₁.push { cls := .type "list", dict := none, data := .seq vs.toArray, slots := #[] } s₁.toks
  refine ⟨by rw [r.length]; simpa using hb, ?_⟩
  have ha : s₁.heap.get? s₁.heap.objs.size = none := fresh_size (Nat.le_refl _)
  refine wp_storeOwn O Ap I₁ hv ha x₂ ⟨0, Heap.get?_push_size _ rfl⟩ (I₁.rps O x₂ r) (Rps.grow (fun b hb => .tail _ (I.sub b (O.hF b hb))) I₁.wf.tabs x₂.ext.grow _ _ (Rps.fresh ha _ _ r)) fun s' X' ad' I' => hd s' X' ad' _ I' trivial
noncomputable def frz (ρ : Rho) (x : Str) : Rho := match findE ρ x with
  | some (.own l) => setE ρ x (.val (.list l))
  | _ => ρ
theorem Inv.frz {c : Cx} {X : List Addr} {ad : Str → Addr} {ρ : Rho} {s : Shared} (I : Inv c X ad ρ s) (x : Str) : ∃ X', Inv c X' ad (frz ρ x) s := by
  unfold Mine.frz
  split
  · rename_i l hf
    have hx := findE_mem hf
    obtain ⟨h0, hX0, hp⟩ := I.ownf x l hx
    have hm : ∀ b, b ∈ X.filter (· != ad x) → b ∈ X := fun b hb => (List.mem_filter.mp hb).1
    have ent : ∀ y e v, (y, e) ∈ setE ρ x (.val (.list l)) → EntIn c.w X ad s.heap y v (if y = x then .own l else e) → EntIn c.w (X.filter (· != ad x)) ad s.heap y v e := fun y e v hy r => by
      rcases List.mem_cons.mp hy with q | q
      · cases q
        rw [if_pos rfl] at r
        obtain ⟨e, _, vs, hl, r⟩ := r
        exact ⟨_, vs, e, by simp, hl, Rps.mono hm _ _ r⟩
      · rw [if_neg (mem_without q).2.1] at r
        cases e with
        | val d => exact Rp.mono hm _ _ r
        | own l' =>
          obtain ⟨e, h1, vs, hl, r⟩ := r
          refine ⟨e, List.mem_filter.mpr ⟨h1, ?_⟩, vs, hl, Rps.mono hm _ _ r⟩
          simp only [bne_iff_ne]
          exact fun q' => (mem_without q).2.1 (I.inj y x l' l (mem_without q).1 hx q')
        | app z => exact r
    have old : ∀ y e, (y, e) ∈ setE ρ x (.val (.list l)) → (y, if y = x then .own l else e) ∈ ρ := fun y e hy => by
      rcases List.mem_cons.mp hy with q | q
      · cases q; rw [if_pos rfl]; exact hx
      · rw [if_neg (mem_without q).2.1]; exact (mem_without q).1
    have own : ∀ y l', (y, Ent.own l') ∈ setE ρ x (.val (.list l)) → (y, Ent.own l') ∈ ρ := fun y l' hy => by
      rcases List.mem_cons.mp hy with q | q
      · cases q
      · exact (mem_without q).1
    refine ⟨X.filter (· != ad x), I.wf, I.ext, I.gens, I.os, fun b hb => List.mem_filter.mpr ⟨I.sub b hb, ?_⟩, fun b hb => I.ex b (hm b hb), fun p hp => let ⟨k1, k2, k3, k4, k5⟩ := I.pins p hp; ⟨k1, k2, k3, k4, fun q => k5 (hm _ q)⟩, I.cells, fun g hg => Rp.mono hm _ _ (I.ghs g hg), fun y e hy => I.kinds _ _ (old y e hy), nd_setE I.nd, ?_, fun y e hy hk => ?_, fun y z l₁ l₂ hy hz => I.inj y z l₁ l₂ (own _ _ hy) (own _ _ hz), fun y l' hy => I.ownf y l' (own _ _ hy)⟩
    · simp only [bne_iff_ne]; exact fun q => hX0 (q ▸ hb)
    · obtain ⟨m, hn, h⟩ := I.ns
      exact ⟨m, hn, fun y e hy hk => let ⟨v, hv, r⟩ := h _ _ (old y e hy) hk; ⟨v, hv, ent y e v hy r⟩⟩
    · obtain ⟨b, v, hb, hv, r⟩ := I.cel _ _ (old y e hy) hk
      exact ⟨b, v, hb, hv, ent y e v hy r⟩
  · exact ⟨X, I⟩
theorem sndX_frz {st : Stmt} {t : Rho → T (Rho × Fl)} (x : Str) (h : SndX sc n st t) : SndX sc n st fun ρ => t (frz ρ x) := fun c O Ap X ad ρ s I Q E hh => by
  obtain ⟨X', I'⟩ := I.frz x
  exact h c O Ap X' ad _ s I' Q E hh
end
end Mine
namespace Mine
noncomputable def Cx.pg (c : Cx) (p : List (Addr × Obj)) (g : List (Value × PV)) : Cx := { c with pin := p, gh := g }
section
variable {sc : Scope} {n : Nat}
theorem Ok.pg {c : Cx} (O : Ok sc n c) (p : List (Addr × Obj)) (g : List (Value × PV)) : Ok sc n (c.pg p g) := ⟨O.th, O.room, O.kind, O.names, O.glob, O.blt, O.hF, O.base, O.hL, O.cellEx, O.locX, O.celX⟩
theorem Apart.pg {c : Cx} (O : Apart c) (p : List (Addr × Obj)) (g : List (Value × PV)) : Apart (c.pg p g) := ⟨O.cinj, O.cnew, O.top, O.own⟩
theorem Inv.pg {c : Cx} {X : List Addr} {ad : Str → Addr} {ρ : Rho} {s : Shared} (I : Inv c X ad ρ s) {p : List (Addr × Obj)} {g : List (Value × PV)}
    (hp : ∀ q ∈ p, s.heap.get? q.1 = some q.2 ∧ ¬ isTab q.1 ∧ (∀ es n, q.2.data ≠ .dict es n) ∧ (∀ v, q.2.data ≠ .cell v) ∧ q.1 ∉ X) (hg : ∀ q ∈ g, Rp c.w X s.heap q.2 q.1) (ho : ∀ x l, (x, Ent.own l) ∈ ρ → ∀ q ∈ p, q.1 ≠ ad x) : Inv (c.pg p g) X ad ρ s :=
  ⟨I.wf, I.ext, I.gens, I.os, I.sub, I.ex, hp, I.cells, hg, I.kinds, I.nd, I.ns, I.cel, I.inj, fun x l hx => ⟨(I.ownf x l hx).1, (I.ownf x l hx).2.1, ho x l hx⟩⟩
theorem Inv.unpg {c : Cx} {X : List Addr} {ad : Str → Addr} {ρ : Rho} {s : Shared} {p : List (Addr × Obj)} {g : List (Value × PV)} (I : Inv (c.pg p g) X ad ρ s) (hp : ∀ q ∈ c.pin, q ∈ p) (hg : ∀ q ∈ c.gh, q ∈ g) : Inv c X ad ρ s :=
  ⟨I.wf, I.ext, I.gens, I.os, I.sub, I.ex, fun q hq => I.pins q (hp q hq), I.cells, fun q hq => I.ghs q (hg q hq), I.kinds, I.nd, I.ns, I.cel, I.inj, fun x l hx => ⟨(I.ownf x l hx).1, (I.ownf x l hx).2.1, fun q hq => (I.ownf x l hx).2.2 q (hp q hq)⟩⟩
theorem Inv.ownIter {c : Cx} {X : List Addr} {ad : Str → Addr} {ρ : Rho} {s : Shared} (I : Inv c X ad ρ s) {J : Addr} {oJ : Obj} (h : s.heap.get? J = some oJ) (hi : isIter oJ) {x : Str} {l : List PV} (hx : (x, Ent.own l) ∈ ρ) : J ≠ ad x := fun q => by
  obtain ⟨v, _, _, vs, ⟨k, hl⟩, _⟩ := I.ent hx
  rw [← q, h] at hl; cases hl; exact hi.2.1 rfl
noncomputable def forT (body : Rho → T (Rho × Fl)) (x : Str) : List PV → Rho → T (Rho × Fl)
  | [], ρ => .ret (ρ, .next)
  | d :: ds, ρ => (body (setE ρ x (.val d))).bind fun r => match r.2 with | .next => forT body x ds r.1 | .brk => .ret (r.1, .next) | .ret d => .ret (r.1, .ret d)
noncomputable def SndIA (sc : Scope) (n : Nat) (e : Expr) (t : Rho → T (List PV)) : Prop :=
  ∀ c : Cx, Ok sc n c → Apart c → ∀ X ad ρ s, Inv c X ad ρ s → ∀ (Q E : Value → Shared → Prop),
    (t ρ).Holds (fun ds => ∀ s' J ax G P St, Nxt c.H c.F s s' → Src c J ax G ds P St → St 0 s'.heap → (∀ g ∈ G, Rp c.w X s'.heap g.2 g.1) → s.heap.get? J = none → J ∉ ax → (∀ b ∈ ax, b ∉ X) → Q (.ref J) s') →
    wpAny (model pw c.w) c.A (eval e c.env) (fun v s' => wpAny (model pw c.w) c.A (pyIter v) Q E s') E s
theorem SndI.a {e : Expr} {t : Rho → T (List PV)} (h : SndI sc n e t true) : SndIA sc n e t := fun c O _ X ad ρ s I Q E hh => h c O X ad ρ s I Q E (T.holds_mono (fun ds hd s' J ax G P St a1 a2 a3 a4 a5 a6 a7 => hd s' J ax G P St a1 a2 a3 a4 a5 a6 (a7 rfl)) _ hh)
noncomputable def SXat (c : Cx) (st : PySem.Stmt) (t : Rho → T (Rho × Fl)) : Prop := ∀ X ad ρ s, Inv c X ad ρ s → ∀ (Q : Flow → Shared → Prop) (E : Value → Shared → Prop), (t ρ).Holds (Mine.St c Q) → wpAny (model pw c.w) c.A (exec st c.env) Q E s
noncomputable def SIat (c : Cx) (e : Expr) (t : Rho → T (List PV)) : Prop :=
  ∀ X ad ρ s, Inv c X ad ρ s → ∀ (Q E : Value → Shared → Prop),
    (t ρ).Holds (fun ds => ∀ s' J ax G P St, Nxt c.H c.F s s' → Src c J ax G ds P St → St 0 s'.heap → (∀ g ∈ G, Rp c.w X s'.heap g.2 g.1) → s.heap.get? J = none → J ∉ ax → (∀ b ∈ ax, b ∉ X) → Q (.ref J) s') →
    wpAny (model pw c.w) c.A (eval e c.env) (fun v s' => wpAny (model pw c.w) c.A (pyIter v) Q E s') E s
theorem walk_pins {c : Cx} {X : List Addr} {ad : Str → Addr} {ρ : Rho} {s₁ : Shared} {J : Addr} {ax : List Addr} {G : List (Value × PV)} {ds : List PV} {P : Nat → Value → Prop} {S₀ : Nat → Heap → Prop} (I₁ : Inv c X ad ρ s₁) (S : Src c J ax G ds P S₀) (st : S₀ 0 s₁.heap)
    (hG : ∀ g ∈ G, Rp c.w X s₁.heap g.2 g.1) (hJp : ∀ q ∈ c.pin, q.1 ≠ J) (hJax : J ∉ ax) (hax : ∀ b ∈ ax, b ∉ X) :
    ∃ ps : List (Addr × Obj), (∀ b ∈ ax, ∃ o, (b, o) ∈ ps) ∧ (∀ q ∈ ps ++ c.pin, q.1 ≠ J) ∧ Inv (c.pg (ps ++ c.pin) (G ++ c.gh)) X ad ρ s₁ := by
  have key : ∀ l : List Addr, (∀ b ∈ l, b ∈ ax) → ∃ ps : List (Addr × Obj), (∀ b ∈ l, ∃ o, (b, o) ∈ ps) ∧ ∀ q ∈ ps, q.1 ∈ ax ∧ s₁.heap.get? q.1 = some q.2 ∧ ¬ isTab q.1 ∧ (∀ es n, q.2.data ≠ .dict es n) ∧ (∀ v, q.2.data ≠ .cell v) ∧ q.1 ∉ X := by
    intro l
    induction l with
    | nil => exact fun _ => ⟨[], fun _ h => (nomatch h), fun _ h => (nomatch h)⟩
    | cons b l ih =>
      intro hl
      obtain ⟨ps, h1, h2⟩ := ih fun z hz => hl z (.tail _ hz)
      obtain ⟨o, ho, hc, hnd, hncl⟩ := S.soft 0 _ st b (hl b (.head _))
      refine ⟨(b, o) :: ps, fun z hz => ?_, fun q hq => ?_⟩
      · rcases List.mem_cons.mp hz with rfl | hz
        · exact ⟨o, .head _⟩
        · obtain ⟨o', h⟩ := h1 z hz; exact ⟨o', .tail _ h⟩
      · rcases List.mem_cons.mp hq with rfl | hq
        · exact ⟨hl _ (.head _), ho, fun q => (by obtain ⟨zs, rfl⟩ := I₁.wf.tabs.fields ho q; exact hc rfl), hnd, hncl, hax _ (hl _ (.head _))⟩
        · exact h2 q hq
  obtain ⟨ps, hps1, hps2⟩ := key ax fun _ h => h
  refine ⟨ps, hps1, fun q hq e => ?_, I₁.pg (fun q hq => (List.mem_append.mp hq).elim (fun hq => (hps2 q hq).2) (I₁.pins q)) (fun q hq => (List.mem_append.mp hq).elim (hG q) (I₁.ghs q)) fun y l hy q hq e => ?_⟩
  · rcases List.mem_append.mp hq with hq | hq
    · exact hJax (e ▸ (hps2 q hq).1)
    · exact hJp q hq e
  · rcases List.mem_append.mp hq with hq | hq
    · obtain ⟨v, _, hm, _⟩ := I₁.ent hy
      exact hax q.1 (hps2 q hq).1 (e ▸ hm)
    · exact (I₁.ownf y l hy).2.2 q hq e
theorem Inv.pinIter {c : Cx} {p : List (Addr × Obj)} {g : List (Value × PV)} {X : List Addr} {ad : Str → Addr} {ρ : Rho} {s : Shared} {J : Addr} {oJ : Obj} (I : Inv (c.pg p g) X ad ρ s) (ho : s.heap.get? J = some oJ) (hi : isIter oJ) (hJX : J ∉ X) : Inv (c.pg ((J, oJ) :: p) g) X ad ρ s :=
  I.pg (p := (J, oJ) :: p) (g := g) (fun q hq => by
    rcases List.mem_cons.mp hq with rfl | hq
    · obtain ⟨⟨us, hdt⟩, _, _, _, hn⟩ := hi
      exact ⟨ho, fun q => (by obtain ⟨zs, e⟩ := I.wf.tabs.fields ho q; exact hn.1 _ e), fun es n e => (by rw [hdt] at e; cases e), fun v e => (by rw [hdt] at e; cases e), hJX⟩
    · exact I.pins q hq) I.ghs fun y l hy q hq => by
    rcases List.mem_cons.mp hq with rfl | hq
    · exact I.ownIter ho hi hy
    · exact (I.ownf y l hy).2.2 q hq
section
variable {c : Cx} {ps : List (Addr × Obj)} {G : List (Value × PV)} {J : Addr} {oJ : Obj} {X : List Addr} {ad : Str → Addr} {ρ : Rho} {s : Shared}
theorem Inv.unpin (I : Inv (c.pg ((J, oJ) :: (ps ++ c.pin)) (G ++ c.gh)) X ad ρ s) : Inv c X ad ρ s := I.unpg (fun q hq => .tail _ (List.mem_append_right _ hq)) fun q hq => List.mem_append_right _ hq
theorem Inv.unpin' (I : Inv (c.pg ((J, oJ) :: (ps ++ c.pin)) (G ++ c.gh)) X ad ρ s) : Inv (c.pg (ps ++ c.pin) (G ++ c.gh)) X ad ρ s := I.unpin.pg (fun q hq => I.pins q (.tail _ hq)) I.ghs fun y l hy q hq => (I.ownf y l hy).2.2 q (.tail _ hq)
theorem walk_kept {ax X₂ : List Addr} {ad₂ : Str → Addr} {ρ₂ : Rho} {s₂ : Shared} (hps : ∀ b ∈ ax, ∃ o, (b, o) ∈ ps) (hoJ : s₂.heap.get? J = some oJ) (I₂ : Inv (c.pg (ps ++ c.pin) (G ++ c.gh)) X₂ ad₂ ρ₂ s₂) (I : Inv (c.pg ((J, oJ) :: (ps ++ c.pin)) (G ++ c.gh)) X ad ρ s) :
    ∀ b ∈ J :: ax, ∀ o, s₂.heap.get? b = some o → s.heap.get? b = some o := fun b hb o e => by
  rcases List.mem_cons.mp hb with rfl | hb
  · obtain ⟨k1, _⟩ := I.pins (b, oJ) (.head _)
    rw [hoJ] at e; cases e; exact k1
  · obtain ⟨ob, hob⟩ := hps b hb
    obtain ⟨k1, _⟩ := I.pins (b, ob) (.tail _ (List.mem_append_left _ hob))
    obtain ⟨k2, _⟩ := I₂.pins (b, ob) (List.mem_append_left _ hob)
    rw [show s₂.heap.get? b = some ob from k2] at e
    cases e; exact k1
end
theorem forAt {c : Cx} {x : Str} {px pos : Pos} {iter : Expr} {body : List PySem.Stmt} {ti : Rho → T (List PV)} {tb : Rho → T (Rho × Fl)} (O : Ok sc n c) (Ap : Apart c) (hv : isVar sc x = true) (hset : noSet iter = true) (hi : SIat c iter ti) (hb : SndS sc n body tb) :
    SXat c (.For (.Name x px) iter body [] pos) fun ρ => (ti ρ).bind fun ds => forT tb x ds ρ := fun X ad ρ s I Q E h => by
  refine wpAny_For ?_ (noSet_ok hset c.env)
  refine hi X ad ρ s I _ _ (T.holds_mono (fun ds hd s₁ J ax G P S₀ x₁ S st hG hJ hJax hax => ?_) _ (T.holds_bind _ h))
  have I₁ := I.nxt O x₁
  obtain ⟨ps, hps1, pinJ, I₁'⟩ := walk_pins I₁ S st hG (fun q hq e => by obtain ⟨k1, _⟩ := I.pins q hq; rw [e, hJ] at k1; cases k1) hJax hax
  have O₀ := O.pg (ps ++ c.pin) (G ++ c.gh)
  have Ap₀ := Ap.pg (ps ++ c.pin) (G ++ c.gh)
  refine codeAny_forLoop_any (fun k s' => ∃ i X' ad' ρ', k = ds.length + 1 - i ∧ i ≤ ds.length ∧ J ∉ X' ∧ Inv (c.pg (ps ++ c.pin) (G ++ c.gh)) X' ad' ρ' s' ∧ S₀ i s'.heap ∧ (forT tb x (ds.drop i) ρ').Holds (Mine.St c Q)) ?_ (ds.length + 1) ⟨0, X, ad, ρ, rfl, Nat.zero_le _, fun q => (by obtain ⟨o, e⟩ := I.ex J q; rw [hJ] at e; cases e), I₁', st, hd⟩
  rintro k s' ⟨i, X', ad', ρ', rfl, hle, hJX, I', st', h'⟩
  obtain ⟨oJ, hoJ, hiJ⟩ := S.it i _ st'
  have hJ0 : c.h0.get? J = none := I.h0fresh hJ
  by_cases hlt : i < ds.length
  · refine S.W.item i s' _ _ hlt st' fun v h₁ tk hP st₁ hk => ?_
    have hk' : Heap.ExtBut J s'.heap h₁ := fun b o hb e => hk b o (fun q => hb (List.mem_singleton.mp q)) e
    obtain ⟨oJ', hoJ', hiJ'⟩ := S.it _ _ st₁
    have I₂ : Inv (c.pg (ps ++ c.pin) (G ++ c.gh)) X' ad' ρ' { s' with heap := h₁, toks := tk } := I'.iter O₀ hk' (fun _ => ⟨_, hoJ'⟩) hoJ hiJ hJ0 pinJ
    obtain ⟨d, hd⟩ : ∃ d, ds[i]? = some d := ⟨_, List.getElem?_eq_getElem hlt⟩
    have rv : Rp c.w X' h₁ d v := by
      rcases S.val i v d hP hd with q | q
      · exact I₂.ghs _ (List.mem_append_left _ q)
      · exact q.rp
    rw [drop_at hd] at h'
    refine wpAny_of_eq (a := ()) rfl ?_
    refine wpAny_assign_Name ?_
    -- the iterator is held still while the body runs
    have O₁ := O.pg ((J, oJ') :: (ps ++ c.pin)) (G ++ c.gh)
    have Ap₁ := Ap.pg ((J, oJ') :: (ps ++ c.pin)) (G ++ c.gh)
    have I₃ := I₂.pinIter hoJ' hiJ' hJX
    refine wp_store O₁ Ap₁ (I₃.wo x) hv (e := .val d) .val rv fun s₄ I₄ => ?_
    refine hb _ O₁ Ap₁ _ _ _ _ I₄ _ _ (T.holds_mono (fun r hr s₅ X₅ ad₅ fl I₅ hf => ?_) _ (T.holds_bind _ h'))
    obtain ⟨ρ₅, f⟩ := r
    cases f <;> cases fl <;> first | exact hf.elim | skip
    · refine ⟨ds.length + 1 - (i + 1), by omega, i + 1, X₅, ad₅, ρ₅, rfl, hlt, (I₅.pins (J, oJ') (.head _)).2.2.2.2, I₅.unpin', S.W.frame _ _ _ st₁ (walk_kept hps1 hoJ' I₂ I₅), hr⟩
    · exact hr s₅ X₅ ad₅ _ I₅.unpin trivial
    · exact hr s₅ X₅ ad₅ _ I₅.unpin hf
  · have hin : i = ds.length := by omega
    subst hin
    refine S.W.done s' _ _ st' fun h₁ tk hk => ?_
    have hk' : Heap.ExtBut J s'.heap h₁ := fun b o hb e => hk b o (fun q => hb (List.mem_singleton.mp q)) e
    rw [List.drop_length] at h'
    refine wpAny_execs_nil (h' _ X' ad' _ ?_ trivial)
    exact (I'.iter O₀ hk' (fun q => absurd q hJX) hoJ hiJ hJ0 pinJ (t := tk)).unpg (fun q hq => List.mem_append_right _ hq) fun q hq => List.mem_append_right _ hq
theorem sndX_ForA {x : Str} {px pos : Pos} {iter : Expr} {body : List Stmt} {ti : Rho → T (List PV)} {tb : Rho → T (Rho × Fl)} (hv : isVar sc x = true) (hset : noSet iter = true) (hi : SndIA sc n iter ti) (hb : SndS sc n body tb) :
    SndX sc n (.For (.Name x px) iter body [] pos) fun ρ => (ti ρ).bind fun ds => forT tb x ds ρ := fun c O Ap => forAt O Ap hv hset (hi c O Ap) hb
theorem sndX_For {x : Str} {px pos : Pos} {iter : Expr} {body : List Stmt} {ti : Rho → T (List PV)} {tb : Rho → T (Rho × Fl)} (hv : isVar sc x = true) (hset : noSet iter = true) (hi : SndI sc n iter ti true) (hb : SndS sc n body tb) :
    SndX sc n (.For (.Name x px) iter body [] pos) fun ρ => (ti ρ).bind fun ds => forT tb x ds ρ := sndX_ForA hv hset hi.a hb
end
end Mine
namespace Mine
section
variable {sc : Scope} {n : Nat}
noncomputable def whileT (tt : Rho → T Bool) (tb : Rho → T (Rho × Fl)) : Nat → Rho → T (Rho × Fl)
  | 0, _ => .fail
  | k + 1, ρ => (tt ρ).bind fun b => .ite b ((tb ρ).bind fun r => match r.2 with | .next => whileT tt tb k r.1 | .brk => .ret (r.1, .next) | .ret d => .ret (r.1, .ret d)) (.ret (ρ, .next))
theorem sndX_While {e : Expr} {body : List Stmt} {pos : Pos} {tt : Rho → T Bool} {tb : Rho → T (Rho × Fl)} (he : SndT sc n e tt) (hb : SndS sc n body tb) (k : Nat) :
    SndX sc n (.While e body [] pos) (whileT tt tb k) := fun c O Ap X ad ρ s I Q E h => by
  refine wpAny_While (codeAny_whileLoop (fun k s' => ∃ X' ad' ρ', Inv c X' ad' ρ' s' ∧ (whileT tt tb k ρ').Holds (Mine.St c Q)) ?_ k ⟨X, ad, ρ, I, h⟩)
  rintro k s' ⟨X', ad', ρ', I', h'⟩
  cases k with
  | zero => exact h'.elim
  | succ k =>
    refine he c O X' ad' ρ' s' I' _ _ (T.holds_mono (fun b hb' s₁ x₁ => ?_) _ (T.holds_bind _ h'))
    have I₁ := I'.nxt O x₁
    cases b with
    | false =>
      rw [if_neg (by decide)]
      exact wpAny_execs_nil (hb' s₁ X' ad' _ I₁ trivial)
    | true =>
      rw [if_pos rfl]
      refine hb c O Ap X' ad' ρ' s₁ I₁ _ _ (T.holds_mono (fun r hr s₂ X₂ ad₂ fl I₂ hf => ?_) _ (T.holds_bind _ hb'))
      obtain ⟨ρ₂, f⟩ := r
      cases f <;> cases fl <;> first | exact hf.elim | skip
      · exact ⟨k, Nat.lt_succ_self k, X₂, ad₂, ρ₂, I₂, hr⟩
      · exact hr s₂ X₂ ad₂ _ I₂ trivial
      · exact hr s₂ X₂ ad₂ _ I₂ hf
noncomputable def iaddP (a b : PV) : T PV := match a with
  | .int i => (match b with | .int j => .ret (.int (i + j)) | _ => .fail)
  | .str x => (match b with | .str y => .chk (decide (x.length + y.length ≤ sizeLine)) (.ret (.str (x ++ y))) | _ => .fail)
  | _ => .fail
noncomputable def iopP (op : Operator) (a b : PV) : T PV := match op with
  | .Add => iaddP a b
  | .Mult => ii (fun a b => .chk (intMulOk a b) (.ret (.int (a * b)))) a b
  | _ => .fail
theorem iopP_ok {c : Cx} {X : List Addr} {ad : Str → Addr} {ρ : Rho} {s : Shared} (O : Ok sc n c) (I : Inv c X ad ρ s) {op : Operator} {a b : PV} {va vb : Value} {Q E : Value → Shared → Prop} (ra : Rb c.w X s.heap a va) (rb : Rb c.w X s.heap b vb)
    (h : (iopP op a b).Holds fun d => ∀ v s', Nxt c.H c.F s s' → Rp c.w X s'.heap d v → Q v s') : wpAny (model pw c.w) c.A (inplaceOp op va vb) Q E s := by
  cases op with
  | Add =>
    have h : (iaddP a b).Holds fun d => ∀ v s', Nxt c.H c.F s s' → Rp c.w X s'.heap d v → Q v s' := h
    unfold iaddP at h
    split at h
    · split at h
      · obtain ⟨t, rfl⟩ := ra; obtain ⟨u, rfl⟩ := rb
        exact wpAny_iadd_int (h _ _ (I.tok _) ⟨_, rfl⟩)
      · exact h.elim
    · split at h
      · obtain ⟨t, rfl⟩ := ra; obtain ⟨u, rfl⟩ := rb
        obtain ⟨hb, h⟩ := T.holds_chk h
        exact SB.iadd (fun t' k => h _ _ (I.tok _) ⟨_, rfl⟩) (of_decide_eq_true hb)
      · exact h.elim
    · exact h.elim
  | Mult =>
    obtain ⟨i, j, rfl, rfl, h⟩ := ii_inv h
    obtain ⟨t, rfl⟩ := ra; obtain ⟨u, rfl⟩ := rb
    obtain ⟨hb, h⟩ := T.holds_chk h
    exact imul_int (h _ _ (I.tok _) ⟨_, rfl⟩) (intMulOk_is hb)
  | _ => exact h.elim
theorem sndX_Aug {x : Str} {px pos : Pos} {op : Operator} {e : Expr} {t : Rho → T PV} (hv : isVar sc x = true) (he : SndB sc n e t) :
    SndX sc n (.AugAssign (.Name x px) op e pos) fun ρ => match findE ρ x with
      | some (.val a) => (t ρ).bind fun b => (iopP op a b).bind fun d => .ret (setE ρ x (.val d), .next)
      | _ => .fail := fun c O Ap X ad ρ s I Q E h => by
  dsimp only at h
  split at h
  · rename_i a hf
    refine wpAny_AugAssign_Name (ldName O I (findE_mem hf) (isVar_or hv) fun va ra => ?_)
    refine he c O X ad ρ s I _ _ (T.holds_mono (fun b hb vb s₁ x₁ rb => ?_) _ (T.holds_bind _ h))
    have I₁ := I.nxt O x₁
    refine iopP_ok O I₁ (I.rb O x₁ (Rp.rb ra)) rb (T.holds_mono (fun d hd v s₂ x₂ r => ?_) _ (T.holds_bind _ hb))
    exact wp_store O Ap ((I₁.nxt O x₂).wo x) hv .val r fun s' I' => hd s' X ad _ I' trivial
  · exact h.elim
noncomputable def updE (ρ : Rho) (x : Str) (e : Ent) : Rho := (x, e) :: ρ.filter fun p => p.1 != x
theorem ns_unique {h : Heap} {L : Addr} {m m' : Str → Option Value} (a : h.Ns L m) (b : h.Ns L m') : m = m' := by
  obtain ⟨o, es, ep, ho, hd, hk, hm⟩ := a
  obtain ⟨o', es', ep', ho', hd', hk', hm'⟩ := b
  rw [ho] at ho'; cases ho'
  rw [hd] at hd'; cases hd'
  funext y
  rw [← hm y, ← hm' y]
theorem Inv.mut {c : Cx} {X : List Addr} {ad : Str → Addr} {ρ : Rho} {s : Shared} (O : Ok sc n c) (I : Inv c X ad ρ s) {x : Str} {l l' : List PV} {vs us : List Value} {h' : Heap} {t : Nat} (hx : (x, Ent.own l) ∈ ρ)
    (hs : Heap.SameBut (ad x) s.heap h') (hl : Lst s.heap (ad x) vs) (hl' : Lst h' (ad x) us) (r : Rps c.w X h' l' us) : Inv c X ad (updE ρ x (.own l')) { s with heap := h', toks := t } := by
  obtain ⟨v, hvx, hmX, vs', hl₀, _⟩ := I.ent hx
  obtain ⟨h0, hX0, hp⟩ := I.ownf x l hx
  have mem : ∀ y e, (y, e) ∈ ρ.filter (fun p => p.1 != x) → (y, e) ∈ ρ ∧ y ≠ x := fun y e h => by
    have := List.mem_filter.mp h; exact ⟨this.1, by simpa using this.2⟩
  have I₁ : Inv c X ad (ρ.filter fun p => p.1 != x) { s with heap := h', toks := t } :=
    (I.sub' (I.nd.sublist ((List.filter_sublist).map _)) fun y e h => (mem y e h).1).lst O hs hl hl' hmX h0 hp fun y l₁ hy q => (mem y _ hy).2 (I.inj y x l₁ l (mem y _ hy).1 hx q)
  have ent : EntIn c.w X ad h' x (.ref (ad x)) (.own l') := ⟨rfl, hmX, us, hl', r⟩
  obtain ⟨m, hn, hm⟩ := I.ns
  have hL : c.env.locals ≠ ad x := fun q => by
    obtain ⟨o, es, k, e, hd⟩ := nsObj hn
    obtain ⟨k', hl⟩ := hl
    rw [q, hl] at e; cases e; cases hd
  have hn' : h'.Ns c.env.locals m := Heap.Ns.at' hn fun o e => hs.extBut _ o hL e
  refine ⟨I₁.wf, I₁.ext, I₁.gens, I₁.os, I₁.sub, I₁.ex, I₁.pins, I₁.cells, I₁.ghs, fun y e hy => ?_, ?_, ⟨m, hn', fun y e hy hk => ?_⟩, fun y e hy hk => ?_, fun y z l₁ l₂ hy hz => ?_, fun y l₁ hy => ?_⟩
  · rcases List.mem_cons.mp hy with q | q
    · cases q; exact I.kinds x _ hx
    · exact I₁.kinds y e q
  · simp only [updE, List.map_cons, List.nodup_cons]
    refine ⟨fun hm => ?_, I₁.nd⟩
    obtain ⟨⟨y, e'⟩, hy, rfl⟩ := List.mem_map.mp hm
    exact (mem _ _ hy).2 rfl
  · rcases List.mem_cons.mp hy with q | q
    · cases q
      obtain ⟨v', hv', rv⟩ := hm x _ hx hk
      obtain ⟨rfl, _⟩ := rv
      exact ⟨_, hv', ent⟩
    · obtain ⟨m₁, hn₁, hm₁⟩ := I₁.ns
      have := ns_unique hn₁ hn'
      subst this
      exact hm₁ y e q hk
  · rcases List.mem_cons.mp hy with q | q
    · cases q
      obtain ⟨b, v', hb, ⟨o, e1, e2⟩, rv⟩ := I.cel x _ hx hk
      obtain ⟨rfl, _⟩ := rv
      refine ⟨b, _, hb, ⟨o, hs.extBut b o (fun q => ?_) e1, e2⟩, ent⟩
      obtain ⟨k', hl⟩ := hl
      rw [q, hl] at e1; cases e1; cases e2
    · exact I₁.cel y e q hk
  · rcases List.mem_cons.mp hy with q | q
    · rcases List.mem_cons.mp hz with q' | q'
      · cases q; cases q'; exact fun _ => rfl
      · cases q; exact fun e => I.inj x z l l₂ hx (mem _ _ q').1 e
    · rcases List.mem_cons.mp hz with q' | q'
      · cases q'; exact fun e => I.inj y x l₁ l (mem _ _ q).1 hx e
      · exact I₁.inj y z l₁ l₂ q q'
  · rcases List.mem_cons.mp hy with q | q
    · cases q; exact ⟨h0, hX0, hp⟩
    · exact I₁.ownf y l₁ q
theorem lst_push {h : Heap} {a : Addr} {vs : List Value} {v : Value} (hl : Lst h a vs) : Lst (h.update a (Obj.mapSeq fun xs => xs.push v)) a (vs ++ [v]) := by
  obtain ⟨k, hl⟩ := hl
  refine ⟨k + 1, ?_⟩
  rw [Heap.get?_update_self _ hl (by rw [Obj.mapSeq_push_plain]; rfl), Obj.mapSeq_push_plain]
  simp
theorem sndX_append {x : Str} {px apos pos spos : Pos} {e : Expr} {t : Rho → T PV} (hv : isVar sc x = true) (hd : (x == ("__debug__" : Str)) = false) (hl : (apos.endLine == pos.line) = true) (hn : noStar e = true) (he : SndE sc n e t) :
    SndX sc n (.Expr (.Call (.Attribute (.Name x px) ("append" : Str) apos) [e] [] pos) spos) fun ρ => match findE ρ x with
      | some (.own l) => (t ρ).bind fun d => .chk (decide (l.length ≤ sizeLine)) (.ret (updE ρ x (.own (l ++ [d])), .next))
      | _ => .fail := fun c O Ap X ad ρ s I Q E h => by
  dsimp only at h
  split at h
  · rename_i l hf
    have hx := findE_mem hf
    refine wpAny_Expr ?_ (by unfold interactive; rw [O.kind]; rfl)
    refine Call_method1 rfl (by cases e <;> first | rfl | cases hn) hl ?_
    refine wpAny_Name (ldName O I hx (isVar_or hv) fun vx rx => ?_) hd
    obtain ⟨rfl, hmX, vs, hl₀, rs⟩ := rx
    refine ⟨"list", "list.append", F.plainAttrs_list, F.slot_list_append, F.type_list_append, ?_, ?_, ?_⟩
    · obtain ⟨k, e⟩ := hl₀; exact ⟨_, e, rfl⟩
    · intro a ha; cases ha; obtain ⟨k, e⟩ := hl₀; exact ⟨_, e, rfl⟩
    · refine P.append_list (he c O X ad ρ s I _ _ (T.holds_mono (fun d hd v s₁ x₁ r => ?_) _ (T.holds_bind _ h)))
      obtain ⟨hb, hd⟩ := T.holds_chk hd
      have I₁ := I.nxt O x₁
      have hl₁ := hl₀.grow I.wf.tabs x₁.ext.grow
      have rs₁ := I.rps O x₁ rs
      obtain ⟨k, hl₁'⟩ := id hl₁
      refine ⟨vs.toArray, k, by rw [List.size_toArray, rs₁.length]; simpa using hb, hl₁', ?_⟩
      have hs := Heap.SameBut.update s₁.heap (ad x) (Obj.mapSeq fun xs => xs.push v)
      exact hd _ X ad .next (I₁.mut O (t := s₁.toks) hx hs hl₁ (lst_push hl₁) ((Rps.same hs.extBut (.inl hmX) _ _ rs₁).snoc (Rp.same hs.extBut (.inl hmX) _ _ r))) trivial
  · exact h.elim
end
end Mine
namespace Mine
section
variable {sc : Scope} {n : Nat}
theorem wpAny_inplaceOp_list {w : World} {A : Around} {s : Shared} {E : Value → Shared → Prop} {a b : Value} {Q : Value → Shared → Prop} (ha : s.TypeIs a "list") (hb : s.TypeIs b "list")
    (hc : wpAny (model pw w) A (call (.builtin "list.__iadd__") [a, b]) Q E s) : wpAny (model pw w) A (inplaceOp .Add a b) Q E s := by
  unfold inplaceOp
  refine wpAny_holding ?_
  have hlk : typeLookup (.type "list") (dunderI "add") = pure (some (.builtin "list.__iadd__")) := F.slot_list_iadd.lookup
  have hfi : fillsInplaceSlot (.type "list") "add" (Operator.Add == .Add) = pure false := by
    unfold fillsInplaceSlot
    show (typeLookup (.type "list") (dunderI "add") >>= fun fi => pure (fi.isSome && !isSeqSlot fi)) = pure false
    rw [hlk]; kernel_rfl
  have hsi : seqSlot? (.type "list") (dunderI "add") = pure (some (.builtin "list.__iadd__")) := by
    unfold seqSlot?
    rw [hlk]; kernel_rfl
  refine wpAny_bind (wpAny_typeOf ha (wpAny_bind (wpAny_of_eq hfi ?_)))
  show wpAny _ _ (if false = true then _ else _) Q E s
  rw [if_neg Bool.false_ne_true]
  refine wpAny_bind (wpAny_binaryOp1_none (nm := "add") ha hb PySem.noFill_list_add ?_)
  refine wpAny_bind (wpAny_of_eq hsi ?_)
  exact wpAny_bind (wpAny_rule hc)
theorem lst_app {h : Heap} {a : Addr} {vs us : List Value} (hl : Lst h a vs) : Lst (h.update a (Obj.mapSeq fun xs => xs ++ us.toArray)) a (vs ++ us) := by
  obtain ⟨k, hl⟩ := hl
  have e : Obj.mapSeq (fun xs => xs ++ us.toArray) { cls := .type "list", dict := none, data := .seq vs.toArray k, slots := #[] } = { cls := .type "list", dict := none, data := .seq (vs ++ us).toArray (if (vs.toArray ++ us.toArray).size == vs.toArray.size then k else k + 1), slots := #[] } := by
    simp [Obj.mapSeq]
  exact ⟨_, by rw [Heap.get?_update_self _ hl (by rw [e]; rfl), e]⟩
theorem own_fits {c : Cx} {X : List Addr} {ad : Str → Addr} {ρ : Rho} {s : Shared} (I : Inv c X ad ρ s) {x : Str} {l : List PV} (hx : (x, Ent.own l) ∈ ρ) {l' : List PV} : Fits c ad ρ x (.own l') := fun _ _ =>
  ⟨(I.ownf x l hx).1, (I.ownf x l hx).2.1, (I.ownf x l hx).2.2, fun y l₁ hy q => (mem_without hy).2.1 (I.inj y x l₁ l (mem_without hy).1 hx q)⟩
theorem sndX_AugL {x : Str} {px pos : Pos} {e : Expr} {t : Rho → T PV} (hv : isVar sc x = true) (he : SndB sc n e t) :
    SndX sc n (.AugAssign (.Name x px) .Add e pos) fun ρ => match findE ρ x with
      | some (.own l) => (t ρ).bind fun b => match b with
        | .list m => .chk (decide (l.length + m.length ≤ sizeLine)) (.ret (setE (updE ρ x (.own (l ++ m))) x (.own (l ++ m)), .next))
        | _ => .fail
      | _ => .fail := fun c O Ap X ad ρ s I Q E h => by
  dsimp only at h
  split at h
  · rename_i l hf
    have hx := findE_mem hf
    refine wpAny_AugAssign_Name (ldName O I hx (isVar_or hv) fun vx rx => ?_)
    obtain ⟨rfl, hmX, vs, hl₀, rs⟩ := rx
    refine he c O X ad ρ s I _ _ (T.holds_mono (fun b hb vb s₁ x₁ rb => ?_) _ (T.holds_bind _ h))
    split at hb
    · rename_i m
      obtain ⟨hz, hb⟩ := T.holds_chk hb
      have hz : l.length + m.length ≤ sizeLine := by simpa using hz
      obtain ⟨a, us, rfl, ⟨k2, hl2⟩, rm⟩ := rb
      have I₁ := I.nxt O x₁
      have hl₁ := hl₀.grow I.wf.tabs x₁.ext.grow
      have rs₁ := I.rps O x₁ rs
      obtain ⟨k, hl₁'⟩ := id hl₁
      have hsz : vs.toArray.size + us.toArray.size ≤ sizeLine := by rw [List.size_toArray, List.size_toArray, rs₁.length, rm.length]; exact hz
      refine wpAny_inplaceOp_list ⟨_, hl₁', rfl⟩ ⟨_, hl2, rfl⟩ ?_
      have hs := Heap.SameBut.update s₁.heap (ad x) (Obj.mapSeq fun xs => xs ++ us.toArray)
      refine call_meets F.slot_list_iadd ⟨_, hl₁', rfl⟩ F.entry_list_iadd (F.args_list_iadd_2 _ _) (AutoSeq1.list___iadd___list_list_0 _ vs.toArray k _ us.toArray k2 ?_ (by omega) (by omega)) ⟨hl₁', hl2, ?_⟩
      · have hs0 : Builtin.List.listTooLong (vs.toArray.size + us.toArray.size) = false := by
          unfold Builtin.List.listTooLong; simp only [decide_eq_false_iff_not]; omega
        rw [hs0]; simp
      · have I₂ := I₁.mut O (t := s₁.toks) (l' := l ++ m) hx hs hl₁ (lst_app hl₁) ((Rps.same hs.extBut (.inl hmX) _ _ rs₁).append (Rps.same hs.extBut (.inl hmX) _ _ rm))
        obtain ⟨v, rv⟩ := I₂.ent (.head _)
        obtain rfl := rv.1
        exact wp_store O Ap (I₂.wo x) hv (own_fits I₂ (.head _)) rv fun s' I' => hb s' X ad .next I' trivial
    · exact hb.elim
  · exact h.elim
end
end Mine
namespace Mine
theorem funFrames_ext {h h' base : Heap} : ∀ {l : List Env}, (∀ b ∈ l.filterMap (·.frame), ∀ o, h.get? b = some o → h'.get? b = some o) → h.FunFrames base l → h'.FunFrames base l
  | [], _, _ => trivial
  | env :: r, hk, ⟨h1, ⟨L, o, hf, hb, hL, hd⟩, hr⟩ => by
    have hm : L ∈ (env :: r).filterMap (·.frame) := List.mem_filterMap.mpr ⟨env, .head _, hf⟩
    refine ⟨h1, ⟨L, o, hf, hb, hk L hm o hL, hd⟩, funFrames_ext (fun b hb => hk b ?_) hr⟩
    obtain ⟨e, he, q⟩ := List.mem_filterMap.mp hb
    exact List.mem_filterMap.mpr ⟨e, .tail _ he, q⟩
theorem tabs_ext {h h' : Heap} {a : Addr} {oa : Obj} (t : TabsOk h) (hk : Heap.ExtBut a h h') (ho : h.get? a = some oa) (hn : noCode oa) : TabsOk h' := by
  refine ⟨?_, ?_⟩
  · obtain ⟨ps, hP, hc⟩ := t.l
    have hne : 232 ≠ a := fun q => by rw [q, ho] at hP; cases hP; exact hn.1 _ rfl
    refine ⟨ps, hk _ _ hne hP, hc.imp id fun ⟨cc, e, nt, c', o, vs, t, e', hoc, hd, hv⟩ => ⟨cc, e, nt, c', o, vs, t, e', hk _ _ (fun q => ?_) hoc, hd, hv⟩⟩
    rw [q, ho] at hoc; cases hoc; exact hn.2 vs _ _ hd hv
  · obtain ⟨ps, hP, hc⟩ := t.t
    have hne : 86 ≠ a := fun q => by rw [q, ho] at hP; cases hP; exact hn.1 _ rfl
    refine ⟨ps, hk _ _ hne hP, hc.imp id fun ⟨cc, e, nt, c', o, vs, t, e', hoc, hd, hv⟩ => ⟨cc, e, nt, c', o, vs, t, e', hk _ _ (fun q => ?_) hoc, hd, hv⟩⟩
    rw [q, ho] at hoc; cases hoc; exact hn.2 vs _ _ hd hv
section
variable {sc : Scope} {n : Nat}
theorem Inv.off {c : Cx} {X : List Addr} {ad : Str → Addr} {ρ : Rho} {s : Shared} (O : Ok sc n c) {a : Addr} (I : Inv c (a :: X) ad ρ s) {h' : Heap} {oa : Obj} {es : Array DictEntry} {k : Nat} (hk : Heap.ExtBut a s.heap h') (ho : s.heap.get? a = some oa) (hd : oa.data = .dict es k)
    (haX : a ∉ X) (hX0 : ∀ b ∈ c.X0, b ∈ X) (haF : a ∉ c.F) (hL : c.env.locals ≠ a) (h0 : c.h0.get? a = none) : Inv c X ad ρ { s with heap := h' } := by
  have hn : noCode oa := ⟨fun ps e => (by rw [e] at hd; cases hd), fun vs q t e => by rw [hd] at e; cases e⟩
  have T' := tabs_ext I.wf.tabs hk ho hn
  have hH : c.H.get? a = none := by
    cases e : c.H.get? a with
    | none => rfl
    | some o => have := O.base a o e; rw [h0] at this; cases this
  have hb : c.H.StaysIn h' := fun b o e => hk b o (fun q => by rw [q, hH] at e; cases e) (I.wf.stays b o e)
  have hm : ∀ b ∈ X, b ∈ a :: X := fun b hb => .tail _ hb
  have ent : ∀ y e v, EntIn c.w (a :: X) ad s.heap y v e → EntIn c.w X ad h' y v e := fun y e v r => by
    cases e with
    | val d => exact Rp.mono hm _ _ (Rp.same hk (.inl (.head _)) _ _ r)
    | own l =>
      obtain ⟨e, h1, vs, ⟨k', hl⟩, r⟩ := r
      have hne : ad y ≠ a := fun q => by rw [q, ho] at hl; cases hl; cases hd
      exact ⟨e, (List.mem_cons.mp h1).resolve_left hne, vs, ⟨k', hk _ _ hne hl⟩, Rps.mono hm _ _ (Rps.same hk (.inl (.head _)) _ _ r)⟩
    | app z =>
      obtain ⟨b, e, hb⟩ := r
      exact ⟨b, e, hk _ _ (fun q => by rw [q, ho] at hb; cases hb; cases hd) hb⟩
  refine ⟨⟨⟨I.wf.below.stack, hb, funFrames_ext (fun b hbF o e => hk b o (fun q => haF (q ▸ hbF)) e) I.wf.below.frames⟩, T', I.wf.handled, fun b hbF => let ⟨o, es, n, e, hd⟩ := I.wf.dicts b hbF; ⟨o, es, n, hk b o (fun q => haF (q ▸ hbF)) e, hd⟩⟩, ⟨hb, fun b o e nt => ?_, T'⟩, I.gens, I.os, hX0, fun b hb => ?_, fun p hp => ?_, fun y b hy => ?_, fun g hg => Rp.mono hm _ _ (Rp.same hk (.inl (.head _)) _ _ (I.ghs g hg)), I.kinds, I.nd, ?_, fun y e hy hky => ?_, I.inj, I.ownf⟩
  · obtain ⟨sl, e', r⟩ := I.ext.grow b o e nt
    exact ⟨sl, hk _ _ (fun q => by rw [q, h0] at e; cases e) e', r⟩
  · obtain ⟨o, e⟩ := I.ex b (hm b hb)
    exact ⟨o, hk b o (fun q => haX (q ▸ hb)) e⟩
  · obtain ⟨k1, k2, k3, k4, k5⟩ := I.pins p hp
    exact ⟨hk _ _ (fun q => k5 (q ▸ .head _)) k1, k2, k3, k4, fun q => k5 (.tail _ q)⟩
  · obtain ⟨w, o, e1, e2⟩ := I.cells y b hy
    exact ⟨w, o, hk b o (fun q => by rw [q, ho] at e1; cases e1; rw [hd] at e2; cases e2) e1, e2⟩
  · obtain ⟨m, hn, h⟩ := I.ns
    exact ⟨m, Heap.Ns.at' hn fun o e => hk _ o hL e, fun y e hy hky => let ⟨v, hv, r⟩ := h y e hy hky; ⟨v, hv, ent y e v r⟩⟩
  · obtain ⟨b, v, hb, ⟨o, e1, e2⟩, r⟩ := I.cel y e hy hky
    exact ⟨b, v, hb, ⟨o, hk b o (fun q => by rw [q, ho] at e1; cases e1; rw [hd] at e2; cases e2) e1, e2⟩, ent y e v r⟩
noncomputable def swapB (sc : Scope) (y : Str) (py pos : Pos) (scope : Scope) : Bool :=
  sc.names.lookup y == some .local && py.line == pos.line && !(scope.names.any fun (n, k) => n == y && (k == .local || k == .cell))
theorem swaps_is {c : Cx} (O : Ok sc n c) {elt : Expr} {gens : List Comprehension} {scope : Scope} {pos py : Pos} {y : Str} {l : Nat} : swapsWith (.ListComp elt gens scope pos) (some (.Name y py)) l c.env = pure (swapB sc y py pos scope) := by
  have hb : (c.env.blockKind == ScopeKind.function) = true := by
    unfold Env.blockKind
    rw [O.kind]; rfl
  show pure (c.env.blockKind == .function && c.env.kindOf y == some .local && py.line == pos.line && !(scope.names.any fun (n, k) => n == y && (k == .local || k == .cell))) = _
  rw [hb, O.names]
  rfl
theorem sndX_AssignC {y : Str} {py spos : Pos} {scope : Scope} {x : Str} {px : Pos} {elt iter : Expr} {ifs : List Expr} {pos : Pos} (hv : isVar sc y = true) (hc : compOk scope sc x = true) (hset : noSet iter = true)
    {ti : Rho → T (List PV)} {tt : Rho → T Bool} {te : Rho → T PV} (hi : SndI sc n iter ti false) (htt : SndIfs (relab scope sc) n ifs tt) (hte : SndE (relab scope sc) n elt te) :
    SndX sc n (.Assign [.Name y py] (.ListComp elt [⟨.Name x px, iter, ifs, 0⟩] scope pos) spos) fun ρ => (compTs ti tt te scope sc x ρ).bind fun rs => .ret (setE ρ y (.val (.list rs)), .next) := fun c O Ap X ad ρ s I Q E h => by
  cases hsw : swapB sc y py pos scope with
  | false =>
    refine wpAny_Assign_Name (sndE_ListComp hc hset hi htt hte c O X ad ρ s I _ _ (T.bind_holds _ (T.holds_mono (fun rs hr => ?_) _ (T.holds_bind _ h)))) (by rw [swaps_is O, hsw])
    exact fun v s' x r => wp_store O Ap ((I.nxt O x).wo _) hv (e := .val (.list rs)) .val r fun s₂ I₂ => hr s₂ X ad _ I₂ trivial
  | true =>
    have hyl : c.env.kindOf y = some .local := by
      rw [O.names]
      simp only [swapB, Bool.and_eq_true, beq_iff_eq] at hsw
      exact hsw.1.1
    rw [exec_Assign_Name_used _ _ _ _ (by rw [swaps_is O, hsw])]
    refine wpAny_bind (wpAny_standAt (wpAny_bind ?_))
    show wpAny _ _ (do let _ ← comprehension (.ListComp elt [⟨.Name x px, iter, ifs, 0⟩] scope pos) scope c.env _ (newList []) false (eval iter c.env) (some (assign (.Name y py) c.env))) _ _ s
    refine wpAny_bind (wpAny_mono (comp_core O I hc hset hi htt hte (use := some (assign (.Name y py) c.env)) (Q := fun _ s' => Q .next s') ?_) (fun _ s' hq => wpAny_pure (wpAny_pure hq)) fun _ _ e => e)
    refine T.holds_mono (fun ds hd => ?_) _ (T.holds_bind _ (T.holds_bind _ h))
    obtain ⟨hl, hd⟩ := T.holds_chk hd
    refine ⟨by simpa using hl, T.holds_mono (fun rs hr D C s' sh => ?_) _ hd⟩
    show wpAny _ _ (assign (.Name y py) c.env (.ref D)) _ _ _
    obtain ⟨mC, hnC⟩ := sh.ns
    obtain ⟨oC, esC, kC, hoC, hdC⟩ := nsObj hnC
    have I' := I.addX O sh.cn sh.nxt ⟨_, hoC⟩ (ad' := ad) (fun _ _ _ => rfl) (fun _ _ _ => rfl)
    obtain ⟨ys, hl, hr'⟩ := sh.lst
    have hDX : D ∉ X := fun q => by obtain ⟨o, e⟩ := I.ex D q; rw [sh.dn] at e; cases e
    have hCX : C ∉ X := fun q => by obtain ⟨o, e⟩ := I.ex C q; rw [sh.cn] at e; cases e
    have rD : Rp c.w (C :: X) s'.heap (.list rs) (.ref D) := ⟨D, ys, rfl, fun q => (List.mem_cons.mp q).elim sh.ne hDX, hl, Rps.mono (fun b hb => (List.mem_cons.mp hb).elim (fun q => q ▸ .head _) fun hb => .tail _ (.tail _ hb)) _ _ hr'⟩
    obtain ⟨m, hn, hm⟩ := I'.ns
    have hLC : c.env.locals ≠ C := fun q => hCX (q ▸ I.sub _ O.locX)
    refine wpAny_assign_Name (wpAny_storeName_local hyl hn (fun h₂ hn₂ hs₂ => ?_) (by rw [O.kind]; rfl))
    have I₂ := I'.store O (t := s'.toks + 1) hyl rfl hn (fun z e hz hkz => hm z e (mem_without hz).1 hkz) (show EntIn c.w (C :: X) ad s'.heap y (.ref D) (.val (.list rs)) from rD) hn₂ hs₂
    refine ⟨mC, hnC.sameBut hs₂ (Ne.symm hLC), fun h₃ hs₃ => ?_⟩
    have hoC₂ : h₂.get? C = some oC := hs₂.extBut _ _ (Ne.symm hLC) hoC
    refine hr _ X ad .next (I₂.off O hs₃.extBut hoC₂ hdC hCX (fun b hb => I.sub b hb) (fun q => ?_) hLC (I.h0fresh sh.cn)) trivial
    exact hCX (I.sub _ (O.hF _ q))
end
end Mine
namespace Mine
noncomputable def Keep (h h' : Heap) : Prop := ∀ b o, h.get? b = some o → o.cls = .type "list" ∨ o.cls = .type "dict" → h'.get? b = some o
mutual
theorem Rp.keep {w : World} {X : List Addr} {h h' : Heap} (hk : Keep h h') : ∀ (d : PV) (v : Value), Rp w X h d v → Rp w X h' d v
  | .none, _, r => r
  | .bool _, _, r => r
  | .int _, _, r => r
  | .str _, _, r => r
  | .raw _, _, r => r
  | .list l, _, r => by
    obtain ⟨a, vs, e, ha, ⟨k, hl⟩, r⟩ := r
    exact ⟨a, vs, e, ha, ⟨k, hk _ _ hl (.inl rfl)⟩, Rps.keep hk l vs r⟩
  | .arg l, _, r => by
    obtain ⟨a, vs, e, ha, ⟨o, ho, hc, q⟩, r⟩ := r
    exact ⟨a, vs, e, ha, ⟨o, hk _ _ ho (.inl hc), hc, q⟩, Rps.keep hk l vs r⟩
  | .dict _ ds, _, r => by
    obtain ⟨a, kvs, e, ha, h0, ⟨o, es, ep, ho, hc, q⟩, hq, r⟩ := r
    exact ⟨a, kvs, e, ha, h0, ⟨o, es, ep, hk _ _ ho (.inr hc.1), hc, q⟩, hq, Rps.keep hk ds _ r⟩
theorem Rps.keep {w : World} {X : List Addr} {h h' : Heap} (hk : Keep h h') : ∀ (ds : List PV) (vs : List Value), Rps w X h ds vs → Rps w X h' ds vs
  | [], _, r => r
  | d :: ds, _, ⟨v, r, e, h1, h2⟩ => ⟨v, r, e, Rp.keep hk d v h1, Rps.keep hk ds r h2⟩
end
noncomputable def isWalk (o : Obj) : Prop := noCode o ∧ (∀ es n, o.data ≠ .dict es n) ∧ (∀ v, o.data ≠ .cell v) ∧ o.cls ≠ .type "list" ∧ o.cls ≠ .type "dict" ∧ ¬ isMeth o
section
variable {sc : Scope} {n : Nat}
theorem Inv.walks {c : Cx} {X : List Addr} {ad : Str → Addr} {ρ : Rho} {s : Shared} (O : Ok sc n c) (I : Inv c X ad ρ s) {wr : List Addr} {h' : Heap} {t : Nat} (hk : ∀ b o, b ∉ wr → s.heap.get? b = some o → h'.get? b = some o)
    (hw : ∀ a ∈ wr, a ∉ X ∧ c.h0.get? a = none ∧ ∃ o, s.heap.get? a = some o ∧ isWalk o) (hp : ∀ p ∈ c.pin, p.1 ∉ wr) : Inv c X ad ρ { s with heap := h', toks := t } := by
  have ne : ∀ b o, s.heap.get? b = some o → ¬ isWalk o → h'.get? b = some o := fun b o e hn => hk b o (fun q => by obtain ⟨_, _, o', e', i⟩ := hw b q; rw [e] at e'; cases e'; exact hn i) e
  have hK : Keep s.heap h' := fun b o e q => ne b o e fun i => q.elim i.2.2.2.1 i.2.2.2.2.1
  have T' : TabsOk h' := by
    have tab : ∀ ps, ¬ isWalk (tabObj ps) := fun ps i => i.1.1 ps rfl
    have cod : ∀ (o : Obj) (vs : Array Value) (q : Str) (t : Tok), o.data = .fields vs → vs[1]? = some (.str q t) → ¬ isWalk o := fun o vs q t h1 h2 i => i.1.2 vs q t h1 h2
    refine ⟨?_, ?_⟩
    · obtain ⟨ps, hP, hc⟩ := I.wf.tabs.l
      exact ⟨ps, ne _ _ hP (tab ps), hc.imp id fun ⟨cc, e, nt, c', o, vs, t, e', hoc, hd, hv⟩ => ⟨cc, e, nt, c', o, vs, t, e', ne _ _ hoc (cod o vs _ _ hd hv), hd, hv⟩⟩
    · obtain ⟨ps, hP, hc⟩ := I.wf.tabs.t
      exact ⟨ps, ne _ _ hP (tab ps), hc.imp id fun ⟨cc, e, nt, c', o, vs, t, e', hoc, hd, hv⟩ => ⟨cc, e, nt, c', o, vs, t, e', ne _ _ hoc (cod o vs _ _ hd hv), hd, hv⟩⟩
  have hH : ∀ a ∈ wr, c.H.get? a = none := fun a ha => by
    cases e : c.H.get? a with
    | none => rfl
    | some o => have := O.base a o e; rw [(hw a ha).2.1] at this; cases this
  have hb : c.H.StaysIn h' := fun b o e => hk b o (fun q => by rw [hH b q] at e; cases e) (I.wf.stays b o e)
  have hF : ∀ b ∈ c.F, b ∉ wr := fun b hb q => (hw b q).1 (I.sub b (O.hF b hb))
  have ent : ∀ y e v, EntIn c.w X ad s.heap y v e → EntIn c.w X ad h' y v e := fun y e v r => by
    cases e with
    | val d => exact Rp.keep hK _ _ r
    | own l => obtain ⟨e, h1, vs, ⟨k', hl⟩, r⟩ := r; exact ⟨e, h1, vs, ⟨k', hK _ _ hl (.inl rfl)⟩, Rps.keep hK _ _ r⟩
    | app z => obtain ⟨b, e, hb⟩ := r; exact ⟨b, e, ne _ _ hb fun i => i.2.2.2.2.2 rfl⟩
  refine ⟨⟨⟨I.wf.below.stack, hb, funFrames_ext (fun b hbF o e => hk b o (hF b hbF) e) I.wf.below.frames⟩, T', I.wf.handled, fun b hbF => let ⟨o, es, n, e, hd⟩ := I.wf.dicts b hbF; ⟨o, es, n, hk b o (hF b hbF) e, hd⟩⟩, ⟨hb, fun b o e nt => ?_, T'⟩, I.gens, I.os, I.sub, fun b hb => ?_, fun p hq => ?_, fun y b hy => ?_, fun g hg => Rp.keep hK _ _ (I.ghs g hg), I.kinds, I.nd, ?_, fun y e hy hky => ?_, I.inj, I.ownf⟩
  · obtain ⟨sl, e', r⟩ := I.ext.grow b o e nt
    exact ⟨sl, hk _ _ (fun q => by rw [(hw b q).2.1] at e; cases e) e', r⟩
  · obtain ⟨o, e⟩ := I.ex b hb
    exact ⟨o, hk b o (fun q => (hw b q).1 hb) e⟩
  · obtain ⟨k1, k2⟩ := I.pins p hq
    exact ⟨hk _ _ (hp p hq) k1, k2⟩
  · obtain ⟨w, o, e1, e2⟩ := I.cells y b hy
    exact ⟨w, o, ne b o e1 fun i => i.2.2.1 _ e2, e2⟩
  · obtain ⟨m, hn, h⟩ := I.ns
    exact ⟨m, Heap.Ns.at' hn fun o e => hk _ o (fun q => (hw _ q).1 (I.sub _ O.locX)) e, fun y e hy hky => let ⟨v, hv, r⟩ := h y e hy hky; ⟨v, hv, ent y e v r⟩⟩
  · obtain ⟨b, v, hb, ⟨o, e1, e2⟩, r⟩ := I.cel y e hy hky
    exact ⟨b, v, hb, ⟨o, ne b o e1 fun i => i.2.2.1 _ e2, e2⟩, ent y e v r⟩
end
end Mine
namespace Mine
noncomputable def forZ (body : Rho → T (Rho × Fl)) (x y : Str) : List PV → List PV → Rho → T (Rho × Fl)
  | a :: as, b :: bs, ρ => (body (setE (setE ρ x (.val a)) y (.val b))).bind fun r => match r.2 with | .next => forZ body x y as bs r.1 | .brk => .ret (r.1, .next) | .ret d => .ret (r.1, .ret d)
  | _, _, ρ => .ret (ρ, .next)
theorem forZ_stop {body : Rho → T (Rho × Fl)} {x y : Str} {ρ : Rho} : ∀ {as bs : List PV}, as = [] ∨ bs = [] → forZ body x y as bs ρ = .ret (ρ, .next)
  | [], _, _ => by cases ‹List PV› <;> rfl
  | _ :: _, [], _ => rfl
  | _ :: _, _ :: _, h => by rcases h with h | h <;> cases h
noncomputable def canPin (o : Obj) : Prop := o.cls ≠ .none ∧ (∀ es n, o.data ≠ .dict es n) ∧ ∀ v, o.data ≠ .cell v
theorem pin_all {h : Heap} : ∀ (l : List Addr), (∀ b ∈ l, ∃ o, h.get? b = some o ∧ canPin o) → ∃ ps : List (Addr × Obj), (∀ b ∈ l, ∃ o, (b, o) ∈ ps) ∧ ∀ q ∈ ps, q.1 ∈ l ∧ h.get? q.1 = some q.2 ∧ canPin q.2
  | [], _ => ⟨[], fun _ h => (nomatch h), fun _ h => (nomatch h)⟩
  | b :: l, hl => by
    obtain ⟨ps, h1, h2⟩ := pin_all l fun z hz => hl z (.tail _ hz)
    obtain ⟨o, ho, hc⟩ := hl b (.head _)
    refine ⟨(b, o) :: ps, fun z hz => ?_, fun q hq => ?_⟩
    · rcases List.mem_cons.mp hz with rfl | hz
      · exact ⟨o, .head _⟩
      · obtain ⟨o', h⟩ := h1 z hz; exact ⟨o', .tail _ h⟩
    · rcases List.mem_cons.mp hq with rfl | hq
      · exact ⟨.head _, ho, hc⟩
      · exact ⟨.tail _ (h2 q hq).1, (h2 q hq).2⟩
theorem walk_iter {J ax : Addr} {i : Nat} {h : Heap} (x : h.IsListIter J ax i) : ∃ o, h.get? J = some o ∧ isWalk o ∧ canPin o := by
  obtain ⟨o, ho, hc, hd⟩ := x
  refine ⟨o, ho, ⟨.of (by rw [hc]; simp) fun vs q t e => (by rw [hd] at e; cases e; simp), fun _ _ e => (by rw [hd] at e; cases e), fun _ e => (by rw [hd] at e; cases e), by rw [hc]; simp, by rw [hc]; simp, by unfold isMeth; rw [hc]; simp⟩, by rw [hc]; simp, fun _ _ e => (by rw [hd] at e; cases e), fun _ e => (by rw [hd] at e; cases e)⟩
theorem walk_zip {z TI TO : Addr} {f : Value} {h : Heap} (x : IsZip h z TI TO f) : ∃ o, h.get? z = some o ∧ isWalk o ∧ canPin o :=
  ⟨_, x, ⟨.of (by simp) fun vs q t e => (by cases e; simp), fun _ _ e => (by cases e), fun _ e => (by cases e), by simp, by simp, by simp [isMeth]⟩, by simp, fun _ _ e => (by cases e), fun _ e => (by cases e)⟩
theorem walk_pair {T : Addr} {a b : Value} {h : Heap} (x : IsPair h T a b) : ∃ o, h.get? T = some o ∧ isWalk o ∧ canPin o :=
  ⟨_, x, ⟨.of (by simp) fun vs q t e => (by cases e), fun _ _ e => (by cases e), fun _ e => (by cases e), by simp, by simp, by simp [isMeth]⟩, by simp, fun _ _ e => (by cases e), fun _ e => (by cases e)⟩
theorem pin_list {a : Addr} {vs : Array Value} {h : Heap} (x : h.IsList a vs) : ∃ o, h.get? a = some o ∧ canPin o := by
  obtain ⟨o, ho, hc, k, hd⟩ := x
  exact ⟨o, ho, by rw [hc]; simp, fun _ _ e => (by rw [hd] at e; cases e), fun _ e => (by rw [hd] at e; cases e)⟩
section
variable {sc : Scope} {n : Nat}
theorem all4 {P : Addr → Prop} {a b c d : Addr} (h1 : P a) (h2 : P b) (h3 : P c) (h4 : P d) : ∀ x ∈ [a, b, c, d], P x := fun x hx => by
  rcases List.mem_cons.mp hx with rfl | hx
  · exact h1
  rcases List.mem_cons.mp hx with rfl | hx
  · exact h2
  rcases List.mem_cons.mp hx with rfl | hx
  · exact h3
  rw [List.mem_singleton.mp hx]; exact h4
theorem all7 {P : Addr → Prop} {a b c d e f g : Addr} (h1 : P a) (h2 : P b) (h3 : P c) (h4 : P d) (h5 : P e) (h6 : P f) (h7 : P g) : ∀ x ∈ [a, b, c, d, e, f, g], P x := fun x hx => by
  rcases List.mem_cons.mp hx with rfl | hx
  · exact h1
  rcases List.mem_cons.mp hx with rfl | hx
  · exact h2
  rcases List.mem_cons.mp hx with rfl | hx
  · exact h3
  exact all4 h4 h5 h6 h7 x hx
theorem zip_loop {x y : Str} {px py tp : Pos} {k : Nat} {body : List Stmt} {tb : Rho → T (Rho × Fl)} (hx : isVar sc x = true) (hy : isVar sc y = true) (hb : SndS sc n body tb) {c : Cx} (O : Ok sc n c) (Ap : Apart c) {X : List Addr} {ad : Str → Addr} {ρ : Rho} {s₂ : Shared} {h' : Heap} {Q : Flow → Shared → Prop} {E : Value → Shared → Prop} {z TI TO i1 i2 l1 l2 : Addr} {us vs : List Value} {l m : List PV}
    (I₂ : Inv c X ad ρ s₂) (hkeep : ∀ b o, s₂.heap.get? b = some o → h'.get? b = some o) {k1 k2 : Nat} (hl1 : s₂.heap.get? l1 = some { cls := .type "list", data := .seq us.toArray k1 }) (hl2 : s₂.heap.get? l2 = some { cls := .type "list", data := .seq vs.toArray k2 })
    (ru : Rps c.w X s₂.heap l us) (rv : Rps c.w X s₂.heap m vs) (hX1 : l1 ∉ X) (hX2 : l2 ∉ X) (D : ZipApart z TI TO i1 i2 l1 l2) (fr : ∀ b ∈ [z, TI, TO, i1, i2], s₂.heap.get? b = none)
    (hz : IsZip h' z TI TO .none) (hTI : IsPair h' TI (.ref i1) (.ref i2)) (hTO : IsPair h' TO .none .none) (hI1 : h'.IsListIter i1 l1 0) (hI2 : h'.IsListIter i2 l2 0) (hd2 : (forZ tb x y l m ρ).Holds (Mine.St c Q)) :
    codeAny (model pw c.w) c.A (.forLoop (.Tuple [.Name x px, .Name y py] k tp) (.ref z) body [] c.env)
      (fun r s' => match r with | .ok f => Q f s' | .error e => cameBackBy (model pw c.w) c.A c.env E e s') { s₂ with heap := h' } := by
  have x₃ : Nxt c.H c.F s₂ { s₂ with heap := h' } := ⟨.keep I₂.wf.stays I₂.wf.tabs hkeep, rfl, rfl⟩
  have I₃ := I₂.nxt O x₃
  have W := WalksT.zip2 (prog := pw) (w := c.w) (A := c.A) I₂.wf.handled z TI TO i1 i2 l1 l2 D us.toArray vs.toArray
  have freshTI : s₂.heap.get? TI = none := fr _ (.tail _ (.head _))
  have fresh₂ : ∀ b ∈ [z, TO, i1, i2], s₂.heap.get? b = none := all4 (fr _ (.head _)) (fr _ (.tail _ (.tail _ (.head _)))) (fr _ (.tail _ (.tail _ (.tail _ (.head _))))) (fr _ (.tail _ (.tail _ (.tail _ (.tail _ (.head _))))))
  have notX : ∀ b, s₂.heap.get? b = none → b ∉ X := fun b e q => by obtain ⟨o, e'⟩ := I₂.ex b q; rw [e] at e'; cases e'
  have hfpX : ∀ b ∈ [z, TI, TO, i1, i2, l1, l2], b ∉ X := all7 (notX _ (fr _ (.head _))) (notX _ freshTI) (notX _ (fr _ (.tail _ (.tail _ (.head _))))) (notX _ (fr _ (.tail _ (.tail _ (.tail _ (.head _)))))) (notX _ (fr _ (.tail _ (.tail _ (.tail _ (.tail _ (.head _))))))) hX1 hX2
  have h0w : ∀ b ∈ [z, TO, i1, i2], c.h0.get? b = none := fun b hb => I₂.h0fresh (fresh₂ b hb)
  have hpw : ∀ p ∈ c.pin, p.1 ∉ [z, TO, i1, i2] := fun p hp q => by obtain ⟨j1, _⟩ := I₂.pins p hp; rw [fresh₂ _ q] at j1; cases j1
  let gh := us.zip l ++ (vs.zip m ++ c.gh)
  have I₃' : Inv (c.pg c.pin gh) X ad ρ { s₂ with heap := h' } := I₃.pg I₃.pins (fun q hq => by
    rcases List.mem_append.mp hq with hq | hq
    · exact I₂.rp O x₃ (zip_rp ru q hq)
    · rcases List.mem_append.mp hq with hq | hq
      · exact I₂.rp O x₃ (zip_rp rv q hq)
      · exact I₃.ghs q hq) fun y l hy q hq => (I₃.ownf y l hy).2.2 q hq
  have O₀ := O.pg c.pin gh
  have hlen1 : us.length = l.length := ru.length
  have hlen2 : vs.length = m.length := rv.length
  refine codeAny_forLoop_any (fun k s' => ∃ i X' ad' ρ', k = min us.toArray.size vs.toArray.size + 1 - i ∧ i ≤ min us.toArray.size vs.toArray.size ∧ (∀ b ∈ [z, TI, TO, i1, i2, l1, l2], b ∉ X') ∧ Inv (c.pg c.pin gh) X' ad' ρ' s' ∧
    (IsZip s'.heap z TI TO .none ∧ IsPair s'.heap TI (.ref i1) (.ref i2) ∧ (∃ a b, IsPair s'.heap TO a b) ∧ s'.heap.IsListIter i1 l1 i ∧ s'.heap.IsListIter i2 l2 i ∧ s'.heap.IsList l1 us.toArray ∧ s'.heap.IsList l2 vs.toArray) ∧
    (forZ tb x y (l.drop i) (m.drop i) ρ').Holds (Mine.St c Q)) ?_ _ ⟨0, X, ad, ρ, rfl, Nat.zero_le _, hfpX, I₃', ⟨hz, hTI, ⟨_, _, hTO⟩, hI1, hI2, ⟨_, hkeep _ _ hl1, rfl, _, rfl⟩, ⟨_, hkeep _ _ hl2, rfl, _, rfl⟩⟩, hd2⟩
  rintro kk s' ⟨i, X', ad', ρ', rfl, hle, hfp, I', st', h'⟩
  have wlk : ∀ {hh : Heap} {ff : Value} {j1 j2 : Nat}, IsZip hh z TI TO ff → (∃ a b, IsPair hh TO a b) → hh.IsListIter i1 l1 j1 → hh.IsListIter i2 l2 j2 → ∀ b ∈ [z, TO, i1, i2], ∃ o, hh.get? b = some o ∧ isWalk o := fun a1 ⟨_, _, a2⟩ a3 a4 =>
    all4 (let ⟨o, e, w, _⟩ := walk_zip a1; ⟨o, e, w⟩) (let ⟨o, e, w, _⟩ := walk_pair a2; ⟨o, e, w⟩) (let ⟨o, e, w, _⟩ := walk_iter a3; ⟨o, e, w⟩) (let ⟨o, e, w, _⟩ := walk_iter a4; ⟨o, e, w⟩)
  have wX : ∀ b ∈ [z, TO, i1, i2], b ∉ X' := all4 (hfp _ (.head _)) (hfp _ (.tail _ (.tail _ (.head _)))) (hfp _ (.tail _ (.tail _ (.tail _ (.head _))))) (hfp _ (.tail _ (.tail _ (.tail _ (.tail _ (.head _))))))
  by_cases hlt : i < min us.toArray.size vs.toArray.size
  · refine W.item i s' _ _ hlt st' fun TT vals h₁ tk hP hT hTt mid hk => ?_
    have I₁' : Inv (c.pg c.pin gh) X' ad' ρ' { s' with heap := h₁, toks := tk } := I'.walks O₀ hk (fun b hb => ⟨wX b hb, h0w b hb, wlk st'.1 st'.2.2.1 st'.2.2.2.1 st'.2.2.2.2.1 b hb⟩) hpw
    refine W.go _ _ _ i TT _ _ _ mid fun h₂ st₂ hk₂ => ?_
    have I₂' : Inv (c.pg c.pin gh) X' ad' ρ' { s' with heap := h₂, toks := tk } := by
      have := I₁'.walks O₀ (t := tk) hk₂ (fun b hb => ⟨wX b hb, h0w b hb, wlk mid.1 mid.2.2.1 mid.2.2.2.1 mid.2.2.2.2.1 b hb⟩) hpw
      exact this
    obtain ⟨u, v, hu, hv, rfl⟩ := hP
    have hT₂ : h₂.IsTuple TT #[u, v] := by obtain ⟨o, ho, r⟩ := hTt; exact ⟨o, hk₂ TT o (W.apart i TT _ mid) ho, r⟩
    -- all that the walk needs is held still
    obtain ⟨ps, hps1, hps2⟩ := pin_all (h := h₂) [z, TI, TO, i1, i2, l1, l2] (by
      obtain ⟨a1, a2, ⟨_, _, a3⟩, a4, a5, a6, a7⟩ := st₂
      exact all7 (let ⟨o, e, _, w⟩ := walk_zip a1; ⟨o, e, w⟩) (let ⟨o, e, _, w⟩ := walk_pair a2; ⟨o, e, w⟩) (let ⟨o, e, _, w⟩ := walk_pair a3; ⟨o, e, w⟩) (let ⟨o, e, _, w⟩ := walk_iter a4; ⟨o, e, w⟩) (let ⟨o, e, _, w⟩ := walk_iter a5; ⟨o, e, w⟩) (pin_list a6) (pin_list a7))
    have O₁ := O.pg (ps ++ c.pin) gh
    have Ap₁ := Ap.pg (ps ++ c.pin) gh
    have I₃ : Inv (c.pg (ps ++ c.pin) gh) X' ad' ρ' { s' with heap := h₂, toks := tk } := by
      have := I₂'.pg (p := ps ++ c.pin) (g := gh) (fun q hq => by
        rcases List.mem_append.mp hq with hq | hq
        · obtain ⟨a1, a2, a3, a4, a5⟩ := hps2 q hq
          exact ⟨a2, fun q' => (by obtain ⟨zs, e⟩ := I₂'.wf.tabs.fields a2 q'; rw [e] at a3; exact a3 rfl), a4, a5, hfp _ a1⟩
        · exact I₂'.pins q hq) I₂'.ghs fun y' l' hy' q hq e => by
        rcases List.mem_append.mp hq with hq | hq
        · obtain ⟨_, _, hm, _⟩ := I₂'.ent hy'
          exact hfp _ (hps2 q hq).1 (e ▸ hm)
        · exact (I₂'.ownf y' l' hy').2.2 q hq e
      exact this
    obtain ⟨d1, hd1'⟩ : ∃ d, l[i]? = some d := ⟨l[i]'(hlen1 ▸ (by simpa using (Nat.lt_of_lt_of_le hlt (Nat.min_le_left _ _)) : i < us.length)), by simp⟩
    obtain ⟨d2, hd2'⟩ : ∃ d, m[i]? = some d := ⟨m[i]'(hlen2 ▸ (by simpa using (Nat.lt_of_lt_of_le hlt (Nat.min_le_right _ _)) : i < vs.length)), by simp⟩
    have q1 : (u, d1) ∈ gh := List.mem_append_left _ (zip_mem (by simpa using hu) hd1')
    have q2 : (v, d2) ∈ gh := List.mem_append_right _ (List.mem_append_left _ (zip_mem (by simpa using hv) hd2'))
    have drop1 : l.drop i = d1 :: l.drop (i + 1) := by
      have hlt' := (List.getElem?_eq_some_iff.mp hd1').1
      rw [List.drop_eq_getElem_cons hlt', (List.getElem?_eq_some_iff.mp hd1').2]
    have drop2 : m.drop i = d2 :: m.drop (i + 1) := by
      have hlt' := (List.getElem?_eq_some_iff.mp hd2').1
      rw [List.drop_eq_getElem_cons hlt', (List.getElem?_eq_some_iff.mp hd2').2]
    rw [drop1, drop2] at h'
    refine wpAny_assign_Tuple I₂.wf.handled hT₂ rfl rfl fun h₃ hk₃ => ?_
    have x₄ : Nxt c.H c.F { s' with heap := h₂, toks := tk } { s' with heap := h₃, toks := tk } := ⟨.keep I₃.wf.stays I₃.wf.tabs fun b o e => hk₃ b o (Nat.ne_of_lt (Heap.lt_size e)) e, rfl, rfl⟩
    have I₄ := I₃.nxt O₁ x₄
    show wpAny _ _ (assignInOrder [assign (.Name x px) c.env, assign (.Name y py) c.env] [u, v]) _ _ _
    refine wpAny_bind (wpAny_holding (wpAny_assign_Name (wp_store O₁ Ap₁ (I₄.wo x) hx (e := .val d1) .val (I₄.ghs _ q1) fun s₅ I₅ => ?_)))
    refine wpAny_bind (wpAny_holding (wpAny_assign_Name (wp_store O₁ Ap₁ (I₅.wo y) hy (e := .val d2) .val (I₅.ghs _ q2) fun s₆ I₆ => ?_)))
    refine wpAny_pure ?_
    refine hb _ O₁ Ap₁ _ _ _ _ I₆ _ _ (T.holds_mono (fun r hr s₇ X₇ ad₇ fl I₇ hfl => ?_) _ (T.holds_bind _ h'))
    have I₇' : Inv c X₇ ad₇ r.1 s₇ := I₇.unpg (fun q hq => List.mem_append_right _ hq) fun q hq => List.mem_append_right _ (List.mem_append_right _ hq)
    have I₇'' : Inv (c.pg c.pin gh) X₇ ad₇ r.1 s₇ := I₇'.pg I₇'.pins I₇.ghs fun y l hy q hq => (I₇'.ownf y l hy).2.2 q hq
    obtain ⟨ρ₇, f⟩ := r
    cases f <;> cases fl <;> first | exact hfl.elim | skip
    · refine ⟨_, ?_, i + 1, X₇, ad₇, ρ₇, rfl, hlt, fun b hb => ?_, I₇'', ?_, hr⟩
      · omega
      · obtain ⟨ob, hob⟩ := hps1 b hb
        exact (I₇.pins (b, ob) (List.mem_append_left _ hob)).2.2.2.2
      · refine W.frame _ _ _ st₂ fun b hb o e => ?_
        obtain ⟨ob, hob⟩ := hps1 b hb
        obtain ⟨j1, _⟩ := I₇.pins (b, ob) (List.mem_append_left _ hob)
        have j2 := (hps2 _ hob).2.1
        have : o = ob := by rw [e] at j2; exact Option.some.inj j2
        rw [this]; exact j1
    · exact hr s₇ X₇ ad₇ _ I₇' trivial
    · exact hr s₇ X₇ ad₇ _ I₇' hfl
  · have hin : i = min us.toArray.size vs.toArray.size := by omega
    have hin' : i = min us.length vs.length := by simpa using hin
    subst hin
    refine W.done s' _ _ st' fun h₁ tk hk => ?_
    have I₁' : Inv (c.pg c.pin gh) X' ad' ρ' { s' with heap := h₁, toks := tk } := I'.walks O₀ hk (fun b hb => ⟨wX b hb, h0w b hb, wlk st'.1 st'.2.2.1 st'.2.2.2.1 st'.2.2.2.2.1 b hb⟩) hpw
    have hend : l.drop (min us.toArray.size vs.toArray.size) = [] ∨ m.drop (min us.toArray.size vs.toArray.size) = [] := by
      rw [hin']
      rcases Nat.le_total us.length vs.length with q | q
      · rw [Nat.min_eq_left q, hlen1]; exact .inl (List.drop_length ..)
      · rw [Nat.min_eq_right q, hlen2]; exact .inr (List.drop_length ..)
    rw [forZ_stop hend] at h'
    exact wpAny_execs_nil (h' _ X' ad' _ (I₁'.unpg (fun q hq => hq) fun q hq => List.mem_append_right _ (List.mem_append_right _ hq)) trivial)
theorem sndX_ForZip {x y : Str} {px py tp pos zp cp : Pos} {k : Nat} {f : Str} {e1 e2 : Expr} {body : List Stmt} {t1 t2 : Rho → T PV} {tb : Rho → T (Rho × Fl)} (hx : isVar sc x = true) (hy : isVar sc y = true) (hf : f = ("zip" : Str)) (hk : sc.names.lookup f = some .globalImplicit)
    (h1 : SndE sc n e1 t1) (h2 : SndE sc n e2 t2) (hn1 : noStar e1 = true) (hn2 : noStar e2 = true) (hb : SndS sc n body tb) :
    SndX sc n (.For (.Tuple [.Name x px, .Name y py] k tp) (.Call (.Name f zp) [e1, e2] [] cp) body [] pos) fun ρ => (t1 ρ).bind fun a => (t2 ρ).bind fun b => match a, b with
      | .list l, .list m => forZ tb x y l m ρ
      | _, _ => .fail := fun c O Ap X ad ρ s I Q E h => by
  subst hf
  refine wpAny_For ?_ (fun _ => rfl)
  refine wpAny_Call_NameR (ldBuiltin O I hk (by decide +kernel) (v := .type "zip") (by decide +kernel) ?_ (by decide +kernel) (by decide +kernel))
  rw [show backTo cp (starEach [e1, e2] c.env) = [(false, eval e1 c.env), (false, eval e2 c.env)] from by rw [starEach_cons hn1, starEach_cons hn2]; rfl]
  refine PySem.callWith_type rfl (evalArgs_plain (Calls.spliced_cons (h1 c O X ad ρ s I _ _ (T.holds_mono (fun d1 hd1 v1 s₁ x₁ r1 => ?_) _ (T.holds_bind _ h)))))
  have I₁ := I.nxt O x₁
  refine Calls.spliced_cons (h2 c O X ad ρ s₁ I₁ _ _ (T.holds_mono (fun d2 hd2 v2 s₂ x₂ r2 => ?_) _ (T.holds_bind _ hd1)))
  refine Calls.spliced_nil ?_
  have I₂ := I₁.nxt O x₂
  replace r1 := I₁.rp O x₂ r1
  split at hd2
  · rename_i l m
    obtain ⟨l1, us, rfl, hX1, ⟨k1, hl1⟩, ru⟩ := r1
    obtain ⟨l2, vs, rfl, hX2, ⟨k2, hl2⟩, rv⟩ := r2
    have hi1 : s₂.heap.IsList l1 us.toArray := ⟨_, hl1, rfl, _, rfl⟩
    have hi2 : s₂.heap.IsList l2 vs.toArray := ⟨_, hl2, rfl, _, rfl⟩
    refine call_zip_2 hi1 hi2 fun h' hz hTI hTO hI1 hI2 hsz hkeep => ?_
    refine wpAny_pyIter_zip hz ?_
    have lt1 : @LT.lt Nat _ l1 s₂.heap.objs.size := Heap.lt_size hl1
    have lt2 : @LT.lt Nat _ l2 s₂.heap.objs.size := Heap.lt_size hl2
    have D : ZipApart (s₂.heap.objs.size + 4) (s₂.heap.objs.size + 2) (s₂.heap.objs.size + 3) s₂.heap.objs.size (s₂.heap.objs.size + 1) l1 l2 := by constructor <;> (show @Ne Nat _ _; omega)
    exact zip_loop hx hy hb O Ap I₂ hkeep hl1 hl2 ru rv hX1 hX2 D (fun b hb => fresh_size (by
      simp only [List.mem_cons, List.mem_nil_iff, or_false] at hb
      rcases hb with rfl | rfl | rfl | rfl | rfl <;> (show @LE.le Nat _ s₂.heap.objs.size _; omega))) hz hTI hTO hI1 hI2 hd2
  · exact hd2.elim
end
end Mine
namespace Mine
theorem one_of {α : Type} {l : List α} (h : l.length = 1) : ∃ a, l = [a] := List.length_eq_one_iff.mp h
theorem two_of {α : Type} {l : List α} (h : l.length = 2) : ∃ a b, l = [a, b] := by
  cases l with
  | nil => cases h
  | cons a l => obtain ⟨b, rfl⟩ := one_of (Nat.succ.inj h); exact ⟨a, b, rfl⟩
theorem five_of {α : Type} {l : List α} (h : l.length = 5) : ∃ a b c d e, l = [a, b, c, d, e] := by
  cases l with
  | nil => cases h
  | cons a l =>
    cases l with
    | nil => cases h
    | cons b l =>
      cases l with
      | nil => cases h
      | cons c l => obtain ⟨d, e, rfl⟩ := two_of (Nat.succ.inj (Nat.succ.inj (Nat.succ.inj h))); exact ⟨a, b, c, d, e, rfl⟩
theorem three_of {α : Type} {l : List α} (h : l.length = 3) : ∃ a b c, l = [a, b, c] := by
  cases l with
  | nil => cases h
  | cons a l => obtain ⟨b, c, rfl⟩ := two_of (Nat.succ.inj h); exact ⟨a, b, c, rfl⟩
theorem cellsFrom_has : ∀ (names : List (Str × NameKind)) (k : Nat) (acc : List (Str × Addr)) (x : Str), (acc.lookup x).isSome = true ∨ names.lookup x = some .cell → ((cellsFrom k names acc).lookup x).isSome = true
  | [], k, acc, x, h => by
    rcases h with h | h
    · exact h
    · simp at h
  | (y, kd) :: r, k, acc, x, h => by
    simp only [cellsFrom]
    by_cases q : x = y
    · subst q
      cases hk : kd == NameKind.cell with
      | true => simp only [if_true]; exact cellsFrom_has r _ _ x (.inl (by simp))
      | false =>
        simp only [Bool.false_eq_true, if_false]
        refine cellsFrom_has r _ _ x (.inl ?_)
        rcases h with h | h
        · exact h
        · simp only [List.lookup_cons, beq_self_eq_true, Option.some.injEq] at h
          subst h; simp at hk
    · have hq : (x == y) = false := by simpa using q
      have h' : (acc.lookup x).isSome = true ∨ r.lookup x = some .cell := by
        rcases h with h | h
        · exact .inl h
        · simp only [List.lookup_cons, hq] at h; exact .inr h
      cases hk : kd == NameKind.cell with
      | true =>
        simp only [if_true]
        refine cellsFrom_has r _ _ x ?_
        rcases h' with h | h
        · exact .inl (by simp only [List.lookup_cons, hq]; exact h)
        · exact .inr h
      | false => simp only [Bool.false_eq_true, if_false]; exact cellsFrom_has r _ _ x h'
theorem lookup_mem {α : Type} : ∀ {l : List (Str × α)} {x : Str} {a : α}, l.lookup x = some a → (x, a) ∈ l
  | [], _, _, h => by simp at h
  | (y, b) :: r, x, a, h => by
    by_cases q : x = y
    · subst q; simp at h; subst h; exact .head _
    · have hq : (x == y) = false := by simpa using q
      simp only [List.lookup_cons, hq] at h
      exact .tail _ (lookup_mem h)
theorem pair_ne {l : List (Str × Addr)} (h : l.Pairwise fun x y => x.2 ≠ y.2) {p q : Str × Addr} (hp : p ∈ l) (hq : q ∈ l) (e : p.2 = q.2) : p = q := by
  induction h with
  | nil => cases hp
  | cons hd _ ih =>
    rcases List.mem_cons.mp hp with rfl | hp' <;> rcases List.mem_cons.mp hq with rfl | hq'
    · rfl
    · exact absurd e (hd q hq')
    · exact absurd e.symm (hd p hp')
    · exact ih hp' hq'
theorem bindL_not {kindOf : Str → Option NameKind} : ∀ (bs : List (Str × Value)) (m : Str → Option Value) (x : Str), x ∉ bs.map (·.1) → bindL kindOf bs m x = m x
  | [], m, x, _ => rfl
  | (y, v) :: r, m, x, h => by
    simp only [List.map_cons, List.mem_cons, not_or] at h
    simp only [bindL]
    rw [bindL_not r _ x h.2]
    split
    · exact if_neg h.1
    · rfl
theorem bindL_at {kindOf : Str → Option NameKind} : ∀ (bs : List (Str × Value)) (m : Str → Option Value) (x : Str) (v : Value), (bs.map (·.1)).Nodup → (x, v) ∈ bs → kindOf x = some .local → bindL kindOf bs m x = some v
  | [], _, _, _, _, h, _ => by cases h
  | (y, u) :: r, m, x, v, nd, h, hk => by
    simp only [List.map_cons, List.nodup_cons] at nd
    simp only [bindL]
    rcases List.mem_cons.mp h with e | e
    · cases e
      rw [bindL_not r _ _ nd.1, hk]; simp
    · exact bindL_at r _ x v nd.2 e hk
theorem bindC_not {kindOf : Str → Option NameKind} : ∀ (bs : List (Str × Value)) (m : Str → Option Value) (x : Str), x ∉ bs.map (·.1) → bindC kindOf bs m x = m x
  | [], m, x, _ => rfl
  | (y, v) :: r, m, x, h => by
    simp only [List.map_cons, List.mem_cons, not_or] at h
    simp only [bindC]
    rw [bindC_not r _ x h.2]
    split
    · rfl
    · exact if_neg h.1
theorem bindC_at {kindOf : Str → Option NameKind} : ∀ (bs : List (Str × Value)) (m : Str → Option Value) (x : Str) (v : Value), (bs.map (·.1)).Nodup → (x, v) ∈ bs → kindOf x = some .cell → bindC kindOf bs m x = some v
  | [], _, _, _, _, h, _ => by cases h
  | (y, u) :: r, m, x, v, nd, h, hk => by
    simp only [List.map_cons, List.nodup_cons] at nd
    simp only [bindC]
    rcases List.mem_cons.mp h with e | e
    · cases e
      rw [bindC_not r _ _ nd.1, hk]; simp
    · exact bindC_at r _ x v nd.2 e hk
noncomputable def rho0 (ps : List Str) (ds : List PV) : Rho := (ps.zip ds).map fun p => (p.1, .val p.2)
noncomputable def retT (r : Rho × Fl) : T PV := match r.2 with | .next => .ret .none | .ret d => .ret d | .brk => .fail
noncomputable def callT (ps : List Str) (t : Rho → T (Rho × Fl)) (ds : List PV) : T PV := if ds.length == ps.length then (t (rho0 ps ds)).bind retT else .fail
theorem rho0_at {w : World} {X : List Addr} {h : Heap} : ∀ {ps : List Str} {ds : List PV} {vs : List Value}, Rps w X h ds vs → ∀ x e, (x, e) ∈ rho0 ps ds → ∃ v d, e = .val d ∧ (x, v) ∈ ps.zip vs ∧ Rp w X h d v
  | [], _, _, _, x, e, hx => by simp [rho0] at hx
  | _ :: _, [], _, _, x, e, hx => by simp [rho0] at hx
  | p :: ps, d :: ds, _, ⟨v, r, q, h1, h2⟩, x, e, hx => by
    simp only [rho0, List.zip_cons_cons, List.map_cons] at hx
    rw [q, List.zip_cons_cons]
    rcases List.mem_cons.mp hx with e' | e'
    · cases e'; exact ⟨v, d, rfl, .head _, h1⟩
    · obtain ⟨v', d', e1, e2, e3⟩ := rho0_at h2 x e e'; exact ⟨v', d', e1, .tail _ e2, e3⟩
theorem rho0_keys : ∀ (ps : List Str) (ds : List PV), ((rho0 ps ds).map (·.1)).Sublist ps
  | [], _ => by simp [rho0]
  | _ :: _, [] => by simp [rho0]
  | p :: ps, d :: ds => by simpa [rho0] using rho0_keys ps ds
theorem zip_keys {α β : Type} : ∀ (ps : List α) (vs : List β), ps.length = vs.length → (ps.zip vs).map (·.1) = ps
  | [], _, _ => by simp
  | _ :: _, [], h => by simp at h
  | p :: ps, v :: vs, h => by simp [zip_keys ps vs (by simpa using h)]
theorem fd_scope (i : Nat) (c : Addr) (kw : Value) : (fdAt i c kw).scope = (fdAt i 0 .none).scope := by
  unfold fdAt
  generalize pw.main.body[i]? = o
  cases o with
  | none => rfl
  | some st => cases st <;> rfl
theorem body_run {y : Addr × Nat × Addr × Value × String} {n : Nat} {sc : Scope} {ps : List Str} {body : List Stmt} {t : Rho → T (Rho × Fl)} {pm : Value} (hy : y ∈ fnTab)
    (hsc : (fdAt y.2.1 y.2.2.1 y.2.2.2.1).scope = sc) (hbody : (fdAt y.2.1 y.2.2.1 y.2.2.2.1).body = .stmts body) (hkind : sc.kind = .function) (hco : sc.isCoroutine = false) (hge : sc.isGenerator = false)
    (hfix : (fdAt y.2.1 y.2.2.1 y.2.2.2.1).closure = [] ∧ (fdAt y.2.1 y.2.2.1 y.2.2.2.1).globals = 3 ∧ (fdAt y.2.1 y.2.2.1 y.2.2.2.1).builtins = 0 ∧ (fdAt y.2.1 y.2.2.1 y.2.2.2.1).code = .ref y.2.2.1 ∧ (fdAt y.2.1 y.2.2.1 y.2.2.2.1).qualname = nameAt y.2.1)
    (hps : ps.Nodup) (hvar : ∀ p ∈ ps, isVar sc p = true) {w : World} {H : Heap} {mg mb : Str → Option Value} (th : TH H mg mb) {A : Around} {frs : List Env} {s : Shared} {X : List Addr} {vs : List Value} {ds : List PV} {Q E : Value → Shared → Prop}
    (W : Wf H A frs s.heap) (R : Room (n + 2) A) (hF : ∀ a ∈ frs.filterMap (·.frame), a ∈ X) (hX : ∀ a ∈ X, ∃ o, s.heap.get? a = some o) (hr : Rps w X s.heap ds vs) (hlen : ds.length = ps.length)
    (pin : List (Addr × Obj)) (hpin : ∀ p ∈ pin, s.heap.get? p.1 = some p.2 ∧ ¬ isTab p.1 ∧ (∀ es n, p.2.data ≠ .dict es n) ∧ (∀ v, p.2.data ≠ .cell v) ∧ p.1 ∉ X)
    (hb : ∀ c : Cx, Ok sc n c → Apart c → c.pin = pin → c.w = w → ∀ X ad ρ s, Inv c X ad ρ s → ∀ (Q : Flow → Shared → Prop) (E : Value → Shared → Prop), (t ρ).Holds (Mine.St c Q) → wpAny (model pw c.w) c.A (execs body c.env) Q E s)
    (h : ((t (rho0 ps ds)).bind retT).Holds (fun d => ∀ v s', Nxt H (frs.filterMap (·.frame)) s s' → Rp w X s'.heap d v → Q v s')) :
    wpAny (model pw w) A.in1 (newFunctionEnv (fdAt y.2.1 y.2.2.1 y.2.2.2.1).scope (fdAt y.2.1 y.2.2.1 y.2.2.2.1).globals (fdAt y.2.1 y.2.2.1 y.2.2.2.1).closure (ps.zip vs) ((fdAt y.2.1 y.2.2.1 y.2.2.2.1).qualname ++ ".<locals>.") (some y.1) (fdAt y.2.1 y.2.2.1 y.2.2.2.1).code none (fdAt y.2.1 y.2.2.1 y.2.2.2.1).builtins)
        (fun env s₂ => s₂.heap.NoLimit ∧ codeAny (model pw w) A (.func body env) (wants Q E) s₂) (fun e s' => wants Q E (.error e) s') s := by
  obtain ⟨f1, f2, f3, f4, f5⟩ := hfix
  have hvl : vs.length = ps.length := hr.length.trans hlen
  have hnd : ((ps.zip vs).map (·.1)).Nodup := by rw [zip_keys _ _ hvl.symm]; exact hps
  have hlim : s.heap.NoLimit := th.nolimit.at fun o e => W.stays _ o e
  rw [f1]
  refine wpAny_newFunctionEnv_cells (hsc ▸ hkind) ?_ fun env he s₁ C => ?_
  · intro p hp
    have hp1 : p.1 ∈ ps := by
      have := List.mem_map_of_mem (f := (·.1)) hp
      rwa [zip_keys _ _ hvl.symm] at this
    rw [hsc]
    exact (isVar_or (hvar _ hp1)).imp id fun q => ⟨q, cellsFrom_has _ _ _ _ (.inr q)⟩
  · refine ⟨hlim.keeps C.toInCall.keep, codeAny_func ?_⟩
    have henv : callEnvC { fdAt y.2.1 y.2.2.1 y.2.2.2.1 with pyModule := pm } s.heap.objs.size y.1 = env := he.symm
    clear he
    have eL : env.locals = s.heap.objs.size := by rw [← henv]; rfl
    have eF : env.frame = some s.heap.objs.size := by rw [← henv]; rfl
    have eS : env.scope = sc := by rw [← henv, ← hsc]; rfl
    have eG : env.globals = mainGlobals := by rw [← henv]; exact f2
    have eB : env.builtins = builtinsNs := by rw [← henv]; exact f3
    have eC : env.cells = cellsFrom (s.heap.objs.size + 1) sc.names [] := by rw [← henv, ← hsc]; rfl
    have eCd : env.code = .ref y.2.2.1 := by rw [← henv]; exact f4
    have eQ : env.qual = nameAt y.2.1 ++ ".<locals>." := by rw [← henv]; show (fdAt y.2.1 y.2.2.1 y.2.2.2.1).qualname ++ _ = _; rw [f5]
    have eSc : env.scope = (fdAt y.2.1 0 .none).scope := by rw [eS, ← hsc]; exact fd_scope ..
    have hL0 : s.heap.get? env.locals = none := by rw [eL]; exact fresh_size (Nat.le_refl _)
    have hkeep := C.toInCall.keep
    obtain ⟨h₁, tk, rfl, hk₁⟩ := C.done
    have hc0 : ∀ z a, env.cells.lookup z = some a → s.heap.get? a = none := fun z a hz => fresh_size (by
      have := C.above z a (lookup_mem hz)
      rw [eL] at this
      exact Nat.le_of_lt this)
    let c : Cx := { w := w, H := H, mg := mg, mb := mb, A := A.deeper env, env := env, frs := env :: frs, X0 := env.locals :: ((env.cells.filter fun p => env.cells.lookup p.1 == some p.2).map (·.2) ++ X), h0 := s.heap, g0 := s.gens, o0 := s.os, pin := pin, gh := [] }
    have hcF : c.F = env.locals :: frs.filterMap (·.frame) := by
      show (env :: frs).filterMap (·.frame) = _
      rw [List.filterMap_cons, eF, eL]
    have O : Ok sc n c := by
      refine ⟨th, R.deeper, by rw [← hkind, ← eS], fun z => by show env.scope.names.lookup z = _; rw [eS], eG, eB, fun a ha => ?_, W.stays, hL0, fun z hz => ?_, .head _, fun z a hz => ?_⟩
      · rw [hcF] at ha
        rcases List.mem_cons.mp ha with rfl | ha
        · exact .head _
        · exact .tail _ (List.mem_append_right _ (hF a ha))
      · have := cellsFrom_has sc.names (s.heap.objs.size + 1) [] z (.inr hz)
        show ∃ a, env.cells.lookup z = some a
        rw [eC]; exact Option.isSome_iff_exists.mp this
      · exact .tail _ (List.mem_append_left _ (List.mem_map_of_mem (f := (·.2)) (List.mem_filter.mpr ⟨lookup_mem hz, by simpa using hz⟩)))
    have Ap : Apart c := ⟨fun z z' a hz hz' => congrArg Prod.fst (pair_ne C.apart (lookup_mem hz) (lookup_mem hz') rfl), hc0, ⟨_, rfl, by rw [eL]; exact eF⟩, y, hy, eCd, eQ, eSc⟩
    have W₁ : Wf H A frs h₁ := W.ext (.keep W.stays W.tabs hk₁)
    have I : Inv c (env.locals :: ((env.cells.filter fun p => env.cells.lookup p.1 == some p.2).map (·.2) ++ X)) (fun _ => 0) (rho0 ps ds) { s with heap := h₁, toks := tk } := by
      have hfr : ∀ d v, Rp w X s.heap d v → Rp w (env.locals :: ((env.cells.filter fun p => env.cells.lookup p.1 == some p.2).map (·.2) ++ X)) h₁ d v := fun d v r => by
        have hall : ∀ (l : List Addr), (∀ a ∈ l, s.heap.get? a = none) → Rp w (l ++ X) s.heap d v := fun l => by
          induction l with
          | nil => exact fun _ => r
          | cons a l ih => exact fun hl => Rp.fresh (hl a (.head _)) _ _ (ih fun b hb => hl b (.tail _ hb))
        have := hall (env.locals :: (env.cells.filter fun p => env.cells.lookup p.1 == some p.2).map (·.2)) fun a ha => by
          rcases List.mem_cons.mp ha with rfl | ha
          · exact hL0
          · obtain ⟨p, hp, rfl⟩ := List.mem_map.mp ha
            have := C.above p.1 p.2 (List.mem_filter.mp hp).1
            rw [eL] at this
            exact fresh_size (Nat.le_of_lt this)
        exact Rp.keep (fun b o e _ => hk₁ b o e) _ _ this
      have hm := C.toInCall.ns
      refine ⟨⟨⟨?_, W₁.stays, ?_⟩, W₁.tabs, ?_, fun a ha => ?_⟩, .keep W.stays W.tabs hk₁, rfl, rfl, fun a ha => ha, fun a ha => ?_, fun p hp => ?_, fun z a hz => ⟨_, C.cell z a hz⟩, fun _ h => (nomatch h), fun z e hz => ?_, hps.sublist (rho0_keys _ _), ⟨_, hm, fun z e hz hk => ?_⟩, fun z e hz hk => ?_, fun z z' l l' hz => ?_, fun z l hz => ?_⟩
      · show A.frames.map _ = _
        rw [W.below.stack]; rfl
      · exact Heap.FunFrames.cons (L := env.locals) (by rw [eS, hkind]; decide) (by rw [eF, eL]) hm (by
          cases e : H.get? env.locals with
          | none => rfl
          | some o => have := W.stays _ o e; rw [hL0] at this; cases this) W₁.below.frames
      · exact W.handled
      · obtain ⟨o, es, k, ho, hd⟩ := nsObj hm
        have ha' : a ∈ (env :: frs).filterMap (·.frame) := ha
        rw [List.filterMap_cons, eF] at ha'
        rcases List.mem_cons.mp ha' with rfl | ha
        · exact ⟨o, es, k, by rw [← eL]; exact ho, hd⟩
        · exact W₁.dicts a ha
      · rcases List.mem_cons.mp ha with rfl | ha
        · obtain ⟨o, _, _, ho, _⟩ := hm; exact ⟨o, ho⟩
        · rcases List.mem_append.mp ha with ha | ha
          · obtain ⟨p, hp, rfl⟩ := List.mem_map.mp ha
            obtain ⟨o, ho, _⟩ := C.cell p.1 p.2 (by simpa using (List.mem_filter.mp hp).2)
            exact ⟨o, ho⟩
          · obtain ⟨o, e⟩ := hX a ha; exact ⟨o, hk₁ a o e⟩
      · obtain ⟨q1, q2, q3, q4, q5⟩ := hpin p hp
        refine ⟨hk₁ _ _ q1, q2, q3, q4, fun m => ?_⟩
        rcases List.mem_cons.mp m with m | m
        · rw [m, hL0] at q1; cases q1
        · rcases List.mem_append.mp m with m | m
          · obtain ⟨z, hz, e⟩ := List.mem_map.mp m
            have := C.above z.1 z.2 (List.mem_filter.mp hz).1
            rw [eL] at this
            rw [← e, fresh_size (Nat.le_of_lt this)] at q1; cases q1
          · exact q5 m
      · obtain ⟨v, d, rfl, hz', r⟩ := rho0_at hr z e hz
        have hzp : z ∈ ps := by have := List.mem_map_of_mem (f := (·.1)) hz'; rwa [zip_keys _ _ hvl.symm] at this
        show env.scope.names.lookup z = _ ∨ env.scope.names.lookup z = _
        rw [eS]; exact isVar_or (hvar z hzp)
      · obtain ⟨v, d, rfl, hz', r⟩ := rho0_at hr z e hz
        exact ⟨v, bindL_at _ _ z v hnd hz' hk, hfr d v r⟩
      · obtain ⟨v, d, rfl, hz', r⟩ := rho0_at hr z e hz
        have hzp : z ∈ ps := by have := List.mem_map_of_mem (f := (·.1)) hz'; rwa [zip_keys _ _ hvl.symm] at this
        have hkc : sc.names.lookup z = some .cell := by rw [← eS]; exact hk
        obtain ⟨a, ha⟩ := O.cellEx z hkc
        have hv := C.cell z a ha
        rw [bindC_at _ _ z v hnd hz' hk] at hv
        exact ⟨a, v, ha, hv, hfr d v r⟩
      · obtain ⟨v, d, e, _⟩ := rho0_at hr z _ hz; cases e
      · obtain ⟨v, d, e, _⟩ := rho0_at hr z _ hz; cases e
    refine hb c O Ap rfl rfl _ _ _ _ I _ _ (T.holds_mono (fun r hr' s' X' ad' fl I' hfl => ?_) _ (T.holds_bind _ h))
    have xN : Nxt H (frs.filterMap (·.frame)) s s' := ⟨(hcF ▸ I'.ext).drop hL0, I'.gens, I'.os⟩
    have hXX : ∀ a ∈ X, a ∈ c.X0 := fun a ha => .tail _ (List.mem_append_right _ ha)
    obtain ⟨ρ', f⟩ := r
    cases f <;> cases fl <;> first | exact hfl.elim | skip
    · exact hr' _ _ xN rfl
    · exact hr'.elim
    · exact hr' _ _ xN (Rp.mono hXX _ _ hfl)
theorem con_of {name : String} {x : Addr × Nat × Addr × Value × String} {n : Nat} {sc : Scope} {ps : List Str} {body : List Stmt} {t : Rho → T (Rho × Fl)} (hx : x ∈ fnTab) (hn : x.2.2.2.2 = name) (huniq : ∀ y ∈ fnTab, y.2.2.2.2 = name → y = x)
    (hsc : (fdAt x.2.1 x.2.2.1 x.2.2.2.1).scope = sc) (hbody : (fdAt x.2.1 x.2.2.1 x.2.2.2.1).body = .stmts body) (hkind : sc.kind = .function) (hco : sc.isCoroutine = false) (hge : sc.isGenerator = false)
    (hfix : (fdAt x.2.1 x.2.2.1 x.2.2.2.1).closure = [] ∧ (fdAt x.2.1 x.2.2.1 x.2.2.2.1).globals = 3 ∧ (fdAt x.2.1 x.2.2.1 x.2.2.2.1).builtins = 0 ∧ (fdAt x.2.1 x.2.2.1 x.2.2.2.1).code = .ref x.2.2.1 ∧ (fdAt x.2.1 x.2.2.1 x.2.2.2.1).qualname = nameAt x.2.1)
    (hps : ps.Nodup) (hvar : ∀ p ∈ ps, isVar sc p = true) (hbind : ∀ (pm : Value) (vs : List Value), vs.length = ps.length → bindArgs { fdAt x.2.1 x.2.2.1 x.2.2.2.1 with pyModule := pm } ⟨vs, []⟩ = pure (ps.zip vs))
    (hb : SndS sc n body t) : Con name (n + 2) (callT ps t) := by
  intro w H mg mb th y hy hyn A frs s X vs ds Q E W R hF hX hr h
  obtain rfl := huniq y hy hyn
  obtain ⟨h1, ⟨pm, h2⟩, h3⟩ := th.fn y hy
  unfold callT at h
  split at h
  rotate_left
  · exact h.elim
  rename_i hlen
  have hlen : ds.length = ps.length := by simpa using hlen
  have hvl : vs.length = ps.length := hr.length.trans hlen
  refine wpAny_call ?_
  refine codeAny_call_function (fd := { fdAt y.2.1 y.2.2.1 y.2.2.2.1 with pyModule := pm }) (body := body) R.depth (W.stays _ _ h2) rfl ?_ ?_ hbody ?_ ?_
  · show (fdAt y.2.1 y.2.2.1 y.2.2.2.1).scope.isCoroutine = false
    rw [hsc]; exact hco
  · show (fdAt y.2.1 y.2.2.1 y.2.2.2.1).scope.isGenerator = false
    rw [hsc]; exact hge
  · obtain ⟨_, _, _, f4, f5⟩ := hfix
    have : s.heap.CodeRec (.ref y.2.2.1) (nameAt y.2.1) := h3.keeps W.stays
    show s.heap.CodeRec (fdAt y.2.1 y.2.2.1 y.2.2.2.1).code (fdAt y.2.1 y.2.2.1 y.2.2.2.1).qualname
    rw [f4, f5]; exact this
  · rw [hbind pm vs hvl]
    exact wpAny_pure (body_run (pm := pm) hy hsc hbody hkind hco hge hfix hps hvar th W R hF hX hr hlen [] (fun _ h => nomatch h) (fun c O Ap _ _ => hb c O Ap) h)
end Mine
namespace Mine
section
variable {sc : Scope} {n : Nat}
noncomputable def itemsP : PV → T (List PV)
  | .list l => .chk (decide (l.length ≤ sizeLine)) (.ret l)
  | .str x => .chk (decide (x.length ≤ sizeLine)) (.ret (signs x))
  | _ => .fail
theorem sndI_any {e : Expr} {t : Rho → T PV} (he : SndE sc n e t) (b : Bool) : SndI sc n e (fun ρ => (t ρ).bind itemsP) b := fun c O X ad ρ s I Q E h => by
  refine he c O X ad ρ s I _ _ (T.holds_mono (fun d hd v s₁ x₁ r => ?_) _ (T.holds_bind _ h))
  unfold itemsP at hd
  split at hd
  · rename_i l
    obtain ⟨hz, hd⟩ := T.holds_chk hd
    obtain ⟨a, vs, rfl, ha, ⟨k, hl⟩, r1⟩ := r
    have I₁ := I.nxt O x₁
    have hi : s₁.heap.IsList a vs.toArray := ⟨_, hl, rfl, _, rfl⟩
    have hne : a ≠ s₁.heap.objs.size := fun q => by rw [q, fresh_size (Nat.le_refl _)] at hl; cases hl
    have x₂ := I₁.push { cls := .type "list_iterator", dict := none, data := .fields #[.ref a, .int 0 0], slots := #[] } s₁.toks
    refine wpAny_pyIter_list hi (hd _ _ [a] (vs.zip l) _ _ (x₁.trans x₂) (src_list c I.wf.handled hne r1.length) ⟨⟨_, Heap.get?_push_size _ rfl, rfl, rfl⟩, hi.push _⟩ (zip_rp (I₁.rps O x₂ r1)) (fresh_before I x₁) ?_ ?_)
    · simpa using fun q => hne q.symm
    · intro _ b hb; rw [List.mem_singleton.mp hb]; exact ha
  · rename_i x
    obtain ⟨hz, hd⟩ := T.holds_chk hd
    obtain ⟨u, rfl⟩ := r
    have I₁ := I.nxt O x₁
    have hlen : (signs x).length = x.cps.size := by simp [signs]
    cases ha : x.cps.all (· < 128)
    · refine wpAny_pyIter_wide ha (hd _ _ [] [] (SignAt x) (fun i h => h.IsStrIter s₁.heap.objs.size "str_iterator" x u i) (x₁.trans (I₁.push _ _)) ⟨by rw [hlen]; exact Walks.strWide I.wf.handled _ x u, fun i v d hv hd => .inr (sign_at hv hd), fun i h st => iter_str (.inl rfl) st, fun _ _ _ _ hb => (nomatch hb)⟩ ⟨_, Heap.get?_push_size _ rfl, rfl, rfl⟩ (fun _ hg => (nomatch hg)) (fresh_before I x₁) (by simp) fun _ _ hb => (nomatch hb))
    · refine wpAny_pyIter_ascii ha (hd _ _ [] [] (SignAt x) (fun i h => h.IsStrIter s₁.heap.objs.size "str_ascii_iterator" x u i) (x₁.trans (I₁.push _ _)) ⟨by rw [hlen]; exact Walks.strAscii I.wf.handled _ x u, fun i v d hv hd => .inr (sign_at hv hd), fun i h st => iter_str (.inr rfl) st, fun _ _ _ _ hb => (nomatch hb)⟩ ⟨_, Heap.get?_push_size _ rfl, rfl, rfl⟩ (fun _ hg => (nomatch hg)) (fresh_before I x₁) (by simp) fun _ _ hb => (nomatch hb))
  · exact hd.elim
theorem sndE_startswith' {m : Str} {o a : Expr} {apos pos : Pos} {to ta : Rho → T PV} (hm : m = ("startswith" : Str)) (hb : noCall o = true) (hl : (apos.endLine == pos.line) = true) (hn : noStar a = true) (ho : SndB sc n o to) (ha : SndB sc n a ta) :
    SndE sc n (.Call (.Attribute o m apos) [a] [] pos) fun ρ => (to ρ).bind fun d => match d with
      | .str x => .chk (decide (x.length ≤ sizeLine)) ((ta ρ).bind fun y => strArg (fun y => .ret (.bool (Txt.startswith x y))) y) | _ => .fail := by subst hm; exact sndE_startswith hb hl hn ho ha
theorem sndE_endswith' {m : Str} {o a : Expr} {apos pos : Pos} {to ta : Rho → T PV} (hm : m = ("endswith" : Str)) (hb : noCall o = true) (hl : (apos.endLine == pos.line) = true) (hn : noStar a = true) (ho : SndB sc n o to) (ha : SndB sc n a ta) :
    SndE sc n (.Call (.Attribute o m apos) [a] [] pos) fun ρ => (to ρ).bind fun d => match d with
      | .str x => .chk (decide (x.length ≤ sizeLine)) ((ta ρ).bind fun y => strArg (fun y => .ret (.bool (Txt.endswith x y))) y) | _ => .fail := by subst hm; exact sndE_endswith hb hl hn ho ha
theorem sndE_rfind' {m : Str} {o a : Expr} {apos pos : Pos} {to ta : Rho → T PV} (hm : m = ("rfind" : Str)) (hb : noCall o = true) (hl : (apos.endLine == pos.line) = true) (hn : noStar a = true) (ho : SndB sc n o to) (ha : SndB sc n a ta) :
    SndE sc n (.Call (.Attribute o m apos) [a] [] pos) fun ρ => (to ρ).bind fun d => match d with
      | .str x => .chk (decide (x.length ≤ sizeLine)) ((ta ρ).bind fun y => strArg (fun y => .ret (.int (Txt.rfind x y))) y) | _ => .fail := by subst hm; exact sndE_rfind hb hl hn ho ha
theorem sndE_rstrip' {m : Str} {o a : Expr} {apos pos : Pos} {to ta : Rho → T PV} (hm : m = ("rstrip" : Str)) (hb : noCall o = true) (hl : (apos.endLine == pos.line) = true) (hn : noStar a = true) (ho : SndB sc n o to) (ha : SndB sc n a ta) :
    SndE sc n (.Call (.Attribute o m apos) [a] [] pos) fun ρ => (to ρ).bind fun d => match d with
      | .str x => .chk (decide (x.length ≤ sizeLine)) ((ta ρ).bind fun y => strArg (fun y => .ret (.str (Txt.rstripChars x y))) y) | _ => .fail := by subst hm; exact sndE_rstrip hb hl hn ho ha
theorem sndE_join' {m : Str} {o a : Expr} {apos pos : Pos} {to ta : Rho → T PV} (hm : m = ("join" : Str)) (hb : noCall o = true) (hl : (apos.endLine == pos.line) = true) (hn : noStar a = true) (ho : SndB sc n o to) (ha : SndB sc n a ta) :
    SndE sc n (.Call (.Attribute o m apos) [a] [] pos) fun ρ => (to ρ).bind fun d => match d with
      | .str x => .chk (decide (x.length ≤ sizeLine)) ((ta ρ).bind fun y => joinP x y) | _ => .fail := by subst hm; exact sndE_join hb hl hn ho ha
theorem sndE_replace' {m : Str} {o e : Expr} {es : List Expr} {apos pos : Pos} {to : Rho → T PV} {t : Rho → T (List PV)} (hm : m = ("replace" : Str)) (hb : noCall o = true) (hl : (apos.endLine == pos.line) = true) (hn : plainArgs (e :: es) = true) (hw : fewArgs (e :: es) = true) (ho : SndB sc n o to) (he : SndL sc n (e :: es) t) :
    SndE sc n (.Call (.Attribute o m apos) (e :: es) [] pos) fun ρ => (to ρ).bind fun d => match d with | .str x => (t ρ).bind fun ds => replP x ds | _ => .fail := by
  subst hm; exact sndE_MethS F.slot_str_replace F.type_str_replace replP_ok hb hl hn hw ho he
theorem sndE_index' {m : Str} {o e : Expr} {es : List Expr} {apos pos : Pos} {to : Rho → T PV} {t : Rho → T (List PV)} (hm : m = ("index" : Str)) (hb : noCall o = true) (hl : (apos.endLine == pos.line) = true) (hn : plainArgs (e :: es) = true) (hw : fewArgs (e :: es) = true) (ho : SndB sc n o to) (he : SndL sc n (e :: es) t) :
    SndE sc n (.Call (.Attribute o m apos) (e :: es) [] pos) fun ρ => (to ρ).bind fun d => match d with | .str x => (t ρ).bind fun ds => idxP x ds | _ => .fail := by
  subst hm; exact sndE_MethS F.slot_str_index F.type_str_index idxP_ok hb hl hn hw ho he
end
noncomputable def FS (n : Nat) := { fs : List (String × (List PV → T PV)) // ∀ p ∈ fs, Con p.1 (n + 1) p.2 }
noncomputable abbrev Extra (n : Nat) := (sc : Scope) → (e : Expr) → Option { t : Rho → T PV // SndE sc n e t }
structure Rd (sc : Scope) (n : Nat) (e : Expr) where
  ex : { t : Rho → T PV // SndE sc n e t }
  ba : { t : Rho → T PV // SndB sc n e t }
  te : { t : Rho → T Bool // SndT sc n e t }
noncomputable def Rd.none (sc : Scope) (n : Nat) (e : Expr) : Rd sc n e := ⟨⟨_, sndE_fail⟩, ⟨_, sndE_fail.b⟩, ⟨_, sndT_fail⟩⟩
noncomputable def Rd.of {sc : Scope} {n : Nat} {e : Expr} (x : { t : Rho → T PV // SndE sc n e t }) (hi : ∀ env whole, PySem.isTrue e env whole = (do let v ← whole; standAt e.pos; holding [v] (truthy v))) : Rd sc n e :=
  ⟨x, ⟨_, x.2.b⟩, ⟨_, sndT_value x.2.b hi⟩⟩
section
variable {n : Nat} (F : FS n) (X : Extra n)
noncomputable def rdL {sc : Scope} (r : ∀ e, Rd sc n e) : (es : List Expr) → { t : Rho → T (List PV) // SndL sc n es t }
  | [] => ⟨_, sndL_nil⟩
  | e :: es => if h : noStar e = true then ⟨_, sndL_cons' (r e).ex.2 (rdL r es).2 h⟩ else ⟨_, sndL_fail⟩
noncomputable def rdJ {sc : Scope} (r : ∀ e, Rd sc n e) : (es : List Expr) → { t : Rho → Str → T Str // SndJ sc n es t }
  | [] => ⟨_, sndJ_nil⟩
  | .Constant (.str x) k pos :: es => ⟨_, sndJ_str (rdJ r es).2⟩
  | .FormattedValue e (-1) none pos :: es => ⟨_, sndJ_val (r e).ex.2 (rdJ r es).2⟩
  | _ :: _ => ⟨fun _ _ => .fail, fun _ _ _ _ _ _ _ _ _ _ h => h.elim⟩
noncomputable def rdP {sc : Scope} (r : ∀ e, Rd sc n e) : (e : Option Expr) → { t : Rho → T (Option Int) // SndP sc n e t }
  | none => ⟨_, sndP_none⟩
  | some e => ⟨_, sndP_some (r e).ex.2⟩
noncomputable def findF (f : Str) : (fs : List (String × (List PV → T PV))) → (∀ p ∈ fs, Con p.1 (n + 1) p.2) → Option { p : String × (List PV → T PV) // Con p.1 (n + 1) p.2 ∧ f = Str.ofString p.1 }
  | [], _ => none
  | p :: fs, h => if q : f = Str.ofString p.1 then some ⟨p, h p (.head _), q⟩ else findF f fs fun z hz => h z (.tail _ hz)
noncomputable def isGlob (sc : Scope) (f : Str) : Bool := sc.names.lookup f == some .globalImplicit
theorem isGlob_is {sc : Scope} {f : Str} (h : isGlob sc f = true) : sc.names.lookup f = some .globalImplicit := by simpa [isGlob] using h
noncomputable def rdCallN {sc : Scope} (r : ∀ e, Rd sc n e) (f : Str) (p : Pos) (args : List Expr) (pos : Pos) : { t : Rho → T PV // SndE sc n (.Call (.Name f p) args [] pos) t } :=
  match args with
  | [] => ⟨_, sndE_fail⟩
  | e :: es =>
    if hg : isGlob sc f = true ∧ (f == ("__debug__" : Str)) = false ∧ plainArgs (e :: es) = true then
      match findF f F.1 F.2 with
      | some ⟨q, hq, hf⟩ => if h2 : (fnTab.any fun x => x.2.2.2.2 == q.1) = true ∧ noStar e = true then ⟨_, sndE_CallF hq hf h2.1 (isGlob_is hg.1) hg.2.1 (rdL r (e :: es)).2 h2.2⟩ else ⟨_, sndE_fail⟩
      | none => match es with
        | [] => if h : f = ("len" : Str) ∧ noStar e = true then ⟨_, sndE_Len h.1 (isGlob_is hg.1) (r e).ba.2 h.2⟩ else ⟨_, sndE_fail⟩
        | _ => ⟨_, sndE_fail⟩
    else ⟨_, sndE_fail⟩
noncomputable def rdMeth {sc : Scope} (r : ∀ e, Rd sc n e) (o : Expr) (m : Str) (ap : Pos) (args : List Expr) (pos : Pos) : { t : Rho → T PV // SndE sc n (.Call (.Attribute o m ap) args [] pos) t } :=
  match args with
  | [] => ⟨_, sndE_fail⟩
  | [a] =>
    if h : noCall o = true ∧ (ap.endLine == pos.line) = true ∧ noStar a = true then
      if h1 : m = ("startswith" : Str) then ⟨_, sndE_startswith' h1 h.1 h.2.1 h.2.2 (r o).ba.2 (r a).ba.2⟩ else
      if h1 : m = ("endswith" : Str) then ⟨_, sndE_endswith' h1 h.1 h.2.1 h.2.2 (r o).ba.2 (r a).ba.2⟩ else
      if h1 : m = ("rfind" : Str) then ⟨_, sndE_rfind' h1 h.1 h.2.1 h.2.2 (r o).ba.2 (r a).ba.2⟩ else
      if h1 : m = ("rstrip" : Str) then ⟨_, sndE_rstrip' h1 h.1 h.2.1 h.2.2 (r o).ba.2 (r a).ba.2⟩ else
      if h1 : m = ("join" : Str) then ⟨_, sndE_join' h1 h.1 h.2.1 h.2.2 (r o).ba.2 (r a).ba.2⟩ else ⟨_, sndE_fail⟩
    else ⟨_, sndE_fail⟩
  | a :: b :: es =>
    if h : noCall o = true ∧ (ap.endLine == pos.line) = true ∧ plainArgs (a :: b :: es) = true ∧ fewArgs (a :: b :: es) = true then
      if h1 : m = ("replace" : Str) then ⟨_, sndE_replace' h1 h.1 h.2.1 h.2.2.1 h.2.2.2 (r o).ba.2 (rdL r (a :: b :: es)).2⟩ else
      if h1 : m = ("index" : Str) then ⟨_, sndE_index' h1 h.1 h.2.1 h.2.2.1 h.2.2.2 (r o).ba.2 (rdL r (a :: b :: es)).2⟩ else ⟨_, sndE_fail⟩
    else ⟨_, sndE_fail⟩
noncomputable def rdIfs {sc : Scope} (r : ∀ e, Rd sc n e) : (es : List Expr) → { t : Rho → T Bool // SndIfs sc n es t }
  | [] => ⟨_, sndIfs_nil⟩
  | [e] => ⟨_, sndIfs_one (r e).te.2⟩
  | _ :: _ :: _ => ⟨fun _ => .fail, fun _ _ _ _ _ _ _ _ _ h => h.elim⟩
theorem sndI_anyB {sc : Scope} {e : Expr} {t : Rho → T PV} (he : SndB sc n e t) : SndI sc n e (fun ρ => (t ρ).bind itemsP) false := fun c O X ad ρ s I Q E h => by
  refine he c O X ad ρ s I _ _ (T.holds_mono (fun d hd v s₁ x₁ r => ?_) _ (T.holds_bind _ h))
  unfold itemsP at hd
  split at hd
  · rename_i l
    obtain ⟨hz, hd⟩ := T.holds_chk hd
    obtain ⟨a, vs, rfl, ⟨k, hl⟩, r1⟩ := r
    have I₁ := I.nxt O x₁
    have hi : s₁.heap.IsList a vs.toArray := ⟨_, hl, rfl, _, rfl⟩
    have hne : a ≠ s₁.heap.objs.size := fun q => by rw [q, fresh_size (Nat.le_refl _)] at hl; cases hl
    have x₂ := I₁.push { cls := .type "list_iterator", dict := none, data := .fields #[.ref a, .int 0 0], slots := #[] } s₁.toks
    refine wpAny_pyIter_list hi (hd _ _ [a] (vs.zip l) _ _ (x₁.trans x₂) (src_list c I.wf.handled hne r1.length) ⟨⟨_, Heap.get?_push_size _ rfl, rfl, rfl⟩, hi.push _⟩ (zip_rp (I₁.rps O x₂ r1)) (fresh_before I x₁) ?_ ?_)
    · simpa using fun q => hne q.symm
    · intro q; cases q
  · rename_i x
    obtain ⟨hz, hd⟩ := T.holds_chk hd
    obtain ⟨u, rfl⟩ := r
    have I₁ := I.nxt O x₁
    have hlen : (signs x).length = x.cps.size := by simp [signs]
    cases ha : x.cps.all (· < 128)
    · refine wpAny_pyIter_wide ha (hd _ _ [] [] (SignAt x) (fun i h => h.IsStrIter s₁.heap.objs.size "str_iterator" x u i) (x₁.trans (I₁.push _ _)) ⟨by rw [hlen]; exact Walks.strWide I.wf.handled _ x u, fun i v d hv hd => .inr (sign_at hv hd), fun i h st => iter_str (.inl rfl) st, fun _ _ _ _ hb => (nomatch hb)⟩ ⟨_, Heap.get?_push_size _ rfl, rfl, rfl⟩ (fun _ hg => (nomatch hg)) (fresh_before I x₁) (by simp) fun _ _ hb => (nomatch hb))
    · refine wpAny_pyIter_ascii ha (hd _ _ [] [] (SignAt x) (fun i h => h.IsStrIter s₁.heap.objs.size "str_ascii_iterator" x u i) (x₁.trans (I₁.push _ _)) ⟨by rw [hlen]; exact Walks.strAscii I.wf.handled _ x u, fun i v d hv hd => .inr (sign_at hv hd), fun i h st => iter_str (.inr rfl) st, fun _ _ _ _ hb => (nomatch hb)⟩ ⟨_, Heap.get?_push_size _ rfl, rfl, rfl⟩ (fun _ hg => (nomatch hg)) (fresh_before I x₁) (by simp) fun _ _ hb => (nomatch hb))
  · exact hd.elim
noncomputable def rdI {sc : Scope} (r : ∀ e, Rd sc n e) (e : Expr) (b : Bool) : { t : Rho → T (List PV) // SndI sc n e t b } :=
  match e with
  | .Call (.Name f p) [a] [] pos => if h : f = ("range" : Str) ∧ isGlob sc f = true ∧ noStar a = true then ⟨_, sndI_range h.1 (isGlob_is h.2.1) (r a).ex.2 h.2.2 b⟩ else ⟨_, sndI_any (r (.Call (.Name f p) [a] [] pos)).ex.2 b⟩
  | e => match b with
    | true => ⟨_, sndI_any (r e).ex.2 true⟩
    | false => ⟨_, sndI_anyB (r e).ba.2⟩
end
end Mine
namespace Mine
section
variable {n : Nat} (F : FS n) (X : Extra n)
noncomputable def rd : Nat → (sc : Scope) → (e : Expr) → Rd sc n e
  | 0, sc, e => .none sc n e
  | k + 1, sc, e => match e with
    | .Constant c kk pos => (match c with
      | .int i => .of ⟨_, sndE_int⟩ fun _ _ => rfl
      | .str i => .of ⟨_, sndE_str⟩ fun _ _ => rfl
      | .bool i => .of ⟨_, sndE_bool⟩ fun _ _ => rfl
      | .none => .of ⟨_, sndE_none⟩ fun _ _ => rfl
      | c => .none sc n (.Constant c kk pos))
    | .Name x pos => if h : isVar sc x = true ∧ (x == ("__debug__" : Str)) = false then ⟨⟨_, sndE_Name h.1 h.2⟩, ⟨_, sndB_Name h.1 h.2⟩, ⟨_, sndT_value (sndB_Name h.1 h.2) fun _ _ => rfl⟩⟩ else .none sc n _
    | .BinOp l op r pos => .of ⟨_, sndE_BinOp (rd k sc l).ba.2 (rd k sc r).ba.2⟩ fun _ _ => rfl
    | .UnaryOp op x pos => (match op with
      | .Not => ⟨⟨_, sndE_Not (rd k sc x).ba.2⟩, ⟨_, (sndE_Not (rd k sc x).ba.2).b⟩, ⟨_, sndT_Not (rd k sc x).te.2⟩⟩
      | .USub => .of ⟨_, sndE_USub (rd k sc x).ex.2⟩ fun _ _ => rfl
      | op => .none sc n (.UnaryOp op x pos))
    | .Compare l ops rs pos => (match ops, rs with
      | [op], [r] => if h : behindInMarks op r = false then ⟨⟨_, sndE_Compare (rd k sc l).ba.2 (rd k sc r).ba.2 h⟩, ⟨_, (sndE_Compare (rd k sc l).ba.2 (rd k sc r).ba.2 h).b⟩, ⟨_, sndT_Compare (rd k sc l).ba.2 (rd k sc r).ba.2 h⟩⟩ else .none sc n _
      | ops, rs => .none sc n (.Compare l ops rs pos))
    | .BoolOp op es pos => (match op, es with
      | .Or, [a, b] => ⟨⟨_, sndE_fail⟩, ⟨_, sndE_fail.b⟩, ⟨_, sndT_Or2 (rd k sc a).te.2 (rd k sc b).te.2⟩⟩
      | .And, [a, b] => ⟨⟨_, sndE_fail⟩, ⟨_, sndE_fail.b⟩, ⟨_, sndT_And2 (rd k sc a).te.2 (rd k sc b).te.2⟩⟩
      | op, es => .none sc n (.BoolOp op es pos))
    | .IfExp t a b pos => ⟨⟨_, sndE_IfExp (rd k sc t).te.2 (rd k sc a).ex.2 (rd k sc b).ex.2⟩, ⟨_, (sndE_IfExp (rd k sc t).te.2 (rd k sc a).ex.2 (rd k sc b).ex.2).b⟩, ⟨_, sndT_fail⟩⟩
    | .List es pos => .of ⟨_, sndE_List (rdL (rd k sc) es).2⟩ fun _ _ => rfl
    | .Subscript b i pos => (match i with
      | .Slice lo hi st p => (match st with
        | none => .of ⟨_, sndE_Slice (rd k sc b).ba.2 (rdP (rd k sc) lo).2 (rdP (rd k sc) hi).2⟩ fun _ _ => rfl
        | some s => .none sc n _)
      | i => if h : noSlice i = true then .of ⟨_, sndE_Subscript (rd k sc b).ba.2 (rd k sc i).ba.2 h⟩ fun _ _ => rfl else .none sc n _)
    | .Call f args kws pos => (match X sc (.Call f args kws pos) with
      | some x => .of x fun _ _ => rfl
      | none => match kws with
        | [] => (match f with
          | .Name f p => .of (rdCallN F (rd k sc) f p args pos) fun _ _ => rfl
          | .Attribute o m ap => .of (rdMeth (rd k sc) o m ap args pos) fun _ _ => rfl
          | f => .none sc n (.Call f args [] pos))
        | kws => .none sc n (.Call f args kws pos))
    | .JoinedStr vs pos => (match vs with
      | a :: b :: es => .of ⟨_, sndE_Joined (rdJ (rd k sc) (a :: b :: es)).2⟩ fun _ _ => rfl
      | vs => .none sc n (.JoinedStr vs pos))
    | .ListComp elt gens scope pos => (match gens with
      | [⟨.Name x px, iter, ifs, 0⟩] => if h : compOk scope sc x = true ∧ noSet iter = true then
          .of ⟨_, sndE_ListComp h.1 h.2 (rdI (rd k sc) iter false).2 (rdIfs (rd k (relab scope sc)) ifs).2 (rd k (relab scope sc) elt).ex.2⟩ fun _ _ => rfl else .none sc n _
      | gens => .none sc n (.ListComp elt gens scope pos))
    | e => .none sc n e
noncomputable def bare : Expr → List Str
  | .Name x _ => [x]
  | .Call (.Name f _) args _ _ => if f == ("len" : Str) then [] else args.filterMap fun | .Name x _ => some x | _ => none
  | _ => []
noncomputable def frzAll {sc : Scope} {st : Stmt} (x : { t : Rho → T (Rho × Fl) // SndX sc n st t }) : List Str → { t : Rho → T (Rho × Fl) // SndX sc n st t }
  | [] => x
  | y :: ys => ⟨_, sndX_frz y (frzAll x ys).2⟩
theorem sndX_or {sc : Scope} {st : Stmt} {t1 t2 : Rho → T (Rho × Fl)} (ch : Rho → Bool) (h1 : SndX sc n st t1) (h2 : SndX sc n st t2) : SndX sc n st fun ρ => if ch ρ then t1 ρ else t2 ρ := fun c O Ap X ad ρ s I Q E h => by
  dsimp only at h
  split at h
  · exact h1 c O Ap X ad ρ s I Q E h
  · exact h2 c O Ap X ad ρ s I Q E h
noncomputable def ownsE (ρ : Rho) (x : Str) : Bool := match findE ρ x with | some (.own _) => true | _ => false
theorem sndX_append' {sc : Scope} {m x : Str} {px apos pos spos : Pos} {e : Expr} {t : Rho → T PV} (hm : m = ("append" : Str)) (hv : isVar sc x = true) (hd : (x == ("__debug__" : Str)) = false) (hl : (apos.endLine == pos.line) = true) (hn : noStar e = true) (he : SndE sc n e t) :
    SndX sc n (.Expr (.Call (.Attribute (.Name x px) m apos) [e] [] pos) spos) fun ρ => match findE ρ x with
      | some (.own l) => (t ρ).bind fun d => .chk (decide (l.length ≤ sizeLine)) (.ret (updE ρ x (.own (l ++ [d])), .next))
      | _ => .fail := by subst hm; exact sndX_append hv hd hl hn he
noncomputable abbrev ExtraX (n : Nat) := (sc : Scope) → (st : Stmt) → Option { t : Rho → T (Rho × Fl) // SndX sc n st t }
variable (Y : ExtraX n) (W : Nat)
noncomputable abbrev RX (sc : Scope) (n : Nat) (st : Stmt) := { t : Rho → T (Rho × Fl) // SndX sc n st t }
noncomputable def rdS {sc : Scope} (r : ∀ st, RX sc n st) : (ss : List Stmt) → { t : Rho → T (Rho × Fl) // SndS sc n ss t }
  | [] => ⟨_, sndS_nil⟩
  | st :: ss => ⟨_, sndS_cons (r st).2 (rdS r ss).2⟩
noncomputable def rdX : Nat → (sc : Scope) → (st : Stmt) → RX sc n st
  | 0, sc, st => ⟨_, sndX_fail⟩
  | k + 1, sc, st => match Y sc st with
    | some x => x
    | none => match st with
    | .Return e pos => (match e with
      | some e => frzAll ⟨_, sndX_Return (rd F X (k + 1) sc e).ex.2⟩ (bare e)
      | none => ⟨_, sndX_fail⟩)
    | .Assign ts e pos => (match ts with
      | [.Name x px] => if h : isVar sc x = true then (match e with
        | .List es lp => ⟨_, sndX_AssignL h (rdL (rd F X (k + 1) sc) es).2⟩
        | .ListComp elt gens scope p => (match gens with
          | [⟨.Name y py, iter, ifs, 0⟩] => if h2 : compOk scope sc y = true ∧ noSet iter = true then
              ⟨_, sndX_AssignC h h2.1 h2.2 (rdI (rd F X (k + 1) sc) iter false).2 (rdIfs (rd F X (k + 1) (relab scope sc)) ifs).2 (rd F X (k + 1) (relab scope sc) elt).ex.2⟩ else ⟨_, sndX_fail⟩
          | gens => ⟨_, sndX_fail⟩)
        | e => if h2 : noComp e = true then frzAll ⟨_, sndX_Assign h h2 (rd F X (k + 1) sc e).ex.2⟩ (bare e) else ⟨_, sndX_fail⟩) else ⟨_, sndX_fail⟩
      | ts => ⟨_, sndX_fail⟩)
    | .AugAssign t op e pos => (match t with
      | .Name x px => if h : isVar sc x = true then (match op with
        | .Add => ⟨_, sndX_or (fun ρ => ownsE ρ x) (sndX_AugL h (rd F X (k + 1) sc e).ba.2) (sndX_Aug h (rd F X (k + 1) sc e).ba.2)⟩
        | op => ⟨_, sndX_Aug h (rd F X (k + 1) sc e).ba.2⟩) else ⟨_, sndX_fail⟩
      | t => ⟨_, sndX_fail⟩)
    | .If t a b pos => ⟨_, sndX_If (rd F X (k + 1) sc t).te.2 (rdS (rdX k sc) a).2 (rdS (rdX k sc) b).2⟩
    | .While t a b pos => (match b with
      | [] => ⟨_, sndX_While (rd F X (k + 1) sc t).te.2 (rdS (rdX k sc) a).2 W⟩
      | b => ⟨_, sndX_fail⟩)
    | .For t iter body orelse pos => (match orelse with
      | [] => (match t with
        | .Name x px => if h : isVar sc x = true ∧ noSet iter = true then frzAll ⟨_, sndX_For h.1 h.2 (rdI (rd F X (k + 1) sc) iter true).2 (rdS (rdX k sc) body).2⟩ (bare iter) else ⟨_, sndX_fail⟩
        | .Tuple [.Name x px, .Name y py] kk tp => (match iter with
          | .Call (.Name f zp) [e1, e2] [] cp => if h : isVar sc x = true ∧ isVar sc y = true ∧ f = ("zip" : Str) ∧ isGlob sc f = true ∧ noStar e1 = true ∧ noStar e2 = true then
              ⟨_, sndX_ForZip h.1 h.2.1 h.2.2.1 (isGlob_is h.2.2.2.1) (rd F X (k + 1) sc e1).ex.2 (rd F X (k + 1) sc e2).ex.2 h.2.2.2.2.1 h.2.2.2.2.2 (rdS (rdX k sc) body).2⟩ else ⟨_, sndX_fail⟩
          | iter => ⟨_, sndX_fail⟩)
        | t => ⟨_, sndX_fail⟩)
      | orelse => ⟨_, sndX_fail⟩)
    | .Expr e spos => (match e with
      | .Call (.Attribute (.Name x px) m ap) [a] [] pos => if h : m = ("append" : Str) ∧ isVar sc x = true ∧ (x == ("__debug__" : Str)) = false ∧ (ap.endLine == pos.line) = true ∧ noStar a = true then
          ⟨_, sndX_append' h.1 h.2.1 h.2.2.1 h.2.2.2.1 h.2.2.2.2 (rd F X (k + 1) sc a).ex.2⟩ else ⟨_, sndX_fail⟩
      | e => ⟨_, sndX_fail⟩)
    | .Assert t m pos => ⟨_, sndX_Assert (rd F X (k + 1) sc t).te.2⟩
    | .Break pos => ⟨_, sndX_Break⟩
    | st => ⟨_, sndX_fail⟩
end
end Mine
namespace Mine
theorem sub_str_str : isSubtype (.type "str") (.type "str") = pure true := by rw [isSubtype_type]; kernel_rfl
theorem type_of_str : typeOf (.type "str") = pure (.type "type") := by kernel_rfl
section
variable {prog : Program} {w : World} {A : Around} {E : Value → Shared → Prop}
theorem issub_nested_str {dep : Int} {tk : Tok} {s : Shared} {Q : Fin → Shared → Prop} (hq : Q (.done (.ret (.bool true))) s) :
    wpAny (model prog w) A (Builtin.«issubclass.nested» ⟨[.type "str", .type "str", .int dep tk], []⟩) Q E s := by
  obtain ⟨h, g, d, t, os⟩ := s
  have hm := sub_str_str
  have hself := type_of_str
  repeat (any_goals (first | assumption | (rw [if_pos hm]) | (rw [hself]) | wp_step))
theorem args_issub_nested (a b c : Value) : argsOk "issubclass.nested" ⟨[a, b, c], []⟩ := by unfold argsOk; kernel_rfl
theorem kind_issub_nested : builtinKind "issubclass.nested" = none := by decide +kernel
theorem plain_issub_nested : plainId "issubclass.nested" = true := by decide +kernel
theorem issub_items {dep : Int} {cs : List Value} {s : Shared} {Q : Option Fin × Unit → Shared → Prop} (h : Q (some (.done (.ret (.bool true))), ()) s) :
    wpAny (model prog w) A (forIn (.type "str" :: cs) ((none : Option Fin), ()) fun c _ => do
      if ← truthy (← call (.builtin "issubclass.nested") [.type "str", c, rawInt (dep + 1)]) then
        let r ← ret (.bool true)
        pure (ForInStep.done (some r, ()))
      else pure (ForInStep.yield (none, ()))) Q E s := by
  rw [List.forIn_cons]
  refine wpAny_bind (wpAny_bind (call_function_meets (S := fun _ R s => R (.ok (.ret (.bool true))) s) kind_issub_nested plain_issub_nested F.entry_issubclass_nested (args_issub_nested _ _ _) (fun _ _ _ _ _ hs => issub_nested_str hs) ?_))
  show wpAny _ _ (truthy (.bool true) >>= _) _ _ _
  refine wpAny_bind (m := truthy (.bool true)) (wpAny_pure ?_)
  exact wpAny_bind (wpAny_pure (wpAny_pure (wpAny_pure h)))
theorem issub_nested_tuple {tp : Addr} {cs l : List Value} {tk : Tok} {s : Shared} {Q : Fin → Shared → Prop} (hl : l = .type "str" :: cs) (htp : s.heap.get? tp = some { cls := .type "tuple", data := .seq l.toArray })
    (hq : Q (.done (.ret (.bool true))) s) : wpAny (model prog w) A (Builtin.«issubclass.nested» ⟨[.type "str", .ref tp, .int 0 tk], []⟩) Q E s := by
  obtain ⟨h, g, d, t, os⟩ := s
  have hT2 : (⟨h, g, d, t, os⟩ : Shared).TypeIs (.ref tp) "tuple" := ⟨_, htp, rfl⟩
  have f1 := F.isi_sub_tuple
  repeat (any_goals (first | assumption | wp_step))
  refine wpAny_arrayLoop ?_
  simp only [Option.getD_some, List.toList_toArray]
  subst hl
  refine issub_items (dep := 0) ?_
  repeat (any_goals (first | assumption | wp_step))
theorem call_issub {tp : Addr} {cs : List Value} {s : Shared} {Q : Value → Shared → Prop} (htp : s.heap.get? tp = some { cls := .type "tuple", data := .seq (.type "str" :: cs).toArray })
    (hq : Q (.bool true) s) : wpAny (model prog w) A (call (.builtin "issubclass") [.type "str", .ref tp]) Q E s := by
  refine call_function_meets (S := fun _ R s => s.heap.get? tp = some { cls := .type "tuple", data := .seq (.type "str" :: cs).toArray } ∧ R (.ok (.ret (.bool true))) s) F.kind_issubclass F.plain_issubclass F.entry_issubclass (F.args_issubclass_2 _ _) (fun _ _ _ _ _ hs => issubclass_outer (issub_nested_tuple rfl hs.1 hs.2)) ⟨htp, hq⟩
end
section
variable {sc : Scope} {n : Nat}
theorem sndE_Blt {f : Str} {p : Pos} {v : Value} (hk : sc.names.lookup f = some .globalImplicit) (hb : bltNames.contains f = true) (hv : bootBuiltins f = some v) (hd : (f == ("__debug__" : Str)) = false) (hm : (f == ("__name__" : Str)) = false) :
    SndE sc n (.Name f p) fun _ => .ret (.raw v) := fun c O X ad ρ s I Q E h => ldBuiltin O I hk hb hv (h _ _ I.refl rfl) hd hm
noncomputable def isi2 (b : PV) : Option Bool := match b with
  | .raw v => (match v with
    | .type s => if s = "str" then some true else if s = "bytes" then some false else none
    | _ => none)
  | _ => none
theorem isi2_inv {b : PV} {r : Bool} (h : isi2 b = some r) : (b = .raw (.type "str") ∧ r = true) ∨ (b = .raw (.type "bytes") ∧ r = false) := by
  unfold isi2 at h
  split at h
  · split at h
    · split at h
      · rename_i e; cases h; exact .inl ⟨by rw [e], rfl⟩
      · split at h
        · rename_i e; cases h; exact .inr ⟨by rw [e], rfl⟩
        · cases h
    · cases h
  · cases h
noncomputable def isi1 (a b : PV) : T PV := match a with
  | .str _ => (match isi2 b with | some r => .ret (.bool r) | none => .fail)
  | _ => .fail
noncomputable def isiP : List PV → T PV
  | [a, b] => isi1 a b
  | _ => .fail
theorem blt_isi : Blt n (.builtin "isinstance") isiP := fun sc c O X ad ρ s I vs ds Q E r h => by
  unfold isiP at h
  split at h
  · unfold isi1 at h
    split at h
    · split at h
      · rename_i hr
        rcases isi2_inv hr with ⟨rfl, rfl⟩ | ⟨rfl, rfl⟩
        · obtain ⟨_, _, rfl, ⟨u, rfl⟩, _, _, rfl, rfl, rfl⟩ := r
          exact IsiPair.str_str (h _ _ I.refl rfl)
        · obtain ⟨_, _, rfl, ⟨u, rfl⟩, _, _, rfl, rfl, rfl⟩ := r
          exact IsiPair.str_bytes (h _ _ (I.tok _) rfl)
      · exact h.elim
    · exact h.elim
  · exact h.elim
noncomputable def typP : List PV → T PV
  | [.str x] => .ret (.raw (.type "str"))
  | _ => .fail
theorem blt_type : Blt n (.type "type") typP := fun sc c O X ad ρ s I vs ds Q E r h => by
  unfold typP at h
  split at h
  · obtain ⟨_, _, rfl, ⟨u, rfl⟩, rfl⟩ := r
    exact call_type_of (typeIs_str _ _ _) (by decide) (h _ _ I.refl rfl)
  · exact h.elim
noncomputable def intP : List PV → T PV
  | [.int i] => .ret (.int i)
  | _ => .fail
theorem blt_int : Blt n (.type "int") intP := fun sc c O X ad ρ s I vs ds Q E r h => by
  unfold intP at h
  split at h
  · obtain ⟨_, _, rfl, ⟨u, rfl⟩, rfl⟩ := r
    exact call_int_int (h _ _ I.refl ⟨_, rfl⟩)
  · exact h.elim
noncomputable def chrP : List PV → T PV
  | [.int i] => .chk (!(decide (i < 0) || decide (i > 0x10FFFF))) (.ret (.str ⟨#[i.toNat]⟩))
  | _ => .fail
theorem blt_chr : Blt n (.builtin "chr") chrP := fun sc c O X ad ρ s I vs ds Q E r h => by
  unfold chrP at h
  split at h
  · obtain ⟨_, _, rfl, ⟨u, rfl⟩, rfl⟩ := r
    obtain ⟨hb, h⟩ := T.holds_chk h
    exact P.chr_of_int (by rw [Bool.not_eq_true'] at hb; exact hb) (h _ _ (I.tok _) ⟨_, rfl⟩)
  · exact h.elim
theorem sndE_issub {f a b : Str} {p pa pb tp pos : Pos} {k : Nat} {e : Expr} {t : Rho → T PV} (hf : f = ("issubclass" : Str)) (ha : a = ("str" : Str)) (hb : b = ("bytes" : Str)) (hk : sc.names.lookup f = some .globalImplicit) (hka : sc.names.lookup a = some .globalImplicit) (hkb : sc.names.lookup b = some .globalImplicit) (hn : noStar e = true) (he : SndE sc n e t) :
    SndE sc n (.Call (.Name f p) [e, .Tuple [.Name a pa, .Name b pb] k tp] [] pos) fun ρ => (t ρ).bind fun d => match d with | .raw (.type "str") => .ret (.bool true) | _ => .fail := fun c O X ad ρ s I Q E h => by
  subst hf; subst ha; subst hb
  refine wpAny_Call_NameR (ldBuiltin O I hk (by decide +kernel) (v := .builtin "issubclass") (by decide +kernel) ?_ (by decide +kernel) (by decide +kernel))
  rw [show backTo pos (starEach [e, .Tuple [.Name ("str" : Str) pa, .Name ("bytes" : Str) pb] k tp] c.env) = [(false, eval e c.env), (false, eval (.Tuple [.Name ("str" : Str) pa, .Name ("bytes" : Str) pb] k tp) c.env)] from by rw [starEach_cons hn]; rfl]
  refine callWith_builtin rfl (evalArgs_plain (Calls.spliced_cons (he c O X ad ρ s I _ _ (T.holds_mono (fun d hd v s₁ x₁ r => ?_) _ (T.holds_bind _ h)))))
  have I₁ := I.nxt O x₁
  split at hd
  · obtain rfl := r
    refine Calls.spliced_cons (wpAny_Tuple ?_)
    show wpAny _ _ (spliced [(false, eval (.Name ("str" : Str) pa) c.env), (false, eval (.Name ("bytes" : Str) pb) c.env)]) _ _ _
    refine Calls.spliced_cons (ldBuiltin O I₁ hka (by decide +kernel) (v := .type "str") (by decide +kernel) ?_ (by decide +kernel) (by decide +kernel))
    refine Calls.spliced_cons (ldBuiltin O I₁ hkb (by decide +kernel) (v := .type "bytes") (by decide +kernel) ?_ (by decide +kernel) (by decide +kernel))
    refine Calls.spliced_nil ⟨by decide, Calls.spliced_nil ?_⟩
    exact call_issub (Heap.get?_push_size _ rfl) (hd _ _ (x₁.trans (I₁.push _ _)) rfl)
  · exact hd.elim
end
end Mine
namespace Mine
noncomputable def numsOf' : List PV → Option (List Int)
  | [] => some []
  | .int x :: r => (numsOf' r).map (x :: ·)
  | _ :: _ => none
noncomputable def sumInts : List Int → Int
  | l => preSum (fun i => l.getD i 0) l.length
theorem numsOf_at {w : World} {X : List Addr} {h : Heap} : ∀ {l : List PV} {ns : List Int} {vs : List Value}, numsOf' l = some ns → Rps w X h l vs → ns.length = vs.length ∧ ∀ (i : Nat) (v : Value), vs[i]? = some v → ∃ t, v = .int (ns.getD i 0) t
  | [], _, _, e, r => by cases e; cases r; exact ⟨rfl, fun i v hv => by simp at hv⟩
  | d :: l, ns, vs, e, ⟨v, r, q, h1, h2⟩ => by
    cases d <;> simp only [numsOf', Option.map_eq_some_iff, reduceCtorEq] at e
    obtain ⟨zs, e1, rfl⟩ := e
    obtain ⟨t, rfl⟩ := h1
    obtain ⟨h3, h4⟩ := numsOf_at e1 h2
    subst q
    refine ⟨by simp [h3], fun i v hv => ?_⟩
    cases i with
    | zero => simp at hv; subst hv; exact ⟨t, by simp⟩
    | succ i => obtain ⟨t', ht⟩ := h4 i v (by simpa using hv); exact ⟨t', by simpa using ht⟩
section
variable {sc : Scope} {n : Nat}
noncomputable def sumP : List PV → T PV
  | [.list l] => (T.ofOpt (numsOf' l)).bind fun ns => .ret (.int (sumInts ns))
  | _ => .fail
theorem blt_sum : Blt n (.builtin "sum") sumP := fun sc c O X ad ρ s I vs ds Q E r h => by
  unfold sumP at h
  split at h
  · obtain ⟨_, _, rfl, ⟨a, us, rfl, ha, ⟨k, hl⟩, r1⟩, rfl⟩ := r
    obtain ⟨ns, hns, h⟩ := T.holds_opt (T.holds_bind _ h)
    obtain ⟨hlen, hat⟩ := numsOf_at hns r1
    have hi : s.heap.IsList a us.toArray := ⟨_, hl, rfl, _, rfl⟩
    have hne : a ≠ s.heap.objs.size := fun q => by rw [q, fresh_size (Nat.le_refl _)] at hl; cases hl
    refine call_sum_walkAnyS (wpAny_pyIter_list hi ⟨_, _, _, _, _, _, _, fun i => ns.getD i 0, rfl, (Walks.list (A := c.A.in1) I.wf.handled _ a hne us.toArray).toS, ⟨⟨_, Heap.get?_push_size _ rfl, rfl, rfl⟩, hi.push _⟩, ?_, ?_, ?_⟩)
    · intro b hb
      show @LT.lt Nat _ b _
      rw [Heap.size_push]
      simp only [List.mem_cons, List.mem_nil_iff, or_false] at hb
      rcases hb with rfl | rfl
      · exact Nat.lt_succ_self _
      · exact Nat.lt_succ_of_lt (Heap.lt_size hl)
    · intro i v hv
      exact hat i v (by simpa using hv)
    · intro s' t' hM
      have x : Nxt c.H c.F s s' := by
        refine ⟨.keep I.wf.stays I.wf.tabs fun b o e => hM.heap b o ?_ (Heap.get?_push_of_some _ e), ?_, hM.os⟩
        · simp only [List.mem_cons, List.mem_nil_iff, or_false]
          rintro rfl
          rw [fresh_size (Nat.le_refl _)] at e; cases e
        · exact hM.gens
      have e : us.toArray.size = ns.length := by rw [List.size_toArray, hlen]
      rw [e]
      exact h _ _ x ⟨_, rfl⟩
  · exact h.elim
theorem strsAre_of {w : World} {X : List Addr} {h : Heap} : ∀ {l : List PV} {ss : List Str} {vs : List Value}, strsOf l = some ss → Rps w X h l vs → StrsAre vs ss
  | [], _, _, e, r => by cases e; cases r; exact .nil
  | d :: l, ys, vs, e, ⟨v, r, q, h1, h2⟩ => by
    cases d <;> simp only [strsOf, Option.map_eq_some_iff, reduceCtorEq] at e
    obtain ⟨zs, e1, rfl⟩ := e
    obtain ⟨t, rfl⟩ := h1
    subst q
    exact .cons _ _ (strsAre_of e1 h2)
theorem strsAre_rps {w : World} {X : List Addr} {h : Heap} : ∀ {ss : List Str} {vs : List Value}, StrsAre vs ss → Rps w X h (ss.map .str) vs
  | _, _, .nil => rfl
  | _, _, .cons y t r => ⟨_, _, rfl, ⟨t, rfl⟩, strsAre_rps r⟩
noncomputable def srtP : List PV → T PV
  | [.list l] => (T.ofOpt (strsOf l)).bind fun ss => .chk (decide (ss.length < 64)) (.any (fun d => ∃ ss' : List Str, d = .list (ss'.map .str) ∧ ss'.Perm ss ∧ sortedS ss' = true) .ret)
  | _ => .fail
theorem blt_sorted : Blt n (.builtin "sorted") srtP := fun sc c O X ad ρ s I vs ds Q E r h => by
  unfold srtP at h
  split at h
  · obtain ⟨_, _, rfl, ⟨a, us, rfl, ha, ⟨k, hl⟩, r1⟩, rfl⟩ := r
    obtain ⟨ss, hss, h⟩ := T.holds_opt (T.holds_bind _ h)
    obtain ⟨h64, h⟩ := T.holds_chk h
    have hS := strsAre_of hss r1
    have hlen : us.length = ss.length := by
      have := r1.length
      have := (strsAre_rps (w := c.w) (X := X) (h := s.heap) hS).length
      simpa using this
    refine sorted_strs ⟨_, hl, rfl, _, rfl⟩ hS (by rw [hlen]; simpa using h64) fun out ss' hout hp hs => ?_
    have x : Nxt c.H c.F s { s with heap := sortedAll s.heap us out } := ⟨.keep I.wf.stays I.wf.tabs fun b o e => sortedAll_old e, rfl, rfl⟩
    obtain ⟨e, he⟩ := sortedAll_at s.heap us out
    refine h (.list (ss'.map .str)) ⟨ss', rfl, hp, hs⟩ _ _ x ⟨_, out.toList, rfl, I.fresh (Nat.le_succ _), ⟨e, ?_⟩, strsAre_rps hout⟩
    exact he
  · exact h.elim
end
end Mine
namespace Mine
noncomputable def bodyAt (i : Nat) : List Stmt := match (fdAt i 0 .none).body with | .stmts b => b | _ => []
noncomputable def scAt (i : Nat) : Scope := (fdAt i 0 .none).scope
theorem sndE_CallB' {n : Nat} {sc : Scope} {id nm : String} {f : Str} {p pos : Pos} {e : Expr} {es : List Expr} {t : Rho → T (List PV)} {spec : List PV → T PV} (hf : f = Str.ofString nm) (hc : Blt n (.builtin id) spec)
    (hk : sc.names.lookup f = some .globalImplicit) (hb : bltNames.contains (Str.ofString nm) = true) (hv : bootBuiltins (Str.ofString nm) = some (.builtin id)) (hd : (Str.ofString nm == ("__debug__" : Str)) = false) (hm : (Str.ofString nm == ("__name__" : Str)) = false)
    (he : SndL sc n (e :: es) t) (hn : plainArgs (e :: es) = true) : SndE sc n (.Call (.Name f p) (e :: es) [] pos) fun ρ => (t ρ).bind spec := by subst hf; exact sndE_CallB hc hk hb hv hd hm he hn
theorem sndE_CallT' {n : Nat} {sc : Scope} {id nm : String} {f : Str} {p pos : Pos} {e : Expr} {es : List Expr} {t : Rho → T (List PV)} {spec : List PV → T PV} (hf : f = Str.ofString nm) (hc : Blt n (.type id) spec)
    (hk : sc.names.lookup f = some .globalImplicit) (hb : bltNames.contains (Str.ofString nm) = true) (hv : bootBuiltins (Str.ofString nm) = some (.type id)) (hd : (Str.ofString nm == ("__debug__" : Str)) = false) (hm : (Str.ofString nm == ("__name__" : Str)) = false)
    (he : SndL sc n (e :: es) t) (hn : plainArgs (e :: es) = true) : SndE sc n (.Call (.Name f p) (e :: es) [] pos) fun ρ => (t ρ).bind spec := by subst hf; exact sndE_CallT hc hk hb hv hd hm he hn
theorem sndE_Blt' {n : Nat} {sc : Scope} {f : Str} {nm : String} {p : Pos} {v : Value} (hf : f = Str.ofString nm) (hk : sc.names.lookup f = some .globalImplicit) (hb : bltNames.contains (Str.ofString nm) = true) (hv : bootBuiltins (Str.ofString nm) = some v) (hd : (Str.ofString nm == ("__debug__" : Str)) = false) (hm : (Str.ofString nm == ("__name__" : Str)) = false) :
    SndE sc n (.Name f p) fun _ => .ret (.raw v) := by subst hf; exact sndE_Blt hk hb hv hd hm
noncomputable def X1 (n : Nat) (F : FS n) (X0 : Extra n) : Extra n := fun sc e => match e with
  | .Call (.Name f p) args kws pos => if hg : isGlob sc f = true then (match kws, args with
    | [], [a] => if hp : plainArgs [a] = true then
        if h : f = Str.ofString "int" then some ⟨_, sndE_CallT' h blt_int (isGlob_is hg) (by decide +kernel) (by decide +kernel) (by decide +kernel) (by decide +kernel) (rdL (rd F X0 20 sc) [a]).2 hp⟩ else
        if h : f = Str.ofString "chr" then some ⟨_, sndE_CallB' h blt_chr (isGlob_is hg) (by decide +kernel) (by decide +kernel) (by decide +kernel) (by decide +kernel) (rdL (rd F X0 20 sc) [a]).2 hp⟩ else
        if h : f = Str.ofString "sum" then some ⟨_, sndE_CallB' h blt_sum (isGlob_is hg) (by decide +kernel) (by decide +kernel) (by decide +kernel) (by decide +kernel) (rdL (rd F X0 20 sc) [a]).2 hp⟩ else
        if h : f = Str.ofString "sorted" then some ⟨_, sndE_CallB' h blt_sorted (isGlob_is hg) (by decide +kernel) (by decide +kernel) (by decide +kernel) (by decide +kernel) (rdL (rd F X0 20 sc) [a]).2 hp⟩ else
        if h : f = Str.ofString "type" then some ⟨_, sndE_CallT' h blt_type (isGlob_is hg) (by decide +kernel) (by decide +kernel) (by decide +kernel) (by decide +kernel) (rdL (rd F X0 20 sc) [a]).2 hp⟩ else none
      else none
    | [], [a, .Name g pg] => if hp : plainArgs [a, .Name g pg] = true ∧ noStar a = true ∧ isGlob sc g = true then
        if h : f = Str.ofString "isinstance" then
          if h2 : g = Str.ofString "str" then some ⟨_, sndE_CallB' h blt_isi (isGlob_is hg) (by decide +kernel) (by decide +kernel) (by decide +kernel) (by decide +kernel) (sndL_cons' (rd F X0 20 sc a).ex.2 (sndL_cons' (sndE_Blt' (v := .type "str") h2 (isGlob_is hp.2.2) (by decide +kernel) (by decide +kernel) (by decide +kernel) (by decide +kernel)) sndL_nil rfl) hp.2.1) hp.1⟩ else
          if h2 : g = Str.ofString "bytes" then some ⟨_, sndE_CallB' h blt_isi (isGlob_is hg) (by decide +kernel) (by decide +kernel) (by decide +kernel) (by decide +kernel) (sndL_cons' (rd F X0 20 sc a).ex.2 (sndL_cons' (sndE_Blt' (v := .type "bytes") h2 (isGlob_is hp.2.2) (by decide +kernel) (by decide +kernel) (by decide +kernel) (by decide +kernel)) sndL_nil rfl) hp.2.1) hp.1⟩ else none
        else none
      else none
    | [], [a, .Tuple [.Name g pg, .Name g2 pg2] k tp] => if h : f = ("issubclass" : Str) ∧ g = ("str" : Str) ∧ g2 = ("bytes" : Str) ∧ isGlob sc g = true ∧ isGlob sc g2 = true ∧ noStar a = true then
        some ⟨_, sndE_issub h.1 h.2.1 h.2.2.1 (isGlob_is hg) (isGlob_is h.2.2.2.1) (isGlob_is h.2.2.2.2.1) h.2.2.2.2.2 (rd F X0 20 sc a).ex.2⟩ else none
    | _, _ => none) else none
  | _ => none
noncomputable def Xno (n : Nat) : Extra n := fun _ _ => none
noncomputable def Yno (n : Nat) : ExtraX n := fun _ _ => none
noncomputable def F0 (n : Nat) : FS n := ⟨[], fun _ h => nomatch h⟩
noncomputable def readF (n : Nat) (F : FS n) (Y : ExtraX n) (W i : Nat) : { t : Rho → T (Rho × Fl) // SndS (scAt i) n (bodyAt i) t } := rdS (rdX F (X1 n F (X1 n F (Xno n))) Y W 20 (scAt i)) (bodyAt i)
end Mine
namespace Mine
theorem fn_get {k : Nat} {x : Addr × Nat × Addr × Value × String} (h : fnTab[k]? = some x) : x ∈ fnTab := List.mem_of_getElem? h
theorem names_nd : (fnTab.map (·.2.2.2.2)).Nodup := by decide +kernel
theorem fn_uniq {x y : Addr × Nat × Addr × Value × String} (hx : x ∈ fnTab) (hy : y ∈ fnTab) (h : y.2.2.2.2 = x.2.2.2.2) : y = x := by
  have key : ∀ l : List (Addr × Nat × Addr × Value × String), (l.map (·.2.2.2.2)).Nodup → ∀ x ∈ l, ∀ y ∈ l, y.2.2.2.2 = x.2.2.2.2 → y = x := by
    intro l
    induction l with
    | nil => intro _ x hx; cases hx
    | cons a l ih =>
      intro nd x hx y hy e
      simp only [List.map_cons, List.nodup_cons] at nd
      rcases List.mem_cons.mp hx with q1 | q1 <;> rcases List.mem_cons.mp hy with q2 | q2
      · rw [q1, q2]
      · rw [q1] at e
        exact absurd (e ▸ List.mem_map_of_mem (f := (·.2.2.2.2)) q2) nd.1
      · rw [q2] at e
        exact absurd (e ▸ List.mem_map_of_mem (f := (·.2.2.2.2)) q1) nd.1
      · exact ih nd.2 x q1 y q2 e
  exact key fnTab names_nd x hx y hy h
theorem con_read {k : Nat} {x : Addr × Nat × Addr × Value × String} {name : String} {n : Nat} {ps : List Str} {F : FS n} {Y : ExtraX n} {W : Nat} (hk : fnTab[k]? = some x) (hn : x.2.2.2.2 = name)
    (hfix : (fdAt x.2.1 x.2.2.1 x.2.2.2.1).scope = scAt x.2.1 ∧ (fdAt x.2.1 x.2.2.1 x.2.2.2.1).body = .stmts (bodyAt x.2.1) ∧ (scAt x.2.1).kind = .function ∧ (scAt x.2.1).isCoroutine = false ∧ (scAt x.2.1).isGenerator = false ∧ (fdAt x.2.1 x.2.2.1 x.2.2.2.1).closure = [] ∧ (fdAt x.2.1 x.2.2.1 x.2.2.2.1).globals = 3 ∧ (fdAt x.2.1 x.2.2.1 x.2.2.2.1).builtins = 0 ∧ (fdAt x.2.1 x.2.2.1 x.2.2.2.1).code = .ref x.2.2.1 ∧ (fdAt x.2.1 x.2.2.1 x.2.2.2.1).qualname = nameAt x.2.1)
    (hps : ps.Nodup) (hvar : ps.all (isVar (scAt x.2.1)) = true) (hbind : ∀ (pm : Value) (vs : List Value), vs.length = ps.length → bindArgs { fdAt x.2.1 x.2.2.1 x.2.2.2.1 with pyModule := pm } ⟨vs, []⟩ = pure (ps.zip vs)) :
    Con name (n + 2) (callT ps (readF n F Y W x.2.1).1) := by
  obtain ⟨h1, h2, h3, h4, h5, h6, h7, h8, h9, h10⟩ := hfix
  exact con_of (fn_get hk) hn (fun y hy e => fn_uniq (fn_get hk) hy (e.trans hn.symm)) h1 h2 h3 h4 h5 ⟨h6, h7, h8, h9, h10⟩ hps (fun p hp => List.all_eq_true.mp hvar p hp) hbind (readF n F Y W x.2.1).2
theorem Con.as {name : String} {n : Nat} {s1 s2 : List PV → T PV} (c : Con name n s1) (h : ∀ ds (P : PV → Prop), (s2 ds).Holds P → (s1 ds).Holds P) : Con name n s2 :=
  fun w H mg mb th x hx hn A frs s X vs ds Q E W R hF hX hr hh => c w H mg mb th x hx hn A frs s X vs ds Q E W R hF hX hr (h ds _ hh)
noncomputable def fspathS : List PV → T PV
  | [.str x] => .ret (.str x)
  | _ => .fail
theorem con_fspath (n : Nat) : Con "fspath" (n + 2) fspathS := by
  refine (con_read (k := 7) (F := F0 n) (Y := Yno n) (W := 0) (ps := ["path"]) rfl rfl (by refine ⟨?_, ?_, ?_, ?_, ?_, ?_, ?_, ?_, ?_, ?_⟩ <;> kernel_rfl) (by decide +kernel) (by kernel_rfl) ?_).as ?_
  · intro pm vs h
    obtain ⟨v, rfl⟩ := one_of h
    kernel_rfl
  · intro ds P h
    unfold fspathS at h
    split at h
    · rename_i x
      have e : callT ["path"] (readF n (F0 n) (Yno n) 0 23).1 [.str x] = .ite true (.ret (.str x)) .fail := by kernel_rfl
      show (callT ["path"] (readF n (F0 n) (Yno n) 0 23).1 [.str x]).Holds P
      rw [e]; exact h
    · exact h.elim
end Mine
namespace Mine
noncomputable def isStar : Expr → Bool
  | .Starred .. => true
  | _ => false
noncomputable def tgName (kindOf : Str → Option NameKind) (line : Nat) : Expr → Option Str
  | .Name id pos => if kindOf id == some .local && pos.line == line then some id else none
  | _ => none
noncomputable def tgNames (kindOf : Str → Option NameKind) (ts : List Expr) : List Str := ts.filterMap (tgName kindOf ((ts.head?.map (·.pos.line)).getD 0))
noncomputable def swOk (sc : Scope) (ts vs : List Expr) : Bool :=
  (ts.length == 2 || ts.length == 3) && vs.length == ts.length && !vs.any isStar && (tgNames (fun x => sc.names.lookup x) ts).length == ts.length && (tgNames (fun x => sc.names.lookup x) ts).eraseDups.length == (tgNames (fun x => sc.names.lookup x) ts).length && !vs.all (foldedForSure 8) && !vs.all (constantsAlone 8)
theorem swapped_eq (ts vs : List Expr) (k k2 : Nat) (tp tp2 : Pos) (env : Env) : swappedStores [.Tuple ts k tp] (.Tuple vs k2 tp2) env =
    (if (!(ts.length == 2 || ts.length == 3) || vs.length != ts.length || env.blockKind != .function) = true then pure none else
     if (vs.any isStar) = true then pure none else
     if ((tgNames env.kindOf ts).length != ts.length || (tgNames env.kindOf ts).eraseDups.length != (tgNames env.kindOf ts).length) = true then pure none else
     if (vs.all (foldedForSure 8)) = true then pure none else
     if (vs.all (constantsAlone 8)) = true then (do unsupported "assign.tuple-of-constant-expressions:order-of-the-stores"; pure (some (tgNames env.kindOf ts))) else
     pure (some (tgNames env.kindOf ts))) := by
  unfold swappedStores
  dsimp only
  by_cases h1 : (!(ts.length == 2 || ts.length == 3) || vs.length != ts.length || env.blockKind != .function) = true
  · rw [if_pos h1, if_pos h1]
  rw [if_neg h1, if_neg h1]
  by_cases h2 : (vs.any isStar) = true
  · rw [if_pos h2]
    exact if_pos h2
  rw [if_neg h2]
  refine Eq.trans (if_neg h2) ?_
  by_cases h3 : ((tgNames env.kindOf ts).length != ts.length || (tgNames env.kindOf ts).eraseDups.length != (tgNames env.kindOf ts).length) = true
  · rw [if_pos h3]
    exact if_pos h3
  rw [if_neg h3]
  refine Eq.trans (if_neg h3) ?_
  rfl
section
variable {sc : Scope} {n : Nat}
theorem swapped_is {c : Cx} (O : Ok sc n c) {ts vs : List Expr} {k k2 : Nat} {tp tp2 : Pos} (h : swOk sc ts vs = true) : swappedStores [.Tuple ts k tp] (.Tuple vs k2 tp2) c.env = pure (some (tgNames (fun x => sc.names.lookup x) ts)) := by
  have hb : (c.env.blockKind != ScopeKind.function) = false := by
    unfold Env.blockKind; rw [O.kind]; rfl
  have hk : c.env.kindOf = fun x => sc.names.lookup x := funext O.names
  rw [swapped_eq, hk]
  simp only [swOk, Bool.and_eq_true, Bool.not_eq_true'] at h
  obtain ⟨⟨⟨⟨⟨⟨h1, h2⟩, h3⟩, h4⟩, h5⟩, h6⟩, h7⟩ := h
  rw [if_neg (by rw [h1, hb]; simp only [bne, h2]; decide), if_neg (by rw [h3]; decide), if_neg (by simp only [bne]; rw [h4, h5]; decide), if_neg (by rw [h6]; decide), if_neg (by rw [h7]; decide)]
theorem zip_vals {α β : Type} : ∀ (ps : List α) (vs : List β), ps.length = vs.length → (ps.zip vs).map (·.2) = vs
  | [], [], _ => rfl
  | [], _ :: _, h => by simp at h
  | _ :: _, [], _ => by simp
  | p :: ps, v :: vs, h => by simp [zip_vals ps vs (by simpa using h)]
theorem Rps.rev {w : World} {X : List Addr} {h : Heap} : ∀ {ds : List PV} {vs : List Value}, Rps w X h ds vs → Rps w X h ds.reverse vs.reverse
  | [], _, r => by rw [show _ = [] from r]; rfl
  | d :: ds, _, ⟨v, r, e, h1, h2⟩ => by rw [e, List.reverse_cons, List.reverse_cons]; exact (Rps.rev h2).append (.one h1)
noncomputable def setAll (ρ : Rho) : List (Str × PV) → Rho
  | [] => ρ
  | q :: l => setAll (setE ρ q.1 (.val q.2)) l
theorem wp_assignAll {c : Cx} (O : Ok sc n c) (Ap : Apart c) {X : List Addr} {ad : Str → Addr} {E : Value → Shared → Prop} {Q : Unit → Shared → Prop} : ∀ (l : List (Str × PV)) (vs : List Value) (ρ : Rho) (s : Shared), Inv c X ad ρ s → l.length = vs.length →
    (∀ q ∈ vs.zip (l.map (·.2)), q ∈ c.gh) → (∀ q ∈ l, isVar sc q.1 = true) → (∀ s', Inv c X ad (setAll ρ l) s' → Q () s') → wpAny (model pw c.w) c.A (assignInOrder (l.map fun q => bindName c.env q.1) vs) Q E s
  | [], [], ρ, s, I, _, _, _, h => wpAny_pure (h s I)
  | [], _ :: _, _, _, _, hl, _, _, _ => by simp at hl
  | _ :: _, [], _, _, _, hl, _, _, _ => by simp at hl
  | q :: l, v :: vs, ρ, s, I, hl, hg, hv, h => by
    show wpAny _ _ (holding vs (bindName c.env q.1 v) >>= fun _ => assignInOrder (l.map fun q => bindName c.env q.1) vs) _ _ _
    refine wpAny_bind (wpAny_holding (wpAny_bindName (wp_store O Ap (I.wo q.1) (hv q (.head _)) (e := .val q.2) .val (I.ghs _ (hg (v, q.2) (by simp))) fun s₁ I₁ => ?_)))
    exact wp_assignAll O Ap l vs _ s₁ I₁ (by simpa using hl) (fun z hz => hg z (by simp [hz])) (fun z hz => hv z (.tail _ hz)) h
theorem sndX_Tuple {ts vs : List Expr} {k k2 : Nat} {tp tp2 pos : Pos} {t : Rho → T (List PV)} (hs : swOk sc ts vs = true) (hv : (tgNames (fun x => sc.names.lookup x) ts).all (isVar sc) = true) (he : SndL sc n vs t) :
    SndX sc n (.Assign [.Tuple ts k tp] (.Tuple vs k2 tp2) pos) fun ρ => (t ρ).bind fun ds => .chk (ds.length == (tgNames (fun x => sc.names.lookup x) ts).length && decide (ds.length ≤ sizeLine)) (.ret (setAll ρ ((tgNames (fun x => sc.names.lookup x) ts).reverse.zip ds.reverse), .next)) := fun c O Ap X ad ρ s I Q E h => by
  generalize hN : tgNames (fun x => sc.names.lookup x) ts = N at *
  refine Assign_Tuple_swapped (names := N) ?_ rfl (by rw [swapped_is O hs, hN])
  refine wpAny_Tuple (he c O X ad ρ s I tp2 _ _ (T.holds_mono (fun ds hd us s₁ x₁ r => ?_) _ (T.holds_bind _ h)))
  obtain ⟨hb, hd⟩ := T.holds_chk hd
  simp only [Bool.and_eq_true, beq_iff_eq, decide_eq_true_eq] at hb
  have I₁ := I.nxt O x₁
  refine ⟨by rw [r.length]; exact hb.2, ?_⟩
  have x₂ := I₁.push { cls := .type "tuple", dict := none, data := .seq us.toArray, slots := #[] } s₁.toks
  have I₂ := I₁.nxt O x₂
  have r₂ := I₁.rps O x₂ r
  have hlen : us.toArray.size = N.length := by rw [List.size_toArray, r.length]; exact hb.1
  rw [← hlen]
  refine wpAny_unpackItems_tuple I.wf.handled ⟨_, Heap.get?_push_size _ rfl, rfl, _, rfl⟩ fun h' hk' => ?_
  have x₃ : Nxt c.H c.F { s₁ with heap := s₁.heap.push { cls := .type "tuple", dict := none, data := .seq us.toArray, slots := #[] } } { s₁ with heap := h' } := ⟨.keep I₂.wf.stays I₂.wf.tabs fun b o e => hk' b o (Nat.ne_of_lt (Heap.lt_size e)) e, rfl, rfl⟩
  have I₃ := I₂.nxt O x₃
  have r₃ := I₂.rps O x₃ r₂
  have hr : us.toArray.toList = us := by simp
  rw [hr]
  have hz : ds.reverse.length = N.reverse.length := by simp [hb.1]
  have hu : us.reverse.length = ds.reverse.length := by simp [r.length]
  have e1 : N.reverse.map (fun n => bindName c.env n) = (N.reverse.zip ds.reverse).map (fun q => bindName c.env q.1) := by
    rw [← Function.comp_def (f := fun n => bindName c.env n) (g := fun q : Str × PV => q.1), ← List.map_map, zip_keys _ _ hz.symm]
  rw [e1]
  let gh := us.reverse.zip ds.reverse ++ c.gh
  have I₄ : Inv (c.pg c.pin gh) X ad ρ { s₁ with heap := h' } := I₃.pg I₃.pins (fun q hq => by
    rcases List.mem_append.mp hq with hq | hq
    · exact zip_rp r₃.rev q hq
    · exact I₃.ghs q hq) fun y l hy q hq => (I₃.ownf y l hy).2.2 q hq
  have e2 : (N.reverse.zip ds.reverse).map (·.2) = ds.reverse := zip_vals _ _ hz.symm
  refine wp_assignAll (O.pg c.pin gh) (Ap.pg c.pin gh) _ _ _ _ I₄ ?_ (fun q hq => List.mem_append_left _ (by rw [e2] at hq; exact hq)) (fun q hq => ?_) fun s' I' => ?_
  · simp [hb.1, r.length]
  · have : q.1 ∈ N.reverse := (List.of_mem_zip hq).1
    exact List.all_eq_true.mp hv _ (by simpa using this)
  · exact hd s' X ad .next (I'.unpg (fun q hq => hq) fun q hq => List.mem_append_right _ hq) trivial
end
end Mine
namespace Mine
theorem lk_list_append : typeLookup (.type "list") "append" = pure (some (.builtin "list.append")) := F.slot_list_append.lookup
theorem slot_md_get : Slot "method_descriptor" "__get__" "method_descriptor.__get__" :=
  .of (owner := "method_descriptor") (n := "__get__") (by rw [typeLookup_type, builtinLookup_eq_fast]; kernel_rfl) (by decide +kernel) (by decide +kernel) (by decide +kernel)
    (by first | exact .inl (by decide +kernel) | exact .inr (by decide +kernel)) (by rw [isSubtype_type]; kernel_rfl)
theorem entry_md_get : entryFor table "method_descriptor.__get__" = some Builtin.«method_descriptor.__get__» := entryFor_of_tree (by kernel_rfl)
theorem args_md_get (a b c : Value) : argsOk "method_descriptor.__get__" ⟨[a, b, c], []⟩ := by unfold argsOk; kernel_rfl
theorem nolk_md_set : typeLookup (.type "method_descriptor") "__set__" = pure none := by rw [typeLookup_type, builtinLookup_eq_fast]; kernel_rfl
theorem nolk_md_del : typeLookup (.type "method_descriptor") "__delete__" = pure none := by rw [typeLookup_type, builtinLookup_eq_fast]; kernel_rfl
theorem type_append : typeOf (.builtin "list.append") = pure (.type "method_descriptor") := F.type_list_append
theorem sub_list_owner : isSubtype (.type "list") (.type (".".intercalate ("list.append".cutAt '.').dropLast)) = pure true := by rw [show (".".intercalate ("list.append".cutAt '.').dropLast) = "list" by decide +kernel, isSubtype_type]; kernel_rfl
noncomputable def boundAppend (a : Addr) : Obj := { cls := .type "builtin_function_or_method", dict := none, data := .fields #[.builtin "list.append", .ref a], slots := #[] }
section
variable {prog : Program} {w : World} {A : Around} {E : Value → Shared → Prop} {h : Heap} {g : Array GenState} {d : Drawn} {t : Nat} {os : OsState} {a : Addr} {items : Array Value} {n : Nat}
theorem append_get {R : Result → Shared → Prop} (ho : h.get? a = some { cls := .type "list", data := .seq items n }) (hq : R (.ok (.ret (.ref h.objs.size))) ⟨h.push (boundAppend a), g, d, t, os⟩) :
    codeAny (model prog w) A (.call (.builtin "method_descriptor.__get__") ⟨[.builtin "list.append", .ref a, .type "list"], []⟩) R ⟨h, g, d, t, os⟩ := by
  have hT : (⟨h, g, d, t, os⟩ : Shared).TypeIs (.ref a) "list" := ⟨_, ho, rfl⟩
  have hT5 : (⟨h, g, d, t, os⟩ : Shared).TypeIs (.builtin "list.append") "method_descriptor" := type_append
  have f8 := sub_list_owner
  refine codeAny_call_builtin slot_md_get.plain entry_md_get (slot_md_get.check _ _ _ _ _ _ _ _ hT5 (args_md_get _ _ _) ?_)
  repeat (any_goals (first | assumption | wp_step))
theorem append_entry {tk : Tok} {Q : Fin → Shared → Prop} (ho : h.get? a = some { cls := .type "list", data := .seq items n }) (hq : Q (.done (.ret (.ref h.objs.size))) ⟨h.push (boundAppend a), g, d, t, os⟩) :
    wpAny (model prog w) A (Builtin.«object.__getattribute__» ⟨[.ref a, .str "append" tk], []⟩) Q E ⟨h, g, d, t, os⟩ := by
  have hT : (⟨h, g, d, t, os⟩ : Shared).TypeIs (.ref a) "list" := ⟨_, ho, rfl⟩
  have hT5 : (⟨h, g, d, t, os⟩ : Shared).TypeIs (.builtin "list.append") "method_descriptor" := type_append
  have f4 := lk_list_append
  have f5 := type_append
  have f6 := slot_md_get.lookup
  have f7 := nolk_md_set
  have f9 := nolk_md_del
  repeat (any_goals (first | assumption | wp_step))
  refine append_get ho ?_
  repeat (any_goals (first | assumption | wp_step))
theorem append_call {tk : Tok} {R : Result → Shared → Prop} (ho : h.get? a = some { cls := .type "list", data := .seq items n }) (hq : R (.ok (.ret (.ref h.objs.size))) ⟨h.push (boundAppend a), g, d, t, os⟩) :
    codeAny (model prog w) A (.call (.builtin "list.__getattribute__") ⟨[.ref a, .str "append" tk], []⟩) R ⟨h, g, d, t, os⟩ :=
  codeAny_call_builtin F.slot_list_getattribute.plain am_entry_list_getattribute (F.slot_list_getattribute.check _ _ _ _ _ _ _ _ (show (⟨h, g, d, t, os⟩ : Shared).TypeIs (.ref a) "list" from ⟨_, ho, rfl⟩) (F.args_list_getattribute_2 _ _) (append_entry ho hq))
theorem append_attr {Q : Value → Shared → Prop} {ex : Bool} (ho : h.get? a = some { cls := .type "list", data := .seq items n }) (hq : Q (.ref h.objs.size) ⟨h.push (boundAppend a), g, d, t + 1, os⟩) :
    wpAny (model prog w) A (getAttr (.ref a) "append" ex) Q E ⟨h, g, d, t, os⟩ := by
  have hT : (⟨h, g, d, t, os⟩ : Shared).TypeIs (.ref a) "list" := ⟨_, ho, rfl⟩
  have f2 := F.slot_list_getattribute.lookup
  have f3 := F.slot_list_getattribute.bind (.ref a)
  unfold getAttr getAttrBy
  repeat (any_goals (first | assumption | wp_step))
  rw [show (ex && onTheHeap (Value.builtin "list.__getattribute__")) = false from by cases ex <;> rfl, if_neg (by decide)]
  repeat (any_goals (first | assumption | wp_step))
  refine append_call ho ?_
  repeat (any_goals (first | assumption | wp_step))
end
end Mine
namespace Mine
section
variable {w : World} {A : Around} {E : Value → Shared → Prop} {s : Shared}
theorem callWith_app {pos : Pos} {u a : Addr} {t : Sem Value} {Q : Value → Shared → Prop}
    (h : wpAny (model pw w) A t (fun v s₁ => s₁.heap.get? u = some (boundAppend a) ∧ wpAny (model pw w) A (call (.ref u) [v]) Q E s₁) E s) : wpAny (model pw w) A (callWith pos (.ref u) [] [(false, t)] []) Q E s := by
  unfold callWith
  refine wpAny_bind (wpAny_holding (wpAny_mono (evalArgs_plain (Q := fun x s₁ => ∃ v, x = ⟨[v], []⟩ ∧ s₁.heap.get? u = some (boundAppend a) ∧ wpAny (model pw w) A (call (.ref u) [v]) Q E s₁) (Calls.spliced_cons (wpAny_mono h (fun v s₁ h₁ => Calls.spliced_nil ⟨v, rfl, h₁⟩) fun _ _ e => e))) (fun x s₁ h₁ => wpAny_bind (wpAny_standAt ?_)) fun _ _ x => x))
  obtain ⟨v, rfl, ho, hcall⟩ := h₁
  refine wpAny_bind (m := keeperOf (.ref u)) ?_
  unfold keeperOf
  refine wpAny_bind (wpAny_load ho ?_)
  simp only [boundAppend, show (Value.type "builtin_function_or_method" != Value.type "method") = true by decide, show (Value.type "builtin_function_or_method" == Value.type "builtin_function_or_method" || Value.type "builtin_function_or_method" == Value.type "method-wrapper") = true by decide, if_true]
  refine wpAny_pure ?_
  exact wpAny_bind (wpAny_mono hcall (fun r s₂ hr => wpAny_bind (wpAny_holding (wpAny_point (wpAny_pure hr)))) fun _ _ x => x)
theorem call_app {u a : Addr} {v : Value} {items : Array Value} {k : Nat} {Q : Value → Shared → Prop} (ho : s.heap.get? u = some (boundAppend a)) (hl : s.heap.get? a = some { cls := .type "list", data := .seq items k }) (hz : items.size ≤ sizeLine)
    (hq : Q .none { s with heap := s.heap.update a (Obj.mapSeq fun xs => xs.push v) }) : wpAny (model pw w) A (call (.ref u) [v]) Q E s := by
  have hT : s.TypeIs (.ref a) "list" := ⟨_, hl, rfl⟩
  have f1 : isSubtype (.type "list") (.type "module") = pure false := by rw [isSubtype_type]; kernel_rfl
  have f2 : isSubtype (.type "list") (.type "type") = pure false := by rw [isSubtype_type]; kernel_rfl
  refine wpAny_call (codeAny_of_tree ?_)
  show wpAny _ A.in1 (callAny (.ref u) ⟨[v], []⟩) _ _ _
  unfold callAny
  refine wpAny_bind (wpAny_load ho ?_)
  show wpAny _ _ (do checkBoundCall "list.append" ⟨[.ref a, v], []⟩; again (.builtin "list.append" ⟨[.ref a, v], []⟩)) _ _ _
  have hchk : ∀ (Q' : Unit → Shared → Prop) (E' : Value → Shared → Prop), Q' () s → wpAny (model pw w) A.in1 (checkBoundCall "list.append" ⟨[.ref a, v], []⟩) Q' E' s := fun Q' E' h => by
    unfold checkBoundCall
    repeat (any_goals (first | assumption | wp_step))
  refine wpAny_bind (hchk _ _ (wpAny_pure ⟨Code.quiet_builtin _ (by decide +kernel), codeAny_builtin F.entry_list_append ?_⟩))
  rw [Around.under_plain (show (Code.builtin "list.append" ⟨[.ref a, v], []⟩).weight = 0 from rfl) rfl]
  exact list_append a items k v hz pw w A (fun r s' => match r with | .ok (.ret v) => Q v s' | .ok _ => False | .error e => E e s') s ⟨hl, hq⟩
end
end Mine
namespace Mine
section
variable {sc : Scope} {n : Nat}
theorem sndX_bindApp {x y m : Str} {px py ap pos : Pos} (hm : m = ("append" : Str)) (hx : isVar sc x = true) (hy : isVar sc y = true) (hd : (x == ("__debug__" : Str)) = false) :
    SndX sc n (.Assign [.Name y py] (.Attribute (.Name x px) m ap) pos) fun ρ => match findE (without ρ y) x with
      | some (.own l) => .ret (setE ρ y (.app x), .next)
      | _ => .fail := fun c O Ap X ad ρ s I Q E h => by
  subst hm
  dsimp only at h
  split at h
  · rename_i l hf
    have hxm := findE_mem hf
    refine wpAny_Assign_Name ?_ rfl
    rw [arm_eval_Attribute]
    refine wpAny_bind (m := eval (.Name x px) c.env) (wpAny_Name (ldName O (I.wo y) hxm (isVar_or hx) fun vx rx => ?_) hd)
    obtain ⟨rfl, hmX, vs, ⟨k, hl⟩, rs⟩ := rx
    refine wpAny_bind (wpAny_standAt (wpAny_bind (wpAny_holding ?_)))
    refine append_attr (h := s.heap) (g := s.gens) (d := s.drawn) (t := s.toks) (os := s.os) hl ?_
    refine wpAny_bind (wpAny_of_eq (a := ()) rfl (wpAny_pure ?_))
    have x₁ := I.push (boundAppend (ad x)) (s.toks + 1)
    refine wp_store O Ap ((I.nxt O x₁).wo y) hy (e := .app x) (fun _ e => by cases e) ⟨_, rfl, Heap.get?_push_size _ rfl⟩ fun s' I' => h s' X ad .next I' trivial
  · exact h.elim
theorem sndX_callApp {y : Str} {py pos spos : Pos} {e : Expr} {t : Rho → T PV} (hy : isVar sc y = true) (hd : (y == ("__debug__" : Str)) = false) (hn : noStar e = true) (he : SndE sc n e t) :
    SndX sc n (.Expr (.Call (.Name y py) [e] [] pos) spos) fun ρ => match findE ρ y with
      | some (.app x) => (match findE ρ x with
        | some (.own l) => (t ρ).bind fun d => .chk (decide (l.length ≤ sizeLine)) (.ret (updE ρ x (.own (l ++ [d])), .next))
        | _ => .fail)
      | _ => .fail := fun c O Ap X ad ρ s I Q E h => by
  dsimp only at h
  split at h
  · rename_i x hf
    split at h
    · rename_i l hf2
      have hym := findE_mem hf
      have hxm := findE_mem hf2
      refine wpAny_Expr ?_ (by unfold interactive; rw [O.kind]; rfl)
      refine wpAny_Call_NameR (wpAny_Name (ldName O I hym (isVar_or hy) fun vy ry => ?_) hd)
      obtain ⟨b, rfl, hb⟩ := ry
      rw [show backTo pos (starEach [e] c.env) = [(false, eval e c.env)] from by rw [starEach_cons hn]; rfl]
      refine callWith_app (a := ad x) (he c O X ad ρ s I _ _ (T.holds_mono (fun d hd v s₁ x₁ r => ?_) _ (T.holds_bind _ h)))
      obtain ⟨hz, hd⟩ := T.holds_chk hd
      have I₁ := I.nxt O x₁
      obtain ⟨_, ry⟩ := I₁.ent hym
      obtain ⟨_, _, hmX, vs, hl₁, rs₁⟩ := I₁.ent hxm
      have hb₁ : s₁.heap.get? b = some (boundAppend (ad x)) := x₁.ext.grow.exact hb (fun q => by obtain ⟨ps, e⟩ := I.wf.tabs.fields hb q; cases e) (.inr fun _ _ e => by cases e)
      obtain ⟨k, hl₁'⟩ := id hl₁
      refine ⟨hb₁, call_app hb₁ hl₁' (by rw [List.size_toArray, rs₁.length]; simpa using hz) ?_⟩
      have hs := Heap.SameBut.update s₁.heap (ad x) (Obj.mapSeq fun xs => xs.push v)
      exact hd _ X ad .next (I₁.mut O (t := s₁.toks) hxm hs hl₁ (lst_push hl₁) ((Rps.same hs.extBut (.inl hmX) _ _ rs₁).snoc (Rp.same hs.extBut (.inl hmX) _ _ r))) trivial
    · exact h.elim
  · exact h.elim
end
end Mine
namespace Mine
noncomputable def Y1 (n : Nat) (F : FS n) (X : Extra n) : ExtraX n := fun sc st => match st with
  | .Assign [.Tuple ts k tp] (.Tuple vs k2 tp2) pos => if h : swOk sc ts vs = true ∧ (tgNames (fun x => sc.names.lookup x) ts).all (isVar sc) = true then some ⟨_, sndX_Tuple h.1 h.2 (rdL (rd F X 20 sc) vs).2⟩ else none
  | .Assign [.Name y py] (.Attribute (.Name x px) m ap) pos => if h : m = ("append" : Str) ∧ isVar sc x = true ∧ isVar sc y = true ∧ (x == ("__debug__" : Str)) = false then some ⟨_, sndX_bindApp h.1 h.2.1 h.2.2.1 h.2.2.2⟩ else none
  | .Expr (.Call (.Name y py) [e] [] pos) spos => if h : isVar sc y = true ∧ (y == ("__debug__" : Str)) = false ∧ noStar e = true then some ⟨_, sndX_callApp h.1 h.2.1 h.2.2 (rd F X 20 sc e).ex.2⟩ else none
  | _ => none
noncomputable abbrev X2 (n : Nat) (F : FS n) : Extra n := X1 n F (X1 n F (Xno n))
end Mine
namespace Mine
noncomputable def slash : Str := "/"
noncomputable def sepS : List PV → T PV
  | [.str x] => .ret (.str slash)
  | _ => .fail
theorem con_sep (n : Nat) : Con "_get_sep" (n + 2) sepS := by
  refine (con_read (k := 8) (F := F0 n) (Y := Yno n) (W := 0) (ps := ["path"]) rfl rfl (by refine ⟨?_, ?_, ?_, ?_, ?_, ?_, ?_, ?_, ?_, ?_⟩ <;> kernel_rfl) (by decide +kernel) (by kernel_rfl) ?_).as ?_
  · intro pm vs h
    obtain ⟨v, rfl⟩ := one_of h
    kernel_rfl
  · intro ds P h
    unfold sepS at h
    split at h
    · rename_i x
      have e : callT ["path"] (readF n (F0 n) (Yno n) 0 27).1 [.str x] = .ite false .fail (.ret (.str slash)) := by kernel_rfl
      show (callT ["path"] (readF n (F0 n) (Yno n) 0 27).1 [.str x]).Holds P
      rw [e]; exact h
    · exact h.elim
noncomputable def F1 (n : Nat) : FS (n + 1) := ⟨[("fspath", fspathS), ("_get_sep", sepS)], fun p hp => by
  simp only [List.mem_cons, List.mem_nil_iff, or_false] at hp
  rcases hp with rfl | rfl
  · exact con_fspath n
  · exact con_sep n⟩
noncomputable def dirHead (p : Str) : Str := Txt.slice p none (some (Txt.rfind p slash + 1))
noncomputable def dirS : List PV → T PV
  | [.str p] => .chk (decide (p.length ≤ sizeLine)) (.chk (decide (p.length ≤ sizeLine)) (
      let h := dirHead p
      .chk (decide (h.length ≤ sizeLine)) (
        .ite (h.length != 0)
          (.chk (decide (h.length ≤ sizeLine)) (.chk (mulOkB slash h.length) (.ite (!(h.cps.toList == (Txt.mul slash h.length).cps.toList)) (.chk (decide (h.length ≤ sizeLine)) (.ret (.str (Txt.rstripChars h slash)))) (.ret (.str h)))))
          (.ite false (.chk (decide (h.length ≤ sizeLine)) (.ret (.str (Txt.rstripChars h slash)))) (.ret (.str h))))))
  | _ => .fail
theorem con_dirname (n : Nat) : Con "dirname" (n + 3) dirS := by
  refine (con_read (k := 10) (n := n + 1) (F := F1 n) (Y := Yno (n + 1)) (W := 0) (ps := ["p"]) rfl rfl (by refine ⟨?_, ?_, ?_, ?_, ?_, ?_, ?_, ?_, ?_, ?_⟩ <;> kernel_rfl) (by decide +kernel) (by kernel_rfl) ?_).as ?_
  · intro pm vs h
    obtain ⟨v, rfl⟩ := one_of h
    kernel_rfl
  · intro ds P h
    unfold dirS at h
    split at h
    · rename_i x
      have e : callT ["p"] (readF (n + 1) (F1 n) (Yno (n + 1)) 0 29).1 [.str x] = dirS [.str x] := by kernel_rfl
      show (callT ["p"] (readF (n + 1) (F1 n) (Yno (n + 1)) 0 29).1 [.str x]).Holds P
      rw [e]; exact h
    · exact h.elim
end Mine
namespace Mine
noncomputable def forBody : Option Stmt → List Stmt
  | some (.For _ _ b _ _) => b
  | some (.While _ b _ _) => b
  | some (.Try b _ _ _ _) => b
  | _ => []
noncomputable def ddF (n : Nat) := (rdS (rdX (F0 n) (X2 n (F0 n)) (Yno n) 0 19 (scAt 4)) (forBody (bodyAt 4)[1]?)).1
noncomputable def ddR (n : Nat) := (rdS (rdX (F0 n) (X2 n (F0 n)) (Yno n) 0 20 (scAt 4)) ((bodyAt 4).drop 2)).1
noncomputable def ddN : Str := "new_unhashable"
noncomputable def ddP : Str := "unhashable_params"
noncomputable def ddT : Str := "t"
noncomputable def dd0 (ds l : List PV) : Rho := [(ddN, .own l), (ddP, .val (.list ds))]
noncomputable def dd1 (ds : List PV) (d : PV) (l : List PV) : Rho := (ddT, .val d) :: dd0 ds l
noncomputable def dd2 (ds : List PV) (d : PV) (l : List PV) : Rho := [(ddN, .own l), (ddT, .val d), (ddP, .val (.list ds))]
theorem dd_step (n : Nat) (ds l : List PV) (m : List PV) : ddF n (dd1 ds (.list m) l) =
    seqT (fun ρ => (((inP (.list m) l).bind fun r => .ret (.bool (!r))).bind truP).bind fun c => .ite c (.chk (decide (l.length ≤ sizeLine)) (.ret (dd2 ds (.list m) (l ++ [.list m]), .next))) (.ret (ρ, .next))) (fun ρ => .ret (ρ, .next)) (dd1 ds (.list m) l) := by kernel_rfl
theorem dd_stepS (n : Nat) (ds l : List PV) (m : Str) : ddF n (dd1 ds (.str m) l) =
    seqT (fun ρ => (((inP (.str m) l).bind fun r => .ret (.bool (!r))).bind truP).bind fun c => .ite c (.chk (decide (l.length ≤ sizeLine)) (.ret (dd2 ds (.str m) (l ++ [.str m]), .next))) (.ret (ρ, .next))) (fun ρ => .ret (ρ, .next)) (dd1 ds (.str m) l) := by kernel_rfl
theorem dd_whole (n : Nat) (ds : List PV) : callT ["unhashable_params"] (readF n (F0 n) (Yno n) 0 4).1 [.list ds] = .chk true (.chk (decide (ds.length ≤ sizeLine)) (T.bind (seqT (fun ρ => forT (ddF n) ddT ds ρ) (ddR n) (dd0 ds [])) retT)) := by kernel_rfl
theorem dd_ret0 (n : Nat) (ds l : List PV) : ddR n (dd0 ds l) = .ret (setE (dd0 ds l) ddN (.val (.list l)), .ret (.list l)) := by kernel_rfl
theorem dd_ret2 (n : Nat) (ds l : List PV) (d : PV) : ddR n (dd2 ds d l) = .ret (setE (dd2 ds d l) ddN (.val (.list l)), .ret (.list l)) := by kernel_rfl
theorem dd_ret1 (n : Nat) (ds l : List PV) (d : PV) : ddR n (dd1 ds d l) = .ret (setE (dd1 ds d l) ddN (.val (.list l)), .ret (.list l)) := by kernel_rfl
theorem dd_set0 (ds l : List PV) (d : PV) : setE (dd0 ds l) ddT (.val d) = dd1 ds d l := by kernel_rfl
theorem dd_set1 (ds l : List PV) (d e : PV) : setE (dd1 ds e l) ddT (.val d) = dd1 ds d l := by kernel_rfl
theorem dd_set2 (ds l : List PV) (d e : PV) : setE (dd2 ds e l) ddT (.val d) = dd1 ds d l := by kernel_rfl
inductive Fine : PV → Prop
  | str {x : Str} : PyData.strOk x = true → Fine (.str x)
  | list {l : List Str} : (∀ x ∈ l, PyData.strOk x = true) → Fine (.list (l.map .str))
noncomputable def dat (d : PV) : PyData := (toD d).getD .none
theorem toDs_strs : ∀ l : List Str, toDs (l.map .str) = some (l.map .str)
  | [] => rfl
  | x :: l => by simp only [List.map_cons, toDs, toD, toDs_strs l]
theorem canLay_strs : ∀ l : List Str, (∀ x ∈ l, PyData.strOk x = true) → PyData.canLayAll0 (l.map .str) = true
  | [], _ => rfl
  | x :: l, h => by simp only [List.map_cons, PyData.canLayAll0, PyData.canLay0, h x (.head _), canLay_strs l fun y hy => h y (.tail _ hy), Bool.and_self]
theorem depth_strs : ∀ l : List Str, PyData.depthAll (l.map .str) ≤ 1
  | [] => by simp [PyData.depthAll]
  | x :: l => by
    have := depth_strs l
    simp only [List.map_cons, PyData.depthAll, PyData.depth]
    omega
theorem Fine.dat {d : PV} (f : Fine d) : toD d = some (dat d) ∧ (Mine.dat d).canLay0 = true ∧ (Mine.dat d).depth ≤ 30 := by
  cases f with
  | str h => exact ⟨rfl, h, by simp [Mine.dat, toD, PyData.depth]⟩
  | list h =>
    rename_i l
    have e : toD (.list (l.map .str)) = some (.list (l.map .str)) := by simp only [toD, toDs_strs, Option.map_some]
    refine ⟨by simp only [Mine.dat, e, Option.getD_some], ?_, ?_⟩
    · simp only [Mine.dat, e, Option.getD_some, PyData.canLay0, canLay_strs l h]
    · have := depth_strs l
      simp only [Mine.dat, e, Option.getD_some, PyData.depth]
      omega
theorem fines {l : List PV} (h : ∀ d ∈ l, Fine d) : toDs l = some (l.map dat) ∧ PyData.canLayAll0 (l.map dat) = true ∧ PyData.depthAll (l.map dat) ≤ 30 := by
  induction l with
  | nil => exact ⟨rfl, rfl, by simp [PyData.depthAll]⟩
  | cons d l ih =>
    obtain ⟨h1, h2, h3⟩ := ih fun e he => h e (.tail _ he)
    obtain ⟨g1, g2, g3⟩ := (h d (.head _)).dat
    refine ⟨by simp only [toDs, g1, h1, List.map_cons], by simp only [List.map_cons, PyData.canLayAll0, g2, h2, Bool.and_self], ?_⟩
    simp only [List.map_cons, PyData.depthAll]
    omega
noncomputable def hasP (d : PV) (l : List PV) : Bool := l.any fun y => PyData.eqv (dat y) (dat d)
theorem inP_fine {d : PV} {l : List PV} (fd : Fine d) (fl : ∀ e ∈ l, Fine e) : inP d l = .chk true (.ret (hasP d l)) := by
  obtain ⟨h1, h2, h3⟩ := fines fl
  obtain ⟨g1, g2, g3⟩ := fd.dat
  have hm : decide (min (PyData.depthAll (l.map dat)) (dat d).depth ≤ 30) = true := decide_eq_true (by omega)
  unfold inP
  rw [g1, h1]
  simp only [T.ofOpt, T.bind, h2, g2, hm, Bool.and_self, hasP, List.any_map]
  rfl
noncomputable def dedP : List PV → List PV → List PV
  | acc, [] => acc
  | acc, d :: ds => dedP (if hasP d acc then acc else acc ++ [d]) ds
theorem dd_one (n : Nat) (ds : List PV) {d : PV} {l : List PV} (fd : Fine d) (fl : ∀ e ∈ l, Fine e) (hl : l.length ≤ sizeLine) {P : Rho × Fl → Prop}
    (h1 : hasP d l = true → P (dd1 ds d l, .next)) (h2 : hasP d l = false → P (dd2 ds d (l ++ [d]), .next)) : (ddF n (dd1 ds d l)).Holds P := by
  have key : (seqT (fun ρ => (((inP d l).bind fun r => .ret (.bool (!r))).bind truP).bind fun c => .ite c (.chk (decide (l.length ≤ sizeLine)) (.ret (dd2 ds d (l ++ [d]), .next))) (.ret (ρ, .next))) (fun ρ => .ret (ρ, .next)) (dd1 ds d l)).Holds P := by
    rw [inP_fine fd fl]
    cases hb : hasP d l with
    | true => exact h1 hb
    | false =>
      have hl' : decide (l.length ≤ sizeLine) = true := decide_eq_true hl
      show T.Holds P (.chk true (.chk true (.chk (decide (l.length ≤ sizeLine)) (.ret _))))
      rw [hl']
      exact h2 hb
  cases fd with
  | str h => rw [dd_stepS]; exact key
  | list h => rw [dd_step]; exact key
theorem dedP_len : ∀ (ds acc : List PV), (dedP acc ds).length ≤ acc.length + ds.length
  | [], acc => by simp [dedP]
  | d :: ds, acc => by
    have := dedP_len ds (if hasP d acc then acc else acc ++ [d])
    simp only [dedP, List.length_cons]
    split at this <;> simp_all <;> omega
theorem dd_loop (n : Nat) (ds0 : List PV) : ∀ (ds l : List PV) (ρ : Rho), (∀ d, setE ρ ddT (.val d) = dd1 ds0 d l) → (ddR n ρ = .ret (setE ρ ddN (.val (.list l)), .ret (.list l))) → (∀ d ∈ ds, Fine d) → (∀ d ∈ l, Fine d) → l.length + ds.length ≤ sizeLine → ∀ P : PV → Prop, P (.list (dedP l ds)) →
    (T.bind (seqT (fun ρ => forT (ddF n) ddT ds ρ) (ddR n) ρ) retT).Holds P
  | [], l, ρ, h1, h2, h3, h4, h5, P, h => by
    show (T.bind (T.bind (.ret ((ρ, .next) : Rho × Fl)) _) retT).Holds P
    show (T.bind (ddR n ρ) retT).Holds P
    rw [h2]
    exact h
  | d :: ds, l, ρ, h1, h2, h3, h4, h5, P, h => by
    simp only [List.length_cons] at h5
    have fd := h3 d (.head _)
    have fs : ∀ e ∈ ds, Fine e := fun e he => h3 e (.tail _ he)
    refine T.bind_holds _ ?_
    unfold seqT
    refine T.bind_holds _ ?_
    show (forT (ddF n) ddT (d :: ds) ρ).Holds _
    unfold forT
    rw [h1 d]
    refine T.bind_holds _ (dd_one n ds0 fd h4 (by omega) (fun hb => ?_) fun hb => ?_)
    · have := dd_loop n ds0 ds l (dd1 ds0 d l) (fun e => dd_set1 ..) (dd_ret1 ..) fs h4 (by omega) P (by rw [dedP, hb] at h; exact h)
      exact T.holds_bind _ (T.holds_bind _ this)
    · have := dd_loop n ds0 ds (l ++ [d]) (dd2 ds0 d (l ++ [d])) (fun e => dd_set2 ..) (dd_ret2 ..) fs (fun e he => (List.mem_append.mp he).elim (h4 e) fun q => by simp at q; exact q ▸ fd) (by simp; omega) P (by rw [dedP, hb] at h; exact h)
      exact T.holds_bind _ (T.holds_bind _ this)
open Classical in
noncomputable def dedS : List PV → T PV
  | [.list ds] => if (∀ d ∈ ds, Fine d) ∧ ds.length ≤ sizeLine then .ret (.list (dedP [] ds)) else .fail
  | _ => .fail
theorem con_dedup (n : Nat) : Con "_deduplicate_unhashable" (n + 2) dedS := by
  refine (con_read (k := 1) (F := F0 n) (Y := Yno n) (W := 0) (ps := ["unhashable_params"]) rfl rfl (by refine ⟨?_, ?_, ?_, ?_, ?_, ?_, ?_, ?_, ?_, ?_⟩ <;> kernel_rfl) (by decide +kernel) (by kernel_rfl) ?_).as ?_
  · intro pm vs h
    obtain ⟨v, rfl⟩ := one_of h
    kernel_rfl
  · intro ds P h
    unfold dedS at h
    split at h
    · rename_i l
      split at h
      · rename_i hl
        show (callT ["unhashable_params"] (readF n (F0 n) (Yno n) 0 4).1 [.list l]).Holds P
        rw [dd_whole]
        exact T.chk_holds rfl (T.chk_holds (decide_eq_true hl.2) (dd_loop n l l [] _ (fun e => dd_set0 ..) (dd_ret0 ..) hl.1 (fun _ h => nomatch h) (by simpa using hl.2) P h))
      · exact h.elim
    · exact h.elim
end Mine
namespace Mine
noncomputable def F2 (n : Nat) : FS (n + 2) := ⟨[("dirname", dirS)], fun p hp => by
  simp only [List.mem_cons, List.mem_nil_iff, or_false] at hp
  rcases hp with rfl
  exact con_dirname n⟩
end Mine
namespace Mine
noncomputable def cut (F : List Addr) (h : Heap) : Heap := { h with objs := h.objs.mapIdx fun i o => if i ∈ F then { cls := .none, dict := none, data := .freed, slots := #[] } else o }
theorem cut_in {F : List Addr} {h : Heap} {b : Addr} (hb : b ∈ F) : (cut F h).get? b = none := by
  unfold Heap.get? cut
  simp only [Array.getElem?_mapIdx]
  cases h.objs[b]? with
  | none => rfl
  | some o => simp [hb]
theorem cut_out {F : List Addr} {h : Heap} {b : Addr} (hb : b ∉ F) : (cut F h).get? b = h.get? b := by
  unfold Heap.get? cut
  simp only [Array.getElem?_mapIdx]
  cases h.objs[b]? with
  | none => rfl
  | some o => simp [hb]
theorem cut_none {F : List Addr} {h : Heap} {b : Addr} (hb : h.get? b = none) : (cut F h).get? b = none := by
  by_cases q : b ∈ F
  · exact cut_in q
  · rw [cut_out q]; exact hb
theorem cut_some {F : List Addr} {h : Heap} {b : Addr} {o : Obj} (hb : (cut F h).get? b = some o) : b ∉ F ∧ h.get? b = some o := by
  by_cases q : b ∈ F
  · rw [cut_in q] at hb; cases hb
  · exact ⟨q, by rw [cut_out q] at hb; exact hb⟩
theorem frames_cut {base h h1 : Heap} : ∀ {l : List Env} {F : List Addr}, h1.FunFrames base l → (∀ a ∈ l.filterMap (·.frame), a ∈ F) → h1.FunFrames (cut F h) l
  | [], _, _, _ => trivial
  | env :: l, F, ⟨hk, ⟨L, o, hf, hn, ho, hd⟩, hr⟩, hF => by
    have hL : L ∈ F := hF L (by simp [List.filterMap_cons, hf])
    refine ⟨hk, ⟨L, o, hf, cut_in hL, ho, hd⟩, frames_cut hr fun a ha => hF a ?_⟩
    simp only [List.filterMap_cons, hf]
    exact .tail _ ha
theorem ext_cut {H h h' : Heap} {F : List Addr} (hH : H.StaysIn h) (hF : ∀ a ∈ F, H.get? a = none) (hFd : ∀ a ∈ F, ∃ o, h.get? a = some o ∧ ∃ es n, o.data = .dict es n) (ht : TabsOk h) (hs : (cut F h).StaysIn h') (hu : h.UpToSlots h') : Ext H F h h' := by
  have out : ∀ b o, b ∉ F → h.get? b = some o → h'.get? b = some o := fun b o hb e => hs b o (by rw [cut_out hb]; exact e)
  have tabNot : ∀ b, isTab b → b ∉ F := fun b q hb => by
    obtain ⟨o, e, es, n, hd⟩ := hFd b hb
    obtain ⟨ps, rfl⟩ := ht.fields e q
    cases hd
  refine ⟨fun b o e => out b o (fun q => by rw [hF b q] at e; cases e) (hH b o e), fun b o e nt => ?_, ?_⟩
  · by_cases q : b ∈ F
    · obtain ⟨o', e', es, n, hd⟩ := hFd b q
      rw [e] at e'; cases e'
      obtain ⟨sl, hsl⟩ := hu b o e fun vs hv => by rw [hd] at hv; cases hv
      exact ⟨sl, hsl, fun c => (c.elim (fun c => absurd q c) fun c => absurd hd (c es n))⟩
    · exact ⟨o.slots, out b o q e, fun _ => rfl⟩
  · have tab : ∀ {P : Addr} {line col : Nat} {qual : Str}, isTab P → TabOk h P line col qual → TabOk h' P line col qual := by
      rintro P line col qual hP ⟨ps, hp, hc⟩
      refine ⟨ps, out P _ (tabNot P hP) hp, hc.imp id ?_⟩
      rintro ⟨c, e, nt, c', o, vs, t, e', hoc, hd, hv⟩
      refine ⟨c, e, nt, c', o, vs, t, e', out c' o (fun q => ?_) hoc, hd, hv⟩
      obtain ⟨o2, e2, es, n, hd2⟩ := hFd c' q
      rw [hoc] at e2; cases e2
      rw [hd] at hd2; cases hd2
    exact ⟨tab (.inl rfl) ht.l, tab (.inr rfl) ht.t⟩
end Mine
namespace Mine
theorem noted_new {M : Model} {A : Around} {E : Value → Shared → Prop} {s : Shared} {base h : Heap} {env : Env} {outer : List Env} {L e : Addr} {cls : String} {Q : Unit → Shared → Prop}
    (hfr : A.frames = some (env :: outer)) (hf : env.frame = some L) (hl : s.heap.FunFrames base (env :: outer)) (hkb : base.StaysIn s.heap) (hen : base.get? e = none) (hx : Heap.NewExc h s.heap e cls)
    (hQ : ∀ a0 h', Heap.LeftW base (env :: outer) e (.type cls) a0 s.heap h' → Q () { s with heap := h' }) :
    wpAny M A (noteFrame (.ref e) env) (fun _ s' => wpAny M A (setFlight (.ref e) none) Q E s') E s := by
  obtain ⟨ob, tp, he, hcls, hd⟩ := hx.there
  unfold noteFrame
  simp only [hf]
  refine wpAny_bind (wpAny_field he hd (x := .none) rfl ?_)
  rw [if_neg (by decide)]
  exact wpAny_newEntryW hfr hl hf he hkb hen hd (by simp) rfl fun h' hL => hQ tp h' (hcls ▸ hL)
end Mine
namespace Mine
open PySem.MeetsSeq PySem.SeqAt
open PySem.AutoSeq1 (wpAny_loadPart')
theorem remove_loopAt (l : Addr) (items : Array Value) (n : Nat) (x : Value) (e : Value → Bool) (j : Nat) (hj : j < items.size) (hit : e items[j] = true) (k : Nat) (hs1 : items.size ≤ sizeLine) :
    ∀ i : Nat, j - i = k → i ≤ j → (∀ m (hm : m < items.size), i ≤ m → m < j → e items[m] = false) → Meets (Builtin.«list.remove.loop» ⟨[.ref l, x, rawInt i], []⟩)
      (fun A R s => s.heap.get? l = some { cls := .type "list", dict := none, data := .seq items n, slots := #[] } ∧ (∀ y, y ∈ items → EqAt A.in1 s y x (e y)) ∧ R (.ok (.ret .none)) { s with heap := s.heap.update l (Obj.mapSeq fun xs => xs.eraseIdxIfInBounds j) }) := by
  induction k with
  | zero =>
    intro i hk hij hno prog w A R s h
    obtain ⟨hp, g, d, tk, os⟩ := s; obtain ⟨hl, he, h⟩ := h
    have hij' : i = j := by omega
    subst hij'
    wp_walk using wpAny_loadPart' hl
    have hi : items[((i : Nat) : Int).toNat]? = some items[i] := by simp [hj]
    rw [hi]
    refine wpAny_bind (he _ (Array.getElem_mem hj) prog w _ _ ?_)
    rw [hit]
    have hz' : (items.eraseIdxIfInBounds i).size ≤ sizeLine + 1 := Nat.le_trans (size_erased items _) (Nat.le_succ_of_le hs1)
    wp_walk using (wpAny_updateSeq hl rfl (hz := hs1) (_hz' := hz')), wpAny_loadPart' hl
    simpa using h
  | succ k ih =>
    intro i hk hij hno prog w A R s h
    obtain ⟨hp, g, d, tk, os⟩ := s; obtain ⟨hl, he, h⟩ := h
    have hlt : i < items.size := by omega
    wp_walk using wpAny_loadPart' hl
    have hi : items[((i : Nat) : Int).toNat]? = some items[i] := by simp [hlt]
    have hc : ((i : Int) + 1) = ((i + 1 : Nat) : Int) := by push_cast; rfl
    rw [hi]
    refine wpAny_bind (he _ (Array.getElem_mem hlt) prog w _ _ ?_)
    rw [hno i hlt (Nat.le_refl _) (by omega)]
    wp_walk
    rw [hc]
    exact ⟨plainId_quiet plain_remove_loop _, codeAny_builtin entry_remove_loop (by
      rw [Around.under_plainId plain_remove_loop _]
      exact ih (i + 1) (by omega) (by omega) (fun m hm h1 h2 => hno m hm (by omega) h2) prog w A R _ ⟨hl, he, h⟩)⟩
theorem list_removeAt (l : Addr) (items : Array Value) (n : Nat) (x : Value) (e : Value → Bool) (j : Nat) (hj : j < items.size)
    (hit : e items[j] = true) (hno : ∀ m (hm : m < items.size), m < j → e items[m] = false) (hs1 : items.size ≤ sizeLine) :
    Meets (Builtin.«list.remove» ⟨[.ref l, x], []⟩)
      (fun A R s => s.heap.get? l = some { cls := .type "list", dict := none, data := .seq items n, slots := #[] } ∧ (∀ y, y ∈ items → EqAt A.in1 s y x (e y)) ∧ R (.ok (.ret .none)) { s with heap := s.heap.update l (Obj.mapSeq fun xs => xs.eraseIdxIfInBounds j) }) := by
  intro prog w A R s h
  obtain ⟨hp, g, d, tk, os⟩ := s; obtain ⟨hl, he, h⟩ := h
  wp_walk using wpAny_loadPart' hl
  exact ⟨plainId_quiet plain_remove_loop _, codeAny_builtin entry_remove_loop (by
    rw [Around.under_plainId plain_remove_loop _]
    exact remove_loopAt l items n x e j hj hit _ hs1 0 rfl (Nat.zero_le _) (fun m hm _ h2 => hno m hm h2) prog w A R _ ⟨hl, he, h⟩)⟩
theorem remove_loop_noneAt (l : Addr) (items : Array Value) (n : Nat) (x : Value) (e : Value → Bool) (hno : ∀ m (hm : m < items.size), e items[m] = false) (k : Nat) :
    ∀ i : Nat, items.size - i = k → Meets (Builtin.«list.remove.loop» ⟨[.ref l, x, rawInt i], []⟩)
      (fun A R s => s.heap.get? l = some { cls := .type "list", dict := none, data := .seq items n, slots := #[] } ∧ (∀ y, y ∈ items → EqAt A.in1 s y x (e y)) ∧ raisesNew "ValueError" A R s) := by
  induction k with
  | zero =>
    intro i hk prog w A R s h
    obtain ⟨hp, g, d, tk, os⟩ := s; obtain ⟨hl, he, h⟩ := h
    wp_walk using wpAny_loadPart' hl
    have hi : items[((i : Nat) : Int).toNat]? = none := by simp; omega
    rw [hi]
    wp_walk
    exact_raiseError plainExc_ValueError h.1 h.2
  | succ k ih =>
    intro i hk prog w A R s h
    obtain ⟨hp, g, d, tk, os⟩ := s; obtain ⟨hl, he, h⟩ := h
    have hlt : i < items.size := by omega
    wp_walk using wpAny_loadPart' hl
    have hi : items[((i : Nat) : Int).toNat]? = some items[i] := by simp [hlt]
    have hc : ((i : Int) + 1) = ((i + 1 : Nat) : Int) := by push_cast; rfl
    rw [hi]
    refine wpAny_bind (he _ (Array.getElem_mem hlt) prog w _ _ ?_)
    rw [hno i hlt]
    wp_walk
    rw [hc]
    exact ⟨plainId_quiet plain_remove_loop _, codeAny_builtin entry_remove_loop (by
      rw [Around.under_plainId plain_remove_loop _]
      exact ih (i + 1) (by omega) prog w A R _ ⟨hl, he, h⟩)⟩
theorem list_remove_noneAt (l : Addr) (items : Array Value) (n : Nat) (x : Value) (e : Value → Bool) (hno : ∀ m (hm : m < items.size), e items[m] = false) :
    Meets (Builtin.«list.remove» ⟨[.ref l, x], []⟩)
      (fun A R s => s.heap.get? l = some { cls := .type "list", dict := none, data := .seq items n, slots := #[] } ∧ (∀ y, y ∈ items → EqAt A.in1 s y x (e y)) ∧ raisesNew "ValueError" A R s) := by
  intro prog w A R s h
  obtain ⟨hp, g, d, tk, os⟩ := s; obtain ⟨hl, he, h⟩ := h
  wp_walk using wpAny_loadPart' hl
  exact ⟨plainId_quiet plain_remove_loop _, codeAny_builtin entry_remove_loop (by
    rw [Around.under_plainId plain_remove_loop _]
    exact remove_loop_noneAt l items n x e hno _ 0 rfl prog w A R _ ⟨hl, he, h⟩)⟩
noncomputable def remT (d : PV) (l : List PV) : T (Option (List PV)) := (T.ofOpt (toD d)).bind fun p => (T.ofOpt (toDs l)).bind fun q =>
  .chk (PyData.canLayAll0 q && p.canLay0 && decide (min (PyData.depthAll q) p.depth ≤ 30) && decide (l.length ≤ sizeLine)) (.ret ((q.findIdx? fun y => PyData.eqv y p).map l.eraseIdx))
theorem Rps.erase {w : World} {X : List Addr} {h : Heap} : ∀ {ds : List PV} {vs : List Value}, Rps w X h ds vs → ∀ j, Rps w X h (ds.eraseIdx j) (vs.eraseIdx j)
  | [], _, r, j => by rw [show _ = [] from r]; simp [Rps]
  | d :: ds, _, ⟨v, r, e, h1, h2⟩, 0 => by rw [e]; exact h2
  | d :: ds, _, ⟨v, r, e, h1, h2⟩, j + 1 => by rw [e]; exact ⟨v, _, rfl, h1, Rps.erase h2 j⟩
theorem lst_erase {h : Heap} {a : Addr} {vs : List Value} (hl : Lst h a vs) {j : Nat} (hj : j < vs.length) : Lst (h.update a (Obj.mapSeq fun xs => xs.eraseIdxIfInBounds j)) a (vs.eraseIdx j) := by
  obtain ⟨k, hl⟩ := hl
  have e : Obj.mapSeq (fun xs => xs.eraseIdxIfInBounds j) { cls := .type "list", dict := none, data := .seq vs.toArray k, slots := #[] } = { cls := .type "list", dict := none, data := .seq (vs.eraseIdx j).toArray (if (vs.toArray.eraseIdxIfInBounds j).size == vs.toArray.size then k else k + 1), slots := #[] } := by
    have : vs.toArray.eraseIdxIfInBounds j = (vs.eraseIdx j).toArray := by
      apply Array.toList_inj.mp
      simp [Array.toList_eraseIdxIfInBounds]
    simp only [Obj.mapSeq, this]
  exact ⟨_, by rw [Heap.get?_update_self _ hl (by rw [e]; rfl), e]⟩
section
variable {sc : Scope} {n : Nat} {c : Cx} {X : List Addr} {ad : Str → Addr} {ρ : Rho} {s : Shared}
theorem wp_remove (O : Ok sc n c) (I : Inv c X ad ρ s) {x : Str} {l : List PV} (hx : (x, Ent.own l) ∈ ρ) {d : PV} {v : Value} (r : Rp c.w X s.heap d v) {Q E : Value → Shared → Prop}
    (h : (remT d l).Holds fun o => match o with
      | some l' => ∀ s', Inv c X ad (updE ρ x (.own l')) s' → Q .none s'
      | none => ∀ h' tk e, Heap.NewExc s.heap h' e "ValueError" → E (.ref e) { s with heap := h', toks := tk }) :
    wpAny (model pw c.w) c.A (call (.builtin "list.remove") [.ref (ad x), v]) Q E s := by
  obtain ⟨_, _, hmX, vs, hl, rs⟩ := I.ent hx
  obtain ⟨p, hp, h⟩ := T.holds_opt (T.holds_bind _ h)
  obtain ⟨q, hq, h⟩ := T.holds_opt (T.holds_bind _ h)
  obtain ⟨hb, h⟩ := T.holds_chk h
  simp only [Bool.and_eq_true, decide_eq_true_eq] at hb
  obtain ⟨⟨⟨hb1, hb2⟩, hb3⟩, hb4⟩ := hb
  obtain ⟨as, r1⟩ := Rp.reads _ _ _ r hp
  obtain ⟨bs, r2⟩ := Rps.reads _ _ _ rs hq
  obtain ⟨k, hl'⟩ := id hl
  have hlen : vs.length = l.length := rs.length
  have hqm : vs.map (readOf s.heap) = q := readsAll_map _ _ _ hb1 r2
  have heq := items_eqAt (A := c.A) (vs := vs.toArray) (by simpa using r2) r1 hb1 hb2 (O.depth30 hb3)
  have hfi : q.findIdx? (fun y => PyData.eqv y p) = vs.findIdx? (fun y => PyData.eqv (readOf s.heap y) p) := by
    rw [← hqm, List.findIdx?_map]; rfl
  have hT : s.TypeIs (.ref (ad x)) "list" := ⟨_, hl', rfl⟩
  cases hf : vs.findIdx? (fun y => PyData.eqv (readOf s.heap y) p) with
  | some j =>
    rw [hfi, hf] at h
    obtain ⟨hj, h1, h2⟩ := List.findIdx?_eq_some_iff_getElem.mp hf
    have hs := Heap.SameBut.update s.heap (ad x) (Obj.mapSeq fun xs => xs.eraseIdxIfInBounds j)
    refine call_meets PySem.F.slot_list_remove hT PySem.F.entry_list_remove (PySem.F.args_list_remove_2 _ _)
      (list_removeAt (ad x) vs.toArray k v (fun y => PyData.eqv (readOf s.heap y) p) j (by simpa using hj) (by simpa using h1) (fun m hm hmj => by simpa using h2 m hmj) (by rw [List.size_toArray, hlen]; exact hb4))
      ⟨hl', heq, ?_⟩
    exact h _ (I.mut O (t := s.toks) hx hs hl (lst_erase hl hj) (Rps.same hs.extBut (.inl hmX) _ _ (rs.erase j)))
  | none =>
    rw [hfi, hf] at h
    have hno := List.findIdx?_eq_none_iff.mp hf
    refine call_meets PySem.F.slot_list_remove hT PySem.F.entry_list_remove (PySem.F.args_list_remove_2 _ _)
      (list_remove_noneAt (ad x) vs.toArray k v (fun y => PyData.eqv (readOf s.heap y) p) (fun m hm => by simpa using hno _ (List.getElem_mem (by simpa using hm))))
      ⟨hl', heq, I.wf.handled, fun h' tk e hx => h h' tk e hx⟩
end
end Mine
namespace Mine
section
variable {sc : Scope} {n : Nat}
theorem sndX_AssignCopy {x f : Str} {px fp pos cp : Pos} {e : Expr} {t : Rho → T PV} (hf : f = ("list" : Str)) (hv : isVar sc x = true) (hk : sc.names.lookup f = some .globalImplicit) (he : SndE sc n e t) (hn : noStar e = true) :
    SndX sc n (.Assign [.Name x px] (.Call (.Name f fp) [e] [] cp) pos) fun ρ => (t ρ).bind fun d => match d with
      | .list l => .chk (decide (l.length ≤ sizeLine)) (.ret (setE ρ x (.own l), .next))
      | _ => .fail := fun c O Ap X ad ρ s I Q E h => by
  subst hf
  refine wpAny_Assign_Name ?_ rfl
  refine wpAny_Call_NameR (ldBuiltin O I hk (by decide +kernel) (v := .type "list") (by decide +kernel) ?_ (by decide +kernel) (by decide +kernel))
  rw [show backTo cp (starEach [e] c.env) = [(false, eval e c.env)] from by rw [starEach_cons hn]; rfl]
  refine PySem.callWith_type rfl (evalArgs_plain (Calls.spliced_cons (he c O X ad ρ s I _ _ (T.holds_mono (fun d hd v s₁ x₁ r => ?_) _ (T.holds_bind _ h)))))
  refine Calls.spliced_nil ?_
  have I₁ := I.nxt O x₁
  split at hd
  · rename_i l
    obtain ⟨hb, hd⟩ := T.holds_chk hd
    obtain ⟨a, vs, rfl, ha, ⟨k, hl⟩, rs⟩ := r
    have hsz : vs.toArray.size ≤ sizeLine := by rw [List.size_toArray, rs.length]; simpa using hb
    refine call_list_seq (hsz := hsz) a (.inl rfl) hl rfl rfl fun h' c' hk' hl' => ?_
    have x₂ : Nxt c.H c.F s₁ { s₁ with heap := h' } := ⟨.keep I₁.wf.stays I₁.wf.tabs hk', rfl, rfl⟩
    have hf : s₁.heap.get? s₁.heap.objs.size = none := fresh_size (Nat.le_refl _)
    refine wp_storeOwn O Ap I₁ hv hf x₂ ⟨c', hl'⟩ (I₁.rps O x₂ rs) (Rps.grow (fun b hb => .tail _ (I.sub b (O.hF b hb))) I₁.wf.tabs x₂.ext.grow _ _ (Rps.fresh hf _ _ rs)) fun s' X' ad' I' => hd s' X' ad' _ I' trivial
  · exact hd.elim
noncomputable def RaisedV (c : Cx) (E : Value → Shared → Prop) : Prop := ∀ X' ad' ρ' s' h' tk e, Inv c X' ad' ρ' s' → Heap.NewExc s'.heap h' e "ValueError" → E (.ref e) { s' with heap := h', toks := tk }
noncomputable def StE (c : Cx) (Q : Flow → Shared → Prop) (E : Value → Shared → Prop) : Option (Rho × Fl) → Prop
  | some r => Mine.St c Q r
  | none => RaisedV c E
noncomputable def SndSE (sc : Scope) (n : Nat) (ss : List Stmt) (t : Rho → T (Option (Rho × Fl))) : Prop :=
  ∀ c : Cx, Ok sc n c → Apart c → ∀ X ad ρ s, Inv c X ad ρ s → ∀ (Q : Flow → Shared → Prop) (E : Value → Shared → Prop), PassesOwn (model pw c.w) c.A c.env E → (t ρ).Holds (StE c Q E) → wpAny (model pw c.w) c.A (execs ss c.env) Q E s
noncomputable def SndXE (sc : Scope) (n : Nat) (st : Stmt) (t : Rho → T (Option (Rho × Fl))) : Prop :=
  ∀ c : Cx, Ok sc n c → Apart c → ∀ X ad ρ s, Inv c X ad ρ s → ∀ (Q : Flow → Shared → Prop) (E : Value → Shared → Prop), PassesOwn (model pw c.w) c.A c.env E → (t ρ).Holds (StE c Q E) → wpAny (model pw c.w) c.A (exec st c.env) Q E s
theorem sndSE_one {st : Stmt} {t : Rho → T (Option (Rho × Fl))} (h1 : SndXE sc n st t) : SndSE sc n [st] t := fun c O Ap X ad ρ s I Q E hE h => by
  refine wpAny_execs_cons (h1 c O Ap X ad ρ s I _ _ hE (T.holds_mono (fun o ho => ?_) _ h))
  cases o with
  | none => exact ho
  | some r =>
    intro s' X' ad' fl I' hf
    obtain ⟨ρ', f⟩ := r
    cases f <;> cases fl <;> first | exact hf.elim | skip
    · exact wpAny_execs_nil (ho s' X' ad' _ I' trivial)
    · exact ho s' X' ad' _ I' trivial
    · exact ho s' X' ad' _ I' hf
theorem sndXE_remove {x m : Str} {px apos pos spos : Pos} {e : Expr} {t : Rho → T PV} (hm : m = ("remove" : Str)) (hv : isVar sc x = true) (hd : (x == ("__debug__" : Str)) = false) (hl : (apos.endLine == pos.line) = true) (hn : noStar e = true) (he : SndE sc n e t) :
    SndXE sc n (.Expr (.Call (.Attribute (.Name x px) m apos) [e] [] pos) spos) fun ρ => match findE ρ x with
      | some (.own l) => (t ρ).bind fun d => (remT d l).bind fun o => match o with
        | some l' => .ret (some (updE ρ x (.own l'), .next))
        | none => .ret none
      | _ => .fail := fun c O Ap X ad ρ s I Q E hE h => by
  subst hm
  dsimp only at h
  split at h
  · rename_i l hf
    have hx := findE_mem hf
    have hp : plainArgs [e] = true := by simp [plainArgs, hn]
    refine wpAny_Expr ?_ (by unfold interactive; rw [O.kind]; rfl)
    refine wpAny_Call_method_lateS rfl (few_ok hp (by simp [fewArgs])) hl ?_
    refine wpAny_Name (ldName O I hx (isVar_or hv) fun vx rx => ?_) hd
    obtain ⟨rfl, hmX, vs, hl₀, rs⟩ := rx
    refine ⟨"list", "list.remove", PySem.F.plainAttrs_list, PySem.F.slot_list_remove, PySem.F.type_list_remove, ?_, ?_, ?_⟩
    · obtain ⟨k, e⟩ := hl₀; exact ⟨_, e, rfl⟩
    · intro a ha; cases ha; obtain ⟨k, e⟩ := hl₀; exact ⟨_, e, rfl⟩
    · rw [show backTo pos (starEach [e] c.env) = [(false, eval e c.env)] from by rw [starEach_cons hn]; rfl]
      refine callWith_builtin rfl (evalArgs_plain (Calls.spliced_cons (he c O X ad ρ s I _ _ (T.holds_mono (fun d hd v s₁ x₁ r => ?_) _ (T.holds_bind _ h)))))
      refine Calls.spliced_nil ?_
      have I₁ := I.nxt O x₁
      refine wp_remove O I₁ hx r (T.holds_mono (fun o ho => ?_) _ (T.holds_bind _ hd))
      cases o with
      | some l' => exact fun s' I' => ho s' X ad .next I' trivial
      | none => exact fun h' tk e hx => ho X ad ρ s₁ h' tk e I₁ hx
  · exact h.elim
noncomputable def forTE (body : Rho → T (Option (Rho × Fl))) (x : Str) : List PV → Rho → T (Option (Rho × Fl))
  | [], ρ => .ret (some (ρ, .next))
  | d :: ds, ρ => (body (setE ρ x (.val d))).bind fun o => match o with
    | none => .ret none
    | some r => match r.2 with | .next => forTE body x ds r.1 | .brk => .ret (some (r.1, .next)) | .ret d => .ret (some (r.1, .ret d))
theorem sndXE_For {x : Str} {px pos : Pos} {iter : Expr} {body : List Stmt} {ti : Rho → T (List PV)} {tb : Rho → T (Option (Rho × Fl))} (hv : isVar sc x = true) (hset : noSet iter = true) (hi : SndI sc n iter ti true) (hb : SndSE sc n body tb) :
    SndXE sc n (.For (.Name x px) iter body [] pos) fun ρ => (ti ρ).bind fun ds => forTE tb x ds ρ := fun c O Ap X ad ρ s I Q E hE h => by
  refine wpAny_For ?_ (noSet_ok hset c.env)
  refine hi c O X ad ρ s I _ _ (T.holds_mono (fun ds hd s₁ J ax G P S₀ x₁ S st hG hJ hJax hax => ?_) _ (T.holds_bind _ h))
  have I₁ := I.nxt O x₁
  obtain ⟨ps, hps1, pinJ, I₁'⟩ := walk_pins I₁ S st hG (fun q hq e => by obtain ⟨k1, _⟩ := I.pins q hq; rw [e, hJ] at k1; cases k1) hJax (hax rfl)
  have O₀ := O.pg (ps ++ c.pin) (G ++ c.gh)
  have Ap₀ := Ap.pg (ps ++ c.pin) (G ++ c.gh)
  refine codeAny_forLoop_any (fun k s' => ∃ i X' ad' ρ', k = ds.length + 1 - i ∧ i ≤ ds.length ∧ J ∉ X' ∧ Inv (c.pg (ps ++ c.pin) (G ++ c.gh)) X' ad' ρ' s' ∧ S₀ i s'.heap ∧ (forTE tb x (ds.drop i) ρ').Holds (StE c Q E)) ?_ (ds.length + 1) ⟨0, X, ad, ρ, rfl, Nat.zero_le _, fun q => (by obtain ⟨o, e⟩ := I.ex J q; rw [hJ] at e; cases e), I₁', st, hd⟩
  rintro k s' ⟨i, X', ad', ρ', rfl, hle, hJX, I', st', h'⟩
  obtain ⟨oJ, hoJ, hiJ⟩ := S.it i _ st'
  have hJ0 : c.h0.get? J = none := I.h0fresh hJ
  by_cases hlt : i < ds.length
  · refine S.W.item i s' _ _ hlt st' fun v h₁ tk hP st₁ hk => ?_
    have hk' : Heap.ExtBut J s'.heap h₁ := fun b o hb e => hk b o (fun q => hb (List.mem_singleton.mp q)) e
    obtain ⟨oJ', hoJ', hiJ'⟩ := S.it _ _ st₁
    have I₂ : Inv (c.pg (ps ++ c.pin) (G ++ c.gh)) X' ad' ρ' { s' with heap := h₁, toks := tk } := I'.iter O₀ hk' (fun _ => ⟨_, hoJ'⟩) hoJ hiJ hJ0 pinJ
    obtain ⟨d, hd⟩ : ∃ d, ds[i]? = some d := ⟨_, List.getElem?_eq_getElem hlt⟩
    have rv : Rp c.w X' h₁ d v := by
      rcases S.val i v d hP hd with q | q
      · exact I₂.ghs _ (List.mem_append_left _ q)
      · exact q.rp
    rw [drop_at hd] at h'
    refine wpAny_of_eq (a := ()) rfl ?_
    refine wpAny_assign_Name ?_
    have O₁ := O.pg ((J, oJ') :: (ps ++ c.pin)) (G ++ c.gh)
    have Ap₁ := Ap.pg ((J, oJ') :: (ps ++ c.pin)) (G ++ c.gh)
    have I₃ := I₂.pinIter hoJ' hiJ' hJX
    refine wp_store O₁ Ap₁ (I₃.wo x) hv (e := .val d) .val rv fun s₄ I₄ => ?_
    refine wpAny_passesOwn hE ?_
    refine hb _ O₁ Ap₁ _ _ _ _ I₄ _ _ hE (T.holds_mono (fun o ho => ?_) _ (T.holds_bind _ h'))
    cases o with
    | none => exact fun X₅ ad₅ ρ₅ s₅ hh tk e I₅ hx => ho X₅ ad₅ ρ₅ s₅ hh tk e I₅.unpin hx
    | some r =>
    intro s₅ X₅ ad₅ fl I₅ hf
    obtain ⟨ρ₅, f⟩ := r
    cases f <;> cases fl <;> first | exact hf.elim | skip
    · refine ⟨ds.length + 1 - (i + 1), by omega, i + 1, X₅, ad₅, ρ₅, rfl, hlt, (I₅.pins (J, oJ') (.head _)).2.2.2.2, I₅.unpin', S.W.frame _ _ _ st₁ (walk_kept hps1 hoJ' I₂ I₅), ho⟩
    · exact ho s₅ X₅ ad₅ _ I₅.unpin trivial
    · exact ho s₅ X₅ ad₅ _ I₅.unpin hf
  · have hin : i = ds.length := by omega
    subst hin
    refine S.W.done s' _ _ st' fun h₁ tk hk => ?_
    have hk' : Heap.ExtBut J s'.heap h₁ := fun b o hb e => hk b o (fun q => hb (List.mem_singleton.mp q)) e
    rw [List.drop_length] at h'
    refine wpAny_execs_nil (h' _ X' ad' _ ?_ trivial)
    exact (I'.iter O₀ hk' (fun q => absurd q hJX) hoJ hiJ hJ0 pinJ (t := tk)).unpg (fun q hq => List.mem_append_right _ hq) fun q hq => List.mem_append_right _ hq
theorem Inv.nil {c : Cx} {X : List Addr} {ad : Str → Addr} {ρ : Rho} {s : Shared} (I : Inv c X ad ρ s) : Inv c X ad [] s := I.sub' (by simp) fun _ _ h => nomatch h
theorem wp_caughtV {c : Cx} (O : Ok sc n c) (Ap : Apart c) {X : List Addr} {ad : Str → Addr} {ρ : Rho} {s : Shared} (I : Inv c X ad ρ s) {x : Str} {np hp rp cp : Pos} {k : Nat} (hx : x = ("ValueError" : Str)) (hk : sc.names.lookup x = some .globalImplicit) {h₁ : Heap} {tk : Nat} {e : Addr} (hn : Heap.NewExc s.heap h₁ e "ValueError")
    {Q : Flow → Shared → Prop} {E : Value → Shared → Prop} (h : ∀ s', Inv c X ad [] s' → Q (.ret (.bool false)) s') :
    wpAny (model pw c.w) c.A (noteFrame (.ref e) c.env) (fun _ s₂ => wpAny (model pw c.w) c.A (setFlight (.ref e) none) (fun _ s₃ => wpAny (model pw c.w) c.A (handleBy (.ref e) c.env [.ExceptHandler (some (.Name x np)) none [.Return (some (.Constant (.bool false) k cp)) rp] hp]) Q E s₃) E s₂) E { s with heap := h₁, toks := tk } := by
  subst hx
  obtain ⟨outer, hfrs, hfr⟩ := Ap.top
  have hFeq : (c.env :: outer).filterMap (·.frame) = c.F := by unfold Cx.F; rw [hfrs]
  have hFF : s.heap.FunFrames c.H (c.env :: outer) := hfrs ▸ I.wf.below.frames
  have hF0 : ∀ a ∈ c.F, c.H.get? a = none := fun a ha => (hFF.mem (hFeq ▸ ha)).1
  have hl₁ : h₁.FunFrames (cut c.F s.heap) (c.env :: outer) := frames_cut (hFF.of_keeps fun b o hb _ => ⟨o, hn.keeps b o hb, rfl⟩) fun a ha => hFeq ▸ ha
  have hkb : (cut c.F s.heap).StaysIn h₁ := fun b o hb => hn.keeps b o (cut_some hb).2
  refine noted_new (base := cut c.F s.heap) (h := s.heap) (by rw [← hfrs]; exact I.wf.below.stack) hfr hl₁ hkb (cut_none hn.new) hn fun a0 h₂ L₂ => ?_
  obtain ⟨k1, k2, k3, k4⟩ := L₂
  refine wpAny_noRaise ?_
  have hstay : ∀ b o, c.H.get? b = some o → h₂.get? b = some o := fun b o hb => k1 b o (by
    rw [cut_out (fun q => by rw [hF0 b q] at hb; cases hb)]; exact I.wf.stays b o hb)
  refine wpAny_handleBy_builtin (X := "ValueError") (T := "ValueError") (b := true) (by rw [isSubtype_type]; kernel_rfl) (by rw [isSubtype_type]; kernel_rfl) (by rw [isSubtype_type]; kernel_rfl) (wpAny_passesOwnAt PassesOwnAt.never ?_)
  have mgN : h₂.Ns c.env.globals c.mg := by rw [O.glob]; exact Heap.Ns.at' O.th.g fun o e => hstay _ o e
  have mbN : h₂.Ns c.env.builtins c.mb := by rw [O.blt]; exact Heap.Ns.at' O.th.b fun o e => hstay _ o e
  refine Name_function_global O.kind ((O.names _).trans hk) (loadGlobal_builtin mgN (O.th.free _ (by decide +kernel)) mbN ((O.th.blt _ (by decide +kernel)).trans (show bootBuiltins "ValueError" = some (.type "ValueError") by decide +kernel)) ?_) (by decide +kernel)
  refine ⟨rfl, ?_, ?_⟩
  · obtain ⟨ob, he, hc⟩ := k3.at.there; exact ⟨ob, he, hc⟩
  rw [if_pos rfl]
  refine wpAny_setFlight_noneW k1 k2 k3.at fun h₃ j1 j2 j3 j4 => ?_
  refine wpAny_passesOwnAt PassesOwnAt.never (wpAny_execs_cons (wpAny_Return_some (wpAny_Constant_bool ?_)))
  have hu : s.heap.UpToSlots h₃ := ((Heap.UpToSlots.of_keeps hn.keeps).trans k4).trans fun b o hb hnf => ⟨o.slots, j4 b o hb hnf⟩
  have xt : Ext c.H c.F s.heap h₃ := ext_cut I.wf.stays hF0 (fun a ha => let ⟨o, es, n, e, hd⟩ := I.wf.dicts a ha; ⟨o, e, es, n, hd⟩) I.wf.tabs j1 hu
  exact h _ (I.nil.nxt O ⟨xt, rfl, rfl⟩)
theorem sndX_TryV {x : Str} {np hp rp cp pos : Pos} {k : Nat} {body : List Stmt} {t : Rho → T (Option (Rho × Fl))} (hx : x = ("ValueError" : Str)) (hk : sc.names.lookup x = some .globalImplicit) (hb : SndSE sc n body t) :
    SndX sc n (.Try body [.ExceptHandler (some (.Name x np)) none [.Return (some (.Constant (.bool false) k cp)) rp] hp] [] [] pos) fun ρ => (t ρ).bind fun o => match o with
      | some r => .ret r
      | none => .ret ([], .ret (.bool false)) := fun c O Ap X ad ρ s I Q E h => by
  refine wpAny_Try_except (hb c O Ap X ad ρ s I _ _ PassesOwn.looking (T.holds_mono (fun o ho => ?_) _ (T.holds_bind _ h)))
  cases o with
  | some r =>
    intro s' X' ad' fl I' hf
    obtain ⟨ρ', f⟩ := r
    cases f <;> cases fl <;> first | exact hf.elim | skip
    · exact wpAny_execs_nil (ho s' X' ad' _ I' trivial)
    · exact ho s' X' ad' _ I' trivial
    · exact ho s' X' ad' _ I' hf
  | none =>
    intro X' ad' ρ' s' h' tk e I' hn
    exact wp_caughtV O Ap I' hx hk hn fun s'' I'' => ho s'' X' ad' (.ret (.bool false)) I'' rfl
end
end Mine
namespace Mine
noncomputable def Y2 (n : Nat) (F : FS n) (X : Extra n) : ExtraX n := fun sc st => match st with
  | .Assign [.Name x px] (.Call (.Name f fp) [e] [] cp) pos => if h : f = ("list" : Str) ∧ isVar sc x = true ∧ isGlob sc f = true ∧ noStar e = true then some ⟨_, sndX_AssignCopy h.1 h.2.1 (isGlob_is h.2.2.1) (rd F X 20 sc e).ex.2 h.2.2.2⟩ else none
  | .Try [.For (.Name x px) iter [.Expr (.Call (.Attribute (.Name y py) m ap) [e] [] cp) sp] [] fp] [.ExceptHandler (some (.Name v np)) none [.Return (some (.Constant (.bool false) k c2)) rp] hp] [] [] pos =>
    if h : (v = ("ValueError" : Str) ∧ isGlob sc v = true) ∧ (isVar sc x = true ∧ noSet iter = true) ∧ m = ("remove" : Str) ∧ isVar sc y = true ∧ (y == ("__debug__" : Str)) = false ∧ (ap.endLine == cp.line) = true ∧ noStar e = true then
      some ⟨_, sndX_TryV h.1.1 (isGlob_is h.1.2) (sndSE_one (sndXE_For h.2.1.1 h.2.1.2 (rdI (rd F X 20 sc) iter true).2 (sndSE_one (sndXE_remove h.2.2.1 h.2.2.2.1 h.2.2.2.2.1 h.2.2.2.2.2.1 h.2.2.2.2.2.2 (rd F X 20 sc e).ex.2))))⟩ else none
  | st => Y1 n F X sc st
section
variable {n : Nat} (F : FS n) (Y : ExtraX n) (W i : Nat)
noncomputable def rdSt (j : Nat) : Rho → T (Rho × Fl) := match (bodyAt i)[j]? with
  | some st => (rdX F (X2 n F) Y W 20 (scAt i) st).1
  | none => fun _ => .fail
noncomputable def rdRe (j : Nat) : Rho → T (Rho × Fl) := (rdS (rdX F (X2 n F) Y W 20 (scAt i)) ((bodyAt i).drop j)).1
theorem rdRe_step {j : Nat} (h : j < (bodyAt i).length) : rdRe F Y W i j = seqT (rdSt F Y W i j) (rdRe F Y W i (j + 1)) := by
  unfold rdRe rdSt
  rw [List.drop_eq_getElem_cons h, List.getElem?_eq_getElem h]
  rfl
end
noncomputable def After (k : Rho → T (Rho × Fl)) (P : PV → Prop) (r : Rho × Fl) : Prop := match r.2 with
  | .next => ((k r.1).bind retT).Holds P
  | .ret d => P d
  | .brk => False
theorem seq_holds {t1 t2 : Rho → T (Rho × Fl)} {ρ : Rho} {P : PV → Prop} (h : (t1 ρ).Holds (After t2 P)) : ((seqT t1 t2 ρ).bind retT).Holds P := by
  refine T.bind_holds _ (T.bind_holds _ (T.holds_mono (fun r hr => ?_) _ h))
  obtain ⟨ρ', f⟩ := r
  cases f with
  | next => exact T.holds_bind _ hr
  | brk => exact hr.elim
  | ret d => exact hr
theorem re_holds {n : Nat} {F : FS n} {Y : ExtraX n} {W i j : Nat} {ρ : Rho} {P : PV → Prop} (hj : j < (bodyAt i).length) (h : (rdSt F Y W i j ρ).Holds (After (rdRe F Y W i (j + 1)) P)) : ((rdRe F Y W i j ρ).bind retT).Holds P := by
  rw [rdRe_step F Y W i hj]; exact seq_holds h
theorem call_holds {n : Nat} {F : FS n} {Y : ExtraX n} {W i : Nat} {ps : List Str} {ds : List PV} {P : PV → Prop} (hl : (ds.length == ps.length) = true) (h : ((rdRe F Y W i 0 (rho0 ps ds)).bind retT).Holds P) : (callT ps (readF n F Y W i).1 ds).Holds P := by
  unfold callT
  rw [if_pos hl]
  exact h
noncomputable def F3 (n : Nat) : FS (n + 1) := ⟨[("_deduplicate_unhashable", dedS)], fun p hp => by
  simp only [List.mem_cons, List.mem_nil_iff, or_false] at hp
  rcases hp with rfl
  exact con_dedup n⟩
noncomputable abbrev Yc (n : Nat) : ExtraX (n + 1) := Y2 (n + 1) (F3 n) (X2 (n + 1) (F3 n))
section
variable (n : Nat) (a b a' b' : List PV)
noncomputable def cm0 : Rho := [("first_args", .val (.list a)), ("second_args", .val (.list b))]
noncomputable def cm1 : Rho := ("first_unhashable", .val (.list a')) :: cm0 a b
noncomputable def cm2 : Rho := ("second_unhashable", .val (.list b')) :: cm1 a b a'
theorem cm_st0 : rdSt (F3 n) (Yc n) 0 5 0 (cm0 a b) = (dedS [.list a]).bind fun d => .ret (setE (cm0 a b) "first_unhashable" (.val d), .next) := by kernel_rfl
theorem cm_st1 : rdSt (F3 n) (Yc n) 0 5 1 (cm1 a b a') = (dedS [.list b]).bind fun d => .ret (setE (cm1 a b a') "second_unhashable" (.val d), .next) := by kernel_rfl
theorem cm_st2 : rdSt (F3 n) (Yc n) 0 5 2 (cm2 a b a' b') = .chk (decide (b'.length ≤ sizeLine)) (.ret (setE (cm2 a b a' b') "t" (.own b'), .next)) := by kernel_rfl
noncomputable def cmB : Rho → T (Option (Rho × Fl)) := fun ρ => match findE ρ "t" with
  | some (.own l) => ((match findE ρ "elem" with | some (.val d) => .ret d | _ => .fail : T PV)).bind fun d => (remT d l).bind fun o => match o with
    | some l' => .ret (some (updE ρ "t" (.own l'), .next))
    | none => .ret none
  | _ => .fail
theorem cm_st3 (l : List PV) : rdSt (F3 n) (Yc n) 0 5 3 (("t", .own l) :: cm2 a b a' b') = .chk (decide (a'.length ≤ sizeLine)) ((forTE cmB "elem" a' (("t", .own l) :: cm2 a b a' b')).bind fun o => match o with
      | some r => .ret r
      | none => .ret ([], .ret (.bool false))) := by kernel_rfl
end
end Mine
namespace Mine
theorem eqvAll_strs : ∀ l m : List Str, PyData.eqvAll (l.map .str) (m.map .str) = true ↔ l = m
  | [], [] => by simp [PyData.eqvAll]
  | [], _ :: _ => by simp [PyData.eqvAll]
  | _ :: _, [] => by simp [PyData.eqvAll]
  | x :: l, y :: m => by
    simp only [List.map_cons, PyData.eqvAll, PyData.eqv, Bool.and_eq_true, eqvAll_strs l m, beq_iff_eq, List.cons.injEq]
theorem dat_list (l : List Str) : dat (.list (l.map .str)) = .list (l.map .str) := by
  simp only [dat, toD, toDs_strs, Option.map_some, Option.getD_some]
theorem str_inj : ∀ l m : List Str, l.map PV.str = m.map PV.str → l = m
  | [], [], _ => rfl
  | [], _ :: _, h => by simp at h
  | _ :: _, [], h => by simp at h
  | x :: l, y :: m, h => by
    simp only [List.map_cons, List.cons.injEq, PV.str.injEq] at h
    rw [h.1, str_inj l m h.2]
theorem fine_eq {d e : PV} (fd : Fine d) (fe : Fine e) : PyData.eqv (dat e) (dat d) = true ↔ e = d := by
  cases fd with
  | str h =>
    cases fe with
    | str h' => simp [dat, toD, PyData.eqv]
    | list h' => rw [dat_list]; simp [dat, toD, PyData.eqv]
  | list h =>
    cases fe with
    | str h' => rw [dat_list]; simp [dat, toD, PyData.eqv]
    | list h' =>
      rw [dat_list, dat_list, PyData.eqv, eqvAll_strs]
      exact ⟨fun q => by rw [q], fun q => str_inj _ _ (PV.list.inj q)⟩
theorem hasP_iff {d : PV} {l : List PV} (fd : Fine d) (fl : ∀ e ∈ l, Fine e) : hasP d l = true ↔ d ∈ l := by
  unfold hasP
  rw [List.any_eq_true]
  exact ⟨fun ⟨e, he, q⟩ => by rw [(fine_eq fd (fl e he)).mp q] at he; exact he, fun h => ⟨d, h, (fine_eq fd fd).mpr rfl⟩⟩
theorem dedP_spec : ∀ (ds acc : List PV), (∀ d ∈ ds, Fine d) → (∀ d ∈ acc, Fine d) → acc.Nodup → (dedP acc ds).Nodup ∧ ∀ d, d ∈ dedP acc ds ↔ d ∈ acc ∨ d ∈ ds
  | [], acc, _, _, nd => ⟨nd, fun d => by simp [dedP]⟩
  | d :: ds, acc, fd, fa, nd => by
    have f1 := fd d (.head _)
    by_cases h : d ∈ acc
    · have e : dedP acc (d :: ds) = dedP acc ds := by rw [dedP, if_pos ((hasP_iff f1 fa).mpr h)]
      obtain ⟨i1, i2⟩ := dedP_spec ds acc (fun x hx => fd x (.tail _ hx)) fa nd
      rw [e]
      refine ⟨i1, fun x => (i2 x).trans ⟨fun q => q.imp id (.tail _), fun q => q.elim .inl fun q => ?_⟩⟩
      rcases List.mem_cons.mp q with rfl | q
      · exact .inl h
      · exact .inr q
    · have e : dedP acc (d :: ds) = dedP (acc ++ [d]) ds := by rw [dedP, if_neg (fun q => h ((hasP_iff f1 fa).mp q))]
      obtain ⟨i1, i2⟩ := dedP_spec ds (acc ++ [d]) (fun x hx => fd x (.tail _ hx)) (fun x hx => (List.mem_append.mp hx).elim (fa x) fun q => by simp at q; exact q ▸ f1)
        (List.nodup_append.mpr ⟨nd, by simp, fun x hx y hy => by simp at hy; subst hy; exact fun q => h (q ▸ hx)⟩)
      rw [e]
      refine ⟨i1, fun x => (i2 x).trans ?_⟩
      simp only [List.mem_append, List.mem_cons, List.mem_nil_iff, or_false, or_assoc]
open Classical in
theorem rem_fine {d : PV} (fd : Fine d) : ∀ {l : List PV}, (∀ e ∈ l, Fine e) → (l.findIdx? fun e => PyData.eqv (dat e) (dat d)).map l.eraseIdx = if d ∈ l then some (l.erase d) else none
  | [], _ => by simp
  | e :: l, fl => by
    have ih := rem_fine fd (l := l) fun x hx => fl x (.tail _ hx)
    rw [List.findIdx?_cons]
    by_cases q : e = d
    · subst q
      rw [(fine_eq fd fd).mpr rfl]
      simp
    · have hq : PyData.eqv (dat e) (dat d) = false := by
        cases hb : PyData.eqv (dat e) (dat d) with
        | false => rfl
        | true => exact absurd ((fine_eq fd (fl e (.head _))).mp hb) q
      rw [hq]
      simp only [Bool.false_eq_true, if_false, Option.map_map]
      have e1 : (fun i => (e :: l).eraseIdx i) ∘ (fun i => i + 1) = (fun m => e :: m) ∘ l.eraseIdx := by funext i; rfl
      show Option.map ((fun i => (e :: l).eraseIdx i) ∘ (fun i => i + 1)) _ = _
      rw [e1, ← Option.map_map, ih]
      have hne : ¬ d = e := fun h => q h.symm
      by_cases hm : d ∈ l
      · rw [if_pos hm, if_pos (.tail _ hm), List.erase_cons_tail (by simpa using q)]; rfl
      · rw [if_neg hm, if_neg (fun h => (List.mem_cons.mp h).elim hne hm)]; rfl
open Classical in
theorem remT_fine {d : PV} {l : List PV} (fd : Fine d) (fl : ∀ e ∈ l, Fine e) (hl : l.length ≤ sizeLine) : remT d l = .chk true (.ret (if d ∈ l then some (l.erase d) else none)) := by
  obtain ⟨h1, h2, h3⟩ := fines fl
  obtain ⟨g1, g2, g3⟩ := fd.dat
  have hm : decide (min (PyData.depthAll (l.map dat)) (dat d).depth ≤ 30) = true := decide_eq_true (by omega)
  unfold remT
  rw [g1, h1]
  simp only [T.ofOpt, T.bind, h2, g2, hm, decide_eq_true hl, Bool.and_self, List.findIdx?_map]
  show T.chk true (.ret (Option.map l.eraseIdx (List.findIdx? (fun e => PyData.eqv (dat e) (dat d)) l))) = _
  rw [rem_fine fd fl]
section
variable (n : Nat) (a b a' b' : List PV)
noncomputable def cmE (l : List PV) (d : PV) : Rho := ("elem", .val d) :: ("t", .own l) :: cm2 a b a' b'
noncomputable def cmM (l : List PV) (d : PV) : Rho := ("t", .own l) :: ("elem", .val d) :: cm2 a b a' b'
theorem cm_setT (l : List PV) (d : PV) : setE (("t", .own l) :: cm2 a b a' b') "elem" (.val d) = cmE a b a' b' l d := by kernel_rfl
theorem cm_setM (l : List PV) (d e : PV) : setE (cmM a b a' b' l e) "elem" (.val d) = cmE a b a' b' l d := by kernel_rfl
theorem cm_body (l : List PV) (d : PV) : cmB (cmE a b a' b' l d) = (remT d l).bind fun o => match o with
    | some l' => .ret (some (cmM a b a' b' l' d, .next))
    | none => .ret none := by kernel_rfl
theorem cm_retT (l : List PV) : rdRe (F3 n) (Yc n) 0 5 4 (("t", .own l) :: cm2 a b a' b') = .chk (decide (l.length ≤ sizeLine)) (.ret (("t", .own l) :: cm2 a b a' b', .ret (.bool (!(!l.isEmpty))))) := by kernel_rfl
theorem cm_retM (l : List PV) (d : PV) : rdRe (F3 n) (Yc n) 0 5 4 (cmM a b a' b' l d) = .chk (decide (l.length ≤ sizeLine)) (.ret (cmM a b a' b' l d, .ret (.bool (!(!l.isEmpty))))) := by kernel_rfl
open Classical in
theorem cm_loop {P : PV → Prop} : ∀ (ds l : List PV) (ρ : Rho), (∀ d, setE ρ "elem" (.val d) = cmE a b a' b' l d) → (rdRe (F3 n) (Yc n) 0 5 4 ρ = .chk (decide (l.length ≤ sizeLine)) (.ret (ρ, .ret (.bool (!(!l.isEmpty)))))) →
    (∀ d ∈ ds, Fine d) → (∀ d ∈ l, Fine d) → ds.Nodup → l.Nodup → l.length ≤ sizeLine → P (.bool (decide (∀ d, d ∈ ds ↔ d ∈ l))) →
    (forTE cmB "elem" ds ρ).Holds fun o => match o with
      | some r => After (rdRe (F3 n) (Yc n) 0 5 4) P r
      | none => P (.bool false)
  | [], l, ρ, _, h2, _, _, _, _, h7, h => by
    show After _ P (ρ, Fl.next)
    show ((rdRe (F3 n) (Yc n) 0 5 4 ρ).bind retT).Holds P
    rw [h2]
    refine T.chk_holds (decide_eq_true h7) ?_
    have e : (!(!l.isEmpty)) = decide (∀ d, d ∈ ([] : List PV) ↔ d ∈ l) := by
      cases l with
      | nil => simp
      | cons x l =>
        have hf : ¬ ∀ d, d ∈ ([] : List PV) ↔ d ∈ x :: l := fun q => nomatch (q x).mpr (.head _)
        rw [decide_eq_false hf]; rfl
    show P (.bool (!(!l.isEmpty)))
    rw [e]; exact h
  | d :: ds, l, ρ, h1, h2, h3, h4, h5, h6, h7, h => by
    have fd := h3 d (.head _)
    rw [List.nodup_cons] at h5
    unfold forTE
    rw [h1, cm_body, remT_fine fd h4 h7]
    by_cases hm : d ∈ l
    · rw [if_pos hm]
      refine T.bind_holds _ (T.bind_holds _ (T.chk_holds rfl ?_))
      show T.Holds _ (forTE cmB "elem" ds (cmM a b a' b' (l.erase d) d))
      refine cm_loop ds (l.erase d) _ (fun e => cm_setM ..) (cm_retM ..) (fun e he => h3 e (.tail _ he)) (fun e he => h4 e (List.mem_of_mem_erase he)) h5.2 (h6.erase d) (Nat.le_trans (List.length_erase_le) h7) ?_
      have e : decide (∀ e, e ∈ ds ↔ e ∈ l.erase d) = decide (∀ e, e ∈ d :: ds ↔ e ∈ l) := by
        refine decide_eq_decide.mpr ⟨fun q e => ?_, fun q e => ?_⟩
        · rw [List.mem_cons, q e, List.Nodup.mem_erase_iff h6]
          by_cases he : e = d
          · subst he; simp [hm]
          · simp [he]
        · rw [List.Nodup.mem_erase_iff h6, ← q e, List.mem_cons]
          by_cases he : e = d
          · subst he; simp [h5.1]
          · simp [he]
      rw [e]; exact h
    · rw [if_neg hm]
      refine T.bind_holds _ (T.bind_holds _ (T.chk_holds rfl ?_))
      show P (.bool false)
      have hf : ¬ ∀ e, e ∈ d :: ds ↔ e ∈ l := fun q => hm ((q d).mp (.head _))
      rw [decide_eq_false hf] at h; exact h
end
open Classical in
noncomputable def cmpS : List PV → T PV
  | [.list a, .list b] => if ((∀ d ∈ a, Fine d) ∧ a.length ≤ sizeLine) ∧ (∀ d ∈ b, Fine d) ∧ b.length ≤ sizeLine then .ret (.bool (decide (∀ d, d ∈ a ↔ d ∈ b))) else .fail
  | _ => .fail
theorem con_cmp (n : Nat) : Con "_compare_args_orderless" (n + 3) cmpS := by
  refine (con_read (k := 2) (F := F3 n) (Y := Yc n) (W := 0) (ps := ["first_args", "second_args"]) rfl rfl (by refine ⟨?_, ?_, ?_, ?_, ?_, ?_, ?_, ?_, ?_, ?_⟩ <;> kernel_rfl) (by decide +kernel) (by kernel_rfl) ?_).as ?_
  · intro pm vs h
    obtain ⟨v, u, rfl⟩ := two_of h
    kernel_rfl
  · intro ds P h
    unfold cmpS at h
    split at h
    · rename_i a b
      split at h
      · rename_i hh
        obtain ⟨⟨fa, la⟩, fb, lb⟩ := hh
        have ea : dedS [.list a] = .ret (.list (dedP [] a)) := if_pos ⟨fa, la⟩
        have eb : dedS [.list b] = .ret (.list (dedP [] b)) := if_pos ⟨fb, lb⟩
        obtain ⟨na, ma⟩ := dedP_spec a [] fa (fun _ h => nomatch h) List.nodup_nil
        obtain ⟨nb, mb⟩ := dedP_spec b [] fb (fun _ h => nomatch h) List.nodup_nil
        have lla : (dedP [] a).length ≤ sizeLine := Nat.le_trans (dedP_len a []) (by simpa using la)
        have llb : (dedP [] b).length ≤ sizeLine := Nat.le_trans (dedP_len b []) (by simpa using lb)
        refine call_holds rfl ?_
        refine re_holds (by decide +kernel) ?_
        show T.Holds _ (rdSt (F3 n) (Yc n) 0 5 0 (cm0 a b))
        rw [cm_st0, ea]
        show After _ P (cm1 a b (dedP [] a), Fl.next)
        refine re_holds (by decide +kernel) ?_
        rw [cm_st1, eb]
        show After _ P (cm2 a b (dedP [] a) (dedP [] b), Fl.next)
        refine re_holds (by decide +kernel) ?_
        rw [cm_st2]
        refine T.chk_holds (decide_eq_true llb) ?_
        show After _ P (("t", Ent.own (dedP [] b)) :: cm2 a b (dedP [] a) (dedP [] b), Fl.next)
        refine re_holds (by decide +kernel) ?_
        rw [cm_st3]
        have e : (∀ d, d ∈ dedP [] a ↔ d ∈ dedP [] b) ↔ (∀ d, d ∈ a ↔ d ∈ b) := by
          simp only [ma, mb, List.not_mem_nil, false_or]
        have key := cm_loop (P := P) n a b (dedP [] a) (dedP [] b) (dedP [] a) (dedP [] b) _ (fun d => cm_setT ..) (cm_retT ..) (fun d hd => fa d (by simpa using (ma d).mp hd)) (fun d hd => fb d (by simpa using (mb d).mp hd)) na nb llb (by rw [decide_eq_decide.mpr e]; exact h)
        refine T.chk_holds (decide_eq_true lla) (T.bind_holds _ (T.holds_mono (fun o ho => ?_) _ key))
        cases o with
        | some r => exact ho
        | none => exact ho
      · exact h.elim
    · exact h.elim
end Mine
namespace Mine
noncomputable def NxG (M : Model) (Γ : Ctx) (p : Pos) (s : Shared) (e : End) (s' : Shared) (g : Nat) (k : GenResult → Sem PySem.Fin) (r : Resume) : GenState → Prop
  | .fresh c => (r = .send .none ∧ ∃ e₁ s₁, Runs M (Γ.wake c p) p (M.den c) [] (s.setGen g .running) e₁ s₁ ∧ Runs M Γ p (k e₁.result) [] (s₁.setGen g e₁.genState) e s') ∨
      (∃ v, r = .send v ∧ v ≠ .none ∧ Runs M Γ p (k .justStarted) [] s e s') ∨ ∃ x, r = .throw x ∧ Runs M Γ p (k (.raised x)) [] (s.setGen g .finished) e s'
  | .suspended k₀ _ c₀ p₀ fs _ => ∃ e₁ s₁, Runs M (Γ.wake c₀ p) p₀ (k₀ r) fs (s.setGen g .running) e₁ s₁ ∧ Runs M Γ p (k e₁.result) [] (s₁.setGen g e₁.genState) e s'
  | .running => Runs M Γ p (k .running) [] s e s'
  | .finished => Runs M Γ p (k .finished) [] s e s'
noncomputable def Nx0 (M : Model) (Γ : Ctx) (p : Pos) (s : Shared) (e : End) (s' : Shared) : Sem PySem.Fin → Prop
  | .pure (.done f) => End.ret (.ok f) = e ∧ s = s'
  | .pure (.again c) => Runs M (Γ.goto c) p (M.den c) [] s e s'
  | .raise x => End.ret (.error x) = e ∧ s = s'
  | .rule _ k => Runs M Γ p (k ()) [] s e s'
  | .at p' k => Runs M Γ p' (k ()) [] s e s'
  | .load a _ k => ∃ o, s.heap.get? a = some o ∧ Runs M Γ p (k o) [] s e s'
  | .update a _ f k => Runs M Γ p (k ()) [] { s with heap := s.heap.update a f } e s'
  | .loadIfAlive a k => Runs M Γ p (k (s.heap.get? a)) [] s e s'
  | .point _ k => Runs M Γ p (k ()) [] s e s'
  | .alloc o k => Runs M Γ p (k s.heap.objs.size) [] { s with heap := s.heap.push o } e s'
  | .fresh k => Runs M Γ p (k s.toks) [] { s with toks := s.toks + 1 } e s'
  | .ask k => Runs M Γ p (k ⟨M.prog, M.w.params⟩) [] s e s'
  | .choose src n k => Runs M Γ p (k (M.w.draws src (s.drawn.get src) % n)) [] { s with drawn := s.drawn.bump src } e s'
  | .os q _ k => Runs M Γ p (k (Os.step s.os q).2) [] { s with os := (Os.step s.os q).1 } e s'
  | .handled own k => Runs M Γ p (k (if own then Γ.own else Γ.handled)) [] s e s'
  | .genState g k => ∃ st, s.gens[g]? = some st ∧ Runs M Γ p (k st.seen) [] s e s'
  | .stack k => Runs M Γ p (k ((Γ.code, p) :: Γ.below)) [] s e s'
  | .thread k => Runs M Γ p (k 0) [] s e s'
  | .newGen c k => Runs M Γ p (k s.gens.size) [] { s with gens := s.gens.push (.fresh c) } e s'
  | .call c h g l k => ∃ e₁ s₁, Runs M (Γ.enter c h p) p (M.den c) [] s e₁ s₁ ∧ match e₁ with
      | .ret r => Runs M Γ p (k r) [] s₁ e s'
      | .susp v g₀ l₀ k₀ c₀ p₀ fs => End.susp v g₀ l₀ k₀ c₀ p₀ (fs ++ [.ret k h g l Γ.code p []]) = e ∧ s₁ = s'
  | .yield v g l k => End.susp v g l k Γ.code p [] = e ∧ s = s'
  | .resume g r l k => ∃ gs, s.gens[g]? = some gs ∧ NxG M Γ p s e s' g k r gs
  | _ => True
noncomputable def Nx (M : Model) (Γ : Ctx) (p : Pos) (s : Shared) (e : End) (s' : Shared) (t : Sem PySem.Fin) : List Frame → Prop
  | [] => Nx0 M Γ p s e s' t
  | F :: fs => ∃ e₁ s₁, Runs M (Γ.over (F :: fs)) p t [] s e₁ s₁ ∧ match e₁ with
      | .ret r => (match F with
        | .ret k _ _ _ c₁ p₁ _ => Runs M (Γ.goto c₁) p₁ (k r) fs s₁ e s'
        | .gen g k _ c₁ p₁ => Runs M (Γ.goto c₁) p₁ (k (End.ret r).result) fs (s₁.setGen g .finished) e s')
      | .susp v g₀ l₀ k₀ c₀ p₀ fs₀ => (match splitAtGen (F :: fs) with
        | none => End.susp v g₀ l₀ k₀ c₀ p₀ (fs₀ ++ F :: fs) = e ∧ s₁ = s'
        | some (pre, (g, k, c₁, p₁), rest) => Runs M (Γ.goto c₁) p₁ (k (.yielded v)) rest (s₁.setGen g (End.susp v g₀ l₀ k₀ c₀ p₀ (fs₀ ++ pre)).genState) e s')
theorem runs_nx {M : Model} {Γ : Ctx} {p : Pos} {t : Sem PySem.Fin} {fs : List Frame} {s : Shared} {e : End} {s' : Shared} (h : Runs M Γ p t fs s e s') : Nx M Γ p s e s' t fs := by
  induction h with
  | done => exact ⟨rfl, rfl⟩
  | raise => exact ⟨rfl, rfl⟩
  | yield => exact ⟨rfl, rfl⟩
  | load ho h _ => exact ⟨_, ho, h⟩
  | genState ho h _ => exact ⟨_, ho, h⟩
  | call a b _ _ => exact ⟨_, _, a, b⟩
  | callSusp a _ => exact ⟨_, _, a, rfl, rfl⟩
  | resumeFresh hg a q b _ _ => exact ⟨_, hg, .inl ⟨rfl, _, _, a, b⟩⟩
  | resumeSuspended hg a q b _ _ => exact ⟨_, hg, _, _, a, b⟩
  | resumeJustStarted hg hv b _ => exact ⟨_, hg, .inr (.inl ⟨_, rfl, hv, b⟩)⟩
  | resumeThrowFresh hg b _ => exact ⟨_, hg, .inr (.inr ⟨_, rfl, b⟩)⟩
  | resumeRunning hg b _ => exact ⟨_, hg, b⟩
  | resumeFinished hg b _ => exact ⟨_, hg, b⟩
  | segRet a b _ _ => exact ⟨_, _, a, b⟩
  | segGen a b _ _ => exact ⟨_, _, a, b⟩
  | segSuspOut hs a _ => refine ⟨_, _, a, ?_⟩; dsimp only; rw [hs]; exact ⟨rfl, rfl⟩
  | segSuspGen hs a q b _ _ => refine ⟨_, _, a, ?_⟩; dsimp only; rw [hs]; exact b
  | again _ h _ => exact h
  | rule h _ => exact h
  | «at» h _ => exact h
  | update _ h _ => exact h
  | loadIfAlive h _ => exact h
  | point h _ => exact h
  | alloc h _ => exact h
  | fresh h _ => exact h
  | ask h _ => exact h
  | choose _ h _ => exact h
  | os h _ => exact h
  | handled h _ => exact h
  | stack h _ => exact h
  | thread h _ => exact h
  | newGen h _ => exact h
theorem runs_det {M : Model} {Γ : Ctx} {p : Pos} {t : Sem PySem.Fin} {fs : List Frame} {s : Shared} {e : End} {s' : Shared} (h : Runs M Γ p t fs s e s') : ∀ {e₂ : End} {s₂ : Shared}, Runs M Γ p t fs s e₂ s₂ → e = e₂ ∧ s' = s₂ := by
  induction h with
  | done => exact fun h => runs_nx h
  | raise => exact fun h => runs_nx h
  | yield => exact fun h => runs_nx h
  | load ho _ ih => intro _ _ h; obtain ⟨o, ho', h⟩ := runs_nx h; rw [ho] at ho'; cases ho'; exact ih h
  | genState ho _ ih => intro _ _ h; obtain ⟨st, ho', h⟩ := runs_nx h; rw [ho] at ho'; cases ho'; exact ih h
  | again _ _ ih => exact fun h => ih (runs_nx h)
  | update _ _ ih => exact fun h => ih (runs_nx h)
  | choose _ _ ih => exact fun h => ih (runs_nx h)
  | call _ _ ih1 ih2 => intro _ _ h; obtain ⟨e₁, s₁, a, b⟩ := runs_nx h; obtain ⟨rfl, rfl⟩ := ih1 a; exact ih2 b
  | callSusp _ ih1 => intro _ _ h; obtain ⟨e₁, s₁, a, b⟩ := runs_nx h; obtain ⟨rfl, rfl⟩ := ih1 a; exact b
  | resumeFresh hg _ _ _ ih1 ih2 =>
    intro _ _ h
    obtain ⟨gs, hg', h⟩ := runs_nx h
    rw [hg] at hg'; cases hg'
    rcases h with ⟨_, e₁, t₁, a, b⟩ | ⟨v, e, hv, _⟩ | ⟨x, e, _⟩
    · obtain ⟨rfl, rfl⟩ := ih1 a; exact ih2 b
    · exact absurd (Resume.send.inj e).symm hv
    · cases e
  | resumeSuspended hg _ _ _ ih1 ih2 =>
    intro _ _ h
    obtain ⟨gs, hg', h⟩ := runs_nx h
    rw [hg] at hg'; cases hg'
    obtain ⟨e₁, t₁, a, b⟩ := h
    obtain ⟨rfl, rfl⟩ := ih1 a
    exact ih2 b
  | resumeJustStarted hg hv _ ih =>
    intro _ _ h
    obtain ⟨gs, hg', h⟩ := runs_nx h
    rw [hg] at hg'; cases hg'
    rcases h with ⟨e, _⟩ | ⟨v, e, _, b⟩ | ⟨x, e, _⟩
    · exact absurd (Resume.send.inj e) hv
    · exact ih b
    · cases e
  | resumeThrowFresh hg _ ih =>
    intro _ _ h
    obtain ⟨gs, hg', h⟩ := runs_nx h
    rw [hg] at hg'; cases hg'
    rcases h with ⟨e, _⟩ | ⟨v, e, _⟩ | ⟨x, e, b⟩
    · cases e
    · cases e
    · obtain rfl := Resume.throw.inj e; exact ih b
  | resumeRunning hg _ ih =>
    intro _ _ h
    obtain ⟨gs, hg', h⟩ := runs_nx h
    rw [hg] at hg'; cases hg'
    exact ih h
  | resumeFinished hg _ ih =>
    intro _ _ h
    obtain ⟨gs, hg', h⟩ := runs_nx h
    rw [hg] at hg'; cases hg'
    exact ih h
  | segRet _ _ ih1 ih2 => intro _ _ h; obtain ⟨e₁, s₁, a, b⟩ := runs_nx h; obtain ⟨rfl, rfl⟩ := ih1 a; exact ih2 b
  | segGen _ _ ih1 ih2 => intro _ _ h; obtain ⟨e₁, s₁, a, b⟩ := runs_nx h; obtain ⟨rfl, rfl⟩ := ih1 a; exact ih2 b
  | segSuspOut hs _ ih1 => intro _ _ h; obtain ⟨e₁, s₁, a, b⟩ := runs_nx h; obtain ⟨rfl, rfl⟩ := ih1 a; dsimp only at b; rw [hs] at b; exact b
  | segSuspGen hs _ _ _ ih1 ih2 => intro _ _ h; obtain ⟨e₁, s₁, a, b⟩ := runs_nx h; obtain ⟨rfl, rfl⟩ := ih1 a; dsimp only at b; rw [hs] at b; exact ih2 b
  | _ => rename_i ih; exact fun h => ih (runs_nx h)
theorem wakes_det {M : Model} {Γ : Ctx} {p : Pos} {g : Nat} {r : Resume} {s : Shared} {x y : GenResult} {s₁ s₂ : Shared} (h : Wakes M Γ p g r s x s₁) (h' : Wakes M Γ p g r s y s₂) : x = y ∧ s₁ = s₂ := by
  unfold Wakes at h h'
  split at h
  · exact h.elim
  · rename_i c hg
    simp only [hg] at h'
    split at h
    · obtain ⟨e₁, t₁, r1, _, rfl, rfl⟩ := h
      obtain ⟨e₂, t₂, r2, _, rfl, rfl⟩ := h'
      obtain ⟨rfl, rfl⟩ := runs_det r1 r2
      exact ⟨rfl, rfl⟩
    · rename_i v hv
      obtain ⟨rfl, rfl⟩ := h
      first
        | (obtain ⟨rfl, rfl⟩ := h'; exact ⟨rfl, rfl⟩)
        | (split at h'
           · rename_i q; exact absurd (Resume.send.inj q) hv
           · obtain ⟨rfl, rfl⟩ := h'; exact ⟨rfl, rfl⟩
           · rename_i q; cases q)
    · obtain ⟨rfl, rfl⟩ := h
      obtain ⟨rfl, rfl⟩ := h'
      exact ⟨rfl, rfl⟩
  · rename_i hg
    simp only [hg] at h'
    obtain ⟨e₁, t₁, r1, _, rfl, rfl⟩ := h
    obtain ⟨e₂, t₂, r2, _, rfl, rfl⟩ := h'
    obtain ⟨rfl, rfl⟩ := runs_det r1 r2
    exact ⟨rfl, rfl⟩
  · rename_i hg
    simp only [hg] at h'
    obtain ⟨rfl, rfl⟩ := h
    obtain ⟨rfl, rfl⟩ := h'
    exact ⟨rfl, rfl⟩
  · rename_i hg
    simp only [hg] at h'
    obtain ⟨rfl, rfl⟩ := h
    obtain ⟨rfl, rfl⟩ := h'
    exact ⟨rfl, rfl⟩
theorem wp_and {α : Type} {M : Model} {Γ : Ctx} {Q₁ Q₂ : α → Pos → Shared → Prop} {E₁ E₂ : Value → Pos → Shared → Prop} : ∀ (t : Sem α) (p : Pos) (s : Shared), Sem.wp M Γ t Q₁ E₁ p s → Sem.wp M Γ t Q₂ E₂ p s → Sem.wp M Γ t (fun a p s => Q₁ a p s ∧ Q₂ a p s) (fun a p s => E₁ a p s ∧ E₂ a p s) p s := by
  intro t
  induction t with
  | call c h g l k ih =>
    intro p s h1 h2
    simp only [Sem.wp, wpCode] at h1 h2 ⊢
    obtain ⟨r, s', r1, h1⟩ := h1
    obtain ⟨r', s'', r2, h2⟩ := h2
    obtain ⟨e, rfl⟩ := runs_det r1 r2
    cases e
    exact ⟨r, s', r1, ih r p s' h1 h2⟩
  | resume g r l k ih =>
    intro p s h1 h2
    simp only [Sem.wp] at h1 h2 ⊢
    obtain ⟨r, s', r1, h1⟩ := h1
    obtain ⟨r', s'', r2, h2⟩ := h2
    obtain ⟨rfl, rfl⟩ := wakes_det r1 r2
    exact ⟨r, s', r1, ih _ p s' h1 h2⟩
  | load a part k ih =>
    intro p s h1 h2
    simp only [Sem.wp] at h1 h2 ⊢
    obtain ⟨o, ho, h1⟩ := h1
    obtain ⟨o', ho', h2⟩ := h2
    rw [ho] at ho'; cases ho'
    exact ⟨o, ho, ih o p s h1 h2⟩
  | genState g k ih =>
    intro p s h1 h2
    simp only [Sem.wp] at h1 h2 ⊢
    obtain ⟨o, ho, h1⟩ := h1
    obtain ⟨o', ho', h2⟩ := h2
    rw [ho] at ho'; cases ho'
    exact ⟨o, ho, ih _ p s h1 h2⟩
  | update a part f k ih =>
    intro p s h1 h2
    simp only [Sem.wp] at h1 h2 ⊢
    exact ⟨h1.1, ih () p _ h1.2 h2.2⟩
  | choose src m k ih =>
    intro p s h1 h2
    simp only [Sem.wp] at h1 h2 ⊢
    exact ⟨h1.1, ih _ p _ h1.2 h2.2⟩
  | _ =>
    intro p s h1 h2
    simp only [Sem.wp] at h1 h2 ⊢
    all_goals first
      | exact ⟨h1, h2⟩
      | (rename_i ih; exact ih _ _ _ h1 h2)
      | exact h1.elim
theorem wpAny_and {α : Type} {M : Model} {A : Around} {Q₁ Q₂ : α → Shared → Prop} {E₁ E₂ : Value → Shared → Prop} {t : Sem α} {s : Shared} (h1 : wpAny M A t Q₁ E₁ s) (h2 : wpAny M A t Q₂ E₂ s) : wpAny M A t (fun a s => Q₁ a s ∧ Q₂ a s) (fun a s => E₁ a s ∧ E₂ a s) s :=
  fun Γ p hΓ => wp_and t p s (h1 Γ p hΓ) (h2 Γ p hΓ)
end Mine
namespace Mine
theorem TabOk.ext {h h' : Heap} {P P' : Addr} {line col : Nat} {qual : Str} (x : TabOk h P' line col qual) (hx : Heap.ExtBut P h h') (hP : isTab P) (ne : P' ≠ P) : TabOk h' P' line col qual := by
  obtain ⟨ps, hp, hc⟩ := x
  refine ⟨ps, hx _ _ ne hp, hc.imp id ?_⟩
  rintro ⟨c, e, nt, c', o, vs, t, e', hoc, hd, hv⟩
  cases e'
  exact ⟨c, e, nt, c, o, vs, t, rfl, hx _ _ (fun q => nt (q ▸ hP)) hoc, hd, hv⟩
structure LamIn (c : Cx) (P cd : Addr) (line col : Nat) (qual : Str) : Prop where
  code : c.env.code = .ref cd
  qn : c.env.qual ++ "<lambda>" = qual
  head : CodeHd c.H cd P
  blt : c.H.BuiltinsAt c.mg P
  none : c.H.get? P = none
  isT : isTab P
  tab : ∀ h, TabsOk h → TabOk h P line col qual
  upd : ∀ h h', TabsOk h → Heap.ExtBut P h h' → TabOk h' P line col qual → TabsOk h'
noncomputable abbrev oneArg' (y : Str) (ap : Pos) : Arguments := ⟨[], [⟨y, none, ap⟩], none, [], [], none, []⟩
noncomputable abbrev lamObj (y : Str) (ap : Pos) (qual : Str) (body : Expr) (scope : Scope) (pm : Value) (c' : Addr) (ctv : Value) : Obj := kla_obj "<lambda>" qual (oneArg' y ap) body scope [] pm c' ctv
section
variable {sc : Scope} {n : Nat}
theorem wp_lambda {c : Cx} (O : Ok sc n c) {X : List Addr} {ad : Str → Addr} {ρ : Rho} {s : Shared} (I : Inv c X ad ρ s) {P cd : Addr} {line col : Nat} {qual : Str} (LI : LamIn c P cd line col qual) {y : Str} {ap lp : Pos} {body : Expr} {scope : Scope}
    (hl : lp.line = line) (hc : lp.col = col) (hfree : ∀ x ∈ scope.names, x.2 ≠ .free) {Q E : Value → Shared → Prop}
    (h : ∀ f c' pm ctv s', Nxt c.H c.F s s' → s.heap.get? f = none → s'.heap.get? f = some (lamObj y ap qual body scope pm c' ctv) → s'.heap.CodeRec (.ref c') qual → Q (.ref f) s') :
    wpAny (model pw c.w) c.A (eval (.Lambda (oneArg' y ap) body scope lp) c.env) Q E s := by
  obtain ⟨ps, hP, hps⟩ := LI.tab _ I.wf.tabs
  have hcl : closureFor scope c.env = pure [] := closureFor_none hfree
  have hg : s.heap.Ns mainGlobals c.mg := by have := I.mgNs O; rw [O.glob] at this; exact this
  have hC := LI.head.keeps I.wf.stays
  have hgP : mainGlobals ≠ P := fun q => by
    obtain ⟨o, es, ep, e, hd, _⟩ := O.th.g
    rw [q, LI.none] at e; cases e
  have hB : s.heap.BuiltinsAt c.mg P := by
    obtain ⟨bm, ob, b1, b2, b3, b4, b5, r⟩ := LI.blt
    exact ⟨bm, ob, b1, b2, b3, b4, I.wf.stays _ _ b5, r⟩
  refine kla_eval rfl ?_
  rw [LI.qn]
  rcases hps with rfl | ⟨c', rfl, nt, hrec⟩
  · refine kla_makeFunction (mg := c.mg) hcl O.glob hg LI.code hC hP trivial rfl hgP hB fun c' ctv h' tk hx hge hlt hrec htb => ?_
    have nt : ¬ isTab c' := fun q => by
      obtain ⟨ps1, e1, _⟩ := I.wf.tabs.l
      obtain ⟨ps2, e2, _⟩ := I.wf.tabs.t
      rcases q with rfl | rfl
      · exact absurd (Heap.lt_size e1) (Nat.not_lt.mpr hge)
      · exact absurd (Heap.lt_size e2) (Nat.not_lt.mpr hge)
    have old : ∀ b o, b ≠ P → s.heap.get? b = some o → (h'.push (lamObj y ap qual body scope ((c.mg "__name__").getD .none) c' ctv)).get? b = some o := fun b o hb e => Heap.get?_push_of_some _ (hx b o hb e)
    have tn : TabOk (h'.push (lamObj y ap qual body scope ((c.mg "__name__").getD .none) c' ctv)) P line col qual :=
      ⟨_, Heap.get?_push_of_some _ htb, .inr ⟨c', by rw [hl, hc]; rfl, nt, hrec.keeps fun b o e => Heap.get?_push_of_some _ e⟩⟩
    have tb := LI.upd _ _ I.wf.tabs (fun b o hb e => old b o hb e) tn
    refine h _ c' _ ctv _ ⟨⟨fun b o e => old b o (fun q => by rw [q, LI.none] at e; cases e) (I.wf.stays b o e), fun b o e ntb => ⟨o.slots, old b o (fun q => ntb (q ▸ LI.isT)) e, fun _ => rfl⟩, tb⟩, rfl, rfl⟩ (fresh_size (Nat.le_trans hge (Nat.le_of_lt hlt))) (Heap.get?_push_size _ rfl) (hrec.keeps fun b o e => Heap.get?_push_of_some _ e)
  · refine kla_makeFunctionHit (cv := .ref c') (mg := c.mg) hcl O.glob hg LI.code hC hP trivial (by simp [codeAmong, rawInt, hl, hc]) hB fun ctv h' tk hk hsz => ?_
    have old : ∀ b o, s.heap.get? b = some o → (h'.push (lamObj y ap qual body scope ((c.mg "__name__").getD .none) c' ctv)).get? b = some o := fun b o e => Heap.get?_push_of_some _ (hk b o e)
    exact h _ c' _ ctv _ ⟨.keep I.wf.stays I.wf.tabs old, rfl, rfl⟩ (fresh_size hsz) (Heap.get?_push_size _ rfl) (hrec.keeps old)
end
theorem own_by {c : Cx} (Ap : Apart c) {sc : Scope} {n : Nat} (O : Ok sc n c) {z : Str} {i : Nat} {cd : Addr} (hz : sc.names.lookup z = some .local) (hu : fnTab.all (fun x => !((fdAt x.2.1 0 .none).scope.names.lookup z == some .local) || (x.2.1 == i && x.2.2.1 == cd)) = true) :
    c.env.code = .ref cd ∧ c.env.qual = nameAt i ++ ".<locals>." := by
  obtain ⟨x, hx, h1, h2, h3⟩ := Ap.own
  have hk : (fdAt x.2.1 0 .none).scope.names.lookup z = some .local := by
    rw [← h3]; exact (O.names z).trans hz
  have := List.all_eq_true.mp hu x hx
  simp only [hk, beq_self_eq_true, Bool.not_true, Bool.false_or, Bool.and_eq_true, beq_iff_eq] at this
  rw [this.2] at h1
  rw [this.1] at h2
  exact ⟨h1, h2⟩
theorem lam_least {c : Cx} (Ap : Apart c) {sc : Scope} {n : Nat} (O : Ok sc n c) (hz : sc.names.lookup ("least" : Str) = some .local) : LamIn c 232 234 257 32 (Str.ofString "_law_least.<locals>.<lambda>") := by
  obtain ⟨h1, h2⟩ := own_by Ap O (i := 36) (cd := 234) hz (by decide +kernel)
  exact ⟨h1, by rw [h2]; decide +kernel, O.th.hdl, O.th.bmain.1, O.th.notab.1, .inl rfl, fun _ t => t.l, fun h h' t hx tn => ⟨tn, t.t.ext hx (.inl rfl) (by decide)⟩⟩
theorem lam_trans {c : Cx} (Ap : Apart c) {sc : Scope} {n : Nat} (O : Ok sc n c) (hz : sc.names.lookup ("chunks" : Str) = some .local) : LamIn c 86 90 90 39 (Str.ofString "_translate.<locals>.<lambda>") := by
  obtain ⟨h1, h2⟩ := own_by Ap O (i := 13) (cd := 90) hz (by decide +kernel)
  exact ⟨h1, by rw [h2]; decide +kernel, O.th.hdt, O.th.bmain.2, O.th.notab.2, .inr rfl, fun _ t => t.t, fun h h' t hx tn => ⟨t.l.ext hx (.inr rfl) (by decide), tn⟩⟩
noncomputable def lenScope (scope : Scope) : Bool := scope.kind == .function && !scope.isCoroutine && !scope.isGenerator && scope.names.lookup ("line" : Str) == some .local && scope.names.lookup ("len" : Str) == some .globalImplicit && scope.names.all fun x => x.2 != .cell && x.2 != .free
theorem lam_len {w : World} {A : Around} {s : Shared} {mg mb : Str → Option Value} (hmg : s.heap.Ns mainGlobals mg) (hmb : s.heap.Ns builtinsNs mb) (hfree : mg "len" = none) (hblt : mb "len" = bootBuiltins "len") (hlim : s.heap.NoLimit) (hroom : A.depth < recursionLimit)
    {f a c' : Addr} {ap gp zp cp : Pos} {qual : Str} {scope : Scope} {pm ctv : Value} (hsc : lenScope scope = true) (hf : s.heap.get? f = some (lamObj "line" ap qual (.Call (.Name "len" gp) [.Name "line" zp] [] cp) scope pm c' ctv)) (hcd : s.heap.CodeRec (.ref c') qual)
    {vs : Array Value} (hl : s.heap.IsList a vs) (hz : (vs.size : Int) < 2 ^ 63) {Q E : Value → Shared → Prop}
    (h : ∀ h' tk t', (∀ b o, s.heap.get? b = some o → h'.get? b = some o) → Q (.int vs.size t') { s with heap := h', toks := tk }) : wpAny (model pw w) A (call (.ref f) [.ref a]) Q E s := by
  simp only [lenScope, Bool.and_eq_true, beq_iff_eq, Bool.not_eq_true', List.all_eq_true, bne_iff_ne] at hsc
  obtain ⟨⟨⟨⟨⟨hk, hco⟩, hge⟩, hln⟩, hlen⟩, hnm⟩ := hsc
  refine wpAny_call (kla_callFunE hroom hf rfl hco hge rfl hcd ?_)
  have hbind : bindArgs (kla_fn "<lambda>" qual (oneArg' "line" ap) (.Call (.Name "len" gp) [.Name "line" zp] [] cp) scope [] pm (.ref c') ctv) ⟨[.ref a], []⟩ = pure [(("line" : Str), Value.ref a)] := by kernel_rfl
  rw [hbind]
  refine wpAny_pure (wpAny_newFunctionEnv (fun x hx => (hnm x hx).1) (by intro x hx; rw [List.mem_singleton.mp hx]; exact hln) (fun h₁ hns hsb => ⟨hlim.fresh _ hsb, ?_⟩) hk)
  have hk₁ : ∀ b o, s.heap.get? b = some o → h₁.get? b = some o := fun b o e => hsb.extBut b o (Nat.ne_of_lt (Heap.lt_size e)) (Heap.get?_push_of_some _ e)
  refine kla_codeExpr (wpAny_noRaise ?_)
  refine wpAny_Call_NameR (Name_function_global hk hlen (loadGlobal_builtin (hmg.keeps hk₁) hfree (hmb.keeps hk₁) (hblt.trans (show bootBuiltins "len" = some (.builtin "len") by decide +kernel)) ?_) (by decide +kernel))
  refine callWith_builtin rfl (evalArgs_plain (Calls.spliced_cons (wpAny_Name (wpAny_loadName_local hk hln hns (v := .ref a) (by simp) ?_) (by decide +kernel))))
  refine Calls.spliced_nil ?_
  have hl₁ : h₁.IsList a vs := let ⟨o, ho, r⟩ := hl; ⟨o, hk₁ _ _ ho, r⟩
  exact call_len_list (s := { s with heap := h₁, toks := s.toks + 1 }) hl₁ hz (h _ _ _ hk₁)
end Mine
namespace Mine
noncomputable def lenOf : PV → Nat
  | .list m => m.length
  | _ => 0
noncomputable def isL : PV → Bool
  | .list m => decide (m.length ≤ sizeLine)
  | _ => false
theorem perm_lift {α β : Type} {f : α → β} {ps qs : List β} (h : ps.Perm qs) : ∀ zs : List α, qs = zs.map f → ∃ zs' : List α, zs'.Perm zs ∧ ps = zs'.map f := by
  induction h with
  | nil => intro zs e; cases zs with
    | nil => exact ⟨[], .nil, rfl⟩
    | cons z zs => simp at e
  | cons x _ ih =>
    intro zs e
    cases zs with
    | nil => simp at e
    | cons z zs =>
      simp only [List.map_cons, List.cons.injEq] at e
      obtain ⟨zs', h1, h2⟩ := ih zs e.2
      exact ⟨z :: zs', h1.cons z, by rw [List.map_cons, e.1, h2]⟩
  | swap x y l =>
    intro zs e
    match zs, e with
    | z1 :: z2 :: zs, e =>
      simp only [List.map_cons, List.cons.injEq] at e
      exact ⟨z2 :: z1 :: zs, .swap _ _ _, by simp [e.1, e.2.1, e.2.2]⟩
  | trans _ _ ih1 ih2 =>
    intro zs e
    obtain ⟨zs2, h1, h2⟩ := ih2 zs e
    obtain ⟨zs1, h3, h4⟩ := ih1 zs2 h2
    exact ⟨zs1, h3.trans h1, h4⟩
noncomputable def allBut (L : Addr) (h : Heap) : List (Addr × Obj) := (List.range h.objs.size).filterMap fun b => if b = L then none else (h.get? b).map fun o => (b, o)
theorem allBut_mem {L : Addr} {h : Heap} {b : Addr} {o : Obj} : (b, o) ∈ allBut L h ↔ b ≠ L ∧ h.get? b = some o := by
  unfold allBut
  simp only [List.mem_filterMap, List.mem_range]
  constructor
  · rintro ⟨i, hi, e⟩
    split at e
    · cases e
    · rename_i hne
      simp only [Option.map_eq_some_iff, Prod.mk.injEq] at e
      obtain ⟨o', ho, rfl, rfl⟩ := e
      exact ⟨hne, ho⟩
  · rintro ⟨hne, ho⟩
    exact ⟨b, Heap.lt_size ho, by rw [if_neg hne, ho]; rfl⟩
noncomputable def noHeap (h : Heap) : Heap := { h with objs := #[] }
theorem noHeap_get {h : Heap} {b : Addr} : (noHeap h).get? b = none := fresh_size (Nat.zero_le _)
theorem rps_of {w : World} {X : List Addr} {h : Heap} : ∀ (zs : List (PV × Value)), (∀ z ∈ zs, Rp w X h z.1 z.2) → Rps w X h (zs.map Prod.fst) (zs.map Prod.snd)
  | [], _ => rfl
  | z :: zs, hz => ⟨z.2, _, rfl, hz z (.head _), rps_of zs fun y hy => hz y (.tail _ hy)⟩
section
variable {sc : Scope} {n : Nat}
theorem sort_run {c : Cx} (O : Ok sc n c) {X : List Addr} {ad : Str → Addr} {ρ : Rho} {s : Shared} (I : Inv c X ad ρ s) {L : Addr} {m : Str → Option Value} (hL : s.heap.Ns L m) (hLc : ∀ h : Heap, h.Ns L m → (∀ b o, b ≠ L → s.heap.get? b = some o → h.get? b = some o) → h.Ns mainGlobals c.mg ∧ h.Ns builtinsNs c.mb ∧ h.NoLimit)
    {f a c' : Addr} {ap gp zp cp : Pos} {qual : Str} {scope : Scope} {pm ctv : Value} (hsc : lenScope scope = true) (hf : s.heap.get? f = some (lamObj "line" ap qual (.Call (.Name "len" gp) [.Name "line" zp] [] cp) scope pm c' ctv)) (hcd : s.heap.CodeRec (.ref c') qual)
    {l : List PV} {vs : List Value} (hl : Lst s.heap a vs) (rs : Rps c.w X s.heap l vs) (hall : l.all isL = true) (h64 : l.length < 64) :
    wpAny (model pw c.w) c.A (call (.builtin "sorted") [.ref a] [(("key" : Str), .ref f)]) (fun v s' => ∃ D h' tk out k, v = .ref D ∧ s' = { s with heap := h', toks := tk } ∧ (∀ b o, b ≠ L → s.heap.get? b = some o → h'.get? b = some o) ∧ h'.get? D = some (seqObj "list" out k) ∧ (D ≠ L → s.heap.get? D = none) ∧ KskOut false (l.map fun d => (lenOf d : Int)) vs out.toList) (fun _ _ => False) s := by
  have hlen : vs.length = l.length := rs.length
  have F : Fr (noHeap s.heap) L s.heap m := ⟨hL, fun b o e => (by rw [noHeap_get] at e; cases e), Nat.zero_le _⟩
  have N : News (noHeap s.heap) L s.heap (allBut L s.heap) := fun p hp => ⟨(allBut_mem.mp hp).2, (allBut_mem.mp hp).1, noHeap_get⟩
  have ha : a ≠ L := fun q => by
    obtain ⟨o, es, ep, e, hd, _⟩ := hL
    obtain ⟨k, e'⟩ := hl
    rw [← q, e'] at e; cases e; cases hd
  refine ksk_sorted (b := false) (f := .ref f) (kz := l.map fun d => (lenOf d : Int)) F N ⟨_, hl.choose_spec, rfl, _, rfl⟩ (by rw [List.length_map, hlen]) (by rw [hlen]; exact h64) (ksk_s1 _ _) (fun x => ksk_l1 _ _) (fun x => ksk_t1 f x) (fun i v k hv hk h tk own F' N' => ?_) fun D h' tk out k F' N' hlt hko => ?_
  · obtain ⟨d, hd⟩ : ∃ d, l[i]? = some d := by
      rw [List.getElem?_map, Option.map_eq_some_iff] at hk
      obtain ⟨d, hd, _⟩ := hk; exact ⟨d, hd⟩
    have hk' : k = (lenOf d : Int) := by rw [List.getElem?_map, hd] at hk; simpa using hk.symm
    obtain ⟨v', hv', r⟩ := rs.at i d hd
    rw [hv] at hv'; cases hv'
    have hd1 : isL d = true := List.all_eq_true.mp hall d (List.mem_of_getElem? hd)
    cases d with
    | list mm =>
      obtain ⟨a1, us, rfl, _, ⟨k1, hl1⟩, r1⟩ := r
      have hz : mm.length ≤ sizeLine := by simpa [isL] using hd1
      have keep : ∀ b o, b ≠ L → s.heap.get? b = some o → h.get? b = some o := fun b o hb e => (N' (b, o) (List.mem_append_left _ (allBut_mem.mpr ⟨hb, e⟩))).1
      have neL : ∀ b o, s.heap.get? b = some o → (∀ es n, o.data ≠ .dict es n) → b ≠ L := fun b o e hnd q => by
        obtain ⟨oL, es, ep, eL, hdL, _⟩ := hL
        rw [q, eL] at e; cases e; exact hnd _ _ hdL
      obtain ⟨g1, g2, g3⟩ := hLc h F'.ns keep
      obtain ⟨cc, oc, vc, tq, ec, hoc, hdc, hq⟩ := hcd
      have hA : c.A.in1.in1.depth < recursionLimit := O.room.depth
      refine lam_len (s := { s with heap := h, toks := tk }) g1 g2 (O.th.free _ (by decide +kernel)) (O.th.blt _ (by decide +kernel)) g3 hA (f := f) (c' := c') (qual := qual) hsc (keep _ _ (neL _ _ hf fun _ _ q => by cases q) hf) ⟨cc, oc, vc, tq, ec, keep _ _ (neL _ _ hoc fun es n q => by rw [hdc] at q; cases q) hoc, hdc, hq⟩ (vs := us.toArray)
        ⟨_, keep _ _ (neL _ _ hl1 fun _ _ q => by cases q) hl1, rfl, _, rfl⟩ (by rw [List.size_toArray, r1.length]; exact size_small hz) fun h2 tk2 t2 hk2 => ?_
      refine ⟨h2, tk2, t2, rfl, ?_, ⟨F'.ns.keeps hk2, fun b o e => (by rw [noHeap_get] at e; cases e), F'.above⟩, fun p hp => ⟨hk2 _ _ (N' p hp).1, (N' p hp).2⟩⟩
      rw [hk']
      show Value.int (us.toArray.size : Int) t2 = Value.int (mm.length : Int) t2
      rw [List.size_toArray, r1.length]
    | none => cases hd1
    | bool b => cases hd1
    | int i => cases hd1
    | str x => cases hd1
    | arg l => cases hd1
    | dict ks vs => cases hd1
    | raw u => cases hd1
  · refine ⟨D, h', tk, out, k, rfl, rfl, fun b o hb e => (N' (b, o) (.tail _ (allBut_mem.mpr ⟨hb, e⟩))).1, (N' _ (.head _)).1, fun hD => ?_, hko⟩
    cases e : s.heap.get? D with
    | none => rfl
    | some o => exact absurd (hlt (D, o) (allBut_mem.mpr ⟨hD, e⟩)) (Nat.lt_irrefl _)
noncomputable def byLen (l : List PV) (d : PV) : Prop := ∃ l' : List PV, d = .list l' ∧ l'.Perm l ∧ l'.Pairwise fun a b => lenOf a ≤ lenOf b
noncomputable def srtLenP : PV → T PV
  | .list l => .chk (l.all isL && decide (l.length < 64)) (.any (byLen l) .ret)
  | _ => .fail
theorem wp_sortLen {c : Cx} (O : Ok sc n c) (Ap : Apart c) (hz : sc.names.lookup ("least" : Str) = some .local) {X : List Addr} {ad : Str → Addr} {ρ : Rho} {s : Shared} (I : Inv c X ad ρ s) {f0 : Str} {p0 kp pos lp : Pos} {e : Expr} {t : Rho → T PV} {ap gp zp cp : Pos} {scope : Scope}
    (hf0 : f0 = ("sorted" : Str)) (hk : sc.names.lookup f0 = some .globalImplicit) (hn : noStar e = true) (hsc : lenScope scope = true) (hl : lp.line = 257) (hc : lp.col = 32) (he : SndE sc n e t) {Q E : Value → Shared → Prop}
    (h : (t ρ).Holds fun d => (srtLenP d).Holds fun d => ∀ v s', Nxt c.H c.F s s' → Rp c.w X s'.heap d v → Q v s') :
    wpAny (model pw c.w) c.A (eval (.Call (.Name f0 p0) [e] [⟨some ("key" : Str), .Lambda (oneArg' "line" ap) (.Call (.Name "len" gp) [.Name "line" zp] [] cp) scope lp, kp⟩] pos) c.env) Q E s := by
  subst hf0
  have LI := lam_least Ap O hz
  have hfree : ∀ x ∈ scope.names, x.2 ≠ .free := by
    simp only [lenScope, Bool.and_eq_true, List.all_eq_true, bne_iff_ne] at hsc
    exact fun x hx => (hsc.2 x hx).2
  show wpAny _ _ (do callWith pos (← eval (.Name ("sorted" : Str) p0) c.env) [] (backTo pos (starEach [e] c.env)) (backToKw pos (keywordEach _ c.env))) _ _ _
  refine wpAny_bind (ldBuiltin O I hk (by decide +kernel) (v := .builtin "sorted") (by decide +kernel) ?_ (by decide +kernel) (by decide +kernel))
  have e1 : backTo pos (starEach [e] c.env) = (false, eval e c.env) :: backTo pos (starEach [] c.env) := starEach_cons hn
  refine callWith_kw ?_ e1 (by rw [e1]; rfl) rfl rfl
  rw [e1]
  refine Calls.spliced_cons (he c O X ad ρ s I _ _ (T.holds_mono (fun d hd v s₁ x₁ r => ?_) _ h))
  refine Calls.spliced_nil ?_
  have I₁ := I.nxt O x₁
  unfold srtLenP at hd
  split at hd
  rotate_left
  · exact hd.elim
  rename_i l
  obtain ⟨hb, hd⟩ := T.holds_chk hd
  simp only [Bool.and_eq_true, decide_eq_true_eq] at hb
  refine kws_cons (wp_lambda O I₁ LI hl hc hfree fun f c' pm ctv s₂ x₂ hf0 hf hrec => kws_nil ?_)
  have I₂ := I₁.nxt O x₂
  obtain ⟨a, vs, rfl, haX, hlst, rs⟩ := I₁.rp O x₂ r
  show wpAny _ _ (call (.builtin "sorted") [.ref a] [(("key" : Str), .ref f)]) _ _ _
  have hg : s₂.heap.Ns mainGlobals c.mg := by have := I₂.mgNs O; rw [O.glob] at this; exact this
  have hbn : s₂.heap.Ns builtinsNs c.mb := by have := I₂.mbNs O; rw [O.blt] at this; exact this
  have hlim : s₂.heap.NoLimit := O.th.nolimit.at fun o e => I₂.wf.stays _ o e
  have other : ∀ {L L' : Addr} {m' : Str → Option Value} {h : Heap}, s₂.heap.Ns L' m' → L' ≠ L → (∀ b o, b ≠ L → s₂.heap.get? b = some o → h.get? b = some o) → h.Ns L' m' := fun hn hne k => Heap.Ns.at' hn fun o e => k _ o hne e
  have r1 := sort_run O I₂ hg (fun h hL k => ⟨hL, other hbn (by decide) k, hlim.at fun o e => k _ o (by decide) e⟩) hsc hf hrec hlst rs hb.1 hb.2
  have r2 := sort_run O I₂ hbn (fun h hL k => ⟨other hg (by decide) k, hL, hlim.at fun o e => k _ o (by decide) e⟩) hsc hf hrec hlst rs hb.1 hb.2
  refine wpAny_mono (wpAny_and r1 r2) (fun v s₃ hh => ?_) fun _ _ hh => hh.1.elim
  obtain ⟨⟨D, h', tk, out, k, rfl, rfl, k1, hD, hD1, hko⟩, ⟨D', h'', tk', out', k', e1, e2, k2, hD', hD2, _⟩⟩ := hh
  cases e1
  have eh : h' = h'' := congrArg Shared.heap e2
  subst eh
  have keep : ∀ b o, s₂.heap.get? b = some o → h'.get? b = some o := fun b o e => by
    by_cases q : b = mainGlobals
    · exact k2 b o (by rw [q]; decide) e
    · exact k1 b o q e
  have x₃ : Nxt c.H c.F s₂ { s₂ with heap := h', toks := tk } := ⟨.keep I₂.wf.stays I₂.wf.tabs keep, rfl, rfl⟩
  have hDn : s₂.heap.get? D = none := by
    by_cases q : D = mainGlobals
    · exact hD2 (by rw [q]; decide)
    · exact hD1 q
  obtain ⟨ps, hp, ho, hw⟩ := hko
  have hzip : (l.map fun d => (lenOf d : Int)).zip vs = (l.zip vs).map fun z => ((lenOf z.1 : Int), z.2) := by
    rw [List.zip_map_left]; rfl
  rw [hzip] at hp
  obtain ⟨zs, hzs, rfl⟩ := perm_lift hp _ rfl
  have hfst : (l.zip vs).map Prod.fst = l := zip_keys _ _ rs.length.symm
  have hmem : ∀ z ∈ zs, Rp c.w X s₂.heap z.1 z.2 := fun z hz => by
    have hm := hzs.mem_iff.mp hz
    have : ∀ {ds : List PV} {us : List Value}, Rps c.w X s₂.heap ds us → ∀ z ∈ ds.zip us, Rp c.w X s₂.heap z.1 z.2 := by
      intro ds
      induction ds with
      | nil => intro us _ z hz; simp at hz
      | cons d ds ih =>
        intro us hr z hz
        obtain ⟨v, r, rfl, h1, h2⟩ := hr
        rcases List.mem_cons.mp hz with rfl | hz
        · exact h1
        · exact ih h2 z hz
    exact this rs z hm
  have rs' := I₂.rps O x₃ (rps_of zs hmem)
  refine hd (.list (zs.map Prod.fst)) ⟨_, rfl, hfst ▸ hzs.map Prod.fst, ?_⟩ _ _ ((x₁.trans x₂).trans x₃) ⟨D, zs.map Prod.snd, rfl, fun q => ?_, ⟨k, ?_⟩, rs'⟩
  · rw [List.pairwise_map] at hw ⊢
    exact hw.imp fun h => by simpa using h
  · obtain ⟨o, e⟩ := I₂.ex D q; rw [hDn] at e; cases e
  · have : out = (zs.map Prod.snd).toArray := by
      apply Array.toList_inj.mp
      rw [ho, List.map_map]; rfl
    rw [← this]; exact hD
theorem sndIA_sortLen (hz : sc.names.lookup ("least" : Str) = some .local) {f0 : Str} {p0 kp pos lp : Pos} {e : Expr} {t : Rho → T PV} {ap gp zp cp : Pos} {scope : Scope}
    (hf0 : f0 = ("sorted" : Str)) (hk : sc.names.lookup f0 = some .globalImplicit) (hn : noStar e = true) (hsc : lenScope scope = true) (hl : lp.line = 257) (hc : lp.col = 32) (he : SndE sc n e t) :
    SndIA sc n (.Call (.Name f0 p0) [e] [⟨some ("key" : Str), .Lambda (oneArg' "line" ap) (.Call (.Name "len" gp) [.Name "line" zp] [] cp) scope lp, kp⟩] pos) fun ρ => (t ρ).bind fun d => (srtLenP d).bind itemsP := fun c O Ap X ad ρ s I Q E h => by
  refine wp_sortLen O Ap hz I hf0 hk hn hsc hl hc he (T.holds_mono (fun d hd => T.holds_mono (fun d' hd' v s₁ x₁ r => ?_) _ (T.holds_bind _ hd)) _ (T.holds_bind _ h))
  unfold itemsP at hd'
  have I₁ := I.nxt O x₁
  split at hd'
  · rename_i l
    obtain ⟨hz, hd'⟩ := T.holds_chk hd'
    obtain ⟨a, vs, rfl, ha, ⟨k, hl⟩, r1⟩ := r
    have hi : s₁.heap.IsList a vs.toArray := ⟨_, hl, rfl, _, rfl⟩
    have hne : a ≠ s₁.heap.objs.size := fun q => by rw [q, fresh_size (Nat.le_refl _)] at hl; cases hl
    have x₂ := I₁.push { cls := .type "list_iterator", dict := none, data := .fields #[.ref a, .int 0 0], slots := #[] } s₁.toks
    refine wpAny_pyIter_list hi (hd' _ _ [a] (vs.zip l) _ _ (x₁.trans x₂) (src_list c I.wf.handled hne r1.length) ⟨⟨_, Heap.get?_push_size _ rfl, rfl, rfl⟩, hi.push _⟩ (zip_rp (I₁.rps O x₂ r1)) (fresh_before I x₁) ?_ ?_)
    · simpa using fun q => hne q.symm
    · intro b hb; rw [List.mem_singleton.mp hb]; exact ha
  · rename_i x
    obtain ⟨hz, hd'⟩ := T.holds_chk hd'
    obtain ⟨u, rfl⟩ := r
    have hlen : (signs x).length = x.cps.size := by simp [signs]
    cases ha : x.cps.all (· < 128)
    · refine wpAny_pyIter_wide ha (hd' _ _ [] [] (SignAt x) (fun i h => h.IsStrIter s₁.heap.objs.size "str_iterator" x u i) (x₁.trans (I₁.push _ _)) ⟨by rw [hlen]; exact Walks.strWide I.wf.handled _ x u, fun i v d hv hd => .inr (sign_at hv hd), fun i h st => iter_str (.inl rfl) st, fun _ _ _ _ hb => (nomatch hb)⟩ ⟨_, Heap.get?_push_size _ rfl, rfl, rfl⟩ (fun _ hg => (nomatch hg)) (fresh_before I x₁) (by simp) fun _ hb => (nomatch hb))
    · refine wpAny_pyIter_ascii ha (hd' _ _ [] [] (SignAt x) (fun i h => h.IsStrIter s₁.heap.objs.size "str_ascii_iterator" x u i) (x₁.trans (I₁.push _ _)) ⟨by rw [hlen]; exact Walks.strAscii I.wf.handled _ x u, fun i v d hv hd => .inr (sign_at hv hd), fun i h st => iter_str (.inr rfl) st, fun _ _ _ _ hb => (nomatch hb)⟩ ⟨_, Heap.get?_push_size _ rfl, rfl, rfl⟩ (fun _ hg => (nomatch hg)) (fresh_before I x₁) (by simp) fun _ hb => (nomatch hb))
  · exact hd'.elim
end
end Mine
namespace Mine
noncomputable def Y3 (n : Nat) (F : FS n) (X : Extra n) (W : Nat) : ExtraX n := fun sc st => match st with
  | .For (.Name x px) (.Call (.Name f0 p0) [e] [⟨some kw, .Lambda ⟨[], [⟨y, none, ap⟩], none, [], [], none, []⟩ (.Call (.Name g gp) [.Name z zp] [] cp) scope lp, kp⟩] pos) body [] spos =>
    if h : (isVar sc x = true ∧ kw = ("key" : Str) ∧ y = ("line" : Str) ∧ g = ("len" : Str) ∧ z = ("line" : Str)) ∧ (sc.names.lookup ("least" : Str) = some .local) ∧ f0 = ("sorted" : Str) ∧ isGlob sc f0 = true ∧ noStar e = true ∧ lenScope scope = true ∧ lp.line = 257 ∧ lp.col = 32 then
      some ⟨fun ρ => (((rd F X 20 sc e).ex.1 ρ).bind fun d => (srtLenP d).bind itemsP).bind fun ds => forT (rdS (rdX F X (Y2 n F X) W 20 sc) body).1 x ds ρ, by
        obtain ⟨⟨h1, rfl, rfl, rfl, rfl⟩, h2, h3, h4, h5, h6, h7, h8⟩ := h
        exact sndX_ForA h1 rfl (sndIA_sortLen h2 h3 (isGlob_is h4) h5 h6 h7 h8 (rd F X 20 sc e).ex.2) (rdS (rdX F X (Y2 n F X) W 20 sc) body).2⟩ else none
  | st => Y2 n F X sc st
theorem forT_holds {body : Rho → T (Rho × Fl)} {x : Str} {P : Rho × Fl → Prop} (I : Nat → Rho → Prop) : ∀ (ds : List PV) (i : Nat) (ρ : Rho),
    (∀ j d ρ, ds[j]? = some d → I (i + j) ρ → (body (setE ρ x (.val d))).Holds fun r => match r.2 with | .next => I (i + j + 1) r.1 | .brk => P (r.1, .next) | .ret d => P (r.1, .ret d)) →
    (∀ ρ, I (i + ds.length) ρ → P (ρ, .next)) → I i ρ → (forT body x ds ρ).Holds P
  | [], i, ρ, _, done, h => done ρ h
  | d :: ds, i, ρ, step, done, h => by
    unfold forT
    refine T.bind_holds _ (T.holds_mono (fun r hr => ?_) _ (step 0 d ρ rfl h))
    obtain ⟨ρ', f⟩ := r
    cases f with
    | next => exact forT_holds I ds (i + 1) ρ' (fun j d ρ hj hI => by
        have := step (j + 1) d ρ (by simpa using hj) (by rw [show i + (j + 1) = i + 1 + j by omega]; exact hI)
        rw [show i + (j + 1) + 1 = i + 1 + j + 1 by omega] at this
        exact this) (fun ρ hI => done ρ (by rw [show i + (d :: ds).length = i + 1 + ds.length by simp; omega]; exact hI)) hr
    | brk => exact hr
    | ret d => exact hr
theorem compT_holds {tt : Rho → T Bool} {te : Rho → T PV} {ρ : Rho} {x : Str} {t : PV → Bool} {g : PV → PV} {P : List PV → Prop} : ∀ (ds acc : List PV), (∀ d ∈ ds, ∀ P : Bool → Prop, P (t d) → (tt (setE ρ x (.val d))).Holds P) → (∀ d ∈ ds, t d = true → ∀ P : PV → Prop, P (g d) → (te (setE ρ x (.val d))).Holds P) →
    P (acc ++ (ds.filter t).map g) → (compT tt te ρ x ds acc).Holds P
  | [], acc, _, _, h => by
    have h' : P acc := by simpa using h
    exact h'
  | d :: ds, acc, h1, h2, h => by
    unfold compT
    refine T.bind_holds _ (h1 d (.head _) _ ?_)
    have r1 : ∀ e ∈ ds, ∀ P : Bool → Prop, P (t e) → (tt (setE ρ x (.val e))).Holds P := fun e he => h1 e (.tail _ he)
    have r2 : ∀ e ∈ ds, t e = true → ∀ P : PV → Prop, P (g e) → (te (setE ρ x (.val e))).Holds P := fun e he => h2 e (.tail _ he)
    simp only [T.Holds]
    cases ht : t d with
    | true =>
      rw [if_pos rfl]
      refine T.bind_holds _ (h2 d (.head _) ht _ (compT_holds ds _ r1 r2 ?_))
      rw [List.filter_cons_of_pos ht] at h
      simpa using h
    | false =>
      rw [if_neg (by decide)]
      refine compT_holds ds _ r1 r2 ?_
      rw [List.filter_cons_of_neg (by simp [ht])] at h
      exact h
noncomputable def rowP (r : List Str) : PV := .list (r.map .str)
theorem rowP_inj {r k : List Str} (h : rowP r = rowP k) : r = k := str_inj _ _ (PV.list.inj h)
noncomputable def OkRow (r : List Str) : Prop := r.Nodup ∧ r.length ≤ 100 ∧ ∀ x ∈ r, PyData.strOk x = true
theorem fine_row {r : List Str} (h : ∀ x ∈ r, PyData.strOk x = true) : Fine (rowP r) := .list h
theorem fine_strs {r : List Str} (h : ∀ x ∈ r, PyData.strOk x = true) : ∀ d ∈ r.map PV.str, Fine d := fun d hd => by
  obtain ⟨x, hx, rfl⟩ := List.mem_map.mp hd; exact .str (h x hx)
theorem nodup_sub_len {α : Type} [DecidableEq α] : ∀ {r k : List α}, r.Nodup → r ⊆ k → r.length ≤ k.length
  | [], _, _, _ => Nat.zero_le _
  | x :: r, k, nd, h => by
    rw [List.nodup_cons] at nd
    have hx : x ∈ k := h (.head _)
    have := nodup_sub_len (r := r) (k := k.erase x) nd.2 (fun y hy => (List.mem_erase_of_ne (fun q : y = x => nd.1 (by rw [← q]; exact hy))).mpr (h (.tail _ hy)))
    rw [List.length_erase_of_mem hx] at this
    have hp := List.length_pos_of_mem hx
    simp only [List.length_cons]
    omega
theorem sub_of_len {α : Type} [DecidableEq α] {r k : List α} (nd : r.Nodup) (h : r ⊆ k) (hl : k.length ≤ r.length) : k ⊆ r := fun x hx => by
  by_cases q : x ∈ r
  · exact q
  · have := nodup_sub_len (r := x :: r) (k := k) (List.nodup_cons.mpr ⟨q, nd⟩) (fun y hy => (List.mem_cons.mp hy).elim (fun e => by rw [e]; exact hx) fun e => h e)
    simp only [List.length_cons] at this
    omega
structure LeastOf (R L : List (List Str)) : Prop where
  sub : ∀ r ∈ L, r ∈ R
  cov : ∀ r ∈ R, ∃ k ∈ L, k ⊆ r
  anti : L.Pairwise fun a b => ¬ a ⊆ b ∧ ¬ b ⊆ a
theorem toDs_bools : ∀ l : List Bool, toDs (l.map .bool) = some (l.map .bool)
  | [] => rfl
  | x :: l => by simp only [List.map_cons, toDs, toD, toDs_bools l]
theorem canLay_bools : ∀ l : List Bool, PyData.canLayAll0 (l.map .bool) = true
  | [] => rfl
  | x :: l => by simp only [List.map_cons, PyData.canLayAll0, PyData.canLay0, canLay_bools l, Bool.and_self]
theorem depth_bools : ∀ l : List Bool, PyData.depthAll (l.map .bool) ≤ 1
  | [] => by simp [PyData.depthAll]
  | x :: l => by
    have := depth_bools l
    simp only [List.map_cons, PyData.depthAll, PyData.depth]
    omega
theorem inP_bools (b : Bool) (l : List Bool) : inP (.bool b) (l.map .bool) = .chk true (.ret (l.contains b)) := by
  have hd := depth_bools l
  have hm : decide (min (PyData.depthAll (l.map .bool)) (PyData.depth (.bool b)) ≤ 30) = true := decide_eq_true (by omega)
  unfold inP
  rw [toDs_bools]
  simp only [toD, T.ofOpt, T.bind, canLay_bools, PyData.canLay0, hm, Bool.and_self, List.any_map]
  congr 2
  induction l with
  | nil => rfl
  | cons x l ih =>
    simp only [List.any_cons, List.contains_cons, Function.comp]
    congr 1
    · simp [PyData.eqv, Bool.beq_comm]
    · exact ih (depth_bools l) (decide_eq_true (by have := depth_bools l; omega))
noncomputable def F4 (n : Nat) : FS (n + 2) := ⟨[("_compare_args_orderless", cmpS)], fun p hp => by
  simp only [List.mem_cons, List.mem_nil_iff, or_false] at hp
  rcases hp with rfl
  exact con_cmp n⟩
noncomputable abbrev Yl (n : Nat) : ExtraX (n + 2) := Y3 (n + 2) (F4 n) (X2 (n + 2) (F4 n)) 0
section
variable (n : Nat) (R : PV) (r : PV) (l : List PV)
noncomputable def lsA : Rho := [("row", .val r), ("least", .own l), ("rows", .val R)]
noncomputable def lsB : Rho := [("least", .own l), ("row", .val r), ("rows", .val R)]
noncomputable def ls0 : Rho := [("least", .own l), ("rows", .val R)]
noncomputable def lsParts : Option (Expr × Scope) := match ((forBody (bodyAt 36)[1]?)[0]? : Option PySem.Stmt) with
  | some (.If (.Compare _ _ [.ListComp e _ s _] _) _ _ _) => some (e, s)
  | _ => none
noncomputable def lsElt : Expr := match lsParts with | some (e, _) => e | none => .Name "" default
noncomputable def lsSc : Scope := match lsParts with | some (_, s) => s | none => scAt 36
noncomputable def lsE (n : Nat) : Rho → T PV := (rd (F4 n) (X2 (n + 2) (F4 n)) 18 (relab lsSc (scAt 36)) lsElt).ex.1
noncomputable def lsBody (n : Nat) : Rho → T (Rho × Fl) := (rdS (rdX (F4 n) (X2 (n + 2) (F4 n)) (Y2 (n + 2) (F4 n) (X2 (n + 2) (F4 n))) 0 20 (scAt 36)) (forBody (bodyAt 36)[1]?)).1
theorem ls_st0 : rdSt (F4 n) (Yl n) 0 36 0 [("rows", .val R)] = .chk true (.ret (ls0 R [], .next)) := by kernel_rfl
theorem ls_st1 (m : List PV) : rdSt (F4 n) (Yl n) 0 36 1 (ls0 (.list m) l) = ((srtLenP (.list m)).bind itemsP).bind fun ds => forT (lsBody n) "row" ds (ls0 (.list m) l) := by kernel_rfl
theorem ls_set0 (d : PV) : setE (ls0 R l) "row" (.val d) = lsA R d l := by kernel_rfl
theorem ls_setA (d : PV) : setE (lsA R r l) "row" (.val d) = lsA R d l := by kernel_rfl
theorem ls_setB (d : PV) : setE (lsB R r l) "row" (.val d) = lsA R d l := by kernel_rfl
theorem ls_ret0 : rdRe (F4 n) (Yl n) 0 36 2 (ls0 R l) = .ret (frz (ls0 R l) "least", .ret (.list l)) := by kernel_rfl
theorem ls_retA : rdRe (F4 n) (Yl n) 0 36 2 (lsA R r l) = .ret (frz (lsA R r l) "least", .ret (.list l)) := by kernel_rfl
theorem ls_retB : rdRe (F4 n) (Yl n) 0 36 2 (lsB R r l) = .ret (frz (lsB R r l) "least", .ret (.list l)) := by kernel_rfl
theorem ls_elt (m o : List PV) : lsE n (setE [("row", .val (.list m))] "other" (.val (.list o))) = (.chk (decide (m.length + o.length ≤ sizeLine)) (.ret (.list (m ++ o))) : T PV).bind fun d => cmpS [.list m, d] := by kernel_rfl
theorem ls_body : lsBody n (lsA R r l) = seqT (fun ρ => ((((T.chk (decide (l.length ≤ sizeLine)) (.ret l) : T (List PV)).bind fun ds => T.chk (decide (ds.length ≤ sizeLine)) (compT (fun _ => .ret true) (lsE n) [("row", .val r)] "other" ds [])).bind fun rs => (.ret (.list rs) : T PV)).bind fun b => (cmpP .NotIn (.bool true) b).bind truP).bind fun c => .ite c (.chk (decide (l.length ≤ sizeLine)) (.ret (lsB R r (l ++ [r]), .next))) (.ret (ρ, .next))) (fun ρ => .ret (ρ, .next)) (lsA R r l) := by kernel_rfl
end
end Mine
namespace Mine
theorem mem_rowP {x : Str} {r : List Str} : PV.str x ∈ r.map PV.str ↔ x ∈ r := by simp
theorem same_row {r o : List Str} : (∀ d, d ∈ r.map PV.str ↔ d ∈ (r ++ o).map PV.str) ↔ o ⊆ r := by
  constructor
  · intro h x hx
    exact mem_rowP.mp ((h (.str x)).mpr (mem_rowP.mpr (List.mem_append_right _ hx)))
  · intro h d
    constructor
    · intro hd; rw [List.map_append]; exact List.mem_append_left _ hd
    · intro hd
      obtain ⟨x, hx, rfl⟩ := List.mem_map.mp hd
      exact mem_rowP.mpr ((List.mem_append.mp hx).elim id fun q => h q)
open Classical in
theorem ls_comp {n : Nat} {r : List Str} (hr : OkRow r) {L : List (List Str)} (hL : ∀ k ∈ L, OkRow k) {P : List PV → Prop} (h : P (L.map fun k => .bool (decide (k ⊆ r)))) :
    (compT (fun _ => .ret true) (lsE n) [("row", .val (rowP r))] "other" (L.map rowP) []).Holds P := by
  refine compT_holds (t := fun _ => true) (g := fun d => match d with | .list o => .bool (decide (∀ e ∈ o, e ∈ r.map PV.str)) | _ => .none) _ [] (fun _ _ _ h => h) (fun d hd _ P hP => ?_) ?_
  · obtain ⟨k, hk, rfl⟩ := List.mem_map.mp hd
    show T.Holds P (lsE n (setE [("row", .val (.list (r.map .str)))] "other" (.val (.list (k.map .str)))))
    rw [ls_elt]
    have hk' := hL k hk
    have l1 : (r.map PV.str).length + (k.map PV.str).length ≤ sizeLine := by
      simp only [List.length_map]; have := hr.2.1; have := hk'.2.1; show _ ≤ 2 ^ 24; omega
    refine T.chk_holds (decide_eq_true l1) ?_
    show T.Holds P (cmpS [.list (r.map .str), .list (r.map .str ++ k.map .str)])
    have e : cmpS [.list (r.map PV.str), .list (r.map PV.str ++ k.map PV.str)] = .ret (.bool (@decide (∀ d, d ∈ r.map PV.str ↔ d ∈ r.map PV.str ++ k.map PV.str) (Classical.propDecidable _))) := by
      unfold cmpS
      exact if_pos ⟨⟨fine_strs hr.2.2, by omega⟩, fun d hd => (List.mem_append.mp hd).elim (fine_strs hr.2.2 d) (fine_strs hk'.2.2 d), by rw [List.length_append]; exact l1⟩
    rw [e]
    show P (.bool _)
    have e2 : @decide (∀ d, d ∈ r.map PV.str ↔ d ∈ r.map PV.str ++ k.map PV.str) (Classical.propDecidable _) = decide (∀ e ∈ k.map PV.str, e ∈ r.map PV.str) := by
      refine decide_eq_decide.mpr ?_
      rw [← List.map_append, same_row]
      simp only [List.mem_map, forall_exists_index, and_imp, forall_apply_eq_imp_iff₂, PV.str.injEq, exists_eq_right]
      rfl
    rw [e2]; exact hP
  · have e : ((L.map rowP).filter fun _ => true) = L.map rowP := by simp
    rw [e, List.map_map]
    have e2 : (fun k : List Str => PV.bool (decide (k ⊆ r))) = ((fun d : PV => match d with | .list o => PV.bool (decide (∀ e ∈ o, e ∈ r.map PV.str)) | _ => .none) ∘ rowP) := by
      funext k
      simp only [Function.comp, rowP]
      congr 1
      refine decide_eq_decide.mpr ?_
      simp only [List.mem_map, forall_exists_index, and_imp, forall_apply_eq_imp_iff₂, PV.str.injEq, exists_eq_right]
      rfl
    rw [← e2]
    exact h
theorem ls_step {n : Nat} {R : PV} {r : List Str} (hr : OkRow r) {L : List (List Str)} (hL : ∀ k ∈ L, OkRow k) (h64 : L.length ≤ 64) {Q : Rho × Fl → Prop} (hit : (∃ k ∈ L, k ⊆ r) → Q (lsA R (rowP r) (L.map rowP), .next)) (miss : (¬ ∃ k ∈ L, k ⊆ r) → Q (lsB R (rowP r) ((L ++ [r]).map rowP), .next)) :
    (lsBody n (lsA R (rowP r) (L.map rowP))).Holds Q := by
  have hl : (L.map rowP).length ≤ sizeLine := by rw [List.length_map]; show _ ≤ 2 ^ 24; omega
  rw [ls_body]
  unfold seqT
  refine T.bind_holds _ (T.bind_holds _ (T.bind_holds _ (T.bind_holds _ (T.bind_holds _ (T.chk_holds (decide_eq_true hl) (T.chk_holds (decide_eq_true hl) (ls_comp hr hL ?_)))))))
  show T.Holds _ (T.bind (cmpP .NotIn (.bool true) (.list (L.map fun k => PV.bool (decide (k ⊆ r))))) truP)
  have e : cmpP .NotIn (.bool true) (.list (L.map fun k => PV.bool (decide (k ⊆ r)))) = .chk true (.ret (.bool (!(L.map fun k => decide (k ⊆ r)).contains true))) := by
    show (inP (.bool true) (L.map fun k => PV.bool (decide (k ⊆ r)))).bind (fun r => T.ret (PV.bool (!r))) = _
    have e2 : (L.map fun k => PV.bool (decide (k ⊆ r))) = (L.map fun k => decide (k ⊆ r)).map PV.bool := by rw [List.map_map]; rfl
    rw [e2, inP_bools]; rfl
  rw [e]
  refine T.bind_holds _ (T.chk_holds rfl ?_)
  by_cases q : ∃ k ∈ L, k ⊆ r
  · have : (L.map fun k => decide (k ⊆ r)).contains true = true := by
      obtain ⟨k, hk, hs⟩ := q
      rw [List.contains_iff_mem]
      exact List.mem_map.mpr ⟨k, hk, decide_eq_true hs⟩
    rw [this]
    exact hit q
  · have : (L.map fun k => decide (k ⊆ r)).contains true = false := by
      cases hb : (L.map fun k => decide (k ⊆ r)).contains true with
      | false => rfl
      | true =>
        obtain ⟨k, hk, hs⟩ := List.mem_map.mp (List.contains_iff_mem.mp hb)
        exact absurd ⟨k, hk, of_decide_eq_true hs⟩ q
    rw [this]
    have hm := miss q
    rw [List.map_append] at hm
    show T.Holds _ (T.chk _ _)
    exact T.chk_holds (decide_eq_true hl) hm
theorem least_snoc {S L : List (List Str)} {r : List Str} {i : Nat} (hi : S[i]? = some r) (hs : S.Pairwise fun a b => a.length ≤ b.length) (hr : r.Nodup) (h : LeastOf (S.take i) L) (q : ¬ ∃ k ∈ L, k ⊆ r) : LeastOf (S.take (i + 1)) (L ++ [r]) := by
  have ht : S.take (i + 1) = S.take i ++ [r] := by rw [List.take_add_one, hi]; rfl
  rw [ht]
  refine ⟨fun k hk => ?_, fun k hk => ?_, List.pairwise_append.mpr ⟨h.anti, by simp, fun k hk r' hr' => ?_⟩⟩
  · rcases List.mem_append.mp hk with hk | hk
    · exact List.mem_append_left _ (h.sub k hk)
    · exact List.mem_append_right _ hk
  · rcases List.mem_append.mp hk with hk | hk
    · obtain ⟨m, hm, hs⟩ := h.cov k hk; exact ⟨m, List.mem_append_left _ hm, hs⟩
    · exact ⟨k, List.mem_append_right _ hk, fun _ h => h⟩
  · rw [List.mem_singleton.mp hr']
    refine ⟨fun hs => q ⟨k, hk, hs⟩, fun hrk => q ⟨k, hk, sub_of_len hr hrk ?_⟩⟩
    obtain ⟨j, hj, e⟩ := List.getElem_of_mem (h.sub k hk)
    have hi' := (List.getElem?_eq_some_iff.mp hi)
    obtain ⟨hi1, hi2⟩ := hi'
    have hj' : j < i := by rw [List.length_take] at hj; omega
    have := List.pairwise_iff_getElem.mp hs j i (by omega) hi1 hj'
    rw [List.getElem_take] at e
    rw [e, hi2] at this
    exact this
theorem least_same {S L : List (List Str)} {r : List Str} {i : Nat} (hi : S[i]? = some r) (h : LeastOf (S.take i) L) (q : ∃ k ∈ L, k ⊆ r) : LeastOf (S.take (i + 1)) L := by
  have ht : S.take (i + 1) = S.take i ++ [r] := by rw [List.take_add_one, hi]; rfl
  rw [ht]
  refine ⟨fun k hk => List.mem_append_left _ (h.sub k hk), fun k hk => ?_, h.anti⟩
  rcases List.mem_append.mp hk with hk | hk
  · exact h.cov k hk
  · rw [List.mem_singleton.mp hk]; exact q
theorem ls_loop {n : Nat} {R : PV} {S : List (List Str)} (hS : ∀ r ∈ S, OkRow r) (hs : S.Pairwise fun a b => a.length ≤ b.length) (h64 : S.length < 64) {P : PV → Prop} (h : ∀ L, LeastOf S L → P (.list (L.map rowP))) :
    (forT (lsBody n) "row" (S.map rowP) (ls0 R [])).Holds (After (rdRe (F4 n) (Yl n) 0 36 2) P) := by
  refine forT_holds (fun i ρ => ∃ L, LeastOf (S.take i) L ∧ (∀ d, setE ρ "row" (.val d) = lsA R d (L.map rowP)) ∧ rdRe (F4 n) (Yl n) 0 36 2 ρ = .ret (frz ρ "least", .ret (.list (L.map rowP)))) (S.map rowP) 0 (ls0 R []) (fun j d ρ hj hI => ?_) (fun ρ hI => ?_) ⟨[], ⟨fun _ h => (nomatch h), fun _ h => (by simp at h), .nil⟩, fun d => ls_set0 R [] d, ls_ret0 n R []⟩
  · obtain ⟨L, hL, h1, h2⟩ := hI
    simp only [Nat.zero_add] at hL ⊢
    rw [List.getElem?_map, Option.map_eq_some_iff] at hj
    obtain ⟨r, hr, rfl⟩ := hj
    have okr := hS r (List.mem_of_getElem? hr)
    have okL : ∀ k ∈ L, OkRow k := fun k hk => hS k (List.mem_of_mem_take (hL.sub k hk))
    have hlen : L.length ≤ 64 := by
      have : L.Nodup := hL.anti.imp fun h q => h.1 (by rw [q]; exact fun _ h => h)
      have := nodup_sub_len this fun k hk => hL.sub k hk
      rw [List.length_take] at this
      omega
    rw [h1]
    refine ls_step okr okL hlen (fun q => ?_) (fun q => ?_)
    · exact ⟨L, least_same hr hL q, fun d => ls_setA R (rowP r) (L.map rowP) d, ls_retA n R (rowP r) (L.map rowP)⟩
    · exact ⟨L ++ [r], least_snoc hr hs okr.1 hL q, fun d => ls_setB R (rowP r) _ d, ls_retB n R (rowP r) _⟩
  · obtain ⟨L, hL, h1, h2⟩ := hI
    have ht : S.take (0 + (S.map rowP).length) = S := by simp
    rw [ht] at hL
    show ((rdRe (F4 n) (Yl n) 0 36 2 ρ).bind retT).Holds P
    rw [h2]
    exact h L hL
open Classical in
noncomputable def leastS : List PV → T PV
  | [.list rows] => if (∃ R : List (List Str), rows = R.map rowP ∧ R.length < 64 ∧ ∀ r ∈ R, OkRow r) then .any (fun d => ∃ R L, rows = R.map rowP ∧ d = .list (L.map rowP) ∧ LeastOf R L) .ret else .fail
  | _ => .fail
theorem LeastOf.perm {R S L : List (List Str)} (h : LeastOf S L) (p : S.Perm R) : LeastOf R L := ⟨fun r hr => p.mem_iff.mp (h.sub r hr), fun r hr => h.cov r (p.mem_iff.mpr hr), h.anti⟩
theorem con_least (n : Nat) : Con "_law_least" (n + 4) leastS := by
  refine (con_read (k := 16) (n := n + 2) (F := F4 n) (Y := Yl n) (W := 0) (ps := ["rows"]) rfl rfl (by refine ⟨?_, ?_, ?_, ?_, ?_, ?_, ?_, ?_, ?_, ?_⟩ <;> kernel_rfl) (by decide +kernel) (by kernel_rfl) ?_).as ?_
  · intro pm vs h
    obtain ⟨v, rfl⟩ := one_of h
    kernel_rfl
  · intro ds P h
    unfold leastS at h
    split at h
    · rename_i rows
      split at h
      · rename_i hh
        obtain ⟨R, rfl, h64, hR⟩ := hh
        refine call_holds rfl ?_
        refine re_holds (by decide +kernel) ?_
        show T.Holds _ (rdSt (F4 n) (Yl n) 0 36 0 [("rows", .val (.list (R.map rowP)))])
        rw [ls_st0]
        refine T.chk_holds rfl ?_
        show After _ P (ls0 (.list (R.map rowP)) [], Fl.next)
        refine re_holds (by decide +kernel) ?_
        rw [ls_st1]
        have hall : (R.map rowP).all isL = true := by
          rw [List.all_eq_true]
          intro d hd
          obtain ⟨r, hr, rfl⟩ := List.mem_map.mp hd
          have := (hR r hr).2.1
          show decide ((r.map PV.str).length ≤ sizeLine) = true
          rw [List.length_map]
          exact decide_eq_true (Nat.le_trans this (by decide))
        refine T.bind_holds _ (T.bind_holds _ (T.chk_holds (by rw [hall, List.length_map, decide_eq_true h64]; rfl) ?_))
        rintro d ⟨l', rfl, hp, hw⟩
        obtain ⟨S, hSR, rfl⟩ := perm_lift hp R rfl
        have hlen : (S.map rowP).length ≤ sizeLine := by rw [List.length_map, hSR.length_eq]; exact Nat.le_trans (Nat.le_of_lt h64) (by decide)
        refine T.chk_holds (decide_eq_true hlen) ?_
        refine ls_loop (fun r hr => hR r (hSR.mem_iff.mp hr)) ?_ (by rw [hSR.length_eq]; exact h64) fun L hL => h _ ⟨R, L, rfl, rfl, hL.perm hSR⟩
        rw [List.pairwise_map] at hw
        exact hw.imp fun h => by simpa [rowP, lenOf] using h
      · exact h.elim
    · exact h.elim
end Mine
namespace Mine
noncomputable abbrev Has (ρ : Rho) (x : Str) (e : Ent) : Prop := findE ρ x = some e
theorem findE_filter {f : Str × Ent → Bool} {x : Str} {e : Ent} : ∀ {ρ : Rho}, findE ρ x = some e → f (x, e) = true → findE (ρ.filter f) x = some e
  | [], h, _ => by simp [findE] at h
  | (y, e') :: r, h, hf => by
    simp only [findE] at h
    by_cases q : (y == x) = true
    · rw [if_pos q] at h
      cases h
      have hy : y = x := by simpa using q
      subst hy
      rw [List.filter_cons_of_pos hf]
      simp [findE]
    · rw [if_neg q] at h
      have ih := findE_filter h hf
      by_cases hb : f (y, e') = true
      · rw [List.filter_cons_of_pos hb]
        simp only [findE]
        rw [if_neg q]; exact ih
      · rw [List.filter_cons_of_neg hb]; exact ih
theorem Has.set {ρ : Rho} {x : Str} {e : Ent} : Has (setE ρ x e) x e := by simp [Has, setE, findE]
theorem Has.set_ne {ρ : Rho} {x y : Str} {e e' : Ent} (h : Has ρ y e') (hn : (x == y) = false) (ha : isApp x e' = false) : Has (setE ρ x e) y e' := by
  show findE ((x, e) :: without ρ x) y = _
  simp only [findE]
  rw [if_neg (by rw [hn]; decide)]
  refine findE_filter h ?_
  have : (y == x) = false := by
    cases q : (y == x) with
    | false => rfl
    | true => have : y = x := by simpa using q
              subst this; simp at hn
  simp only [bne, this, ha, Bool.not_false, Bool.and_self]
theorem Has.upd {ρ : Rho} {x : Str} {e : Ent} : Has (updE ρ x e) x e := by simp [Has, updE, findE]
theorem Has.upd_ne {ρ : Rho} {x y : Str} {e e' : Ent} (h : Has ρ y e') (hn : (x == y) = false) : Has (updE ρ x e) y e' := by
  show findE ((x, e) :: ρ.filter fun p => p.1 != x) y = _
  simp only [findE]
  rw [if_neg (by rw [hn]; decide)]
  refine findE_filter h ?_
  have : (y == x) = false := by
    cases q : (y == x) with
    | false => rfl
    | true => have : y = x := by simpa using q
              subst this; simp at hn
  simp only [bne, this, Bool.not_false]
theorem Has.frz {ρ : Rho} {x : Str} {l : List PV} (h : Has ρ x (.own l)) : Has (frz ρ x) x (.val (.list l)) := by
  unfold Mine.frz; rw [h]; exact Has.set
theorem frz_val {ρ : Rho} {x : Str} {d : PV} (h : Has ρ x (.val d)) : frz ρ x = ρ := by
  unfold Mine.frz; rw [h]
theorem Has.frz_ne {ρ : Rho} {x y : Str} {e' : Ent} (h : Has ρ y e') (hn : (x == y) = false) (ha : isApp x e' = false) : Has (Mine.frz ρ x) y e' := by
  unfold Mine.frz
  split
  · exact h.set_ne hn ha
  · exact h
theorem Has.capt {scope sc : Scope} {ρ : Rho} {x : Str} {d : PV} (h : Has ρ x (.val d)) (hc : ((relab scope sc).names.lookup x == some .cell && sc.names.lookup x == some .cell) = true) : Has (capt scope sc ρ) x (.val d) := by
  refine findE_filter h ?_
  simp only [hc, isVal, Bool.and_self]
noncomputable def valE (ρ : Rho) (x : Str) : T PV := match findE ρ x with | some (.val d) => .ret d | _ => .fail
noncomputable def valB (ρ : Rho) (x : Str) : T PV := match findE ρ x with | some (.val d) => .ret d | some (.own l) => .ret (.list l) | _ => .fail
theorem valE_of {ρ : Rho} {x : Str} {d : PV} (h : Has ρ x (.val d)) : valE ρ x = .ret d := by unfold valE; rw [h]
theorem valB_of {ρ : Rho} {x : Str} {d : PV} (h : Has ρ x (.val d)) : valB ρ x = .ret d := by unfold valB; rw [h]
theorem valB_own {ρ : Rho} {x : Str} {l : List PV} (h : Has ρ x (.own l)) : valB ρ x = .ret (.list l) := by unfold valB; rw [h]
theorem inP_strs {x : Str} {w : List Str} (hx : PyData.strOk x = true) (hw : ∀ y ∈ w, PyData.strOk y = true) : inP (.str x) (w.map .str) = .chk true (.ret (decide (x ∈ w))) := by
  rw [inP_fine (.str hx) (fine_strs hw)]
  congr 2
  rw [Bool.eq_iff_iff, hasP_iff (.str hx) (fine_strs hw), decide_eq_true_iff]
  exact mem_rowP
noncomputable abbrev stop : Rho → T (Rho × Fl) := fun ρ => .ret (ρ, .next)
theorem seq_intro {t1 t2 : Rho → T (Rho × Fl)} {ρ : Rho} {Q : Rho × Fl → Prop} (h : (t1 ρ).Holds fun r => match r.2 with | .next => (t2 r.1).Holds Q | .brk => Q r | .ret d => Q r) : (seqT t1 t2 ρ).Holds Q := by
  refine T.bind_holds _ (T.holds_mono (fun r hr => ?_) _ h)
  obtain ⟨ρ', f⟩ := r
  cases f <;> exact hr
end Mine
namespace Mine
noncomputable def F5 (n : Nat) : FS (n + 3) := ⟨[("_law_least", leastS)], fun p hp => by
  simp only [List.mem_cons, List.mem_nil_iff, or_false] at hp
  rcases hp with rfl
  exact con_least n⟩
noncomputable abbrev Ym (n : Nat) : ExtraX (n + 3) := Y2 (n + 3) (F5 n) (X2 (n + 3) (F5 n))
noncomputable def compOf : Option PySem.Expr → Option (PySem.Expr × Scope × List PySem.Expr)
  | some (.ListComp e [⟨_, _, ifs, _⟩] s _) => some (e, s, ifs)
  | _ => none
noncomputable def mtC : List PySem.Stmt := forBody ((forBody (bodyAt 37)[1]?)[1]? : Option PySem.Stmt)
noncomputable def mtSc1 : Scope := match (mtC[0]? : Option PySem.Stmt) with | some (.Assign _ (.ListComp _ _ s _) _) => s | _ => scAt 37
noncomputable def mtSc2 : Scope := match (mtC[1]? : Option PySem.Stmt) with | some (.AugAssign _ _ (.IfExp _ _ (.ListComp _ _ s _) _) _) => s | _ => scAt 37
noncomputable def mtBody (n : Nat) : Rho → T (Rho × Fl) := (rdS (rdX (F5 n) (X2 (n + 3) (F5 n)) (Ym n) 0 19 (scAt 37)) (forBody (bodyAt 37)[1]?)).1
noncomputable def mtIn (n : Nat) : Rho → T (Rho × Fl) := (rdS (rdX (F5 n) (X2 (n + 3) (F5 n)) (Ym n) 0 18 (scAt 37)) mtC).1
noncomputable def mtC0 (ρ : Rho) : T (Rho × Fl) := (((valB ρ "row").bind itemsP).bind fun ds => T.chk (decide (ds.length ≤ sizeLine)) (compT (fun ρ => (valB ρ "spot").bind fun a => (valB ρ "way").bind fun b => (cmpP .In a b).bind truP) (fun ρ => valE ρ "spot") (capt mtSc1 (scAt 37) ρ) "spot" ds [])).bind fun rs => .ret (setE ρ "met" (.val (.list rs)), .next)
noncomputable def mtOne (ρ : Rho) : T PV := ((valE ρ "row").bind fun d => (.ret [d] : T (List PV))).bind fun ds => .chk (decide (ds.length ≤ sizeLine)) (.ret (.list ds))
noncomputable def mtElt (ρ : Rho) : T PV := (valB ρ "row").bind fun a => (((valE ρ "spot").bind fun d => (.ret [d] : T (List PV))).bind fun ds => .chk (decide (ds.length ≤ sizeLine)) (.ret (.list ds)) : T PV).bind fun b => binP .Add a b
noncomputable def mtAll (ρ : Rho) : T PV := (((valB ρ "way").bind itemsP).bind fun ds => T.chk (decide (ds.length ≤ sizeLine)) (compT (fun _ => .ret true) mtElt (capt mtSc2 (scAt 37) ρ) "spot" ds [])).bind fun rs => .ret (.list rs)
noncomputable def mtC1 (ρ : Rho) : T (Rho × Fl) := if ownsE ρ "grown" then (match findE ρ "grown" with
  | some (.own l) => (((valB ρ "met").bind truP).bind fun x => .ite x (mtOne ρ) (mtAll ρ)).bind fun b => match b with
    | .list m => .chk (decide (l.length + m.length ≤ sizeLine)) (.ret (setE (updE ρ "grown" (.own (l ++ m))) "grown" (.own (l ++ m)), .next))
    | _ => .fail
  | _ => .fail) else match findE ρ "grown" with
      | some (.val a) => (((valB ρ "met").bind truP).bind fun x => .ite x (mtOne ρ) (mtAll ρ)).bind fun b => (iopP .Add a b).bind fun d => .ret (setE ρ "grown" (.val d), .next)
      | _ => .fail
theorem mt_in (n : Nat) : mtIn n = seqT mtC0 (seqT mtC1 stop) := by kernel_rfl
noncomputable def mtB1 (n : Nat) (ρ : Rho) : T (Rho × Fl) := ((valE (frz ρ "rows") "rows").bind itemsP).bind fun ds => forT (mtIn n) "row" ds (frz ρ "rows")
noncomputable def mtB2 (ρ : Rho) : T (Rho × Fl) := (((valE (frz ρ "grown") "grown").bind fun d => (.ret [d] : T (List PV))).bind leastS).bind fun d => .ret (setE (frz ρ "grown") "rows" (.val d), .next)
theorem mt_body (n : Nat) : mtBody n = seqT (fun ρ => .chk true (.ret (setE ρ "grown" (.own []), .next))) (seqT (mtB1 n) (seqT mtB2 stop)) := by kernel_rfl
theorem mt_st0 (n : Nat) (ρ : Rho) : rdSt (F5 n) (Ym n) 0 37 0 ρ = .chk true (.chk true (.ret (setE ρ "rows" (.own [.list []]), .next))) := by kernel_rfl
theorem mt_st1 (n : Nat) (ρ : Rho) : rdSt (F5 n) (Ym n) 0 37 1 ρ = ((valE (frz ρ "ways") "ways").bind itemsP).bind fun ds => forT (mtBody n) "way" ds (frz ρ "ways") := by kernel_rfl
theorem mt_st2 (n : Nat) (ρ : Rho) : rdSt (F5 n) (Ym n) 0 37 2 ρ = (valE (frz ρ "rows") "rows").bind fun d => .ret (frz ρ "rows", .ret d) := by kernel_rfl
end Mine
namespace Mine
noncomputable def growRow (w r : List Str) : List (List Str) := if r.filter (fun x => decide (x ∈ w)) = [] then w.map fun x => r ++ [x] else [r]
noncomputable def grow (w : List Str) (L : List (List Str)) : List (List Str) := L.flatMap (growRow w)
structure MinTr (W L : List (List Str)) : Prop where
  nd : ∀ r ∈ L, r.Nodup
  el : ∀ r ∈ L, ∀ x ∈ r, ∃ w ∈ W, x ∈ w
  tr : ∀ r ∈ L, ∀ w ∈ W, ∃ x ∈ w, x ∈ r
  cov : ∀ T : Str → Prop, (∀ w ∈ W, ∃ x ∈ w, T x) → ∃ r ∈ L, ∀ x ∈ r, T x
  anti : L.Pairwise fun a b => ¬ a ⊆ b ∧ ¬ b ⊆ a
theorem MinTr.zero : MinTr [] [[]] := ⟨by simp, by simp, by simp, fun T _ => ⟨[], by simp, by simp⟩, by simp⟩
theorem grow_nd {W L : List (List Str)} {w : List Str} (h : MinTr W L) (hw : w.Nodup) : ∀ r ∈ grow w L, r.Nodup ∧ ∀ x ∈ r, ∃ v ∈ W ++ [w], x ∈ v := by
  intro r hr
  obtain ⟨k, hk, hr⟩ := List.mem_flatMap.mp hr
  unfold growRow at hr
  split at hr
  · rename_i he
    obtain ⟨x, hx, rfl⟩ := List.mem_map.mp hr
    refine ⟨List.nodup_append.mpr ⟨h.nd k hk, by simp, fun a ha b hb => ?_⟩, fun y hy => ?_⟩
    · rw [List.mem_singleton.mp hb]
      intro q
      subst q
      have : a ∈ k.filter fun x => decide (x ∈ w) := List.mem_filter.mpr ⟨ha, by simpa using hx⟩
      rw [he] at this; cases this
    · rcases List.mem_append.mp hy with hy | hy
      · obtain ⟨v, hv, hyv⟩ := h.el k hk y hy; exact ⟨v, List.mem_append_left _ hv, hyv⟩
      · rw [List.mem_singleton.mp hy]; exact ⟨w, by simp, hx⟩
  · rw [List.mem_singleton.mp hr]
    exact ⟨h.nd k hk, fun y hy => let ⟨v, hv, hyv⟩ := h.el k hk y hy; ⟨v, List.mem_append_left _ hv, hyv⟩⟩
theorem MinTr.step {W L L' : List (List Str)} {w : List Str} (h : MinTr W L) (hw : w.Nodup) (hl : LeastOf (grow w L) L') : MinTr (W ++ [w]) L' := by
  have g := grow_nd h hw
  have tr : ∀ r ∈ grow w L, ∀ v ∈ W ++ [w], ∃ x ∈ v, x ∈ r := by
    intro r hr v hv
    obtain ⟨k, hk, hr⟩ := List.mem_flatMap.mp hr
    unfold growRow at hr
    split at hr
    · obtain ⟨x, hx, rfl⟩ := List.mem_map.mp hr
      rcases List.mem_append.mp hv with hv | hv
      · obtain ⟨y, hy, hyk⟩ := h.tr k hk v hv; exact ⟨y, hy, List.mem_append_left _ hyk⟩
      · rw [List.mem_singleton.mp hv]; exact ⟨x, hx, by simp⟩
    · rename_i he
      rw [List.mem_singleton.mp hr]
      rcases List.mem_append.mp hv with hv | hv
      · exact h.tr k hk v hv
      · rw [List.mem_singleton.mp hv]
        obtain ⟨x, hx⟩ := List.exists_mem_of_ne_nil _ he
        have := List.mem_filter.mp hx
        exact ⟨x, by simpa using this.2, this.1⟩
  refine ⟨fun r hr => (g r (hl.sub r hr)).1, fun r hr => (g r (hl.sub r hr)).2, fun r hr => tr r (hl.sub r hr), fun T hT => ?_, hl.anti⟩
  obtain ⟨k, hk, hkT⟩ := h.cov T fun v hv => hT v (List.mem_append_left _ hv)
  obtain ⟨x, hx, hxT⟩ := hT w (by simp)
  have : ∃ r ∈ grow w L, ∀ y ∈ r, T y := by
    by_cases he : k.filter (fun x => decide (x ∈ w)) = []
    · refine ⟨k ++ [x], List.mem_flatMap.mpr ⟨k, hk, ?_⟩, fun y hy => ?_⟩
      · unfold growRow; rw [if_pos he]; exact List.mem_map.mpr ⟨x, hx, rfl⟩
      · rcases List.mem_append.mp hy with hy | hy
        · exact hkT y hy
        · rw [List.mem_singleton.mp hy]; exact hxT
    · exact ⟨k, List.mem_flatMap.mpr ⟨k, hk, by unfold growRow; rw [if_neg he]; simp⟩, hkT⟩
  obtain ⟨r, hr, hrT⟩ := this
  obtain ⟨m, hm, hmr⟩ := hl.cov r hr
  exact ⟨m, hm, fun y hy => hrT y (hmr hy)⟩
noncomputable def Strs (w : List Str) : Prop := ∀ x ∈ w, PyData.strOk x = true
theorem mt_c0 {ρ : Rho} {r w : List Str} (h1 : Has ρ "row" (.val (rowP r))) (h2 : Has ρ "way" (.val (rowP w))) (hr : Strs r) (hw : Strs w) (hl : r.length ≤ 1000) {Q : Rho × Fl → Prop} (h : Q (setE ρ "met" (.val (rowP (r.filter fun x => decide (x ∈ w)))), .next)) : (mtC0 ρ).Holds Q := by
  have hz : decide ((r.map PV.str).length ≤ sizeLine) = true := decide_eq_true (by rw [List.length_map]; exact Nat.le_trans hl (by decide))
  unfold mtC0
  rw [valB_of h1]
  refine T.bind_holds _ (T.bind_holds _ (T.chk_holds hz (T.chk_holds hz ?_)))
  have hc : Has (capt mtSc1 (scAt 37) ρ) "way" (.val (rowP w)) := h2.capt (by decide +kernel)
  refine compT_holds (t := fun d => match d with | .str x => decide (x ∈ w) | _ => false) (g := id) _ [] (fun d hd P hP => ?_) (fun d hd _ P hP => ?_) ?_
  · obtain ⟨x, hx, rfl⟩ := List.mem_map.mp hd
    show T.Holds P ((valB (setE (capt mtSc1 (scAt 37) ρ) "spot" (.val (.str x))) "spot").bind fun a => (valB (setE (capt mtSc1 (scAt 37) ρ) "spot" (.val (.str x))) "way").bind fun b => (cmpP .In a b).bind truP)
    rw [valB_of Has.set, valB_of (hc.set_ne (by decide +kernel) rfl)]
    show T.Holds P ((T.bind (inP (.str x) (w.map .str)) fun r => .ret (.bool r)).bind truP)
    rw [inP_strs (hr x hx) hw]
    exact T.chk_holds rfl hP
  · show T.Holds P (valE (setE (capt mtSc1 (scAt 37) ρ) "spot" (.val d)) "spot")
    rw [valE_of Has.set]
    exact hP
  · have e : List.filter (fun d => match d with | PV.str x => decide (x ∈ w) | _ => false) (r.map PV.str) = (r.filter fun x => decide (x ∈ w)).map PV.str := by
      rw [List.filter_map]; rfl
    rw [e, List.nil_append, List.map_id]
    exact h
theorem mt_elts {ρ : Rho} {r w : List Str} (h1 : Has ρ "row" (.val (rowP r))) (h2 : Has ρ "way" (.val (rowP w))) (hl : r.length ≤ 1000) (hlw : w.length ≤ 1000) {Q : PV → Prop} (h : Q (.list ((w.map fun x => r ++ [x]).map rowP))) : (mtAll ρ).Holds Q := by
  have hz : decide ((w.map PV.str).length ≤ sizeLine) = true := decide_eq_true (by rw [List.length_map]; exact Nat.le_trans hlw (by decide))
  unfold mtAll
  rw [valB_of h2]
  refine T.bind_holds _ (T.bind_holds _ (T.chk_holds hz (T.chk_holds hz ?_)))
  have hc : Has (capt mtSc2 (scAt 37) ρ) "row" (.val (rowP r)) := h1.capt (by decide +kernel)
  refine compT_holds (t := fun _ => true) (g := fun d => match d with | .str x => rowP (r ++ [x]) | _ => .none) _ [] (fun _ _ _ h => h) (fun d hd _ P hP => ?_) ?_
  · obtain ⟨x, hx, rfl⟩ := List.mem_map.mp hd
    show T.Holds P ((valB (setE (capt mtSc2 (scAt 37) ρ) "spot" (.val (.str x))) "row").bind fun a => (((valE (setE (capt mtSc2 (scAt 37) ρ) "spot" (.val (.str x))) "spot").bind fun d => (.ret [d] : T (List PV))).bind fun ds => .chk (decide (ds.length ≤ sizeLine)) (.ret (.list ds)) : T PV).bind fun b => binP .Add a b)
    rw [valE_of Has.set, valB_of (hc.set_ne (by decide +kernel) rfl)]
    refine T.chk_holds (decide_eq_true (show 1 ≤ sizeLine by decide)) ?_
    refine T.chk_holds (b := decide ((r.map PV.str).length + [PV.str x].length ≤ sizeLine)) (decide_eq_true ?_) ?_
    · rw [List.length_map]; show r.length + 1 ≤ 2 ^ 24; omega
    · have e : (PV.list (r.map PV.str ++ [PV.str x])) = rowP (r ++ [x]) := by simp [rowP]
      show P (PV.list (r.map PV.str ++ [PV.str x]))
      rw [e]; exact hP
  · have e : ((w.map PV.str).filter fun _ => true) = w.map PV.str := by simp
    rw [e, List.nil_append, List.map_map]
    rw [List.map_map] at h
    exact h
theorem mt_c1 {ρ : Rho} {r w m : List Str} {G : List (List Str)} (h1 : Has ρ "row" (.val (rowP r))) (h2 : Has ρ "way" (.val (rowP w))) (h3 : Has ρ "met" (.val (rowP m))) (h4 : Has ρ "grown" (.own (G.map rowP))) (hl : r.length ≤ 1000) (hlw : w.length ≤ 1000) (hm : m.length ≤ 1000) (hG : G.length ≤ 1000) {Q : Rho × Fl → Prop}
    (h : ∀ G', G' = G ++ (if m = [] then w.map (fun x => r ++ [x]) else [r]) → Q (setE (updE ρ "grown" (.own (G'.map rowP))) "grown" (.own (G'.map rowP)), .next)) : (mtC1 ρ).Holds Q := by
  have own : ownsE ρ "grown" = true := by unfold ownsE; rw [h4]
  have hzm : decide ((m.map PV.str).length ≤ sizeLine) = true := decide_eq_true (by rw [List.length_map]; exact Nat.le_trans hm (by decide))
  unfold mtC1
  rw [if_pos own]
  have e4 : findE ρ "grown" = some (.own (G.map rowP)) := h4
  rw [e4, valB_of h3]
  have fin : ∀ g : List (List Str), g.length ≤ 1000 → Q (setE (updE ρ "grown" (.own ((G ++ g).map rowP))) "grown" (.own ((G ++ g).map rowP)), .next) →
      (T.chk (decide ((G.map rowP).length + (g.map rowP).length ≤ sizeLine)) (.ret (setE (updE ρ "grown" (.own (G.map rowP ++ g.map rowP))) "grown" (.own (G.map rowP ++ g.map rowP)), Fl.next))).Holds Q := fun g hg hq => by
    refine T.chk_holds (decide_eq_true (by rw [List.length_map, List.length_map]; show _ ≤ 2 ^ 24; omega)) ?_
    rw [← List.map_append]; exact hq
  refine T.bind_holds _ (T.bind_holds _ (T.bind_holds _ (T.chk_holds hzm ?_)))
  show T.Holds _ (T.ite (!(m.map PV.str).isEmpty) (mtOne ρ) (mtAll ρ))
  cases m with
  | nil =>
    show T.Holds _ (mtAll ρ)
    refine mt_elts h1 h2 hl hlw (fin (w.map fun x => r ++ [x]) (by rw [List.length_map]; exact hlw) (h _ ?_))
    rw [if_pos rfl]
  | cons y m =>
    show T.Holds _ (mtOne ρ)
    unfold mtOne
    rw [valE_of h1]
    refine T.chk_holds (decide_eq_true (show 1 ≤ sizeLine by decide)) (fin [r] (show 1 ≤ 1000 by decide) (h _ ?_))
    rw [if_neg (by simp)]
end Mine
namespace Mine
structure MeetOk (W : List (List Str)) (U : List Str) : Prop where
  ok : ∀ w ∈ W, w.Nodup ∧ Strs w ∧ w ⊆ U
  u : U.length ≤ 100
  len : W.length ≤ 1000
  small : ∀ i w L, W[i]? = some w → MinTr (W.take i) L → (grow w L).length < 64
theorem MeetOk.row {W : List (List Str)} {U : List Str} (M : MeetOk W U) {r : List Str} (nd : r.Nodup) (el : ∀ x ∈ r, ∃ w ∈ W, x ∈ w) : OkRow r :=
  ⟨nd, Nat.le_trans (nodup_sub_len nd fun x hx => let ⟨w, hw, hxw⟩ := el x hx; (M.ok w hw).2.2 hxw) M.u, fun x hx => let ⟨w, hw, hxw⟩ := el x hx; (M.ok w hw).2.1 x hxw⟩
theorem grow_take {w : List Str} {L : List (List Str)} {i : Nat} {r : List Str} (h : L[i]? = some r) : grow w (L.take (i + 1)) = grow w (L.take i) ++ growRow w r := by
  rw [List.take_add_one, h]
  simp [grow, List.flatMap_append]
theorem grow_le {w : List Str} : ∀ {L : List (List Str)} (i : Nat), (grow w (L.take i)).length ≤ (grow w L).length := fun {L} i => by
  have : grow w L = grow w (L.take i) ++ grow w (L.drop i) := by
    unfold grow; rw [← List.flatMap_append, List.take_append_drop]
  rw [this, List.length_append]; omega
theorem mt_inner (n : Nat) {w : List Str} {L : List (List Str)} {ρ : Rho} {V : PV} (h2 : Has ρ "way" (.val (rowP w))) (h4 : Has ρ "grown" (.own [])) (h5 : Has ρ "ways" (.val V)) (hrows : Has ρ "rows" (.own (L.map rowP)) ∨ Has ρ "rows" (.val (.list (L.map rowP))))
    (hL : ∀ r ∈ L, OkRow r) (hw : Strs w) (hlw : w.length ≤ 1000) (hlen : L.length ≤ 64) (hg : (grow w L).length < 64) {Q : Rho × Fl → Prop}
    (h : ∀ ρ', Has ρ' "grown" (.own ((grow w L).map rowP)) → Has ρ' "ways" (.val V) → Q (ρ', .next)) : (mtB1 n ρ).Holds Q := by
  have hz : decide ((L.map rowP).length ≤ sizeLine) = true := decide_eq_true (by rw [List.length_map]; exact Nat.le_trans hlen (by decide))
  have hr' : Has (frz ρ "rows") "rows" (.val (.list (L.map rowP))) := hrows.elim (fun h => h.frz) fun h => by rw [frz_val h]; exact h
  have f2 : Has (frz ρ "rows") "way" (.val (rowP w)) := h2.frz_ne (by decide +kernel) rfl
  have f4 : Has (frz ρ "rows") "grown" (.own []) := h4.frz_ne (by decide +kernel) rfl
  have f5 : Has (frz ρ "rows") "ways" (.val V) := h5.frz_ne (by decide +kernel) rfl
  unfold mtB1
  rw [valE_of hr']
  refine T.bind_holds _ (T.chk_holds hz ?_)
  refine forT_holds (P := Q) (fun i ρ => Has ρ "way" (.val (rowP w)) ∧ Has ρ "grown" (.own ((grow w (L.take i)).map rowP)) ∧ Has ρ "ways" (.val V)) (L.map rowP) 0 (frz ρ "rows") (fun j d ρ hj hI => ?_) (fun ρ hI => ?_) ⟨f2, f4, f5⟩
  · obtain ⟨i2, i4, i5⟩ := hI
    simp only [Nat.zero_add] at i4 ⊢
    rw [List.getElem?_map, Option.map_eq_some_iff] at hj
    obtain ⟨r, hr, rfl⟩ := hj
    have okr := hL r (List.mem_of_getElem? hr)
    have g1 : Has (setE ρ "row" (.val (rowP r))) "row" (.val (rowP r)) := Has.set
    have g2 : Has (setE ρ "row" (.val (rowP r))) "way" (.val (rowP w)) := i2.set_ne (by decide +kernel) rfl
    have g4 : Has (setE ρ "row" (.val (rowP r))) "grown" (.own ((grow w (L.take j)).map rowP)) := i4.set_ne (by decide +kernel) rfl
    have g5 : Has (setE ρ "row" (.val (rowP r))) "ways" (.val V) := i5.set_ne (by decide +kernel) rfl
    have hl : r.length ≤ 1000 := Nat.le_trans okr.2.1 (by decide)
    rw [mt_in]
    refine seq_intro (mt_c0 g1 g2 okr.2.2 hw hl ?_)
    refine seq_intro (mt_c1 (m := r.filter fun x => decide (x ∈ w)) (g1.set_ne (by decide +kernel) rfl) (g2.set_ne (by decide +kernel) rfl) Has.set (g4.set_ne (by decide +kernel) rfl) hl hlw (Nat.le_trans (List.length_filter_le _ _) hl) (by have := grow_le (w := w) (L := L) j; omega) fun G' hG' => ?_)
    have e : G' = grow w (L.take (j + 1)) := by rw [grow_take hr, hG']; rfl
    refine ⟨?_, ?_, ?_⟩
    · exact ((g2.set_ne (by decide +kernel) rfl).upd_ne (by decide +kernel)).set_ne (by decide +kernel) rfl
    · rw [e]; exact Has.set
    · exact ((g5.set_ne (by decide +kernel) rfl).upd_ne (by decide +kernel)).set_ne (by decide +kernel) rfl
  · obtain ⟨i2, i4, i5⟩ := hI
    have e : L.take (0 + (L.map rowP).length) = L := by simp
    rw [e] at i4
    exact h ρ i4 i5
theorem LeastOf.len {R L : List (List Str)} (h : LeastOf R L) : L.length ≤ R.length :=
  nodup_sub_len (h.anti.imp fun h q => h.1 (by rw [q]; exact fun _ h => h)) fun k hk => h.sub k hk
theorem mt_outer (n : Nat) {W : List (List Str)} {U : List Str} (M : MeetOk W U) {P : PV → Prop} (h : ∀ L, MinTr W L → P (.list (L.map rowP))) {ρ : Rho} (h0 : Has ρ "rows" (.own [rowP []])) (h5 : Has ρ "ways" (.val (.list (W.map rowP)))) :
    (forT (mtBody n) "way" (W.map rowP) ρ).Holds (After (rdRe (F5 n) (Ym n) 0 37 2) P) := by
  refine forT_holds (fun i ρ => ∃ L, MinTr (W.take i) L ∧ L.length ≤ 64 ∧ (Has ρ "rows" (.own (L.map rowP)) ∨ Has ρ "rows" (.val (.list (L.map rowP)))) ∧ Has ρ "ways" (.val (.list (W.map rowP)))) (W.map rowP) 0 ρ (fun i d ρ hj hI => ?_) (fun ρ hI => ?_) ⟨[[]], MinTr.zero, by decide, .inl h0, h5⟩
  · obtain ⟨L, hL, hlen, hrows, hways⟩ := hI
    simp only [Nat.zero_add] at hL ⊢
    rw [List.getElem?_map, Option.map_eq_some_iff] at hj
    obtain ⟨w, hw, rfl⟩ := hj
    obtain ⟨wn, ws, wu⟩ := M.ok w (List.mem_of_getElem? hw)
    have hlw : w.length ≤ 1000 := Nat.le_trans (Nat.le_trans (nodup_sub_len wn wu) M.u) (by decide)
    have sm := M.small i w L hw hL
    have okL : ∀ r ∈ L, OkRow r := fun r hr => M.row (hL.nd r hr) fun x hx => let ⟨v, hv, hxv⟩ := hL.el r hr x hx; ⟨v, List.mem_of_mem_take hv, hxv⟩
    have gnd := grow_nd hL wn
    have okG : ∀ r ∈ grow w L, OkRow r := fun r hr => M.row (gnd r hr).1 fun x hx => by
      obtain ⟨v, hv, hxv⟩ := (gnd r hr).2 x hx
      refine ⟨v, ?_, hxv⟩
      rcases List.mem_append.mp hv with hv | hv
      · exact List.mem_of_mem_take hv
      · rw [List.mem_singleton.mp hv]; exact List.mem_of_getElem? hw
    rw [mt_body]
    have q1 : Has (setE ρ "way" (.val (rowP w))) "way" (.val (rowP w)) := Has.set
    have q5 : Has (setE ρ "way" (.val (rowP w))) "ways" (.val (.list (W.map rowP))) := hways.set_ne (by decide +kernel) rfl
    have qr : Has (setE ρ "way" (.val (rowP w))) "rows" (.own (L.map rowP)) ∨ Has (setE ρ "way" (.val (rowP w))) "rows" (.val (.list (L.map rowP))) := hrows.imp (fun h => h.set_ne (by decide +kernel) rfl) fun h => h.set_ne (by decide +kernel) rfl
    refine seq_intro (T.chk_holds rfl ?_)
    refine seq_intro (mt_inner n (q1.set_ne (by decide +kernel) rfl) Has.set (q5.set_ne (by decide +kernel) rfl) (qr.imp (fun h => h.set_ne (by decide +kernel) rfl) fun h => h.set_ne (by decide +kernel) rfl) okL ws hlw hlen sm fun ρ' k4 k5 => ?_)
    refine seq_intro ?_
    show (mtB2 ρ').Holds _
    unfold mtB2
    rw [valE_of k4.frz]
    refine T.bind_holds _ ?_
    have e : leastS [.list ((grow w L).map rowP)] = .any (fun d => ∃ R L', (grow w L).map rowP = R.map rowP ∧ d = .list (L'.map rowP) ∧ LeastOf R L') .ret := if_pos ⟨grow w L, rfl, sm, okG⟩
    show T.Holds _ (leastS [.list ((grow w L).map rowP)])
    rw [e]
    rintro d ⟨R, L', hR, rfl, hl⟩
    have hRe : R = grow w L := by
      have inj : ∀ a b : List (List Str), a.map rowP = b.map rowP → a = b := by
        intro a
        induction a with
        | nil => intro b h; cases b with
          | nil => rfl
          | cons y b => simp at h
        | cons x a ih => intro b h; cases b with
          | nil => simp at h
          | cons y b => simp only [List.map_cons, List.cons.injEq] at h; rw [rowP_inj h.1, ih b h.2]
      exact (inj _ _ hR).symm
    rw [hRe] at hl
    have ht : W.take (i + 1) = W.take i ++ [w] := by rw [List.take_add_one, hw]; rfl
    refine ⟨L', by rw [ht]; exact hL.step wn hl, Nat.le_trans hl.len (Nat.le_of_lt sm), .inr Has.set, (k5.frz_ne (by decide +kernel) rfl).set_ne (by decide +kernel) rfl⟩
  · obtain ⟨L, hL, hlen, hrows, hways⟩ := hI
    have ht : W.take (0 + (W.map rowP).length) = W := by simp
    rw [ht] at hL
    have hr' : Has (frz ρ "rows") "rows" (.val (.list (L.map rowP))) := hrows.elim (fun h => h.frz) fun h => by rw [frz_val h]; exact h
    show ((rdRe (F5 n) (Ym n) 0 37 2 ρ).bind retT).Holds P
    refine re_holds (by decide +kernel) ?_
    rw [mt_st2, valE_of hr']
    exact h L hL
open Classical in
noncomputable def meetS : List PV → T PV
  | [.list ways] => if (∃ W U, ways = W.map rowP ∧ MeetOk W U) then .any (fun d => ∃ W L, ways = W.map rowP ∧ d = .list (L.map rowP) ∧ MinTr W L) .ret else .fail
  | _ => .fail
theorem con_meet (n : Nat) : Con "_law_meeting" (n + 5) meetS := by
  refine (con_read (k := 17) (n := n + 3) (F := F5 n) (Y := Ym n) (W := 0) (ps := ["ways"]) rfl rfl (by refine ⟨?_, ?_, ?_, ?_, ?_, ?_, ?_, ?_, ?_, ?_⟩ <;> kernel_rfl) (by decide +kernel) (by kernel_rfl) ?_).as ?_
  · intro pm vs h
    obtain ⟨v, rfl⟩ := one_of h
    kernel_rfl
  · intro ds P h
    unfold meetS at h
    split at h
    · rename_i ways
      split at h
      · rename_i hh
        obtain ⟨W, U, rfl, M⟩ := hh
        refine call_holds rfl ?_
        refine re_holds (by decide +kernel) ?_
        rw [mt_st0]
        refine T.chk_holds rfl (T.chk_holds rfl ?_)
        refine re_holds (by decide +kernel) ?_
        rw [mt_st1]
        have h5 : Has (setE (rho0 ["ways"] [.list (W.map rowP)]) "rows" (.own [.list []])) "ways" (.val (.list (W.map rowP))) := Has.set_ne (show Has (rho0 ["ways"] [.list (W.map rowP)]) "ways" _ by kernel_rfl) (by decide +kernel) rfl
        show T.Holds _ (((valE (frz (setE (rho0 ["ways"] [.list (W.map rowP)]) "rows" (.own [.list []])) "ways") "ways").bind itemsP).bind _)
        rw [frz_val h5, valE_of h5]
        refine T.bind_holds _ (T.chk_holds (decide_eq_true (by rw [List.length_map]; exact Nat.le_trans M.len (by decide))) ?_)
        exact mt_outer n M (fun L hL => h _ ⟨W, L, rfl, rfl, hL⟩) Has.set h5
      · exact h.elim
    · exact h.elim
end Mine
namespace Mine
noncomputable def escC (c : Nat) : Str := if c ∈ specials then ⟨#[92, c]⟩ else ⟨#[c]⟩
theorem untok_int {v : Value} {i : Int} (h : untok v = .int i 0) : ∃ t, v = .int i t := by
  cases v <;> simp only [untok, Value.int.injEq, reduceCtorEq] at h
  exact ⟨_, by rw [h.1]⟩
theorem untok_str {v : Value} {x : Str} (h : untok v = .str x 0) : ∃ t, v = .str x t := by
  cases v <;> simp only [untok, Value.str.injEq, reduceCtorEq] at h
  exact ⟨_, by rw [h.1]⟩
theorem view_find : ∀ (L : List DictEntry) (S : List Nat), (L.map fun e => (e.hash, untok e.key, untok e.val)) = S.map (fun (c : Nat) => ((c : Int), Value.int c 0, Value.str ⟨#[92, c]⟩ 0)) → ∀ k : Nat,
    (k ∈ S → ∃ e t, L.find? (fun e => Value.isInt (k : Int) e.key) = some e ∧ e.val = .str ⟨#[92, k]⟩ t) ∧ (k ∉ S → L.find? (fun e => Value.isInt (k : Int) e.key) = none)
  | [], [], _, k => ⟨fun h => (nomatch h), fun _ => rfl⟩
  | [], _ :: _, h, _ => by simp at h
  | _ :: _, [], h, _ => by simp at h
  | e :: L, c :: S, h, k => by
    simp only [List.map_cons, List.cons.injEq, Prod.mk.injEq] at h
    obtain ⟨⟨h1, h2, h3⟩, h4⟩ := h
    obtain ⟨t, ht⟩ := untok_int h2
    obtain ⟨u, hu⟩ := untok_str h3
    have ih := view_find L S h4 k
    rw [List.find?_cons]
    have hk : Value.isInt (k : Int) e.key = decide (c = k) := by
      rw [ht]
      simp only [Value.isInt]
      rw [Bool.eq_iff_iff, decide_eq_true_iff, beq_iff_eq]
      omega
    rw [hk]
    by_cases q : c = k
    · subst q
      rw [decide_eq_true rfl]
      exact ⟨fun _ => ⟨e, u, rfl, hu⟩, fun h => absurd (.head _) h⟩
    · rw [decide_eq_false q]
      refine ⟨fun hm => ih.1 ((List.mem_cons.mp hm).resolve_left fun e => q e.symm), fun hm => ih.2 fun h => hm (.tail _ h)⟩
theorem view_keys {L : List DictEntry} {S : List Nat} (h : (L.map fun e => (e.hash, untok e.key, untok e.val)) = S.map (fun (c : Nat) => ((c : Int), Value.int c 0, Value.str ⟨#[92, c]⟩ 0))) (hS : ∀ c ∈ S, hashInt (c : Int) = c) : ∀ e ∈ L, ∃ k : Int, Value.isInt k e.key = true ∧ e.hash = hashInt k := fun e he => by
  have : (e.hash, untok e.key, untok e.val) ∈ S.map (fun (c : Nat) => ((c : Int), Value.int c 0, Value.str ⟨#[92, c]⟩ 0)) := h ▸ List.mem_map_of_mem (f := fun e : DictEntry => (e.hash, untok e.key, untok e.val)) he
  obtain ⟨c, hc, e1⟩ := List.mem_map.mp this
  simp only [Prod.mk.injEq] at e1
  obtain ⟨t, ht⟩ := untok_int e1.2.1.symm
  exact ⟨c, by rw [ht]; simp [Value.isInt], by rw [← e1.1, hS c hc]⟩
theorem th_map {H : Heap} {mg mb : Str → Option Value} (th : TH H mg mb) (w : World) {h : Heap} (hs : H.StaysIn h) : ∃ f : Int → Option Value, h.MapOf (intKind pw w) 74 f ∧ ∀ c : Nat, (c ∈ specials → ∃ t, f c = some (.str ⟨#[92, c]⟩ t)) ∧ (c ∉ specials → f c = none) := by
  have hd := th.dict
  cases e : H.get? 74 with
  | none => rw [e] at hd; cases hd
  | some o =>
    rw [e] at hd
    obtain ⟨cls, dc, data, sl⟩ := o
    cases data <;> simp only [dictView, reduceCtorEq] at hd
    rename_i es ep
    simp only [Option.some.injEq, Prod.mk.injEq] at hd
    obtain ⟨rfl, rfl, rfl, hv⟩ := hd
    refine ⟨fun k => findBy Value.isInt es k, ⟨_, es, ep, hs _ _ e, ⟨rfl, rfl, rfl⟩, rfl, fun x hx => view_keys hv (by decide +kernel) x (by simpa using hx), fun k => rfl⟩, fun c => ?_⟩
    have key := view_find es.toList specials hv c
    have ef : findBy Value.isInt es (c : Int) = (es.toList.find? fun e => Value.isInt (c : Int) e.key).map (·.val) := by
      unfold findBy; rw [← Array.find?_toList]
    show (_ → ∃ t, findBy Value.isInt es (c : Int) = _) ∧ (_ → findBy Value.isInt es (c : Int) = _)
    rw [ef]
    refine ⟨fun h => ?_, fun h => by rw [key.2 h]; rfl⟩
    obtain ⟨x, t, h1, h2⟩ := key.1 h
    exact ⟨t, by rw [h1, Option.map_some, h2]⟩
section
variable {w : World} {A : Around} {E : Value → Shared → Prop} {s : Shared}
theorem lookup_map {f : Int → Option Value} {c : Nat} (hm : s.heap.MapOf (intKind pw w) 74 f) (hf : (c ∈ specials → ∃ t, f c = some (.str ⟨#[92, c]⟩ t)) ∧ (c ∉ specials → f c = none)) (hh : A.handled = none) {Q : Builtin.Str.Mapped → Shared → Prop}
    (h : ∀ h' tk, (∀ b o, s.heap.get? b = some o → h'.get? b = some o) → Q (if c ∈ specials then .text ⟨#[92, c]⟩ else .keep) { s with heap := h', toks := tk }) : wpAny (model pw w) A (Builtin.Str.tableLookup (.ref 74) c) Q E s := by
  unfold Builtin.Str.tableLookup
  by_cases q : c ∈ specials
  · obtain ⟨t, ht⟩ := hf.1 q
    refine wpAny_bind (wpAny_attempt (wpAny_bind (wpAny_mkInt (wpAny_getItem_of (knd := intKind pw w) (intKind_is _ _ _ _) hm ht ?_))))
    have := h s.heap (s.toks + 1 + 1) fun _ _ e => e
    rw [if_pos q] at this
    show wpAny _ _ (do let a ← asInt? (.str ⟨#[92, c]⟩ t); _) _ _ _
    wp_walk
    exact this
  · refine wpAny_bind (wpAny_attempt (wpAny_bind (wpAny_mkInt (wpAny_getItem_missing_of (knd := intKind pw w) (intKind_is _ _ _ _) (by decide) hh hm (hf.2 q) fun h' e hx => ?_))))
    have := h h' (s.toks + 1 + 1) hx.keeps
    rw [if_neg q] at this
    obtain ⟨ob, t, he, hc, _⟩ := hx.there
    refine wpAny_bind (wpAny_isInstance (T := "KeyError") (b := true) ⟨ob, he, hc⟩ (by rw [isSubtype_type]; kernel_rfl) ?_)
    wp_walk
    exact this
end
theorem lookup_hit {w : World} {A : Around} {E : Value → Shared → Prop} {s : Shared} {f : Int → Option Value} {c c' : Nat} (e : c' = c) (hm : s.heap.MapOf (intKind pw w) 74 f) (hf : (c ∈ specials → ∃ t, f c = some (.str ⟨#[92, c]⟩ t)) ∧ (c ∉ specials → f c = none)) (hh : A.handled = none) (q : c ∈ specials) {Q : Builtin.Str.Mapped → Shared → Prop}
    (h : ∀ h' tk, (∀ b o, s.heap.get? b = some o → h'.get? b = some o) → Q (.text ⟨#[92, c]⟩) { s with heap := h', toks := tk }) : wpAny (model pw w) A (Builtin.Str.tableLookup (.ref 74) c') Q E s := by
  subst e
  exact lookup_map hm hf hh fun h' tk hk => by rw [if_pos q]; exact h h' tk hk
theorem lookup_miss {w : World} {A : Around} {E : Value → Shared → Prop} {s : Shared} {f : Int → Option Value} {c c' : Nat} (e : c' = c) (hm : s.heap.MapOf (intKind pw w) 74 f) (hf : (c ∈ specials → ∃ t, f c = some (.str ⟨#[92, c]⟩ t)) ∧ (c ∉ specials → f c = none)) (hh : A.handled = none) (q : c ∉ specials) {Q : Builtin.Str.Mapped → Shared → Prop}
    (h : ∀ h' tk, (∀ b o, s.heap.get? b = some o → h'.get? b = some o) → Q .keep { s with heap := h', toks := tk }) : wpAny (model pw w) A (Builtin.Str.tableLookup (.ref 74) c') Q E s := by
  subst e
  exact lookup_map hm hf hh fun h' tk hk => by rw [if_neg q]; exact h h' tk hk
theorem mapOf_keep {w : World} {h h' : Heap} {f : Int → Option Value} (hm : h.MapOf (intKind pw w) 74 f) (hk : ∀ b o, h.get? b = some o → h'.get? b = some o) : h'.MapOf (intKind pw w) 74 f :=
  let ⟨o, es, ep, ho, r⟩ := hm; ⟨o, es, ep, hk _ _ ho, r⟩
theorem translate_one {w : World} {A : Around} {E : Value → Shared → Prop} {s : Shared} {f : Int → Option Value} {c : Nat} {t : Tok} (hc : c < 128) (hm : s.heap.MapOf (intKind pw w) 74 f) (hf : (c ∈ specials → ∃ t, f c = some (.str ⟨#[92, c]⟩ t)) ∧ (c ∉ specials → f c = none)) (hh : A.handled = none) {Q : Value → Shared → Prop}
    (h : ∀ h' tk t', (∀ b o, s.heap.get? b = some o → h'.get? b = some o) → Q (.str (escC c) t') { s with heap := h', toks := tk }) : wpAny (model pw w) A (call (.builtin "str.translate") [.str ⟨#[c]⟩ t, .ref 74]) Q E s := by
  refine wpAny_call_entry PySem.F.slot_str_translate (typeIs_str _ _ _) PySem.F.entry_str_translate ?_ (PySem.F.args_str_translate_2 _ _)
  have hh1 : A.in1.handled = none := hh
  have h128 : (⟨#[c]⟩ : Str).cps.all (· < 128) = true := by simp [hc]
  by_cases q : c ∈ specials
  · have h : ∀ h' tk t', (∀ b o, s.heap.get? b = some o → h'.get? b = some o) → Q (.str ⟨#[92, c]⟩ t') { s with heap := h', toks := tk } := by
      have e : escC c = ⟨#[92, c]⟩ := if_pos q
      rw [e] at h; exact h
    unfold Builtin.«str.translate»
    repeat (any_goals (first | assumption | (refine lookup_hit (c := c) rfl (by first | exact hm | exact mapOf_keep hm (by assumption)) hf hh1 q fun h1 tk1 hk1 => ?_) | wp_step))
    rename_i a b k
    exact ⟨_, rfl, h _ _ _ fun b o e => hk1 b o (k b o e)⟩
  · have h : ∀ h' tk t', (∀ b o, s.heap.get? b = some o → h'.get? b = some o) → Q (.str ⟨#[c]⟩ t') { s with heap := h', toks := tk } := by
      have e : escC c = ⟨#[c]⟩ := if_neg q
      rw [e] at h; exact h
    unfold Builtin.«str.translate»
    repeat (any_goals (first | assumption | (refine lookup_miss (c := c) rfl (by first | exact hm | exact mapOf_keep hm (by assumption)) hf hh1 q fun h1 tk1 hk1 => ?_) | wp_step))
    exact ⟨_, rfl, h _ _ _ hk1⟩
section
variable {sc : Scope} {n : Nat}
noncomputable def trnP : PV → T PV
  | .str x => (match x.cps.toList with
    | [c] => .chk (decide (c < 128)) (.ret (.str (escC c)))
    | _ => .fail)
  | _ => .fail
theorem sndE_translate {o : Expr} {m f : Str} {fp apos pos : Pos} {to : Rho → T PV} (hm : m = ("translate" : Str)) (hf : f = ("_special_chars_map" : Str)) (hk : sc.names.lookup f = some .globalImplicit) (hb : noCall o = true) (hl : (apos.endLine == pos.line) = true) (ho : SndB sc n o to) :
    SndE sc n (.Call (.Attribute o m apos) [.Name f fp] [] pos) fun ρ => (to ρ).bind trnP := fun c O X ad ρ s I Q E h => by
  subst hm; subst hf
  refine wpAny_Call_method_lateS (base_noCall hb) (few_ok rfl (by rfl)) hl (ho c O X ad ρ s I _ _ (T.holds_mono (fun d hd vo s₁ x₁ ro => ?_) _ (T.holds_bind _ h)))
  unfold trnP at hd
  split at hd
  · rename_i x
    split at hd
    · rename_i cc hcc
      obtain ⟨hlt, hd⟩ := T.holds_chk hd
      obtain ⟨u, rfl⟩ := ro
      have hx : x = ⟨#[cc]⟩ := by
        obtain ⟨cps⟩ := x
        have : cps = #[cc] := Array.toList_inj.mp hcc
        rw [this]
      subst hx
      have I₁ := I.nxt O x₁
      obtain ⟨f, hmap, hf⟩ := th_map O.th c.w I₁.wf.stays
      refine ⟨"str", "str.translate", PySem.F.plainAttrs_str, PySem.F.slot_str_translate, PySem.F.type_str_translate, rfl, (fun _ e => nomatch e), ?_⟩
      show wpAny _ _ (callWith pos _ _ [(false, eval (.Name ("_special_chars_map" : Str) fp) c.env)] []) _ _ _
      refine callWith_builtin rfl (evalArgs_plain (Calls.spliced_cons (Name_function_global O.kind ((O.names _).trans hk) (loadGlobal_global (I₁.mgNs O) O.th.smap ?_) (by decide +kernel))))
      refine Calls.spliced_nil ?_
      refine translate_one (by simpa using hlt) hmap (hf cc) I₁.wf.handled fun h' tk t' hk' => ?_
      exact hd _ _ (x₁.trans ⟨.keep I₁.wf.stays I₁.wf.tabs hk', rfl, rfl⟩) ⟨_, rfl⟩
    · exact hd.elim
  · exact hd.elim
end
noncomputable def X4 (n : Nat) (F : FS n) : Extra n := fun sc e => match e with
  | .Call (.Attribute o m ap) [.Name f fp] [] pos => if h : m = ("translate" : Str) ∧ f = ("_special_chars_map" : Str) ∧ isGlob sc f = true ∧ noCall o = true ∧ (ap.endLine == pos.line) = true then some ⟨_, sndE_translate h.1 h.2.1 (isGlob_is h.2.2.1) h.2.2.2.1 h.2.2.2.2 (rd F (X2 n F) 20 sc o).ba.2⟩ else X2 n F sc (.Call (.Attribute o m ap) [.Name f fp] [] pos)
  | e => X2 n F sc e
end Mine
namespace Mine
section
variable {n : Nat} (F : FS n) (X : Extra n) (Y : ExtraX n) (W i : Nat)
noncomputable def readX : { t : Rho → T (Rho × Fl) // SndS (scAt i) n (bodyAt i) t } := rdS (rdX F X Y W 20 (scAt i)) (bodyAt i)
noncomputable def rsX (j : Nat) : Rho → T (Rho × Fl) := match (bodyAt i)[j]? with
  | some st => (rdX F X Y W 20 (scAt i) st).1
  | none => fun _ => .fail
noncomputable def rrX (j : Nat) : Rho → T (Rho × Fl) := (rdS (rdX F X Y W 20 (scAt i)) ((bodyAt i).drop j)).1
theorem rrX_step {j : Nat} (h : j < (bodyAt i).length) : rrX F X Y W i j = seqT (rsX F X Y W i j) (rrX F X Y W i (j + 1)) := by
  unfold rrX rsX
  rw [List.drop_eq_getElem_cons h, List.getElem?_eq_getElem h]
  rfl
end
theorem rx_holds {n : Nat} {F : FS n} {X : Extra n} {Y : ExtraX n} {W i j : Nat} {ρ : Rho} {P : PV → Prop} (hj : j < (bodyAt i).length) (h : (rsX F X Y W i j ρ).Holds (After (rrX F X Y W i (j + 1)) P)) : ((rrX F X Y W i j ρ).bind retT).Holds P := by
  rw [rrX_step F X Y W i hj]; exact seq_holds h
theorem callX_holds {n : Nat} {F : FS n} {X : Extra n} {Y : ExtraX n} {W i : Nat} {ps : List Str} {ds : List PV} {P : PV → Prop} (hl : (ds.length == ps.length) = true) (h : ((rrX F X Y W i 0 (rho0 ps ds)).bind retT).Holds P) : (callT ps (readX F X Y W i).1 ds).Holds P := by
  unfold callT
  rw [if_pos hl]
  exact h
theorem con_readX {k : Nat} {x : Addr × Nat × Addr × Value × String} {name : String} {n : Nat} {ps : List Str} {F : FS n} {X : Extra n} {Y : ExtraX n} {W : Nat} (hk : fnTab[k]? = some x) (hn : x.2.2.2.2 = name)
    (hfix : (fdAt x.2.1 x.2.2.1 x.2.2.2.1).scope = scAt x.2.1 ∧ (fdAt x.2.1 x.2.2.1 x.2.2.2.1).body = .stmts (bodyAt x.2.1) ∧ (scAt x.2.1).kind = .function ∧ (scAt x.2.1).isCoroutine = false ∧ (scAt x.2.1).isGenerator = false ∧ (fdAt x.2.1 x.2.2.1 x.2.2.2.1).closure = [] ∧ (fdAt x.2.1 x.2.2.1 x.2.2.2.1).globals = 3 ∧ (fdAt x.2.1 x.2.2.1 x.2.2.2.1).builtins = 0 ∧ (fdAt x.2.1 x.2.2.1 x.2.2.2.1).code = .ref x.2.2.1 ∧ (fdAt x.2.1 x.2.2.1 x.2.2.2.1).qualname = nameAt x.2.1)
    (hps : ps.Nodup) (hvar : ps.all (isVar (scAt x.2.1)) = true) (hbind : ∀ (pm : Value) (vs : List Value), vs.length = ps.length → bindArgs { fdAt x.2.1 x.2.2.1 x.2.2.2.1 with pyModule := pm } ⟨vs, []⟩ = pure (ps.zip vs)) :
    Con name (n + 2) (callT ps (readX F X Y W x.2.1).1) := by
  obtain ⟨h1, h2, h3, h4, h5, h6, h7, h8, h9, h10⟩ := hfix
  exact con_of (fn_get hk) hn (fun y hy e => fn_uniq (fn_get hk) hy (e.trans hn.symm)) h1 h2 h3 h4 h5 ⟨h6, h7, h8, h9, h10⟩ hps (fun p hp => List.all_eq_true.mp hvar p hp) hbind (readX F X Y W x.2.1).2
noncomputable def escS : List PV → T PV
  | [.str x] => (match x.cps.toList with
    | [c] => .chk (decide (c < 128)) (.ret (.str (escC c)))
    | _ => .fail)
  | _ => .fail
theorem esc_st (n : Nat) (ρ : Rho) : rsX (F0 n) (X4 n (F0 n)) (Yno n) 0 11 0 ρ = ((((valE ρ "pattern").bind fun d => ((.ret [.raw (.type "str")] : T (List PV)).bind fun ds => (.ret (d :: ds) : T (List PV)))).bind isiP).bind truP : T Bool).bind fun c => T.ite c (seqT (fun ρ => ((valB ρ "pattern").bind trnP).bind fun d => .ret (ρ, .ret d)) stop ρ) .fail := by kernel_rfl
theorem con_escape (n : Nat) : Con "escape" (n + 2) escS := by
  refine (con_readX (k := 4) (F := F0 n) (X := X4 n (F0 n)) (Y := Yno n) (W := 0) (ps := ["pattern"]) rfl rfl (by refine ⟨?_, ?_, ?_, ?_, ?_, ?_, ?_, ?_, ?_, ?_⟩ <;> kernel_rfl) (by decide +kernel) (by kernel_rfl) ?_).as ?_
  · intro pm vs h
    obtain ⟨v, rfl⟩ := one_of h
    kernel_rfl
  · intro ds P h
    unfold escS at h
    split at h
    · rename_i x
      split at h
      · rename_i c hc
        obtain ⟨hlt, h⟩ := T.holds_chk h
        refine callX_holds rfl (rx_holds (by decide +kernel) ?_)
        rw [esc_st]
        have hp : Has (rho0 ["pattern"] [.str x]) "pattern" (.val (.str x)) := by kernel_rfl
        rw [valE_of hp]
        refine seq_intro ?_
        rw [valB_of hp]
        have e : trnP (.str x) = .chk (decide (c < 128)) (.ret (.str (escC c))) := by
          unfold trnP
          simp only [hc]
        show T.Holds _ ((trnP (.str x)).bind _)
        rw [e]
        exact T.chk_holds hlt h
      · exact h.elim
    · exact h.elim
end Mine
namespace Mine
open PySem.Builtin.Re
noncomputable def strip {α : Type} : Nat → Sem α → Option α
  | _, .pure a => some a
  | n + 1, .rule _ k => strip n (k ())
  | _, _ => none
theorem strip_wp {α : Type} {M : Model} {A : Around} {E : Value → Shared → Prop} {Q : α → Shared → Prop} {s : Shared} {a : α} : ∀ (n : Nat) (t : Sem α), strip n t = some a → Q a s → wpAny M A t Q E s := by
  intro n
  induction n with
  | zero =>
    intro t h q
    cases t with
    | pure a' => cases h; exact wpAny_pure q
    | _ => cases h
  | succ n ih =>
    intro t h q
    cases t with
    | pure a' => cases h; exact wpAny_pure q
    | rule tag k => exact fun Γ p hΓ => ih (k ()) h q Γ p hΓ
    | _ => cases h
noncomputable def reNats : Array Nat := (reCode.map fun v => (reRawOf v).toNat).toArray
theorem re_none (c : Nat) (h : c = 42 ∨ c = 63 ∨ c = 91) : strip 1000 (reRunToEnd (Sre.forSearch reNats #[c] 1 0 1 false)) = some none := by
  rcases h with rfl | rfl | rfl
  · kernel_rfl
  · kernel_rfl
  · kernel_rfl
theorem slot_re_sub : Slot "re.Pattern" "sub" "re.Pattern.sub" :=
  .of (owner := "re.Pattern") (n := "sub") (by rw [typeLookup_type, builtinLookup_eq_fast]; kernel_rfl) (by decide +kernel) (by decide +kernel) (by decide +kernel)
    (by first | exact .inl (by decide +kernel) | exact .inr (by decide +kernel)) (by rw [isSubtype_type]; kernel_rfl)
theorem plainAttrs_re : PlainAttrs "re.Pattern" :=
  ⟨⟨"object.__getattribute__", by rw [typeLookup_type, builtinLookup_eq_fast]; kernel_rfl, by decide +kernel⟩, by rw [typeLookup_type, builtinLookup_eq_fast]; kernel_rfl⟩
theorem type_re_sub : typeOf (.builtin "re.Pattern.sub") = pure (.type "method_descriptor") := by show builtinType _ = _; rw [builtinType_eq_fast]; kernel_rfl
theorem entry_re_sub : entryFor table "re.Pattern.sub" = some Builtin.«re.Pattern.sub» := entryFor_of_tree (by kernel_rfl)
theorem args_re_sub (a b c : Value) : argsOk "re.Pattern.sub" ⟨[a, b, c], []⟩ := by unfold argsOk; kernel_rfl
theorem plain_re_loop : plainId "re.Pattern.sub.loop" = true := by decide +kernel
theorem entry_re_loop : entryFor table "re.Pattern.sub.loop" = some Builtin.«re.Pattern.sub.loop» := entryFor_of_tree (by kernel_rfl)
theorem lk_fn_call : typeLookup (.type "function") "__call__" = pure (some (.builtin "function.__call__")) := by rw [typeLookup_type, builtinLookup_eq_fast]; kernel_rfl
theorem named_re (a b : Value) : reNamed "re.Pattern.sub" "sub" ["repl", "string", "count"] 2 [a, b] [] = pure [some a, some b, none] := by kernel_rfl
theorem raw_untok (v : Value) : reRawOf (untok v) = reRawOf v := by cases v <;> rfl
theorem rawNat_untok (v : Value) : reRawNat (untok v) = reRawNat v := by cases v <;> rfl
structure PatAt (h : Heap) : Prop where
  pat : ∃ vs, h.get? 65 = some { cls := .type "re.Pattern", dict := none, data := .fields vs, slots := #[] } ∧ reRawNat (vs.getD 6 .none) = 0 ∧ reRawNat (vs.getD 2 .none) = 1 ∧ vs.getD 5 .none = .ref 64
  code : ∃ o us n, h.get? 64 = some o ∧ o.data = .seq us n ∧ (us.map reRawOf).map (·.toNat) = reNats
theorem pat_at {H : Heap} {mg mb : Str → Option Value} (th : TH H mg mb) {h : Heap} (hs : H.StaysIn h) : PatAt h := by
  refine ⟨?_, ?_⟩
  · have hp := th.pat
    generalize e : H.get? 65 = oo at hp
    unfold fieldsView at hp
    split at hp
    · rename_i cls dc vs sl
      obtain ⟨r1, hp⟩ := Prod.mk.inj (Option.some.inj hp)
      obtain ⟨r2, hp⟩ := Prod.mk.inj hp
      obtain ⟨hv, r3⟩ := Prod.mk.inj hp
      rw [r1, r2, r3] at e
      have hg : ∀ i v, ([Value.str (Str.ofString "([&~|])") 0, .int 32 0, .int 1 0, .none, .none, .ref 64, .int 0 0] : List Value)[i]? = some v → ∃ u, vs.getD i .none = u ∧ untok u = v := fun i v h => by
        rw [← hv, List.getElem?_map, Option.map_eq_some_iff] at h
        obtain ⟨u, hu, e⟩ := h
        exact ⟨u, by rw [Array.getElem?_toList] at hu; simp [hu], e⟩
      obtain ⟨u6, e6, h6⟩ := hg 6 _ rfl
      obtain ⟨u2, e2, h2⟩ := hg 2 _ rfl
      obtain ⟨u5, e5, h5⟩ := hg 5 _ rfl
      refine ⟨vs, hs _ _ e, ?_, ?_, ?_⟩
      · rw [e6, ← rawNat_untok, h6]; rfl
      · rw [e2, ← rawNat_untok, h2]; rfl
      · rw [e5]
        unfold untok at h5
        split at h5
        · cases h5
        · cases h5
        · exact h5
    · cases hp
  · have hp := th.code
    generalize e : H.get? 64 = oo at hp
    unfold seqView at hp
    split at hp
    rotate_left
    · cases hp
    · rename_i cls dc us k sl
      obtain ⟨_, hp⟩ := Prod.mk.inj (Option.some.inj hp)
      obtain ⟨_, hv⟩ := Prod.mk.inj hp
      refine ⟨_, us, k, hs _ _ e, rfl, ?_⟩
      apply Array.toList_inj.mp
      rw [Array.toList_map, Array.toList_map, List.map_map]
      have : us.toList.map ((fun x : Int => x.toNat) ∘ reRawOf) = (us.toList.map untok).map fun v => (reRawOf v).toNat := by
        rw [List.map_map]
        exact List.map_congr_left fun v _ => by simp only [Function.comp, raw_untok]
      rw [this, hv]
      rfl
theorem PatAt.keep {h h' : Heap} (p : PatAt h) (hk : ∀ b o, h.get? b = some o → h'.get? b = some o) : PatAt h' :=
  ⟨let ⟨vs, e, r⟩ := p.pat; ⟨vs, hk _ _ e, r⟩, let ⟨o, us, n, e, r⟩ := p.code; ⟨o, us, n, hk _ _ e, r⟩⟩
section
variable {w : World} {A : Around} {E : Value → Shared → Prop} {s : Shared}
theorem wp_whole {x : Str} {t : Tok} (p : PatAt s.heap) {Q : ReTarget → Shared → Prop} (h : Q { pattern := .ref 65, string := .str x t, code := reNats, text := x.cps, kind := 0, groups := 1, pos := 0, lim := x.cps.size } s) : wpAny (model pw w) A (reWholeTarget (.ref 65) (.str x t)) Q E s := by
  obtain ⟨⟨vs, e1, e2, e3, e4⟩, o, us, n, f1, f2, f3⟩ := p
  unfold reWholeTarget
  refine wpAny_bind (wpAny_fieldsOf e1 rfl ?_)
  refine wpAny_bind (m := reTextOf (.str x t)) (wpAny_pure ?_)
  simp only [e2, e3, e4]
  refine wpAny_bind (m := reNoCollectionInside (.str x t) 0) (wpAny_pure ?_)
  refine wpAny_bind (m := reRawItems (.ref 64)) ?_
  unfold reRawItems
  refine wpAny_bind (wpAny_seqItems f1 f2 (wpAny_pure (wpAny_pure ?_)))
  rw [Option.getD_some, f3]
  exact h
end
section
variable {w : World} {A : Around} {E : Value → Shared → Prop} {s : Shared}
theorem re_loop {c : Nat} (hc : c = 42 ∨ c = 63 ∨ c = 91) {t tw tc tn td ts : Tok} {f l : Addr} (p : PatAt s.heap) (hl : Lst s.heap l []) {Q : PySem.Fin → Shared → Prop}
    (h : ∀ h' tk t', (∀ b o, b ≠ l → s.heap.get? b = some o → h'.get? b = some o) → Q (.done (.ret (.str ⟨#[c]⟩ t'))) { s with heap := h', toks := tk }) :
    wpAny (model pw w) A (Builtin.«re.Pattern.sub.loop» ⟨[.ref 65, .str ⟨#[c]⟩ t, .ref f, .int 1 tw, .int 0 tc, .int 0 tn, .int 0 td, .int 0 ts, .bool false, .ref l, .bool false], []⟩) Q E s := by
  unfold Builtin.«re.Pattern.sub.loop»
  refine wpAny_bind (wp_whole p ?_)
  show wpAny _ _ (reNextFound _ 0 false >>= _) _ _ _
  refine wpAny_bind (strip_wp 1000 _ (re_none c hc) ?_)
  obtain ⟨k, hl'⟩ := id hl
  show wpAny _ _ (updateSeq l (fun x => x.push (.str ⟨#[c]⟩ s.toks)) >>= _) _ _ _
  refine wpAny_bind (wpAny_updateSeq (s := { s with toks := s.toks + 1 }) hl' rfl ?_ (by decide) (show 1 ≤ sizeLine + 1 by decide))
  have hp := lst_push (v := .str ⟨#[c]⟩ s.toks) hl
  have hs := Heap.SameBut.update s.heap l (Obj.mapSeq fun xs => xs.push (.str ⟨#[c]⟩ s.toks))
  obtain ⟨k2, hp'⟩ := id hp
  refine wpAny_bind (m := mkStr ⟨#[]⟩) (wpAny_mkStr ?_ (by decide))
  refine wpAny_bind (wpAny_seqItems hp' rfl ?_)
  show wpAny _ _ (call (.builtin "str.join") [.str ⟨#[]⟩ _, .ref l] >>= _) _ _ _
  refine wpAny_bind (SC.join (l := [(⟨#[c]⟩, s.toks)]) (texts := [⟨#[c]⟩]) ⟨_, hp', rfl, _, rfl⟩ rfl rfl fun t' k' => ?_)
  exact wpAny_pure (h _ _ t' fun b o hb e => hs.extBut b o hb e)
theorem call_re_sub {c : Nat} (hc : c = 42 ∨ c = 63 ∨ c = 91) {t : Tok} {f : Addr} {o : Obj} (p : PatAt s.heap) (hf : s.heap.get? f = some o) (hfc : o.cls = .type "function") {Q : Value → Shared → Prop}
    (h : ∀ h' tk t', (∀ b o, s.heap.get? b = some o → h'.get? b = some o) → Q (.str ⟨#[c]⟩ t') { s with heap := h', toks := tk }) :
    wpAny (model pw w) A (call (.builtin "re.Pattern.sub") [.ref 65, .ref f, .str ⟨#[c]⟩ t]) Q E s := by
  obtain ⟨vs, e1, _⟩ := id p.pat
  refine wpAny_call (codeAny_call_builtin slot_re_sub.plain entry_re_sub (slot_re_sub.check _ _ _ _ _ _ _ _ (show s.TypeIs (.ref 65) "re.Pattern" from ⟨_, e1, rfl⟩) (args_re_sub _ _ _) ?_))
  show wpAny _ _ (reSubstitute "re.Pattern.sub" "sub" false ⟨[.ref 65, .ref f, .str ⟨#[c]⟩ t], []⟩) _ _ _
  unfold reSubstitute
  show wpAny _ _ (reNamed "re.Pattern.sub" "sub" ["repl", "string", "count"] 2 [.ref f, .str ⟨#[c]⟩ t] [] >>= _) _ _ _
  refine wpAny_bind (wpAny_of_eq (named_re _ _) ?_)
  refine wpAny_bind (m := pure 0) (wpAny_pure ?_)
  refine wpAny_bind (wpAny_specialOf (T := "function") ⟨o, hf, hfc⟩ lk_fn_call ?_)
  refine wpAny_bind (m := pure false) (wpAny_pure ?_)
  refine wpAny_bind (m := pure ((Value.ref f, (1 : Int)))) (wpAny_pure ?_)
  refine wpAny_bind (wpAny_holding (wp_whole p ?_))
  show wpAny _ _ (reNotHeld _ _ >>= _) _ _ _
  unfold reNotHeld
  refine wpAny_bind (wpAny_bind (wpAny_isInstance (T := "str") (b := false) (typeIs_str _ _ _) (by rw [isSubtype_type]; kernel_rfl) ?_))
  refine wpAny_pure ?_
  refine wpAny_bind (wpAny_newList ?_ (by decide))
  have hk : ∀ b o, s.heap.get? b = some o → (s.heap.push { cls := .type "list", dict := none, data := .seq ([] : List Value).toArray, slots := #[] }).get? b = some o := fun b o e => Heap.get?_push_of_some _ e
  refine wpAny_pure ⟨plainId_quiet plain_re_loop _, codeAny_builtin entry_re_loop ?_⟩
  rw [Around.under_plainId plain_re_loop _]
  refine re_loop hc (p.keep hk) ⟨0, Heap.get?_push_size _ rfl⟩ fun h' tk t' hk' => ?_
  exact h h' tk t' fun b o e => hk' b o (Nat.ne_of_lt (Heap.lt_size e)) (hk b o e)
end
noncomputable def lone (x : Str) : Bool := x.cps.toList == [42] || x.cps.toList == [63] || x.cps.toList == [91]
theorem lone_is {x : Str} (h : lone x = true) : ∃ c, (c = 42 ∨ c = 63 ∨ c = 91) ∧ x = ⟨#[c]⟩ := by
  obtain ⟨cps⟩ := x
  simp only [lone, Bool.or_eq_true, beq_iff_eq] at h
  rcases h with (h | h) | h
  · exact ⟨42, .inl rfl, by rw [Array.toList_inj.mp (show cps.toList = (#[42] : Array Nat).toList from h)]⟩
  · exact ⟨63, .inr (.inl rfl), by rw [Array.toList_inj.mp (show cps.toList = (#[63] : Array Nat).toList from h)]⟩
  · exact ⟨91, .inr (.inr rfl), by rw [Array.toList_inj.mp (show cps.toList = (#[91] : Array Nat).toList from h)]⟩
section
variable {sc : Scope} {n : Nat}
theorem sndX_reSub {x g z m y : Str} {px gp zp ap lap lp cp pos : Pos} {body : PySem.Expr} {scope : Scope} (hv : isVar sc x = true) (hz : isVar sc z = true) (hzd : (z == ("__debug__" : Str)) = false) (hg : g = ("_twin_re_1" : Str)) (hk : sc.names.lookup g = some .globalImplicit) (hm : m = ("sub" : Str)) (hl : (ap.endLine == cp.line) = true)
    (hch : sc.names.lookup ("chunks" : Str) = some .local) (h1 : lp.line = 90) (h2 : lp.col = 39) (hfree : ∀ x ∈ scope.names, x.2 ≠ .free) :
    SndX sc n (.Assign [.Name x px] (.Call (.Attribute (.Name g gp) m ap) [.Lambda (oneArg' y lap) body scope lp, .Name z zp] [] cp) pos) fun ρ => match findE ρ z with
      | some (.val (.str t)) => .chk (lone t) (.ret (setE ρ x (.val (.str t)), .next))
      | _ => .fail := fun c O Ap X ad ρ s I Q E h => by
  subst hg; subst hm
  have LI := lam_trans Ap O hch
  dsimp only at h
  split at h
  · rename_i t hf
    obtain ⟨hlone, h⟩ := T.holds_chk h
    obtain ⟨cc, hcc, rfl⟩ := lone_is hlone
    refine wpAny_Assign_Name ?_ rfl
    refine wpAny_Call_method_lateS rfl (few_ok rfl (by rfl)) hl ?_
    refine Name_function_global O.kind ((O.names _).trans hk) (loadGlobal_global (I.mgNs O) O.th.twin ?_) (by decide +kernel)
    have hp := pat_at O.th I.wf.stays
    obtain ⟨vs, e1, _⟩ := id hp.pat
    refine ⟨"re.Pattern", "re.Pattern.sub", plainAttrs_re, slot_re_sub, type_re_sub, ⟨_, e1, rfl⟩, fun a ha => ?_, ?_⟩
    · cases ha; exact ⟨_, e1, rfl⟩
    show wpAny _ _ (callWith cp _ _ [(false, eval (.Lambda (oneArg' y lap) body scope lp) c.env), (false, eval (.Name z zp) c.env)] []) _ _ _
    refine callWith_builtin rfl (evalArgs_plain (Calls.spliced_cons (wp_lambda O I LI h1 h2 hfree fun f c' pm ctv s₂ x₂ hf0 hfo hrec => ?_)))
    have I₂ := I.nxt O x₂
    refine Calls.spliced_cons (wpAny_Name (ldName O I₂ (findE_mem hf) (isVar_or hz) fun v r => ?_) hzd)
    obtain ⟨u, rfl⟩ := r
    refine Calls.spliced_nil ?_
    refine call_re_sub hcc (pat_at O.th I₂.wf.stays) hfo rfl fun h' tk t' hk' => ?_
    have x₃ : Nxt c.H c.F s₂ { s₂ with heap := h', toks := tk } := ⟨.keep I₂.wf.stays I₂.wf.tabs hk', rfl, rfl⟩
    exact wp_store O Ap ((I₂.nxt O x₃).wo _) hv (e := .val (.str ⟨#[cc]⟩)) .val ⟨_, rfl⟩ fun s₄ I₄ => h s₄ X ad _ I₄ trivial
  · exact h.elim
theorem sndT_InTuple {l : PySem.Expr} {es : List PySem.Expr} {k : Nat} {tp pos : Pos} {tl : Rho → T PV} {te : Rho → T (List PV)} (hl : SndB sc n l tl) (he : SndL sc n es te) :
    SndT sc n (.Compare l [.In] [.Tuple es k tp] pos) fun ρ => (tl ρ).bind fun a => (te ρ).bind fun ds => .chk (decide (ds.length ≤ sizeLine)) (inP a ds) := fun c O X ad ρ s I Q E h => by
  refine wpAny_isTrue_Compare1 (hl c O X ad ρ s I _ _ (T.holds_mono (fun a ha va s₁ x₁ ra => ?_) _ (T.holds_bind _ h))) rfl
  have I₁ := I.nxt O x₁
  refine wpAny_Tuple (he c O X ad ρ s₁ I₁ tp _ _ (T.holds_mono (fun ds hds us s₂ x₂ rs => ?_) _ (T.holds_bind _ ha)))
  have I₂ := I₁.nxt O x₂
  obtain ⟨hz, hds⟩ := T.holds_chk hds
  refine ⟨by rw [rs.length]; simpa using hz, ?_⟩
  have x₃ := I₂.push { cls := .type "tuple", dict := none, data := .seq us.toArray, slots := #[] } s₂.toks
  have I₃ := I₂.nxt O x₃
  obtain ⟨p, hp, h⟩ := T.holds_opt (T.holds_bind _ hds)
  obtain ⟨q, hq, h⟩ := T.holds_opt (T.holds_bind _ h)
  obtain ⟨hb, h⟩ := T.holds_chk h
  simp only [Bool.and_eq_true, decide_eq_true_eq] at hb
  obtain ⟨as, r1⟩ := (I₂.rb O x₃ (I₁.rb O x₂ ra)).reads hp
  obtain ⟨bs, r2⟩ := Rps.reads _ _ _ (I₂.rps O x₃ rs) hq
  refine SeqAt.in_tuple_reads (xs := q) (as := bs) (.tuple (Heap.get?_push_size _ rfl) rfl rfl (by simpa using r2)) r1 hb.1.1 hb.1.2 (O.depth30 hb.2) ?_
  exact wpAny_truthy_bool (h _ ((x₁.trans x₂).trans x₃))
end
noncomputable def Y5 (n : Nat) (F : FS n) (X : Extra n) (W : Nat) : Nat → ExtraX n
  | 0 => Y1 n F X
  | k + 1 => fun sc st => match st with
  | .Assign [.Name x px] (.Call (.Attribute (.Name g gp) m ap) [.Lambda ⟨[], [⟨y, none, lap⟩], none, [], [], none, []⟩ body scope lp, .Name z zp] [] cp) pos =>
    if h : (isVar sc x = true ∧ isVar sc z = true ∧ (z == ("__debug__" : Str)) = false) ∧ g = ("_twin_re_1" : Str) ∧ isGlob sc g = true ∧ m = ("sub" : Str) ∧ (ap.endLine == cp.line) = true ∧ sc.names.lookup ("chunks" : Str) = some .local ∧ lp.line = 90 ∧ lp.col = 39 ∧ (scope.names.all fun x => x.2 != .free) = true then
      some ⟨_, sndX_reSub h.1.1 h.1.2.1 h.1.2.2 h.2.1 (isGlob_is h.2.2.1) h.2.2.2.1 h.2.2.2.2.1 h.2.2.2.2.2.1 h.2.2.2.2.2.2.1 h.2.2.2.2.2.2.2.1 (fun x hx => by simpa using List.all_eq_true.mp h.2.2.2.2.2.2.2.2 x hx)⟩ else none
  | .If (.Compare l [.In] [.Tuple es kk tp] cpos) a b pos => some ⟨_, sndX_If (sndT_InTuple (rd F X 20 sc l).ba.2 (rdL (rd F X 20 sc) es).2) (rdS (rdX F X (Y5 n F X W k) W 18 sc) a).2 (rdS (rdX F X (Y5 n F X W k) W 18 sc) b).2⟩
  | st => Y1 n F X sc st
end Mine
namespace Mine
noncomputable def tx (l : List Nat) : Str := ⟨l.toArray⟩
theorem tx_len (l : List Nat) : (tx l).length = l.length := by simp [tx, Str.length]
theorem tx_list (l : List Nat) : (tx l).cps.toList = l := by simp [tx]
theorem tx_app (l m : List Nat) : tx l ++ tx m = tx (l ++ m) := by
  apply Str.ext'
  rw [Str.cps_append]
  simp [tx]
theorem tx_of (x : Str) : x = tx x.cps.toList := by apply Str.ext'; simp [tx]
theorem tx_inj {l m : List Nat} (h : tx l = tx m) : l = m := by
  have := congrArg (fun x : Str => x.cps.toList) h
  simpa [tx] using this
theorem tx_get {l : List Nat} {i : Nat} : (tx l).cps[i]? = l[i]? := by simp [tx]
theorem tx_at {l : List Nat} {i : Nat} {c : Nat} (h : l[i]? = some c) : Txt.charAt (tx l) (i : Int) = some c := by
  unfold Txt.charAt
  refine StrLaws.at_nonneg (by omega) ?_
  show (tx l).cps[((i : Nat) : Int).toNat]? = some c
  rw [Int.toNat_natCast, tx_get]; exact h
theorem itm_at {l : List Nat} {i : Nat} {c : Nat} (h : l[i]? = some c) (hs : l.length ≤ 1000) : itmP (.str (tx l)) (.int (i : Int)) = .chk true (.ret (.str (tx [c]))) := by
  have hi := (List.getElem?_eq_some_iff.mp h).1
  have hf : fitsSsize (i : Int) = true := by
    have : i < 1000 := by omega
    unfold fitsSsize
    simp only [decide_eq_true_eq, Bool.and_eq_true, Bool.not_eq_true', Bool.or_eq_false_iff, decide_eq_false_iff_not] <;> omega
  show T.chk (fitsSsize (i : Int) && (Txt.charAt (tx l) (i : Int)).isSome) (T.ret (PV.str (Txt.item (tx l) (i : Int)))) = _
  unfold Txt.item
  rw [tx_at h, hf]
  rfl
theorem slc_at (l : List Nat) {a b : Nat} (hab : a ≤ b) (hb : b ≤ l.length) : Txt.slice (tx l) (some (a : Int)) (some (b : Int)) = tx ((l.drop a).take (b - a)) := by
  have := StrLaws.sliceText_nat (tx l) hab (by rw [tx_len]; exact hb)
  rw [tx_list] at this
  exact this
theorem contains_one (l : List Nat) (c : Nat) : Txt.contains (tx l) (tx [c]) = decide (c ∈ l) := by
  have := StrLaws.found_one (tx l) c
  rw [tx_list] at this
  exact this
end Mine
namespace Mine
noncomputable def F6 (n : Nat) : FS (n + 1) := ⟨[("escape", escS)], fun p hp => by
  simp only [List.mem_cons, List.mem_nil_iff, or_false] at hp
  rcases hp with rfl
  exact con_escape n⟩
noncomputable abbrev trY (n : Nat) : ExtraX (n + 1) := Y5 (n + 1) (F6 n) (X2 (n + 1) (F6 n)) 100 3
noncomputable def rdB (n k : Nat) (ss : List PySem.Stmt) : Rho → T (Rho × Fl) := (rdS (rdX (F6 n) (X2 (n + 1) (F6 n)) (trY n) 100 k (scAt 13)) ss).1
noncomputable def ifT : Option PySem.Stmt → List PySem.Stmt | some (.If _ a _ _) => a | _ => []
noncomputable def ifE : Option PySem.Stmt → List PySem.Stmt | some (.If _ _ b _) => b | _ => []
noncomputable def trW : List PySem.Stmt := forBody (bodyAt 13)[3]?
noncomputable def trElse1 : List PySem.Stmt := ifE (trW[2]? : Option PySem.Stmt)
noncomputable def trElse2 : List PySem.Stmt := ifE (trElse1[0]? : Option PySem.Stmt)
noncomputable def trBrk : List PySem.Stmt := ifT (trElse2[0]? : Option PySem.Stmt)
noncomputable def trIn : List PySem.Stmt := ifE (trBrk[4]? : Option PySem.Stmt)
noncomputable def intE (i : Int) : T PV := .ret (.int i)
noncomputable def strE (x : Str) : T PV := .ret (.str x)
noncomputable def asgT (x : Str) (t : Rho → T PV) (ρ : Rho) : T (Rho × Fl) := (t ρ).bind fun d => .ret (setE ρ x (.val d), .next)
noncomputable def cmT (op : CmpOp) (a b : Rho → T PV) (ρ : Rho) : T Bool := (a ρ).bind fun a => (b ρ).bind fun b => (cmpP op a b).bind truP
noncomputable def andT (a b : Rho → T Bool) (ρ : Rho) : T Bool := (a ρ).bind fun x => .ite x (b ρ) (.ret false)
noncomputable def orT (a b : Rho → T Bool) (ρ : Rho) : T Bool := (a ρ).bind fun x => .ite x (.ret true) (b ρ)
noncomputable def notT (t : Rho → T Bool) (ρ : Rho) : T Bool := (t ρ).bind fun b => .ret (!b)
noncomputable def trT (t : Rho → T PV) (ρ : Rho) : T Bool := (t ρ).bind truP
noncomputable def ifX (c : Rho → T Bool) (a b : Rho → T (Rho × Fl)) (ρ : Rho) : T (Rho × Fl) := (c ρ).bind fun c => .ite c (a ρ) (b ρ)
noncomputable def subT (a i : Rho → T PV) (ρ : Rho) : T PV := (a ρ).bind fun d => (i ρ).bind fun k => itmP d k
noncomputable def binT (op : Operator) (a b : Rho → T PV) (ρ : Rho) : T PV := (a ρ).bind fun a => (b ρ).bind fun b => binP op a b
noncomputable def addT (t : Rho → T PV) (ρ : Rho) : T (Rho × Fl) := match findE ρ "add" with
  | some (.app x) => (match findE ρ x with
    | some (.own l) => (t ρ).bind fun d => .chk (decide (l.length ≤ sizeLine)) (.ret (updE ρ x (.own (l ++ [d])), .next))
    | _ => .fail)
  | _ => .fail
noncomputable abbrev vB (x : Str) : Rho → T PV := fun ρ => valB ρ x
noncomputable abbrev vE (x : Str) : Rho → T PV := fun ρ => valE ρ x
noncomputable def escT (ρ : Rho) : T PV := ((valE ρ "c").bind fun d => (.ret [d] : T (List PV))).bind escS
theorem tr_st0 (n : Nat) (ρ : Rho) : rsX (F6 n) (X2 (n + 1) (F6 n)) (trY n) 100 13 0 ρ = .chk true (.ret (setE ρ "res" (.own []), .next)) := by kernel_rfl
theorem tr_st1 (n : Nat) (ρ : Rho) : rsX (F6 n) (X2 (n + 1) (F6 n)) (trY n) 100 13 1 ρ = match findE (without ρ "add") "res" with
      | some (.own l) => .ret (setE ρ "add" (.app "res"), .next)
      | _ => .fail := by kernel_rfl
theorem tr_st2 (n : Nat) (ρ : Rho) : rsX (F6 n) (X2 (n + 1) (F6 n)) (trY n) 100 13 2 ρ = ((intE 0).bind fun a => (((valB ρ "pat").bind lenP).bind fun b => (.ret [b] : T (List PV))).bind fun ds => (.ret (a :: ds) : T (List PV))).bind fun ds => .chk (ds.length == 2 && decide (ds.length ≤ sizeLine)) (.ret (setAll ρ (([("i" : Str), ("n" : Str)]).reverse.zip ds.reverse), .next)) := by kernel_rfl
theorem tr_st3 (n : Nat) (ρ : Rho) : rsX (F6 n) (X2 (n + 1) (F6 n)) (trY n) 100 13 3 ρ = whileT (cmT .Lt (vB "i") (vB "n")) (rdB n 19 trW) 100 ρ := by kernel_rfl
theorem tr_st4 (n : Nat) (ρ : Rho) : rsX (F6 n) (X2 (n + 1) (F6 n)) (trY n) 100 13 4 ρ = (cmT .Eq (vB "i") (vB "n") ρ).bind fun c => .chk c (.ret (ρ, .next)) := by kernel_rfl
theorem tr_st5 (n : Nat) (ρ : Rho) : rsX (F6 n) (X2 (n + 1) (F6 n)) (trY n) 100 13 5 ρ = (valE (frz ρ "res") "res").bind fun d => .ret (frz ρ "res", .ret d) := by kernel_rfl
theorem tr_w (n : Nat) : rdB n 19 trW = seqT (asgT "c" (subT (vB "pat") (vB "i"))) (seqT (asgT "i" (binT .Add (vB "i") fun _ => intE 1)) (seqT (ifX (cmT .Eq (vB "c") fun _ => strE "*") (rdB n 18 (ifT (trW[2]? : Option PySem.Stmt))) (rdB n 18 trElse1)) stop)) := by kernel_rfl
theorem tr_star (n : Nat) : rdB n 18 (ifT (trW[2]? : Option PySem.Stmt)) = seqT (ifX (orT (notT (trT (vB "res"))) (cmT .IsNot (subT (vB "res") fun _ => intE (-1)) (vB "STAR"))) (seqT (addT (vE "STAR")) stop) stop) stop := by kernel_rfl
theorem tr_e1 (n : Nat) : rdB n 18 trElse1 = seqT (ifX (cmT .Eq (vB "c") fun _ => strE "?") (rdB n 17 (ifT (trElse1[0]? : Option PySem.Stmt))) (rdB n 17 trElse2)) stop := by kernel_rfl
theorem tr_e2 (n : Nat) : rdB n 17 trElse2 = seqT (ifX (cmT .Eq (vB "c") fun _ => strE "[") (rdB n 16 trBrk) (seqT (addT escT) stop)) stop := by kernel_rfl
noncomputable def jIs (x : Str) (op : CmpOp) : Rho → T Bool := andT (cmT .Lt (vB "j") (vB "n")) (cmT op (subT (vB "pat") (vB "j")) fun _ => strE x)
noncomputable def jInc : Rho → T (Rho × Fl) := seqT (asgT "j" (binT .Add (vB "j") fun _ => intE 1)) stop
theorem tr_brk (n : Nat) : rdB n 16 trBrk = seqT (fun ρ => (valE (frz ρ "i") "i").bind fun d => .ret (setE (frz ρ "i") "j" (.val d), .next)) (seqT (ifX (jIs "!" .Eq) jInc stop) (seqT (ifX (jIs "]" .Eq) jInc stop) (seqT (whileT (jIs "]" .NotEq) jInc 100) (seqT (ifX (cmT .GtE (vB "j") (vB "n")) (rdB n 15 (ifT (trBrk[4]? : Option PySem.Stmt))) (rdB n 15 trIn)) stop)))) := by kernel_rfl
noncomputable def slT (ρ : Rho) : T PV := (valB ρ "pat").bind fun d => (((valE ρ "i").bind fun d => match d with | .int i => .ret (some i) | _ => .fail) : T (Option Int)).bind fun x => (((valE ρ "j").bind fun d => match d with | .int i => .ret (some i) | _ => .fail) : T (Option Int)).bind fun y => slcP d x y
noncomputable def rpT (ρ : Rho) : T PV := (valB ρ "stuff").bind fun d => match d with | .str x => ((.ret [.str "\\", .str "\\\\"] : T (List PV))).bind fun ds => replP x ds | _ => .fail
noncomputable def sbT (ρ : Rho) : T (Rho × Fl) := match findE ρ "stuff" with
      | some (.val (.str t)) => .chk (lone t) (.ret (setE ρ "stuff" (.val (.str t)), .next))
      | _ => .fail
theorem tr_in (n : Nat) : rdB n 15 trIn = seqT (asgT "stuff" slT) (seqT (ifX (cmT .NotIn (fun _ => strE "-") (vB "stuff")) (seqT (asgT "stuff" rpT) stop) (rdB n 14 (ifE (trIn[1]? : Option PySem.Stmt)))) (seqT sbT (seqT (asgT "i" (binT .Add (vB "j") fun _ => intE 1)) (seqT (ifX (notT (trT (vB "stuff"))) (rdB n 14 (ifT (trIn[4]? : Option PySem.Stmt))) (rdB n 14 (ifE (trIn[4]? : Option PySem.Stmt)))) stop)))) := by kernel_rfl
end Mine
namespace Mine
noncomputable def trL1 : List PySem.Stmt := ifE (trIn[4]? : Option PySem.Stmt)
noncomputable def trL2 : List PySem.Stmt := ifE (trL1[0]? : Option PySem.Stmt)
noncomputable def trL3 : List PySem.Stmt := ifE (trL2[0]? : Option PySem.Stmt)
noncomputable def fsT (ρ : Rho) : T PV := ((.chk (decide ((Str.empty ++ ("[" : Str)).length ≤ sizeLine)) ((valE ρ "stuff").bind fun d => match d with
    | .str x => .chk (decide (x.length ≤ sizeLine) && decide (((Str.empty ++ ("[" : Str)) ++ x).length ≤ sizeLine)) (.chk (decide ((((Str.empty ++ ("[" : Str)) ++ x) ++ ("]" : Str)).length ≤ sizeLine)) (.ret (((Str.empty ++ ("[" : Str)) ++ x) ++ ("]" : Str)))) | _ => .fail) : T Str)).bind fun x => .chk (decide (x.length ≤ sizeLine)) (.ret (.str x))
noncomputable def esT : Rho → T (Rho × Fl) := asgT "stuff" (binT .Add (fun _ => strE "\\") (vB "stuff"))
theorem tr_l1 (n : Nat) : rdB n 14 trL1 = seqT (ifX (cmT .Eq (vB "stuff") fun _ => strE "!") (rdB n 13 (ifT (trL1[0]? : Option PySem.Stmt))) (rdB n 13 trL2)) stop := by kernel_rfl
theorem tr_l2 (n : Nat) : rdB n 13 trL2 = seqT (ifX (cmT .Eq (subT (vB "stuff") fun _ => intE 0) fun _ => strE "!") (rdB n 12 (ifT (trL2[0]? : Option PySem.Stmt))) (rdB n 12 trL3)) (seqT (addT fsT) stop) := by kernel_rfl
theorem tr_l3 (n : Nat) : rdB n 12 trL3 = seqT (ifX (fun ρ => (subT (vB "stuff") (fun _ => intE 0) ρ).bind fun a => (.ret [.str "^", .str "["] : T (List PV)).bind fun ds => .chk (decide (ds.length ≤ sizeLine)) (inP a ds)) (seqT esT stop) stop) stop := by kernel_rfl
section
variable {Q : Rho × Fl → Prop} {ρ : Rho}
theorem asg_holds {x : Str} {t : Rho → T PV} {d : PV} (h : ∀ P : PV → Prop, P d → (t ρ).Holds P) (hq : Q (setE ρ x (.val d), .next)) : (asgT x t ρ).Holds Q := T.bind_holds _ (h _ hq)
theorem ifX_holds {c : Rho → T Bool} {a b : Rho → T (Rho × Fl)} {v : Bool} (h : ∀ P : Bool → Prop, P v → (c ρ).Holds P) (hq : (if v then a ρ else b ρ).Holds Q) : (ifX c a b ρ).Holds Q := by
  refine T.bind_holds _ (h _ ?_)
  cases v with
  | true => exact hq
  | false => exact hq
theorem add_holds {t : Rho → T PV} {d : PV} {l : List PV} (h1 : Has ρ "add" (.app "res")) (h2 : Has ρ "res" (.own l)) (hl : l.length ≤ 1000) (h : ∀ P : PV → Prop, P d → (t ρ).Holds P) (hq : Q (updE ρ "res" (.own (l ++ [d])), .next)) : (addT t ρ).Holds Q := by
  unfold addT
  have e1 : findE ρ "add" = some (.app "res") := h1
  have e2 : findE ρ "res" = some (.own l) := h2
  rw [e1]
  simp only [e2]
  exact T.bind_holds _ (h _ (T.chk_holds (decide_eq_true (Nat.le_trans hl (by decide))) hq))
theorem cm_holds {op : CmpOp} {a b : Rho → T PV} {x y : PV} {v : Bool} (ha : ∀ P : PV → Prop, P x → (a ρ).Holds P) (hb : ∀ P : PV → Prop, P y → (b ρ).Holds P) (hv : ∀ P : PV → Prop, P (.bool v) → (cmpP op x y).Holds P) {P : Bool → Prop} (hp : P v) : (cmT op a b ρ).Holds P :=
  T.bind_holds _ (ha _ (T.bind_holds _ (hb _ (T.bind_holds _ (hv _ hp)))))
theorem vB_holds {x : Str} {d : PV} (h : Has ρ x (.val d)) {P : PV → Prop} (hp : P d) : (vB x ρ).Holds P := by show (valB ρ x).Holds P; rw [valB_of h]; exact hp
theorem vE_holds {x : Str} {d : PV} (h : Has ρ x (.val d)) {P : PV → Prop} (hp : P d) : (vE x ρ).Holds P := by show (valE ρ x).Holds P; rw [valE_of h]; exact hp
theorem sub_holds {a i : Rho → T PV} {x k d : PV} (ha : ∀ P : PV → Prop, P x → (a ρ).Holds P) (hi : ∀ P : PV → Prop, P k → (i ρ).Holds P) (hd : ∀ P : PV → Prop, P d → (itmP x k).Holds P) {P : PV → Prop} (hp : P d) : (subT a i ρ).Holds P :=
  T.bind_holds _ (ha _ (T.bind_holds _ (hi _ (hd _ hp))))
theorem bin_holds {op : Operator} {a b : Rho → T PV} {x y d : PV} (ha : ∀ P : PV → Prop, P x → (a ρ).Holds P) (hb : ∀ P : PV → Prop, P y → (b ρ).Holds P) (hd : ∀ P : PV → Prop, P d → (binP op x y).Holds P) {P : PV → Prop} (hp : P d) : (binT op a b ρ).Holds P :=
  T.bind_holds _ (ha _ (T.bind_holds _ (hb _ (hd _ hp))))
theorem one_str {c d : Nat} : ∀ P : PV → Prop, P (.bool (c == d)) → (cmpP .Eq (.str (tx [c])) (.str (tx [d]))).Holds P := fun P h => by
  have e : (c == d) = ([c] == [d]) := by simp
  rw [e] at h
  exact h
end
end Mine
namespace Mine
theorem strE_holds {s : Str} {l : List Nat} {ρ : Rho} (e : s = tx l) {P : PV → Prop} (h : P (.str (tx l))) : ((fun _ : Rho => strE s) ρ).Holds P := by subst e; exact h
theorem s_star : ("*" : Str) = tx [42] := by decide +kernel
theorem s_q : ("?" : Str) = tx [63] := by decide +kernel
theorem s_br : ("[" : Str) = tx [91] := by decide +kernel
theorem s_cl : ("]" : Str) = tx [93] := by decide +kernel
theorem s_bang : ("!" : Str) = tx [33] := by decide +kernel
theorem s_dash : ("-" : Str) = tx [45] := by decide +kernel
theorem s_bs : ("\\" : Str) = tx [92] := by decide +kernel
noncomputable def isLone (c : Nat) : Bool := c == 42 || c == 63 || c == 91
noncomputable def tok (c : Nat) : Str := if isLone c then (if c = 91 then tx [91, 92, 91, 93] else tx [91, c, 93]) else escC c
structure TrI (q : List Nat) (st : PV) (i : Nat) (l : List PV) (ρ : Rho) : Prop where
  pat : Has ρ "pat" (.val (.str (tx q)))
  n : Has ρ "n" (.val (.int (q.length : Nat)))
  i : Has ρ "i" (.val (.int (i : Nat)))
  res : Has ρ "res" (.own l)
  add : Has ρ "add" (.app "res")
  star : Has ρ "STAR" (.val st)
theorem TrI.set {q : List Nat} {st : PV} {i : Nat} {l : List PV} {ρ : Rho} (T : TrI q st i l ρ) {x : Str} {e : Ent} (hx : (x == "pat") = false ∧ (x == "n") = false ∧ (x == "i") = false ∧ (x == "res") = false ∧ (x == "add") = false ∧ (x == "STAR") = false) : TrI q st i l (setE ρ x e) :=
  ⟨T.pat.set_ne hx.1 rfl, T.n.set_ne hx.2.1 rfl, T.i.set_ne hx.2.2.1 rfl, T.res.set_ne hx.2.2.2.1 rfl, T.add.set_ne hx.2.2.2.2.1 (by
    show ("res" == x) = false
    have := hx.2.2.2.1
    cases q : (("res" : Str) == x) with
    | false => rfl
    | true => have : ("res" : Str) = x := by simpa using q
              subst this; simp at this), T.star.set_ne hx.2.2.2.2.2 rfl⟩
theorem TrI.seti {q : List Nat} {st : PV} {i j : Nat} {l : List PV} {ρ : Rho} (T : TrI q st i l ρ) : TrI q st j l (setE ρ "i" (.val (.int (j : Nat)))) :=
  ⟨T.pat.set_ne (by decide +kernel) rfl, T.n.set_ne (by decide +kernel) rfl, Has.set, T.res.set_ne (by decide +kernel) rfl, T.add.set_ne (by decide +kernel) (by decide +kernel), T.star.set_ne (by decide +kernel) rfl⟩
theorem TrI.put {q : List Nat} {st : PV} {i : Nat} {l : List PV} {ρ : Rho} (T : TrI q st i l ρ) (l' : List PV) : TrI q st i l' (updE ρ "res" (.own l')) :=
  ⟨T.pat.upd_ne (by decide +kernel), T.n.upd_ne (by decide +kernel), T.i.upd_ne (by decide +kernel), Has.upd, T.add.upd_ne (by decide +kernel), T.star.upd_ne (by decide +kernel)⟩
theorem lt_holds {a b : Nat} : ∀ P : PV → Prop, P (.bool (decide (a < b))) → (cmpP .Lt (.int (a : Nat)) (.int (b : Nat))).Holds P := fun P h => by
  have e : decide ((a : Int) < (b : Int)) = decide (a < b) := decide_eq_decide.mpr (by omega)
  show P (.bool (decide ((a : Int) < (b : Int))))
  rw [e]; exact h
theorem ge_holds {a b : Nat} : ∀ P : PV → Prop, P (.bool (decide (b ≤ a))) → (cmpP .GtE (.int (a : Nat)) (.int (b : Nat))).Holds P := fun P h => by
  have e : decide ((a : Int) ≥ (b : Int)) = decide (b ≤ a) := decide_eq_decide.mpr (by omega)
  show P (.bool (decide ((a : Int) ≥ (b : Int))))
  rw [e]; exact h
theorem inc_holds {a : Nat} : ∀ P : PV → Prop, P (.int ((a + 1 : Nat) : Int)) → (binP .Add (.int (a : Nat)) (.int 1)).Holds P := fun P h => by
  show P (.int ((a : Int) + 1))
  exact h
theorem one_ne {c d : Nat} : ∀ P : PV → Prop, P (.bool (!(c == d))) → (cmpP .NotEq (.str (tx [c])) (.str (tx [d]))).Holds P := fun P h => by
  have e : (c == d) = ([c] == [d]) := by simp
  rw [e] at h
  exact h
theorem and_holds {a b : Rho → T Bool} {va vb : Bool} {ρ : Rho} (ha : ∀ P : Bool → Prop, P va → (a ρ).Holds P) (hb : va = true → ∀ P : Bool → Prop, P vb → (b ρ).Holds P) {P : Bool → Prop} (hp : P (va && vb)) : (andT a b ρ).Holds P := by
  refine T.bind_holds _ (ha _ ?_)
  cases va with
  | true => exact hb rfl _ hp
  | false => exact hp
theorem not_holds {a : Rho → T Bool} {va : Bool} {ρ : Rho} (ha : ∀ P : Bool → Prop, P va → (a ρ).Holds P) {P : Bool → Prop} (hp : P (!va)) : (notT a ρ).Holds P := T.bind_holds _ (ha _ hp)
section
variable {q : List Nat} {st : PV} {i : Nat} {l : List PV} {ρ : Rho} {Q : Rho × Fl → Prop}
theorem tr_head {c : Nat} (J : TrI q st i l ρ) (hc : q[i]? = some c) (hq : q.length ≤ 900) {t : Rho → T (Rho × Fl)} (h : ∀ ρ', TrI q st (i + 1) l ρ' → Has ρ' "c" (.val (.str (tx [c]))) → (t ρ').Holds Q) :
    (seqT (asgT "c" (subT (vB "pat") (vB "i"))) (seqT (asgT "i" (binT .Add (vB "i") fun _ => intE 1)) t) ρ).Holds Q := by
  refine seq_intro (asg_holds (d := .str (tx [c])) (fun P hp => sub_holds (fun P h => vB_holds J.pat h) (fun P h => vB_holds J.i h) (fun P h => by rw [itm_at hc (by omega)]; exact T.chk_holds rfl h) hp) ?_)
  have J1 : TrI q st i l (setE ρ "c" (.val (.str (tx [c]))))   := J.set (by decide +kernel)
  refine seq_intro (asg_holds (d := .int ((i + 1 : Nat) : Int)) (fun P hp => bin_holds (fun P h => vB_holds J1.i h) (fun P (h : P (PV.int 1)) => (show T.Holds P (intE 1) from h)) inc_holds hp) ?_)
  exact h _ J1.seti (Has.set_ne Has.set (by decide +kernel) rfl)
theorem eq_c {c d : Nat} {s : Str} (hs : s = tx [d]) (hc : Has ρ "c" (.val (.str (tx [c])))) : ∀ P : Bool → Prop, P (c == d) → (cmT .Eq (vB "c") (fun _ => strE s) ρ).Holds P := fun P hp =>
  cm_holds (fun P h => vB_holds hc h) (fun P h => strE_holds (ρ := ρ) hs h) one_str hp
theorem tr_plain (n : Nat) {c : Nat} (J : TrI q st i l ρ) (hc : q[i]? = some c) (hl : isLone c = false) (h128 : c < 128) (hq : q.length ≤ 900) (hll : l.length ≤ 900) (h : ∀ ρ', TrI q st (i + 1) (l ++ [.str (tok c)]) ρ' → Q (ρ', .next)) : (rdB n 19 trW ρ).Holds Q := by
  have hne : (c == 42) = false ∧ (c == 63) = false ∧ (c == 91) = false := by
    simp only [isLone, Bool.or_eq_false_iff] at hl
    exact ⟨hl.1.1, hl.1.2, hl.2⟩
  rw [tr_w]
  refine tr_head J hc hq fun ρ' T' hc' => ?_
  refine seq_intro (ifX_holds (eq_c s_star hc') ?_)
  rw [hne.1, if_neg (by decide), tr_e1]
  refine seq_intro (ifX_holds (eq_c s_q hc') ?_)
  rw [hne.2.1, if_neg (by decide), tr_e2]
  refine seq_intro (ifX_holds (eq_c s_br hc') ?_)
  rw [hne.2.2, if_neg (by decide)]
  refine seq_intro (add_holds (d := .str (tok c)) T'.add T'.res (by omega) (fun P hp => ?_) ?_)
  · unfold escT
    rw [valE_of hc']
    show T.Holds P (escS [.str (tx [c])])
    have e : escS [.str (tx [c])] = .chk (decide (c < 128)) (.ret (.str (escC c))) := rfl
    rw [e]
    have et : tok c = escC c := by unfold tok; rw [hl]; rfl
    rw [et] at hp
    exact T.chk_holds (decide_eq_true h128) hp
  · exact h _ (T'.put _)
theorem tr_last (n : Nat) (J : TrI q st i l ρ) (hst : ∃ a, st = .raw (.ref a)) (hc : q[i]? = some 42) (hq : q.length ≤ 900) (hll : l.length ≤ 900) (hls : ∀ d ∈ l, ∃ x, d = .str x) (h : ∀ ρ', TrI q st (i + 1) (l ++ [st]) ρ' → Q (ρ', .next)) : (rdB n 19 trW ρ).Holds Q := by
  rw [tr_w]
  refine tr_head J hc hq fun ρ' T' hc' => ?_
  refine seq_intro (ifX_holds (eq_c s_star hc') ?_)
  rw [show ((42 : Nat) == 42) = true from rfl, if_pos rfl, tr_star]
  have hz : l.length ≤ sizeLine := Nat.le_trans hll (by decide)
  have tst : ∀ P : Bool → Prop, P true → (orT (notT (trT (vB "res"))) (cmT .IsNot (subT (vB "res") fun _ => intE (-1)) (vB "STAR")) ρ').Holds P := fun P hp => by
    refine T.bind_holds _ (T.bind_holds _ ?_)
    show T.Holds _ ((valB ρ' "res").bind truP)
    rw [valB_own T'.res]
    refine T.chk_holds (decide_eq_true hz) ?_
    cases l with
    | nil => exact hp
    | cons d0 r =>
      show T.Holds P (cmT .IsNot (subT (vB "res") fun _ => intE (-1)) (vB "STAR") ρ')
      have hlast : ∃ x, (d0 :: r)[((-1 : Int) + (d0 :: r).length).toNat]? = some (.str x) := by
        have hlt : ((-1 : Int) + (d0 :: r).length).toNat < (d0 :: r).length := by simp only [List.length_cons]; omega
        obtain ⟨x, hx⟩ := hls _ (List.getElem_mem hlt)
        exact ⟨x, by rw [List.getElem?_eq_getElem hlt, hx]⟩
      obtain ⟨x, hx⟩ := hlast
      obtain ⟨a, rfl⟩ := hst
      refine cm_holds (x := .str x) (y := .raw (.ref a)) (v := true) (fun P hp => sub_holds (x := .list (d0 :: r)) (k := .int (-1)) (fun P h => by show (valB ρ' "res").Holds P; rw [valB_own T'.res]; exact h) (fun P (h : P (PV.int (-1))) => (show T.Holds P (intE (-1)) from h)) (fun P h => ?_) hp) (fun P h => vB_holds T'.star h) (fun P (h : P (PV.bool true)) => (show T.Holds P (cmpP .IsNot (.str x) (.raw (.ref a))) from h)) hp
      show T.Holds P (.chk (decide ((d0 :: r).length ≤ sizeLine)) (T.ite (decide ((0 : Int) ≤ -1)) _ (.chk (decide (-((d0 :: r).length : Int) ≤ -1)) (T.ofOpt (d0 :: r)[((-1 : Int) + (d0 :: r).length).toNat]?))))
      rw [hx]
      refine T.chk_holds (decide_eq_true hz) ?_
      show T.Holds P (T.chk _ _)
      exact T.chk_holds (decide_eq_true (by simp only [List.length_cons]; omega)) h
  refine seq_intro (ifX_holds (v := true) tst ?_)
  rw [if_pos rfl]
  refine seq_intro (add_holds (d := st) T'.add T'.res (by omega) (fun P hp => vE_holds T'.star hp) ?_)
  exact h _ (T'.put _)
end
end Mine
namespace Mine
section
variable {q : List Nat} {st : PV} {i : Nat} {l : List PV} {ρ : Rho} {Q : Rho × Fl → Prop}
theorem jIs_eq {j x d : Nat} {s : Str} (hs : s = tx [d]) (J : TrI q st i l ρ) (hj : Has ρ "j" (.val (.int (j : Nat)))) (hx : q[j]? = some x) (hq : q.length ≤ 900) : ∀ P : Bool → Prop, P (x == d) → (jIs s .Eq ρ).Holds P := fun P hp => by
  have hlt := (List.getElem?_eq_some_iff.mp hx).1
  refine and_holds (va := true) (vb := x == d) (fun P hp => cm_holds (fun P h => vB_holds hj h) (fun P h => vB_holds J.n h) lt_holds (by rw [decide_eq_true hlt]; exact hp)) (fun _ P hp => cm_holds (fun P h => sub_holds (fun P h => vB_holds J.pat h) (fun P h => vB_holds hj h) (fun P h => by rw [itm_at hx (by omega)]; exact T.chk_holds rfl h) h) (fun P h => strE_holds (ρ := ρ) hs h) one_str hp) ?_
  exact hp
theorem jIs_ne {j x d : Nat} {s : Str} (hs : s = tx [d]) (J : TrI q st i l ρ) (hj : Has ρ "j" (.val (.int (j : Nat)))) (hx : q[j]? = some x) (hq : q.length ≤ 900) : ∀ P : Bool → Prop, P (!(x == d)) → (jIs s .NotEq ρ).Holds P := fun P hp => by
  have hlt := (List.getElem?_eq_some_iff.mp hx).1
  refine and_holds (va := true) (vb := !(x == d)) (fun P hp => cm_holds (fun P h => vB_holds hj h) (fun P h => vB_holds J.n h) lt_holds (by rw [decide_eq_true hlt]; exact hp)) (fun _ P hp => cm_holds (fun P h => sub_holds (fun P h => vB_holds J.pat h) (fun P h => vB_holds hj h) (fun P h => by rw [itm_at hx (by omega)]; exact T.chk_holds rfl h) h) (fun P h => strE_holds (ρ := ρ) hs h) one_ne hp) ?_
  exact hp
theorem while_stop {tt : Rho → T Bool} {tb : Rho → T (Rho × Fl)} {k : Nat} (h : ∀ P : Bool → Prop, P false → (tt ρ).Holds P) (hq : Q (ρ, .next)) : (whileT tt tb (k + 1) ρ).Holds Q := T.bind_holds _ (h _ hq)
theorem while_step {tt : Rho → T Bool} {tb : Rho → T (Rho × Fl)} {k : Nat} (h : ∀ P : Bool → Prop, P true → (tt ρ).Holds P) (hb : (tb ρ).Holds fun r => match r.2 with | .next => (whileT tt tb k r.1).Holds Q | .brk => Q (r.1, .next) | .ret d => Q (r.1, .ret d)) : (whileT tt tb (k + 1) ρ).Holds Q := by
  refine T.bind_holds _ (h _ ?_)
  show T.Holds Q ((tb ρ).bind _)
  refine T.bind_holds _ (T.holds_mono (fun r hr => ?_) _ hb)
  obtain ⟨ρ', f⟩ := r
  cases f <;> exact hr
theorem rp_lone {x : Nat} (hx : isLone x = true) : replP (tx [x]) [.str "\\", .str "\\\\"] = .chk true (.ret (.str (tx [x]))) := by
  simp only [isLone, Bool.or_eq_true, beq_iff_eq] at hx
  rcases hx with (rfl | rfl) | rfl <;> kernel_rfl
theorem lone_tx {x : Nat} (hx : isLone x = true) : lone (tx [x]) = true := by
  simp only [isLone, Bool.or_eq_true, beq_iff_eq] at hx
  rcases hx with (rfl | rfl) | rfl <;> decide +kernel
theorem dash_lone {x : Nat} (hx : isLone x = true) : Txt.contains (tx [x]) (tx [45]) = false := by
  rw [contains_one]
  simp only [isLone, Bool.or_eq_true, beq_iff_eq] at hx
  rcases hx with (rfl | rfl) | rfl <;> decide
theorem lone_ne {x : Nat} (hx : isLone x = true) : (x == 33) = false ∧ (x == 93) = false := by
  simp only [isLone, Bool.or_eq_true, beq_iff_eq] at hx
  rcases hx with (rfl | rfl) | rfl <;> exact ⟨rfl, rfl⟩
theorem in_hat {x : Nat} (hx : isLone x = true) : (inP (.str (tx [x])) [.str "^", .str "["]) = .chk true (.ret (decide (x = 91))) := by
  simp only [isLone, Bool.or_eq_true, beq_iff_eq] at hx
  rcases hx with (rfl | rfl) | rfl <;> kernel_rfl
theorem fs_lone {x : Nat} {t : List Nat} (hx : isLone x = true) (h : t = (if x = 91 then [92, 91] else [x])) (hs : Has ρ "stuff" (.val (.str (tx t)))) : ∀ P : PV → Prop, P (.str (tok x)) → (fsT ρ).Holds P := fun P hp => by
  unfold fsT
  rw [valE_of hs]
  simp only [isLone, Bool.or_eq_true, beq_iff_eq] at hx
  rcases hx with (rfl | rfl) | rfl
  · subst h; exact hp
  · subst h; exact hp
  · subst h; exact hp
theorem tr_brack (n : Nat) {x : Nat} (J : TrI q st i l ρ) (h0 : q[i]? = some 91) (h1 : q[i + 1]? = some x) (h2 : q[i + 2]? = some 93) (h3 : i + 3 < q.length) (hx : isLone x = true) (hq : q.length ≤ 900) (hll : l.length ≤ 900) (h : ∀ ρ', TrI q st (i + 3) (l ++ [.str (tok x)]) ρ' → Q (ρ', .next)) : (rdB n 19 trW ρ).Holds Q := by
  obtain ⟨n1, n2⟩ := lone_ne hx
  rw [tr_w]
  refine tr_head J h0 hq fun ρ1 J1 hc => ?_
  refine seq_intro (ifX_holds (eq_c s_star hc) ?_)
  rw [show ((91 : Nat) == 42) = false from rfl, if_neg (by decide), tr_e1]
  refine seq_intro (ifX_holds (eq_c s_q hc) ?_)
  rw [show ((91 : Nat) == 63) = false from rfl, if_neg (by decide), tr_e2]
  refine seq_intro (ifX_holds (eq_c s_br hc) ?_)
  rw [show ((91 : Nat) == 91) = true from rfl, if_pos rfl, tr_brk]
  refine seq_intro ?_
  rw [frz_val J1.i, valE_of J1.i]
  have J2 : TrI q st (i + 1) l (setE ρ1 "j" (.val (.int ((i + 1 : Nat) : Int)))) := J1.set (by decide +kernel)
  have hj2 : Has (setE ρ1 "j" (.val (.int ((i + 1 : Nat) : Int)))) "j" (.val (.int ((i + 1 : Nat) : Int))) := Has.set
  generalize hρ2 : setE ρ1 "j" (.val (.int ((i + 1 : Nat) : Int))) = ρ2 at J2 hj2
  show T.Holds _ (T.ret (setE ρ1 "j" (.val (.int ((i + 1 : Nat) : Int))), Fl.next))
  rw [hρ2]
  refine seq_intro (ifX_holds (jIs_eq s_bang J2 hj2 h1 hq) ?_)
  rw [n1, if_neg (by decide)]
  refine seq_intro (ifX_holds (jIs_eq s_cl J2 hj2 h1 hq) ?_)
  rw [n2, if_neg (by decide)]
  refine seq_intro (while_step (fun P hp => jIs_ne s_cl J2 hj2 h1 hq P (by rw [n2]; exact hp)) ?_)
  refine seq_intro (asg_holds (d := .int ((i + 2 : Nat) : Int)) (fun P hp => bin_holds (fun P h => vB_holds hj2 h) (fun P (h : P (PV.int 1)) => (show T.Holds P (intE 1) from h)) inc_holds hp) ?_)
  have J3 : TrI q st (i + 1) l (setE ρ2 "j" (.val (.int ((i + 2 : Nat) : Int)))) := J2.set (by decide +kernel)
  have hj3 : Has (setE ρ2 "j" (.val (.int ((i + 2 : Nat) : Int)))) "j" (.val (.int ((i + 2 : Nat) : Int))) := Has.set
  generalize setE ρ2 "j" (.val (.int ((i + 2 : Nat) : Int))) = ρ3 at J3 hj3
  refine while_stop (k := 98) (fun P hp => jIs_ne s_cl J3 hj3 h2 hq P hp) ?_
  refine seq_intro (ifX_holds (v := decide (q.length ≤ i + 2)) (fun P hp => cm_holds (fun P h => vB_holds hj3 h) (fun P h => vB_holds J3.n h) ge_holds hp) ?_)
  rw [decide_eq_false (by omega), if_neg (by decide), tr_in]
  have hsl : ∀ P : PV → Prop, P (.str (tx [x])) → (slT ρ3).Holds P := fun P hp => by
    unfold slT
    rw [valB_of J3.pat, valE_of J3.i, valE_of hj3]
    show T.Holds P (T.chk (decide ((tx q).length ≤ sizeLine)) (.ret (.str (Txt.slice (tx q) (some ((i + 1 : Nat) : Int)) (some ((i + 2 : Nat) : Int))))))
    refine T.chk_holds (decide_eq_true (by rw [tx_len]; exact Nat.le_trans hq (by decide))) ?_
    rw [slc_at q (by omega) (by omega)]
    have e : (q.drop (i + 1)).take (i + 2 - (i + 1)) = [x] := by
      obtain ⟨hlt, he⟩ := List.getElem?_eq_some_iff.mp h1
      rw [show i + 2 - (i + 1) = 1 by omega, List.drop_eq_getElem_cons hlt, he]; rfl
    rw [e]; exact hp
  refine seq_intro (asg_holds hsl ?_)
  have J4 : TrI q st (i + 1) l (setE ρ3 "stuff" (.val (.str (tx [x])))) := J3.set (by decide +kernel)
  have hj4 : Has (setE ρ3 "stuff" (.val (.str (tx [x])))) "j" (.val (.int ((i + 2 : Nat) : Int))) := hj3.set_ne (by decide +kernel) rfl
  have hs4 : Has (setE ρ3 "stuff" (.val (.str (tx [x])))) "stuff" (.val (.str (tx [x]))) := Has.set
  generalize setE ρ3 "stuff" (.val (.str (tx [x]))) = ρ4 at J4 hj4 hs4
  refine seq_intro (ifX_holds (v := true) (fun P hp => cm_holds (x := .str (tx [45])) (y := .str (tx [x])) (v := true) (fun P h => strE_holds (ρ := ρ4) s_dash h) (fun P h => vB_holds hs4 h) (fun P h => by
    show P (.bool (!Txt.contains (tx [x]) (tx [45])))
    rw [dash_lone hx]; exact h) hp) ?_)
  rw [if_pos rfl]
  refine seq_intro (asg_holds (d := .str (tx [x])) (fun P hp => by
    unfold rpT
    rw [valB_of hs4]
    show T.Holds P (replP (tx [x]) [.str "\\", .str "\\\\"])
    rw [rp_lone hx]
    exact T.chk_holds rfl hp) ?_)
  have J5 : TrI q st (i + 1) l (setE ρ4 "stuff" (.val (.str (tx [x])))) := J4.set (by decide +kernel)
  have hj5 : Has (setE ρ4 "stuff" (.val (.str (tx [x])))) "j" (.val (.int ((i + 2 : Nat) : Int))) := hj4.set_ne (by decide +kernel) rfl
  have hs5 : Has (setE ρ4 "stuff" (.val (.str (tx [x])))) "stuff" (.val (.str (tx [x]))) := Has.set
  generalize setE ρ4 "stuff" (.val (.str (tx [x]))) = ρ5 at J5 hj5 hs5
  refine seq_intro ?_
  unfold sbT
  rw [show findE ρ5 "stuff" = some (.val (.str (tx [x]))) from hs5]
  refine T.chk_holds (lone_tx hx) ?_
  have J6 : TrI q st (i + 1) l (setE ρ5 "stuff" (.val (.str (tx [x])))) := J5.set (by decide +kernel)
  have hj6 : Has (setE ρ5 "stuff" (.val (.str (tx [x])))) "j" (.val (.int ((i + 2 : Nat) : Int))) := hj5.set_ne (by decide +kernel) rfl
  have hs6 : Has (setE ρ5 "stuff" (.val (.str (tx [x])))) "stuff" (.val (.str (tx [x]))) := Has.set
  generalize hρ6 : setE ρ5 "stuff" (.val (.str (tx [x]))) = ρ6 at J6 hj6 hs6
  refine seq_intro (asg_holds (d := .int ((i + 3 : Nat) : Int)) (fun P hp => bin_holds (fun P h => vB_holds hj6 h) (fun P (h : P (PV.int 1)) => (show T.Holds P (intE 1) from h)) inc_holds hp) ?_)
  have J7 : TrI q st (i + 3) l (setE ρ6 "i" (.val (.int ((i + 3 : Nat) : Int)))) := J6.seti
  have hs7 : Has (setE ρ6 "i" (.val (.int ((i + 3 : Nat) : Int)))) "stuff" (.val (.str (tx [x]))) := hs6.set_ne (by decide +kernel) rfl
  generalize setE ρ6 "i" (.val (.int ((i + 3 : Nat) : Int))) = ρ7 at J7 hs7
  refine seq_intro (ifX_holds (v := false) (fun P hp => not_holds (va := true) (fun P hp => by
    show T.Holds P ((valB ρ7 "stuff").bind truP)
    rw [valB_of hs7]
    exact T.chk_holds (b := decide ((tx [x]).length ≤ sizeLine)) (decide_eq_true (by rw [tx_len]; exact (show 1 ≤ sizeLine by decide))) hp) hp) ?_)
  rw [if_neg (by decide)]
  show T.Holds _ (rdB n 14 trL1 ρ7)
  rw [tr_l1]
  refine seq_intro (ifX_holds (v := x == 33) (fun P hp => cm_holds (fun P h => vB_holds hs7 h) (fun P h => strE_holds (ρ := ρ7) s_bang h) one_str hp) ?_)
  rw [n1, if_neg (by decide), tr_l2]
  have hit0 : ∀ P : PV → Prop, P (.str (tx [x])) → (subT (vB "stuff") (fun _ => intE 0) ρ7).Holds P := fun P hp =>
    sub_holds (x := .str (tx [x])) (k := .int ((0 : Nat) : Int)) (fun P h => vB_holds hs7 h) (fun P (h : P (PV.int 0)) => (show T.Holds P (intE 0) from h)) (fun P h => by rw [itm_at (l := [x]) (i := 0) rfl (show 1 ≤ 1000 by decide)]; exact T.chk_holds rfl h) hp
  refine seq_intro (ifX_holds (v := x == 33) (fun P hp => cm_holds hit0 (fun P h => strE_holds (ρ := ρ7) s_bang h) one_str hp) ?_)
  rw [n1, if_neg (by decide), tr_l3]
  refine seq_intro (ifX_holds (v := decide (x = 91)) (fun P hp => T.bind_holds _ (hit0 _ (by
    show T.Holds P (T.chk (decide (2 ≤ sizeLine)) (inP (.str (tx [x])) [.str "^", .str "["]))
    rw [in_hat hx]
    exact T.chk_holds (decide_eq_true (by decide)) (T.chk_holds rfl hp)))) ?_)
  by_cases h91 : x = 91
  · rw [decide_eq_true h91, if_pos rfl]
    refine seq_intro (asg_holds (d := .str (tx [92, 91])) (fun P hp => bin_holds (x := .str (tx [92])) (y := .str (tx [x])) (d := .str (tx [92, 91])) (fun P h => strE_holds (ρ := ρ7) s_bs h) (fun P h => vB_holds hs7 h) (fun P h => by
      rw [h91]
      exact T.chk_holds (b := decide ((tx [92]).length + (tx [91]).length ≤ sizeLine)) (by decide +kernel) h) hp) ?_)
    have J8 : TrI q st (i + 3) l (setE ρ7 "stuff" (.val (.str (tx [92, 91])))) := J7.set (by decide +kernel)
    have hs8 : Has (setE ρ7 "stuff" (.val (.str (tx [92, 91])))) "stuff" (.val (.str (tx [92, 91]))) := Has.set
    refine seq_intro (add_holds (d := .str (tok x)) J8.add J8.res (by omega) (fs_lone hx (by rw [if_pos h91]) hs8) ?_)
    exact h _ (J8.put _)
  · rw [decide_eq_false h91, if_neg (by decide)]
    refine seq_intro (add_holds (d := .str (tok x)) J7.add J7.res (by omega) (fs_lone hx (by rw [if_neg h91]) hs7) ?_)
    exact h _ (J7.put _)
end
end Mine
namespace Mine
noncomputable def quo1 (c : Nat) : List Nat := if isLone c then [91, c, 93] else [c]
noncomputable def quo (p : List Nat) : List Nat := p.flatMap quo1
theorem quo_cons (c : Nat) (p : List Nat) : quo (c :: p) = quo1 c ++ quo p := by simp [quo]
theorem quo_len (p : List Nat) : (quo p).length ≤ 3 * p.length := by
  induction p with
  | nil => simp [quo]
  | cons c p ih =>
    rw [quo_cons, List.length_append, List.length_cons]
    have : (quo1 c).length ≤ 3 := by unfold quo1; split <;> simp
    omega
theorem quo_inj : ∀ {p p' : List Nat}, quo p = quo p' → p = p'
  | [], [], _ => rfl
  | [], c :: p', h => by
    rw [quo_cons] at h
    have := congrArg List.length h
    have h1 : 1 ≤ (quo1 c).length := by unfold quo1; split <;> simp
    rw [List.length_append, show (quo []).length = 0 from rfl] at this
    omega
  | c :: p, [], h => by
    rw [quo_cons] at h
    have := congrArg List.length h
    have h1 : 1 ≤ (quo1 c).length := by unfold quo1; split <;> simp
    rw [List.length_append, show (quo []).length = 0 from rfl] at this
    omega
  | c :: p, c' :: p', h => by
    rw [quo_cons, quo_cons] at h
    unfold quo1 at h
    by_cases hc : isLone c = true <;> by_cases hc' : isLone c' = true
    · rw [if_pos hc, if_pos hc'] at h
      simp only [List.cons_append, List.nil_append, List.cons.injEq, true_and] at h
      rw [h.1, quo_inj h.2]
    · rw [if_pos hc, if_neg hc'] at h
      simp only [List.cons_append, List.nil_append, List.cons.injEq] at h
      exact absurd (h.1 ▸ (by decide : isLone 91 = true)) hc'
    · rw [if_neg hc, if_pos hc'] at h
      simp only [List.cons_append, List.nil_append, List.cons.injEq] at h
      exact absurd (h.1 ▸ (by decide : isLone 91 = true)) hc
    · rw [if_neg hc, if_neg hc'] at h
      simp only [List.cons_append, List.nil_append, List.cons.injEq] at h
      rw [h.1, quo_inj h.2]
noncomputable def toks (p : List Nat) : List PV := p.map fun c => .str (tok c)
theorem drop_get {q r : List Nat} {i : Nat} (h : q.drop i = r) (k : Nat) : q[i + k]? = r[k]? := by rw [← h, List.getElem?_drop]
theorem tr_loop (n : Nat) {q : List Nat} {st : PV} (hst : ∃ a, st = .raw (.ref a)) (hq : q.length ≤ 900) {Q : Rho × Fl → Prop} : ∀ (p : List Nat) (i k : Nat) (l : List PV) (ρ : Rho), q.drop i = quo p ++ [42] → (∀ c ∈ p, c < 128) → p.length + 2 ≤ k → l.length + p.length ≤ 900 → (∀ d ∈ l, ∃ x, d = .str x) → TrI q st i l ρ →
    (∀ ρ', TrI q st q.length (l ++ toks p ++ [st]) ρ' → Q (ρ', .next)) → (whileT (cmT .Lt (vB "i") (vB "n")) (rdB n 19 trW) k ρ).Holds Q
  | [], i, k, l, ρ, hd, hp, hk, hl, hls, J, h => by
    obtain ⟨k, rfl⟩ : ∃ k', k = k' + 2 := ⟨k - 2, by simp at hk; omega⟩
    have h0 : q[i]? = some 42 := by have := drop_get hd 0; simpa [quo] using this
    have hlen : q.length = i + 1 := by
      have := congrArg List.length hd
      have hlt := (List.getElem?_eq_some_iff.mp h0).1
      simp [quo] at this
      omega
    refine while_step (k := k + 1) (fun P hp => cm_holds (fun P h => vB_holds J.i h) (fun P h => vB_holds J.n h) lt_holds (by rw [decide_eq_true (by omega)]; exact hp)) ?_
    refine tr_last n J hst h0 hq (by simpa using hl) hls fun ρ' J' => ?_
    refine while_stop (k := k) (fun P hp => cm_holds (fun P h => vB_holds J'.i h) (fun P h => vB_holds J'.n h) lt_holds (by rw [decide_eq_false (by omega)]; exact hp)) ?_
    have := h ρ'
    rw [hlen] at this
    exact this (by simpa [toks] using J')
  | c :: p, i, k, l, ρ, hd, hp, hk, hl, hls, J, h => by
    simp only [List.length_cons] at hk hl
    obtain ⟨k, rfl⟩ : ∃ k', k = k' + 1 := ⟨k - 1, by omega⟩
    rw [quo_cons] at hd
    have h0 : i < q.length := by
      rcases Nat.lt_or_ge i q.length with h | h
      · exact h
      · rw [List.drop_eq_nil_of_le h] at hd
        have := congrArg List.length hd
        simp at this
    have ht : ∀ P : Bool → Prop, P true → (cmT .Lt (vB "i") (vB "n") ρ).Holds P := fun P hp => cm_holds (fun P h => vB_holds J.i h) (fun P h => vB_holds J.n h) lt_holds (by rw [decide_eq_true h0]; exact hp)
    refine while_step ht ?_
    have ls' : ∀ d ∈ l ++ [PV.str (tok c)], ∃ x, d = .str x := fun d hd => (List.mem_append.mp hd).elim (hls d) fun h => ⟨_, List.mem_singleton.mp h⟩
    have fin : ∀ ρ', TrI q st q.length (l ++ [PV.str (tok c)] ++ toks p ++ [st]) ρ' → Q (ρ', .next) := fun ρ' J' => h ρ' (by simpa [toks, List.append_assoc] using J')
    by_cases hc : isLone c = true
    · unfold quo1 at hd
      rw [if_pos hc] at hd
      have g0 := drop_get hd 0
      have g1 := drop_get hd 1
      have g2 := drop_get hd 2
      have hlen : i + 3 < q.length := by
        have := congrArg List.length hd
        simp only [List.length_drop, List.length_append, List.length_cons, List.length_nil] at this
        omega
      refine tr_brack n J (by simpa using g0) (by simpa using g1) (by simpa using g2) hlen hc hq (by omega) fun ρ' J' => ?_
      exact tr_loop n hst hq p (i + 3) k _ ρ' (by
        have : q.drop (i + 3) = (q.drop i).drop 3 := by rw [List.drop_drop]
        rw [this, hd]; rfl) (fun x hx => hp x (.tail _ hx)) (by omega) (by simp; omega) ls' J' fin
    · have hc' : isLone c = false := by simpa using hc
      unfold quo1 at hd
      rw [if_neg hc] at hd
      have g0 := drop_get hd 0
      refine tr_plain n J (by simpa using g0) hc' (hp c (.head _)) hq (by omega) fun ρ' J' => ?_
      exact tr_loop n hst hq p (i + 1) k _ ρ' (by
        have : q.drop (i + 1) = (q.drop i).drop 1 := by rw [List.drop_drop]
        rw [this, hd]; rfl) (fun x hx => hp x (.tail _ hx)) (by omega) (by simp; omega) ls' J' fin
noncomputable def TrOk (p : List Nat) : Prop := p.length ≤ 90 ∧ ∀ c ∈ p, c < 128
open Classical in
noncomputable def trS : List PV → T PV
  | [.str x, .raw (.ref a), .str d] => if ∃ p, x = tx (quo p ++ [42]) ∧ TrOk p then .any (fun r => ∃ p, x = tx (quo p ++ [42]) ∧ TrOk p ∧ r = .list (toks p ++ [.raw (.ref a)])) .ret else .fail
  | _ => .fail
theorem tr_run (n : Nat) {p : List Nat} (ok : TrOk p) {a : Addr} {P : PV → Prop} (h : P (.list (toks p ++ [.raw (.ref a)]))) {ρ2 : Rho} (p2 : Has ρ2 "pat" (.val (.str (tx (quo p ++ [42]))))) (s2 : Has ρ2 "STAR" (.val (.raw (.ref a)))) (r2 : Has ρ2 "res" (.own [])) (a2 : Has ρ2 "add" (.app "res")) : ((rrX (F6 n) (X2 (n + 1) (F6 n)) (trY n) 100 13 2 ρ2).bind retT).Holds P := by
  refine rx_holds (by decide +kernel) ?_
  rw [tr_st2]
  have hq : (quo p ++ [42]).length ≤ 900 := by
    have := quo_len p
    have := ok.1
    simp only [List.length_append, List.length_cons, List.length_nil]
    omega
  show T.Holds _ ((((.ret (.int 0) : T PV)).bind fun a => (((valB ρ2 "pat").bind lenP).bind fun b => (.ret [b] : T (List PV))).bind fun ds => (.ret (a :: ds) : T (List PV))).bind fun ds => .chk (ds.length == 2 && decide (ds.length ≤ sizeLine)) (T.ret (setAll ρ2 (([("i" : Str), ("n" : Str)]).reverse.zip ds.reverse), Fl.next)))
  rw [valB_of p2]
  refine T.chk_holds (b := decide ((tx (quo p ++ [42])).length ≤ sizeLine)) (decide_eq_true (by rw [tx_len]; exact Nat.le_trans hq (by decide))) ?_
  refine T.chk_holds (show (2 == 2 && decide (2 ≤ sizeLine)) = true by decide +kernel) ?_
  show After _ P (setE (setE ρ2 "n" (.val (.int (((tx (quo p ++ [42])).length : Nat) : Int)))) "i" (.val (.int 0)), Fl.next)
  rw [tx_len]
  have J : TrI (quo p ++ [42]) (.raw (.ref a)) 0 [] (setE (setE ρ2 "n" (.val (.int (((quo p ++ [42]).length : Nat) : Int)))) "i" (.val (.int 0))) :=
    ⟨(p2.set_ne (by decide +kernel) rfl).set_ne (by decide +kernel) rfl, Has.set.set_ne (by decide +kernel) rfl, Has.set, (r2.set_ne (by decide +kernel) rfl).set_ne (by decide +kernel) rfl, (a2.set_ne (by decide +kernel) (by decide +kernel)).set_ne (by decide +kernel) (by decide +kernel), (s2.set_ne (by decide +kernel) rfl).set_ne (by decide +kernel) rfl⟩
  generalize setE (setE ρ2 "n" (.val (.int (((quo p ++ [42]).length : Nat) : Int)))) "i" (.val (.int 0)) = ρ3 at J
  refine rx_holds (by decide +kernel) ?_
  rw [tr_st3]
  refine tr_loop n ⟨a, rfl⟩ hq p 0 100 [] ρ3 (by simp) ok.2 (by have := ok.1; omega) (by have := ok.1; simp; omega) (fun _ h => nomatch h) J fun ρ' J' => ?_
  refine rx_holds (by decide +kernel) ?_
  rw [tr_st4]
  refine T.bind_holds _ (cm_holds (op := .Eq) (x := .int (((quo p ++ [42]).length : Nat) : Int)) (y := .int (((quo p ++ [42]).length : Nat) : Int)) (v := true) (fun P h => vB_holds J'.i h) (fun P h => vB_holds J'.n h) (fun P h => ?_) ?_)
  · show P (.bool ((((quo p ++ [42]).length : Nat) : Int) == (((quo p ++ [42]).length : Nat) : Int)))
    rw [beq_self_eq_true]; exact h
  refine T.chk_holds rfl (rx_holds (by decide +kernel) ?_)
  rw [tr_st5, valE_of J'.res.frz]
  rw [List.nil_append] at J' ⊢
  exact h
noncomputable def trRaw (n : Nat) : List PV → T PV := callT ["pat", "STAR", "QUESTION_MARK"] (readX (F6 n) (X2 (n + 1) (F6 n)) (trY n) 100 13).1
theorem con_trRaw (n : Nat) : Con "_translate" (n + 3) (trRaw n) := by
  refine con_readX (k := 5) (n := n + 1) (F := F6 n) (X := X2 (n + 1) (F6 n)) (Y := trY n) (W := 100) (ps := ["pat", "STAR", "QUESTION_MARK"]) rfl rfl (by refine ⟨?_, ?_, ?_, ?_, ?_, ?_, ?_, ?_, ?_, ?_⟩ <;> kernel_rfl) (by decide +kernel) (by kernel_rfl) ?_
  intro pm vs h
  obtain ⟨v, u, t, rfl⟩ := three_of h
  kernel_rfl
theorem con_trans (n : Nat) : Con "_translate" (n + 3) trS := by
  refine (con_trRaw n).as ?_
  · intro ds P h
    unfold trS at h
    split at h
    · rename_i x a d
      split at h
      · rename_i hh
        obtain ⟨p, rfl, ok⟩ := hh
        unfold trRaw
        refine callX_holds rfl (rx_holds (by decide +kernel) ?_)
        rw [tr_st0]
        refine T.chk_holds rfl (rx_holds (by decide +kernel) ?_)
        rw [tr_st1]
        generalize hρ : setE (rho0 ["pat", "STAR", "QUESTION_MARK"] [.str (tx (quo p ++ [42])), .raw (.ref a), .str d]) "res" (.own []) = ρ1
        have p1 : Has ρ1 "pat" (.val (.str (tx (quo p ++ [42])))) := by rw [← hρ]; exact Has.set_ne (by kernel_rfl) (by decide +kernel) rfl
        have s1 : Has ρ1 "STAR" (.val (.raw (.ref a))) := by rw [← hρ]; exact Has.set_ne (by kernel_rfl) (by decide +kernel) rfl
        have r1 : Has ρ1 "res" (.own []) := by rw [← hρ]; exact Has.set
        have w1 : findE (without ρ1 "add") "res" = some (.own []) := findE_filter r1 (by decide +kernel)
        show T.Holds _ (match findE (without ρ1 "add") "res" with
          | some (.own l) => (.ret (setE ρ1 "add" (.app "res"), .next) : T (Rho × Fl))
          | _ => .fail)
        rw [w1]
        have p2 : Has (setE ρ1 "add" (.app "res")) "pat" (.val (.str (tx (quo p ++ [42])))) := p1.set_ne (by decide +kernel) rfl
        have s2 : Has (setE ρ1 "add" (.app "res")) "STAR" (.val (.raw (.ref a))) := s1.set_ne (by decide +kernel) rfl
        have r2 : Has (setE ρ1 "add" (.app "res")) "res" (.own []) := r1.set_ne (by decide +kernel) rfl
        have a2 : Has (setE ρ1 "add" (.app "res")) "add" (.app "res") := Has.set
        exact tr_run n ok (h _ ⟨p, rfl, ok, rfl⟩) p2 s2 r2 a2
      · exact h.elim
    · exact h.elim
end Mine
namespace Mine
noncomputable abbrev jpY (n : Nat) : ExtraX n := Y1 n (F0 n) (X2 n (F0 n))
noncomputable def jpB (n k : Nat) (ss : List PySem.Stmt) : Rho → T (Rho × Fl) := (rdS (rdX (F0 n) (X2 n (F0 n)) (jpY n) 100 k (scAt 14)) ss).1
noncomputable abbrev jpS (n j : Nat) : Rho → T (Rho × Fl) := rsX (F0 n) (X2 n (F0 n)) (jpY n) 100 14 j
noncomputable def jpW2 : List PySem.Stmt := forBody (bodyAt 14)[4]?
noncomputable def augT (x : Str) (op : Operator) (t : Rho → T PV) (ρ : Rho) : T (Rho × Fl) := match findE ρ x with
  | some (.val a) => (t ρ).bind fun b => (iopP op a b).bind fun d => .ret (setE ρ x (.val d), .next)
  | _ => .fail
noncomputable def augL (x : Str) (t : Rho → T PV) (ρ : Rho) : T (Rho × Fl) := match findE ρ x with
  | some (.own l) => (t ρ).bind fun b => match b with
    | .list m => .chk (decide (l.length + m.length ≤ sizeLine)) (.ret (setE (updE ρ x (.own (l ++ m))) x (.own (l ++ m)), .next))
    | _ => .fail
  | _ => .fail
noncomputable def augO (x : Str) (t : Rho → T PV) (ρ : Rho) : T (Rho × Fl) := if ownsE ρ x then augL x t ρ else augT x .Add t ρ
noncomputable def asrT (c : Rho → T Bool) (ρ : Rho) : T (Rho × Fl) := (c ρ).bind fun c => .chk c (.ret (ρ, .next))
theorem jp_st0 (n : Nat) (ρ : Rho) : jpS n 0 ρ = .chk true (.ret (setE ρ "res" (.own []), .next)) := by kernel_rfl
theorem jp_st1 (n : Nat) (ρ : Rho) : jpS n 1 ρ = match findE (without ρ "add") "res" with
      | some (.own l) => .ret (setE ρ "add" (.app "res"), .next)
      | _ => .fail := by kernel_rfl
theorem jp_st2 (n : Nat) (ρ : Rho) : jpS n 2 ρ = ((intE 0).bind fun a => (((valB ρ "inp").bind lenP).bind fun b => (.ret [b] : T (List PV))).bind fun ds => (.ret (a :: ds) : T (List PV))).bind fun ds => .chk (ds.length == 2 && decide (ds.length ≤ sizeLine)) (.ret (setAll ρ (([("i" : Str), ("n" : Str)]).reverse.zip ds.reverse), .next)) := by kernel_rfl
theorem jp_st3 (n : Nat) (ρ : Rho) : jpS n 3 ρ = whileT (andT (cmT .Lt (vB "i") (vB "n")) (cmT .IsNot (subT (vB "inp") (vB "i")) (vB "STAR"))) (seqT (addT (subT (vB "inp") (vB "i"))) (seqT (augO "i" fun _ => intE 1) stop)) 100 ρ := by kernel_rfl
theorem jp_st4 (n : Nat) (ρ : Rho) : jpS n 4 ρ = whileT (cmT .Lt (vB "i") (vB "n")) (jpB n 19 jpW2) 100 ρ := by kernel_rfl
theorem jp_w2 (n : Nat) : jpB n 19 jpW2 = seqT (asrT (cmT .Is (subT (vB "inp") (vB "i")) (vB "STAR"))) (seqT (augO "i" fun _ => intE 1) (seqT (ifX (cmT .Eq (vB "i") (vB "n")) (seqT (addT fun _ => strE ".*") (seqT (fun ρ => .ret (ρ, .brk)) stop)) (jpB n 18 (ifE (jpW2[2]? : Option PySem.Stmt)))) (jpB n 19 (jpW2.drop 3)))) := by kernel_rfl
theorem jp_st5 (n : Nat) (ρ : Rho) : jpS n 5 ρ = asrT (cmT .Eq (vB "i") (vB "n")) ρ := by kernel_rfl
theorem jp_st6 (n : Nat) (ρ : Rho) : jpS n 6 ρ = ((.ret (.str "") : T PV).bind fun d => match d with
      | .str x => .chk (decide (x.length ≤ sizeLine)) ((valB ρ "res").bind fun y => joinP x y) | _ => .fail).bind fun d => .ret (setE ρ "res" (.val d), .next) := by kernel_rfl
noncomputable def jpF (ρ : Rho) : T PV := ((.chk (decide ((Str.empty ++ ("(?s:" : Str)).length ≤ sizeLine)) ((valE ρ "res").bind fun d => match d with
    | .str x => .chk (decide (x.length ≤ sizeLine) && decide (((Str.empty ++ ("(?s:" : Str)) ++ x).length ≤ sizeLine)) (.chk (decide ((((Str.empty ++ ("(?s:" : Str)) ++ x) ++ (")\\Z" : Str)).length ≤ sizeLine)) (.ret (((Str.empty ++ ("(?s:" : Str)) ++ x) ++ (")\\Z" : Str)))) | _ => .fail) : T Str)).bind fun x => .chk (decide (x.length ≤ sizeLine)) (.ret (.str x))
theorem jp_st7 (n : Nat) (ρ : Rho) : jpS n 7 ρ = (jpF ρ).bind fun d => .ret (ρ, .ret d) := by kernel_rfl
end Mine
namespace Mine
theorem join_flat' : ∀ (ls : List (List Nat)), Str.join "" (ls.map tx) = tx ls.flatten
  | [] => by decide +kernel
  | [x] => by
    show tx x = _
    simp
  | x :: y :: r => by
    have ih := join_flat' (y :: r)
    have e : Str.join "" ((x :: y :: r).map tx) = tx x ++ ("" : Str) ++ Str.join "" ((y :: r).map tx) := by
      simp only [List.map_cons, Str.join]
    rw [e, ih, show ("" : Str) = tx [] by decide +kernel, tx_app, tx_app]
    simp
theorem join_flat (ls : List (List Nat)) : Txt.join "" (ls.map tx) = tx ls.flatten := by
  rw [← join_flat']
  exact StrLaws.glued_eq_join _ _
noncomputable def tokL (c : Nat) : List Nat := (tok c).cps.toList
theorem tok_tx (c : Nat) : tok c = tx (tokL c) := tx_of _
theorem tokL_len (c : Nat) : (tokL c).length ≤ 4 ∧ 1 ≤ (tokL c).length := by
  unfold tokL tok
  split
  · split <;> simp [tx]
  · unfold escC
    split <;> simp
theorem strsOf_map (l : List Str) : strsOf (l.map .str) = some l := by
  induction l with
  | nil => rfl
  | cons x l ih => simp only [List.map_cons, strsOf, ih, Option.map_some]
structure JpI (L : List PV) (st : PV) (i : Nat) (l : List PV) (ρ : Rho) : Prop where
  inp : Has ρ "inp" (.val (.list L))
  n : Has ρ "n" (.val (.int (L.length : Nat)))
  i : Has ρ "i" (.val (.int (i : Nat)))
  res : Has ρ "res" (.own l)
  add : Has ρ "add" (.app "res")
  star : Has ρ "STAR" (.val st)
theorem JpI.seti {L : List PV} {st : PV} {i j : Nat} {l : List PV} {ρ : Rho} (T : JpI L st i l ρ) : JpI L st j l (setE ρ "i" (.val (.int (j : Nat)))) :=
  ⟨T.inp.set_ne (by decide +kernel) rfl, T.n.set_ne (by decide +kernel) rfl, Has.set, T.res.set_ne (by decide +kernel) rfl, T.add.set_ne (by decide +kernel) (by decide +kernel), T.star.set_ne (by decide +kernel) rfl⟩
theorem JpI.put {L : List PV} {st : PV} {i : Nat} {l : List PV} {ρ : Rho} (T : JpI L st i l ρ) (l' : List PV) : JpI L st i l' (updE ρ "res" (.own l')) :=
  ⟨T.inp.upd_ne (by decide +kernel), T.n.upd_ne (by decide +kernel), T.i.upd_ne (by decide +kernel), Has.upd, T.add.upd_ne (by decide +kernel), T.star.upd_ne (by decide +kernel)⟩
theorem ite_yes {α : Type} {P : α → Prop} {t e : T α} (h : T.Holds P t) : T.Holds P (.ite true t e) := by simp only [T.Holds, if_true]; exact h
theorem itm_list {L : List PV} {i : Nat} {d : PV} (h : L[i]? = some d) (hs : L.length ≤ 1000) {P : PV → Prop} (hp : P d) : (itmP (.list L) (.int (i : Nat))).Holds P := by
  have hi := (List.getElem?_eq_some_iff.mp h).1
  have h0 : decide ((0 : Int) ≤ (i : Nat)) = true := by simp
  have h1 : decide (((i : Nat) : Int) < 2 ^ 63) = true := by simp; omega
  have hz : decide (L.length ≤ sizeLine) = true := decide_eq_true (Nat.le_trans hs (by decide))
  simp only [itmP, itmL, hz, h0, h1]
  refine T.chk_holds rfl (ite_yes (T.chk_holds rfl ?_))
  rw [Int.toNat_natCast, h]; exact hp
section
variable {L : List PV} {st : PV} {i : Nat} {l : List PV} {ρ : Rho} {Q : Rho × Fl → Prop}
theorem aug_i {L : List PV} (J : JpI L st i l ρ) (h : ∀ ρ', JpI L st (i + 1) l ρ' → Q (ρ', .next)) : (augO "i" (fun _ => intE 1) ρ).Holds Q := by
  have e : findE ρ "i" = some (.val (.int (i : Nat))) := J.i
  unfold augO
  rw [show ownsE ρ "i" = false by unfold ownsE; rw [e], if_neg (by decide)]
  unfold augT
  rw [e]
  exact h _ J.seti
theorem jp_loop (n : Nat) {p : List Nat} {a : Addr} (hp : p.length ≤ 90) : ∀ (k i : Nat) (l : List PV) (ρ : Rho), p.length + 1 ≤ k + i → i ≤ p.length → l = toks (p.take i) → JpI (toks p ++ [.raw (.ref a)]) (.raw (.ref a)) i l ρ →
    (∀ ρ', JpI (toks p ++ [.raw (.ref a)]) (.raw (.ref a)) p.length (toks p) ρ' → Q (ρ', .next)) → (whileT (andT (cmT .Lt (vB "i") (vB "n")) (cmT .IsNot (subT (vB "inp") (vB "i")) (vB "STAR"))) (seqT (addT (subT (vB "inp") (vB "i"))) (seqT (augO "i" fun _ => intE 1) stop)) k ρ).Holds Q
  | 0, i, l, ρ, hk, hi, hl, J, h => by omega
  | k + 1, i, l, ρ, hk, hi, hl, J, h => by
    have hlen : (toks p ++ [PV.raw (.ref a)]).length = p.length + 1 := by simp [toks]
    have hlt : i < (toks p ++ [PV.raw (.ref a)]).length := by omega
    have hle : (toks p ++ [PV.raw (.ref a)]).length ≤ 1000 := by omega
    have hself : ∀ P : PV → Prop, P (.bool false) → (cmpP .IsNot (.raw (.ref a)) (.raw (.ref a))).Holds P := fun P h => T.chk_holds (b := a == a) (t := T.ret (PV.bool false)) (by simp) h
    by_cases hip : i = p.length
    · subst hip
      have hg : (toks p ++ [PV.raw (.ref a)])[p.length]? = some (.raw (.ref a)) := by
        rw [List.getElem?_append_right (by simp [toks])]; simp [toks]
      refine while_stop (fun P hP => and_holds (va := true) (vb := false) (fun P hP => cm_holds (fun P h => vB_holds J.i h) (fun P h => vB_holds J.n h) lt_holds (by rw [decide_eq_true hlt]; exact hP)) (fun _ P hP => cm_holds (v := false) (x := .raw (.ref a)) (y := .raw (.ref a)) (fun P h => sub_holds (fun P h => vB_holds J.inp h) (fun P h => vB_holds J.i h) (fun P h => itm_list hg hle h) h) (fun P h => vB_holds J.star h) (fun P h => hself P h) hP) hP) ?_
      have := h ρ
      rw [List.take_of_length_le (Nat.le_refl _)] at hl
      subst hl
      exact this J
    · have hip : i < p.length := by omega
      have hg : (toks p ++ [PV.raw (.ref a)])[i]? = some (.str (tok p[i])) := by
        rw [List.getElem?_append_left (by simpa [toks] using hip)]
        simp [toks, hip]
      refine while_step (fun P hP => and_holds (va := true) (vb := true) (fun P hP => cm_holds (fun P h => vB_holds J.i h) (fun P h => vB_holds J.n h) lt_holds (by rw [decide_eq_true hlt]; exact hP)) (fun _ P hP => cm_holds (v := true) (x := .str (tok p[i])) (y := .raw (.ref a)) (fun P h => sub_holds (fun P h => vB_holds J.inp h) (fun P h => vB_holds J.i h) (fun P h => itm_list hg hle h) h) (fun P h => vB_holds J.star h) (fun P (h : P (PV.bool true)) => (show T.Holds P (cmpP .IsNot (.str (tok p[i])) (.raw (.ref a))) from h)) hP) hP) ?_
      refine seq_intro (add_holds (d := .str (tok p[i])) J.add J.res (by rw [hl]; simp [toks]; omega) (fun P h => sub_holds (fun P h => vB_holds J.inp h) (fun P h => vB_holds J.i h) (fun P h => itm_list hg hle h) h) ?_)
      refine seq_intro (aug_i (J.put _) fun ρ' J' => ?_)
      exact jp_loop n hp k (i + 1) _ ρ' (by omega) (by omega) (by
        rw [hl]
        unfold toks
        rw [List.map_take, List.map_take, List.take_add_one, List.getElem?_map, List.getElem?_eq_getElem hip]
        rfl) J' h
end
end Mine
namespace Mine
noncomputable def flat (p : List Nat) : List Nat := p.flatMap tokL
noncomputable def flatTx (p : List Nat) : List Nat := [40, 63, 115, 58] ++ (flat p ++ [46, 42]) ++ [41, 92, 90]
theorem flat_len (p : List Nat) : (flat p).length ≤ 4 * p.length := by
  induction p with
  | nil => simp [flat]
  | cons c p ih =>
    show (tokL c ++ flat p).length ≤ _
    have := (tokL_len c).1
    rw [List.length_append, List.length_cons]; omega
theorem strsOf_toks (p : List Nat) : strsOf (toks p ++ [.str (".*" : Str)]) = some ((p.map tokL ++ [[46, 42]]).map tx) := by
  have e : toks p ++ [.str (".*" : Str)] = ((p.map tokL ++ [[46, 42]]).map tx).map .str := by
    rw [List.map_append, List.map_append, show ([[46, 42]] : List (List Nat)).map tx = [(".*" : Str)] by decide +kernel]
    congr 1
    simp [toks, tok_tx]
  rw [e, strsOf_map]
theorem sum_len (p : List Nat) : (((p.map tokL ++ [[46, 42]]).map tx).map (fun x : Str => x.length)).sum ≤ 4 * p.length + 2 := by
  induction p with
  | nil => decide +kernel
  | cons c p ih =>
    simp only [List.map_cons, List.cons_append, List.sum_cons, List.length_cons] at ih ⊢
    have := (tokL_len c).1
    rw [tx_len]
    omega
section
variable {p : List Nat} {a : Addr} {ρ : Rho}
theorem jp_join (hp : p.length ≤ 90) (J : Has ρ "res" (.own (toks p ++ [.str (".*" : Str)]))) {Q : Rho × Fl → Prop} (h : ∀ ρ', Has ρ' "res" (.val (.str (tx (flat p ++ [46, 42])))) → Q (ρ', .next)) :
    (((.ret (.str "") : T PV).bind fun d => match d with
      | .str x => .chk (decide (x.length ≤ sizeLine)) ((valB ρ "res").bind fun y => joinP x y) | _ => .fail).bind fun d => .ret (setE ρ "res" (.val d), .next)).Holds Q := by
  refine T.bind_holds _ ?_
  show T.Holds _ (T.chk (decide ((("" : Str)).length ≤ sizeLine)) ((valB ρ "res").bind fun y => joinP "" y))
  refine T.chk_holds (by decide +kernel) ?_
  rw [valB_own J]
  show T.Holds _ ((T.ofOpt (strsOf (toks p ++ [.str (".*" : Str)]))).bind fun ys => T.chk (JoinOk "" ys) (T.ret (PV.str (Txt.join "" ys))))
  rw [strsOf_toks]
  refine T.chk_holds (joinOk_of_weight (by
    have := sum_len p
    have h2 : ((p.map tokL ++ [[46, 42]]).map tx).length = p.length + 1 := by simp
    omega) (by decide +kernel)) ?_
  rw [join_flat, List.flatten_append]
  have e : (p.map tokL).flatten ++ [[46, 42]].flatten = flat p ++ [46, 42] := by
    simp [flat, List.flatMap]
  rw [e]
  exact h _ Has.set
theorem jp_fin (hp : p.length ≤ 90) (J : Has ρ "res" (.val (.str (tx (flat p ++ [46, 42]))))) {P : PV → Prop} (h : P (.str (tx (flatTx p)))) : (jpF ρ).Holds P := by
  have hl := flat_len p
  have e1 : (Str.empty ++ ("(?s:" : Str)) = tx [40, 63, 115, 58] := by decide +kernel
  have e2 : (")\\Z" : Str) = tx [41, 92, 90] := by decide +kernel
  unfold jpF
  rw [valE_of J, e1, e2]
  refine T.bind_holds _ (T.chk_holds (by decide +kernel) ?_)
  show T.Holds _ (T.chk (decide ((tx (flat p ++ [46, 42])).length ≤ sizeLine) && decide ((tx [40, 63, 115, 58] ++ tx (flat p ++ [46, 42])).length ≤ sizeLine)) (T.chk (decide (((tx [40, 63, 115, 58] ++ tx (flat p ++ [46, 42])) ++ tx [41, 92, 90]).length ≤ sizeLine)) (.ret ((tx [40, 63, 115, 58] ++ tx (flat p ++ [46, 42])) ++ tx [41, 92, 90]))))
  have hz : ∀ m, m ≤ 1000 → m ≤ sizeLine := fun m hm => Nat.le_trans hm (by decide)
  rw [tx_app, tx_app, tx_len, tx_len, tx_len]
  refine T.chk_holds (by
    rw [decide_eq_true (hz _ (by simp; omega)), decide_eq_true (hz _ (by simp; omega))]; rfl) (T.chk_holds (decide_eq_true (hz _ (by simp; omega))) ?_)
  show T.Holds P (T.chk (decide ((tx (flatTx p)).length ≤ sizeLine)) (.ret (.str (tx (flatTx p)))))
  refine T.chk_holds (decide_eq_true (hz _ (by rw [tx_len]; simp [flatTx]; omega))) h
end
theorem jp_run (n : Nat) {p : List Nat} (ok : TrOk p) {a : Addr} {P : PV → Prop} (h : P (.str (tx (flatTx p)))) {ρ2 : Rho} (p2 : Has ρ2 "inp" (.val (.list (toks p ++ [.raw (.ref a)])))) (s2 : Has ρ2 "STAR" (.val (.raw (.ref a)))) (r2 : Has ρ2 "res" (.own [])) (a2 : Has ρ2 "add" (.app "res")) : ((rrX (F0 n) (X2 n (F0 n)) (jpY n) 100 14 2 ρ2).bind retT).Holds P := by
  refine rx_holds (by decide +kernel) ?_
  show T.Holds _ (jpS n 2 ρ2)
  rw [jp_st2]
  have hlen : (toks p ++ [PV.raw (.ref a)]).length = p.length + 1 := by simp [toks]
  have h90 := ok.1
  show T.Holds _ ((((.ret (.int 0) : T PV)).bind fun a => (((valB ρ2 "inp").bind lenP).bind fun b => (.ret [b] : T (List PV))).bind fun ds => (.ret (a :: ds) : T (List PV))).bind fun ds => .chk (ds.length == 2 && decide (ds.length ≤ sizeLine)) (T.ret (setAll ρ2 (([("i" : Str), ("n" : Str)]).reverse.zip ds.reverse), Fl.next)))
  rw [valB_of p2]
  refine T.chk_holds (b := decide ((toks p ++ [PV.raw (.ref a)]).length ≤ sizeLine)) (decide_eq_true (by rw [hlen]; exact Nat.le_trans (show p.length + 1 ≤ 1000 by omega) (by decide))) ?_
  refine T.chk_holds (show (2 == 2 && decide (2 ≤ sizeLine)) = true by decide +kernel) ?_
  show After _ P (setE (setE ρ2 "n" (.val (.int (((toks p ++ [PV.raw (.ref a)]).length : Nat) : Int)))) "i" (.val (.int 0)), Fl.next)
  have J : JpI (toks p ++ [PV.raw (.ref a)]) (.raw (.ref a)) 0 [] (setE (setE ρ2 "n" (.val (.int (((toks p ++ [PV.raw (.ref a)]).length : Nat) : Int)))) "i" (.val (.int 0))) :=
    ⟨(p2.set_ne (by decide +kernel) rfl).set_ne (by decide +kernel) rfl, Has.set.set_ne (by decide +kernel) rfl, Has.set, (r2.set_ne (by decide +kernel) rfl).set_ne (by decide +kernel) rfl, (a2.set_ne (by decide +kernel) (by decide +kernel)).set_ne (by decide +kernel) (by decide +kernel), (s2.set_ne (by decide +kernel) rfl).set_ne (by decide +kernel) rfl⟩
  generalize setE (setE ρ2 "n" (.val (.int (((toks p ++ [PV.raw (.ref a)]).length : Nat) : Int)))) "i" (.val (.int 0)) = ρ3 at J
  refine rx_holds (by decide +kernel) ?_
  show T.Holds _ (jpS n 3 ρ3)
  rw [jp_st3]
  refine jp_loop n h90 100 0 [] ρ3 (by omega) (by omega) rfl J fun ρ4 J4 => ?_
  refine rx_holds (by decide +kernel) ?_
  show T.Holds _ (jpS n 4 ρ4)
  rw [jp_st4, jp_w2]
  have hg : (toks p ++ [PV.raw (.ref a)])[p.length]? = some (.raw (.ref a)) := by
    rw [List.getElem?_append_right (by simp [toks])]; simp [toks]
  have hself : ∀ P : PV → Prop, P (.bool true) → (cmpP .Is (.raw (.ref a)) (.raw (.ref a))).Holds P := fun P h => T.chk_holds (b := a == a) (t := T.ret (PV.bool true)) (by simp) h
  refine while_step (fun P hP => cm_holds (fun P h => vB_holds J4.i h) (fun P h => vB_holds J4.n h) lt_holds (by rw [decide_eq_true (by omega)]; exact hP)) ?_
  refine seq_intro (T.bind_holds _ (cm_holds (v := true) (x := .raw (.ref a)) (y := .raw (.ref a)) (fun P h => sub_holds (fun P h => vB_holds J4.inp h) (fun P h => vB_holds J4.i h) (fun P h => itm_list hg (by omega) h) h) (fun P h => vB_holds J4.star h) hself (T.chk_holds rfl ?_)))
  refine seq_intro (aug_i J4 fun ρ5 J5 => ?_)
  refine seq_intro (ifX_holds (v := true) (fun P hP => cm_holds (op := .Eq) (x := .int ((p.length + 1 : Nat) : Int)) (y := .int (((toks p ++ [PV.raw (.ref a)]).length : Nat) : Int)) (v := true) (fun P h => vB_holds J5.i h) (fun P h => vB_holds J5.n h) (fun P h => ?_) hP) ?_)
  · rw [hlen]
    show P (.bool ((((p.length + 1 : Nat)) : Int) == (((p.length + 1 : Nat)) : Int)))
    rw [beq_self_eq_true]; exact h
  rw [if_pos rfl]
  refine seq_intro (add_holds (d := .str (".*" : Str)) J5.add J5.res (by simp [toks]; omega) (fun P h => h) ?_)
  have J6 := J5.put (toks p ++ [.str (".*" : Str)])
  generalize updE ρ5 "res" (.own (toks p ++ [.str (".*" : Str)])) = ρ6 at J6
  refine seq_intro ?_
  show After _ P (ρ6, .next)
  refine rx_holds (by decide +kernel) ?_
  show T.Holds _ (jpS n 5 ρ6)
  rw [jp_st5]
  refine T.bind_holds _ (cm_holds (op := .Eq) (x := .int ((p.length + 1 : Nat) : Int)) (y := .int (((toks p ++ [PV.raw (.ref a)]).length : Nat) : Int)) (v := true) (fun P h => vB_holds J6.i h) (fun P h => vB_holds J6.n h) (fun P h => ?_) ?_)
  · rw [hlen]
    show P (.bool ((((p.length + 1 : Nat)) : Int) == (((p.length + 1 : Nat)) : Int)))
    rw [beq_self_eq_true]; exact h
  refine T.chk_holds rfl (rx_holds (by decide +kernel) ?_)
  show T.Holds _ (jpS n 6 ρ6)
  rw [jp_st6]
  refine jp_join h90 J6.res fun ρ7 J7 => ?_
  refine rx_holds (by decide +kernel) ?_
  show T.Holds _ (jpS n 7 ρ7)
  rw [jp_st7]
  exact T.bind_holds _ (jp_fin h90 J7 h)
open Classical in
noncomputable def joinPartsS : List PV → T PV
  | [.list l, .raw (.ref a)] => if ∃ p, l = toks p ++ [.raw (.ref a)] ∧ TrOk p then .any (fun r => ∃ p, l = toks p ++ [.raw (.ref a)] ∧ TrOk p ∧ r = .str (tx (flatTx p))) .ret else .fail
  | _ => .fail
noncomputable def jpRaw (n : Nat) : List PV → T PV := callT ["inp", "STAR"] (readX (F0 n) (X2 n (F0 n)) (jpY n) 100 14).1
theorem con_jpRaw (n : Nat) : Con "_join_translated_parts" (n + 2) (jpRaw n) := by
  refine con_readX (k := 6) (n := n) (F := F0 n) (X := X2 n (F0 n)) (Y := jpY n) (W := 100) (ps := ["inp", "STAR"]) rfl rfl (by refine ⟨?_, ?_, ?_, ?_, ?_, ?_, ?_, ?_, ?_, ?_⟩ <;> kernel_rfl) (by decide +kernel) (by kernel_rfl) ?_
  intro pm vs h
  obtain ⟨v, u, rfl⟩ := two_of h
  kernel_rfl
theorem con_join_parts (n : Nat) : Con "_join_translated_parts" (n + 2) joinPartsS := by
  refine (con_jpRaw n).as ?_
  · intro ds P h
    unfold joinPartsS at h
    split at h
    · rename_i l a
      split at h
      · rename_i hh
        obtain ⟨p, rfl, ok⟩ := hh
        unfold jpRaw
        refine callX_holds rfl (rx_holds (by decide +kernel) ?_)
        show T.Holds _ (jpS n 0 _)
        rw [jp_st0]
        refine T.chk_holds rfl (rx_holds (by decide +kernel) ?_)
        show T.Holds _ (jpS n 1 _)
        rw [jp_st1]
        generalize hρ : setE (rho0 ["inp", "STAR"] [.list (toks p ++ [.raw (.ref a)]), .raw (.ref a)]) "res" (.own []) = ρ1
        have p1 : Has ρ1 "inp" (.val (.list (toks p ++ [.raw (.ref a)]))) := by rw [← hρ]; exact Has.set_ne (by kernel_rfl) (by decide +kernel) rfl
        have s1 : Has ρ1 "STAR" (.val (.raw (.ref a))) := by rw [← hρ]; exact Has.set_ne (by kernel_rfl) (by decide +kernel) rfl
        have r1 : Has ρ1 "res" (.own []) := by rw [← hρ]; exact Has.set
        have w1 : findE (without ρ1 "add") "res" = some (.own []) := findE_filter r1 (by decide +kernel)
        show T.Holds _ (match findE (without ρ1 "add") "res" with
          | some (.own l) => (.ret (setE ρ1 "add" (.app "res"), .next) : T (Rho × Fl))
          | _ => .fail)
        rw [w1]
        exact jp_run n ok (h _ ⟨p, rfl, ok, rfl⟩) (p1.set_ne (by decide +kernel) rfl) (s1.set_ne (by decide +kernel) rfl) (r1.set_ne (by decide +kernel) rfl) Has.set
      · exact h.elim
    · exact h.elim
end Mine
namespace Mine
theorem mro_object : mroOf (.type "object") = pure [.type "object"] := by rw [mroOf_type]; kernel_rfl
theorem lookup_object_new : typeLookup (.type "object") "__new__" = pure (some (.builtin "object.__new__")) := by rw [typeLookup_type, builtinLookup_eq_fast]; kernel_rfl
theorem called_object : TypeCalled "object" "object.__new__" "object.__init__" :=
  ⟨by decide +kernel, by decide +kernel, ⟨_, _, mro_object⟩, madeBy_type mro_object lookup_object_new (by decide +kernel), by decide +kernel, by rw [isSubtype_type]; kernel_rfl, F.slot_object_init⟩
theorem typeCall_object_0 : checkTypeCall "object" ⟨[], []⟩ = pure () := by kernel_rfl
theorem newCall_object_0 : checkBuiltinCall "object.__new__" ⟨[.type "object"], []⟩ = pure () := by kernel_rfl
theorem madeHere_object : Bind.madeHere "object.__new__" (.type "object") = pure () := by kernel_rfl
theorem entry_on : entryFor table "object.__new__" = some Builtin.«object.__new__» := entryFor_of_tree (by kernel_rfl)
theorem plain_on : plainId "object.__new__" = true := by decide +kernel
section
variable {prog : Program} {w : World} {A : Around} {E : Value → Shared → Prop} {s : Shared}
theorem code_object_new {Q₁ : Value → Shared → Prop}
    (h : Q₁ (.ref s.heap.objs.size) { s with heap := s.heap.push { cls := .type "object", data := .plain } }) :
    codeAny (model prog w) A (.call (.builtin "object.__new__") ⟨[.type "object"], []⟩) (wants Q₁ E) s := by
  refine codeAny_of_tree ?_
  show wpAny _ A.in1 (do checkBuiltinCall "object.__new__" ⟨[.type "object"], []⟩; again (.builtin "object.__new__" ⟨[.type "object"], []⟩)) _ _ s
  refine wpAny_bind (wpAny_of_eq newCall_object_0 (wpAny_pure ⟨plainId_quiet plain_on _, codeAny_builtin entry_on ?_⟩))
  rw [Around.under_plainId plain_on _]
  have hm := madeHere_object
  have hno : ((Manifest.find? "object").elim false (·.mro.any fun t => (Manifest.find? t).elim false (·.noNew))) = false := by decide +kernel
  have hd : diesByItsTypesDel "object" = false := by decide +kernel
  obtain ⟨hp, g, d, tk, os⟩ := s
  unfold Builtin.«object.__new__»
  simp only [hno, hd]
  wp_walk
  exact h
end
end Mine
namespace Mine
section
variable {w : World} {A : Around} {E : Value → Shared → Prop} {s : Shared}
theorem oi_run' (a : Value) : Builtin.«object.__init__» ⟨[a], []⟩ = pure (.done (.ret .none)) := by kernel_rfl
theorem call_object {Q : Value → Shared → Prop} (h : Q (.ref s.heap.objs.size) { s with heap := s.heap.push { cls := .type "object", dict := none, data := .plain, slots := #[] } }) : wpAny (model pw w) A (call (.type "object") []) Q E s := by
  refine callType_codes (T := "object") (Bi := Builtin.«object.__init__») (Q₁ := fun r s₁ => s₁.TypeIs r "object" ∧ Q r s₁) called_object typeCall_object_0 F.entry_object_init ?_ ?_
  · refine code_object_new ⟨?_, h⟩
    exact ⟨_, Heap.get?_push_size _ rfl, rfl⟩
  · intro obj s₁ hq
    refine ⟨hq.1, F.args_object_init_1 _, ?_⟩
    rw [oi_run']
    exact wpAny_pure ⟨rfl, hq.2⟩
end
section
variable {sc : Scope} {n : Nat}
theorem sndE_object {f : Str} {p pos : Pos} (hf : f = ("object" : Str)) (hk : sc.names.lookup f = some .globalImplicit) : SndE sc n (.Call (.Name f p) [] [] pos) fun _ => .any (fun d => ∃ a, d = .raw (.ref a)) .ret := fun c O X ad ρ s I Q E h => by
  subst hf
  refine wpAny_Call_NameR (ldBuiltin O I hk (by decide +kernel) (v := .type "object") (by decide +kernel) ?_ (by decide +kernel) (by decide +kernel))
  refine PySem.callWith_type rfl ?_
  show wpAny _ _ (evalArgs (.type "object") true [] []) _ _ _
  unfold evalArgs
  refine wpAny_bind (wpAny_pure (wpAny_bind (wpAny_pure ?_)))
  refine wpAny_holding ?_
  refine wpAny_bind (wpAny_pure (wpAny_bind (wpAny_pure (wpAny_pure ?_))))
  refine call_object ?_
  exact h (.raw (.ref s.heap.objs.size)) ⟨_, rfl⟩ _ _ (I.push _ _) rfl
end
end Mine
namespace Mine
noncomputable def X6 (n : Nat) (F : FS n) : Extra n := fun sc e => match e with
  | .Call (.Name f p) [] [] pos => if h : f = ("object" : Str) ∧ isGlob sc f = true then some ⟨_, sndE_object h.1 (isGlob_is h.2)⟩ else none
  | e => X2 n F sc e
noncomputable def F7 (n : Nat) : FS (n + 2) := ⟨[("_translate", trS), ("_join_translated_parts", joinPartsS)], fun p hp => by
  simp only [List.mem_cons, List.mem_nil_iff, or_false] at hp
  rcases hp with rfl | rfl
  · exact con_trans n
  · exact con_join_parts (n + 1)⟩
noncomputable abbrev taS (n j : Nat) : Rho → T (Rho × Fl) := rsX (F7 n) (X6 (n + 2) (F7 n)) (Yno (n + 2)) 0 8 j
theorem ta_st0 (n : Nat) (ρ : Rho) : taS n 0 ρ = (T.any (fun d => ∃ a, d = .raw (.ref a)) .ret).bind fun d => .ret (setE ρ "STAR" (.val d), .next) := by kernel_rfl
noncomputable def ta1 (ρ : Rho) : T (Rho × Fl) := (((valE ρ "pat").bind fun d => ((valE ρ "STAR").bind fun e => ((.ret (.str ".") : T PV).bind fun g => (.ret [] : T (List PV)).bind fun ds => .ret (g :: ds)).bind fun ds => (.ret (e :: ds) : T (List PV))).bind fun ds => (.ret (d :: ds) : T (List PV))).bind trS).bind fun d => .ret (setE ρ "parts" (.val d), .next)
theorem ta_st1 (n : Nat) (ρ : Rho) : taS n 1 ρ = ta1 (frz (frz ρ "pat") "STAR") := by kernel_rfl
noncomputable def ta2 (ρ : Rho) : T (Rho × Fl) := (((valE ρ "parts").bind fun d => ((valE ρ "STAR").bind fun e => (.ret [] : T (List PV)).bind fun ds => (.ret (e :: ds) : T (List PV))).bind fun ds => (.ret (d :: ds) : T (List PV))).bind joinPartsS).bind fun d => .ret (ρ, .ret d)
theorem ta_st2 (n : Nat) (ρ : Rho) : taS n 2 ρ = ta2 (frz (frz ρ "parts") "STAR") := by kernel_rfl
open Classical in
noncomputable def tranS : List PV → T PV
  | [.str x] => if ∃ p, x = tx (quo p ++ [42]) ∧ TrOk p then .any (fun r => ∃ p, x = tx (quo p ++ [42]) ∧ TrOk p ∧ r = .str (tx (flatTx p))) .ret else .fail
  | _ => .fail
theorem trS_yes {x : Str} {a : Addr} {d : Str} (h : ∃ p, x = tx (quo p ++ [42]) ∧ TrOk p) : trS [.str x, .raw (.ref a), .str d] = .any (fun r => ∃ p, x = tx (quo p ++ [42]) ∧ TrOk p ∧ r = .list (toks p ++ [.raw (.ref a)])) .ret := by
  unfold trS; exact if_pos h
theorem jpS_yes {l : List PV} {a : Addr} (h : ∃ p, l = toks p ++ [.raw (.ref a)] ∧ TrOk p) : joinPartsS [.list l, .raw (.ref a)] = .any (fun r => ∃ p, l = toks p ++ [.raw (.ref a)] ∧ TrOk p ∧ r = .str (tx (flatTx p))) .ret := by
  unfold joinPartsS; exact if_pos h
theorem toks_flat {p p' : List Nat} (h : toks p = toks p') : flat p = flat p' := by
  have : p.map tokL = p'.map tokL := by
    have := congrArg (List.map fun d : PV => match d with | .str x => x.cps.toList | _ => []) h
    simp only [toks, List.map_map, Function.comp_def] at this
    exact this
  simp only [flat, List.flatMap, this]
noncomputable def taRaw (n : Nat) : List PV → T PV := callT ["pat"] (readX (F7 n) (X6 (n + 2) (F7 n)) (Yno (n + 2)) 0 8).1
theorem con_taRaw (n : Nat) : Con "translate" (n + 4) (taRaw n) := by
  refine con_readX (k := 3) (n := n + 2) (F := F7 n) (X := X6 (n + 2) (F7 n)) (Y := Yno (n + 2)) (W := 0) (ps := ["pat"]) rfl rfl (by refine ⟨?_, ?_, ?_, ?_, ?_, ?_, ?_, ?_, ?_, ?_⟩ <;> kernel_rfl) (by decide +kernel) (by kernel_rfl) ?_
  intro pm vs h
  obtain ⟨v, rfl⟩ := one_of h
  kernel_rfl
theorem con_translate (n : Nat) : Con "translate" (n + 4) tranS := by
  refine (con_taRaw n).as ?_
  intro ds P h
  unfold tranS at h
  split at h
  · rename_i x
    split at h
    · rename_i hh
      unfold taRaw
      refine callX_holds rfl (rx_holds (by decide +kernel) ?_)
      show T.Holds _ (taS n 0 _)
      rw [ta_st0]
      rintro d ⟨a, rfl⟩
      show After _ P (setE (rho0 ["pat"] [.str x]) "STAR" (.val (.raw (.ref a))), .next)
      have p1 : Has (setE (rho0 ["pat"] [.str x]) "STAR" (.val (.raw (.ref a)))) "pat" (.val (.str x)) := Has.set_ne (by kernel_rfl) (by decide +kernel) rfl
      have s1 : Has (setE (rho0 ["pat"] [.str x]) "STAR" (.val (.raw (.ref a)))) "STAR" (.val (.raw (.ref a))) := Has.set
      generalize setE (rho0 ["pat"] [.str x]) "STAR" (.val (.raw (.ref a))) = ρ1 at p1 s1
      refine rx_holds (by decide +kernel) ?_
      show T.Holds _ (taS n 1 _)
      rw [ta_st1, frz_val p1, frz_val s1]
      unfold ta1
      rw [valE_of p1, valE_of s1]
      refine T.bind_holds _ ?_
      show T.Holds _ (trS [.str x, .raw (.ref a), .str "."])
      rw [trS_yes hh]
      rintro d ⟨p, hp, ok, rfl⟩
      show After _ P (setE ρ1 "parts" (.val (.list (toks p ++ [.raw (.ref a)]))), .next)
      have q2 : Has (setE ρ1 "parts" (.val (.list (toks p ++ [.raw (.ref a)])))) "parts" (.val (.list (toks p ++ [.raw (.ref a)]))) := Has.set
      have s2 : Has (setE ρ1 "parts" (.val (.list (toks p ++ [.raw (.ref a)])))) "STAR" (.val (.raw (.ref a))) := s1.set_ne (by decide +kernel) rfl
      generalize setE ρ1 "parts" (.val (.list (toks p ++ [.raw (.ref a)]))) = ρ2 at q2 s2
      refine rx_holds (by decide +kernel) ?_
      show T.Holds _ (taS n 2 _)
      rw [ta_st2, frz_val q2, frz_val s2]
      unfold ta2
      rw [valE_of q2, valE_of s2]
      refine T.bind_holds _ ?_
      show T.Holds _ (joinPartsS [.list (toks p ++ [.raw (.ref a)]), .raw (.ref a)])
      rw [jpS_yes ⟨p, rfl, ok⟩]
      rintro d ⟨p', hp', ok', rfl⟩
      have e : toks p = toks p' := List.append_cancel_right hp'
      have e2 : flatTx p' = flatTx p := by unfold flatTx; rw [toks_flat e]
      rw [e2]
      exact h _ ⟨p, hp, ok, rfl⟩
    · exact h.elim
  · exact h.elim
end Mine
namespace Mine
end Mine
namespace Mine
noncomputable def SSat (c : Cx) (ss : List PySem.Stmt) (t : Rho → T (Rho × Fl)) : Prop := ∀ X ad ρ s, Inv c X ad ρ s → ∀ (Q : Flow → Shared → Prop) (E : Value → Shared → Prop), (t ρ).Holds (Mine.St c Q) → wpAny (model pw c.w) c.A (execs ss c.env) Q E s
section
variable {sc : Scope} {n : Nat} {c : Cx}
theorem consAt {st : PySem.Stmt} {ss : List PySem.Stmt} {t1 t2 : Rho → T (Rho × Fl)} (h1 : SXat c st t1) (h2 : SSat c ss t2) : SSat c (st :: ss) (seqT t1 t2) := fun X ad ρ s I Q E h => by
  refine wpAny_execs_cons (h1 X ad ρ s I _ _ (T.holds_mono (fun r hr s' X' ad' fl I' hf => ?_) _ (T.holds_bind _ h)))
  obtain ⟨ρ', f⟩ := r
  cases f <;> cases fl <;> first | exact hf.elim | skip
  · exact h2 X' ad' ρ' s' I' _ _ hr
  · exact hr s' X' ad' _ I' trivial
  · exact hr s' X' ad' _ I' hf
theorem tryAt {body : List PySem.Stmt} {hd : ExceptHandler} {hs : List ExceptHandler} {pos : Pos} {t : Rho → T (Rho × Fl)} (hb : SSat c body t) : SXat c (.Try body (hd :: hs) [] [] pos) t := fun X ad ρ s I Q E h => by
  refine wpAny_Try_except (hb X ad ρ s I _ _ (T.holds_mono (fun r hr s' X' ad' fl I' hf => ?_) _ h))
  obtain ⟨ρ', f⟩ := r
  cases f <;> cases fl <;> first | exact hf.elim | skip
  · exact wpAny_execs_nil (hr s' X' ad' _ I' trivial)
  · exact hr s' X' ad' _ I' trivial
  · exact hr s' X' ad' _ I' hf
noncomputable def tupO (vs : List Value) : Obj := { cls := .type "tuple", dict := none, data := .seq vs.toArray, slots := #[] }
theorem iter_tup {J t : Addr} {i : Nat} {h : Heap} (x : h.IsTupleIter J t i) : ∃ o, h.get? J = some o ∧ isIter o := by
  obtain ⟨o, ho, hc, hd⟩ := x
  refine ⟨o, ho, ⟨_, hd⟩, ?_, ?_, ?_, .of ?_ ?_⟩
  · rw [hc]; simp
  · rw [hc]; simp
  · unfold isMeth; rw [hc]; simp
  · rw [hc]; simp
  · intro vs q t e; rw [hd] at e; cases e; simp
theorem tupAt (O : Ok sc n c) {e : Expr} {te : Rho → T PV} {T₀ : Addr} {vs : List Value} {ds : List PV} (hp : (T₀, tupO vs) ∈ c.pin) (hl : vs.length = ds.length) (hsim : ∀ (i : Nat) (v : Value) (d : PV), vs[i]? = some v → ds[i]? = some d → Sim d v) (he : SndE sc n e te) :
    SIat c e fun ρ => (te ρ).bind fun d => match d with | .raw (.ref a) => .chk (a == T₀) (.ret ds) | _ => .fail := fun X ad ρ s I Q E h => by
  refine he c O X ad ρ s I _ _ (T.holds_mono (fun d hd v s₁ x₁ r => ?_) _ (T.holds_bind _ h))
  split at hd
  · rename_i a
    obtain ⟨hz, hd2⟩ := T.holds_chk hd
    clear hd
    have hz : a = T₀ := by simpa using hz
    subst hz
    obtain rfl : v = .ref a := r
    have I₁ := I.nxt O x₁
    obtain ⟨k1, k2, k3, k4, k5⟩ := I₁.pins _ hp
    have hi : s₁.heap.IsTuple a vs.toArray := ⟨_, k1, rfl, _, rfl⟩
    have hne : a ≠ s₁.heap.objs.size := fun q => by rw [q] at k1; rw [fresh_size (Nat.le_refl _)] at k1; cases k1
    have x₂ := I₁.push { cls := .type "tuple_iterator", dict := none, data := .fields #[.ref a, .int 0 0], slots := #[] } s₁.toks
    have S : Src c s₁.heap.objs.size [a] [] ds (fun i v => vs.toArray[i]? = some v) (fun i h => h.IsTupleIter s₁.heap.objs.size a i ∧ h.IsTuple a vs.toArray) := {
      W := by
        have := Walks.tuple (prog := pw) (w := c.w) (A := c.A) I.wf.handled s₁.heap.objs.size a hne vs.toArray
        rwa [show vs.toArray.size = ds.length by simp [hl]] at this
      val := fun i v d hv hd => .inr (hsim i v d (by simpa using hv) hd)
      it := fun i h st => iter_tup st.1
      soft := fun i h st b hb => by
        rw [List.mem_singleton.mp hb]
        obtain ⟨o, ho, hc, k, hd⟩ := st.2
        exact ⟨o, ho, by rw [hc]; simp, fun es m e => (by rw [hd] at e; cases e), fun v e => by rw [hd] at e; cases e⟩ }
    refine wpAny_pyIter_tuple hi (hd2 _ _ [a] [] _ _ (x₁.trans x₂) S ⟨⟨_, Heap.get?_push_size _ rfl, rfl, rfl⟩, hi.push _⟩ (fun _ h => (nomatch h)) (fresh_before I x₁) ?_ ?_)
    · simpa using fun q => hne q.symm
    · intro b hb; rw [List.mem_singleton.mp hb]; exact fun m => k5 m
  · exact hd.elim
end
end Mine
namespace Mine
noncomputable def stAt (i j : Nat) : PySem.Stmt := ((bodyAt i)[j]?).getD (.Pass default)
noncomputable def tryB : PySem.Stmt → List PySem.Stmt | .Try b _ _ _ _ => b | _ => []
noncomputable def tryH : PySem.Stmt → List ExceptHandler | .Try _ h _ _ _ => h | _ => []
noncomputable def tryP : PySem.Stmt → Pos | .Try _ _ _ _ p => p | _ => default
noncomputable def forT0 : PySem.Stmt → Pos | .For (.Name _ p) _ _ _ _ => p | _ => default
noncomputable def forI : PySem.Stmt → Expr | .For _ i _ _ _ => i | _ => .Name "" default
noncomputable def forP : PySem.Stmt → Pos | .For _ _ _ _ p => p | _ => default
noncomputable def jF : PySem.Stmt := ((tryB (stAt 28 3))[0]?).getD (.Pass default)
noncomputable def jFB : List PySem.Stmt := forBody (some jF)
theorem body28 : bodyAt 28 = [stAt 28 0, stAt 28 1, stAt 28 2, .Try [.For (.Name "b" (forT0 jF)) (forI jF) jFB [] (forP jF)] (((tryH (stAt 28 3))[0]?).getD (.ExceptHandler none none [] default) :: []) [] [] (tryP (stAt 28 3)), stAt 28 4] := by kernel_rfl
section
variable (n : Nat)
noncomputable abbrev jrX (st : PySem.Stmt) : { t : Rho → T (Rho × Fl) // SndX (scAt 28) (n + 1) st t } := rdX (F1 n) (X2 (n + 1) (F1 n)) (Yno (n + 1)) 0 20 (scAt 28) st
noncomputable def jrB : { t : Rho → T (Rho × Fl) // SndS (scAt 28) (n + 1) jFB t } := rdS (rdX (F1 n) (X2 (n + 1) (F1 n)) (Yno (n + 1)) 0 20 (scAt 28)) jFB
noncomputable def jrI : { t : Rho → T PV // SndE (scAt 28) (n + 1) (forI jF) t } := (rd (F1 n) (X2 (n + 1) (F1 n)) 20 (scAt 28) (forI jF)).ex
noncomputable def jnFor (T₀ : Addr) (ds : List PV) (ρ : Rho) : T (Rho × Fl) := (((jrI n).1 ρ).bind fun d => match d with | .raw (.ref a) => (.chk (a == T₀) (.ret ds) : T (List PV)) | _ => .fail).bind fun ds => forT (jrB n).1 "b" ds ρ
noncomputable def jnT (T₀ : Addr) (ds : List PV) : Rho → T (Rho × Fl) := seqT (jrX n (stAt 28 0)).1 (seqT (jrX n (stAt 28 1)).1 (seqT (jrX n (stAt 28 2)).1 (seqT (seqT (jnFor n T₀ ds) stop) (seqT (jrX n (stAt 28 4)).1 stop))))
end
theorem jn_snd {n : Nat} {c : Cx} (O : Ok (scAt 28) (n + 1) c) (Ap : Apart c) {T₀ : Addr} {vs : List Value} {ds : List PV} (hp : (T₀, tupO vs) ∈ c.pin) (hl : vs.length = ds.length) (hsim : ∀ (i : Nat) (v : Value) (d : PV), vs[i]? = some v → ds[i]? = some d → Sim d v) : SSat c (bodyAt 28) (jnT n T₀ ds) := by
  rw [body28]
  refine consAt ((jrX n _).2 c O Ap) (consAt ((jrX n _).2 c O Ap) (consAt ((jrX n _).2 c O Ap) (consAt (tryAt (consAt (forAt O Ap (by decide +kernel) (by decide +kernel) (tupAt O hp hl hsim (jrI n).2) (jrB n).2) (sndS_nil c O Ap))) (consAt ((jrX n _).2 c O Ap) (sndS_nil c O Ap)))))
noncomputable def joinTail (x y : Str) : T PV := .chk (decide (x.length ≤ sizeLine)) (.ite (Txt.endswith x slash) (.chk (decide (x.length + y.length ≤ sizeLine)) (.ret (.str (x ++ y)))) (.chk (decide (slash.length + y.length ≤ sizeLine)) (.chk (decide (x.length + (slash ++ y).length ≤ sizeLine)) (.ret (.str (x ++ (slash ++ y)))))))
noncomputable def joinT (x y : Str) : T PV := .chk (decide (y.length ≤ sizeLine)) (.ite (Txt.startswith y slash) (.ite true (.ret (.str y)) (joinTail x y)) (.chk (decide (x.length ≤ sizeLine)) (.ite (!(x.length != 0)) (.ret (.str y)) (joinTail x y))))
theorem jn_val (n : Nat) (x y : Str) (T₀ : Addr) : (jnT n T₀ [.str y] (rho0 ["a", "p"] [.str x, .raw (.ref T₀)])).bind retT = .chk (T₀ == T₀) (joinT x y) := by kernel_rfl
end Mine
namespace Mine
noncomputable def joinS : List PV → T PV
  | [.str x, .str y] => joinT x y
  | _ => .fail
theorem bind_join (pm v u : Value) : bindArgs { fdAt 28 191 .none with pyModule := pm } ⟨[v, u], []⟩ = (newTuple [u] >>= fun t => pure [(("a" : Str), v), (("p" : Str), t)] : Sem (List (Str × Value))) := by kernel_rfl
theorem con_join (n : Nat) : Con "join" (n + 3) joinS := by
  intro w H mg mb th y hy hyn A frs s X vs ds Q E W R hF hX hr h
  have hy0 : fnTab[9]? = some (192, 28, 191, .none, "join") := rfl
  have hfn := fn_get hy0
  obtain rfl := fn_uniq hfn hy (hyn.trans rfl)
  obtain ⟨h1, ⟨pm, h2⟩, h3⟩ := th.fn _ hy
  unfold joinS at h
  split at h
  rotate_left
  · exact h.elim
  rename_i x z
  obtain ⟨v, _, rfl, ⟨t1, rfl⟩, u, _, rfl, ⟨t2, rfl⟩, rfl⟩ := hr
  refine wpAny_call ?_
  refine codeAny_call_function (fd := { fdAt 28 191 .none with pyModule := pm }) (body := bodyAt 28) R.depth (W.stays _ _ h2) rfl (by kernel_rfl) (by kernel_rfl) (by kernel_rfl) ?_ ?_
  · exact h3.keeps W.stays
  rw [bind_join]
  unfold newTuple
  refine wpAny_bind (wpAny_newObj_type (wpAny_pure ?_))
  have xN : Nxt H (frs.filterMap (·.frame)) s { s with heap := s.heap.push (tupO [.str z t2]) } := ⟨.push W.stays W.tabs _, rfl, rfl⟩
  have W' : Wf H A frs (s.heap.push (tupO [.str z t2])) := W.ext xN.ext
  have hT : (s.heap.push (tupO [.str z t2])).get? s.heap.objs.size = some (tupO [.str z t2]) := Heap.get?_push_size _ rfl
  refine body_run (y := (192, 28, 191, .none, "join")) (n := n + 1) (sc := scAt 28) (ps := ["a", "p"]) (body := bodyAt 28) (t := jnT n s.heap.objs.size [.str z]) (pm := pm) hy rfl (by kernel_rfl) (by kernel_rfl) (by kernel_rfl) (by kernel_rfl) (by refine ⟨?_, ?_, ?_, ?_, ?_⟩ <;> kernel_rfl) (by decide +kernel) (by decide +kernel) th (s := { s with heap := s.heap.push (tupO [.str z t2]) }) (X := X) (vs := [.str x t1, .ref s.heap.objs.size]) (ds := [.str x, .raw (.ref s.heap.objs.size)]) W' R hF (fun a ha => ?_) ⟨_, _, rfl, ⟨_, rfl⟩, _, _, rfl, rfl, rfl⟩ rfl [(s.heap.objs.size, tupO [.str z t2])] ?_ (fun c O Ap hp _ => jn_snd O Ap (T₀ := s.heap.objs.size) (vs := [.str z t2]) (ds := [.str z]) (by rw [hp]; exact .head _) rfl ?_) ?_
  · obtain ⟨o, e⟩ := hX a ha; exact ⟨o, Heap.get?_push_of_some _ e⟩
  · intro p hp
    rw [List.mem_singleton.mp hp]
    refine ⟨hT, fun q => ?_, fun es m e => (nomatch e), fun v e => (nomatch e), fun m => ?_⟩
    · obtain ⟨zs, e⟩ := W'.tabs.fields hT q
      cases e
    · obtain ⟨o, e⟩ := hX _ m
      rw [fresh_size (Nat.le_refl _)] at e; cases e
  · intro i v d hv hd
    match i, hv, hd with
    | 0, hv, hd => simp at hv hd; subst hv; subst hd; exact ⟨t2, rfl⟩
    | i + 1, hv, hd => simp at hv
  · rw [jn_val]
    refine T.chk_holds (by simp) (T.holds_mono (fun d hd v s' x' r => hd v s' (xN.trans x') r) _ h)
end Mine
namespace Mine
noncomputable def F9 (n : Nat) : FS (n + 3) := ⟨[("translate", tranS), ("join", joinS)], fun p hp => by
  simp only [List.mem_cons, List.mem_nil_iff, or_false] at hp
  rcases hp with rfl | rfl
  · exact con_translate n
  · exact con_join (n + 1)⟩
noncomputable abbrev inY (n : Nat) : ExtraX (n + 3) := Y1 (n + 3) (F9 n) (X2 (n + 3) (F9 n))
noncomputable abbrev inS (n j : Nat) : Rho → T (Rho × Fl) := rsX (F9 n) (X2 (n + 3) (F9 n)) (inY n) 100 33 j
noncomputable def inB (n k : Nat) (ss : List PySem.Stmt) : Rho → T (Rho × Fl) := (rdS (rdX (F9 n) (X2 (n + 3) (F9 n)) (inY n) 100 k (scAt 33)) ss).1
noncomputable def inSc : Scope := match stAt 33 0 with
  | .Assign _ (.Call _ [.ListComp _ _ s _] _ _) _ => s
  | _ => scAt 33
noncomputable def inW : List PySem.Stmt := forBody (bodyAt 33)[3]?
noncomputable def ieT (c : Rho → T Bool) (a b : Rho → T PV) (ρ : Rho) : T PV := (c ρ).bind fun c => .ite c (a ρ) (b ρ)
noncomputable def inElt : Rho → T PV := ieT (cmT .In (vB "sign") fun _ => strE "*?[") (binT .Add (binT .Add (fun _ => strE "[") (vB "sign")) (fun _ => strE "]")) (vE "sign")
noncomputable def inComp (ρ : Rho) : T PV := (((valB ρ "path").bind itemsP).bind fun ds => T.chk (decide (ds.length ≤ sizeLine)) (compT (fun _ => .ret true) inElt (capt inSc (scAt 33) ρ) "sign" ds [])).bind fun rs => .ret (.list rs)
theorem in_st0 (n : Nat) (ρ : Rho) : inS n 0 ρ = ((.ret (.str "") : T PV).bind fun d => match d with
      | .str x => .chk (decide (x.length ≤ sizeLine)) ((inComp ρ).bind fun y => joinP x y) | _ => .fail).bind fun d => .ret (setE ρ "quoted" (.val d), .next) := by kernel_rfl
noncomputable def in1 (ρ : Rho) : T PV := (((((valE ρ "quoted").bind fun d => ((.ret (.str "*") : T PV).bind fun e => (.ret [] : T (List PV)).bind fun ds => .ret (e :: ds)).bind fun ds => (.ret (d :: ds) : T (List PV))).bind joinS).bind fun d => (.ret [] : T (List PV)).bind fun ds => .ret (d :: ds)).bind tranS)
theorem in_st1 (n : Nat) (ρ : Rho) : inS n 1 ρ = (in1 ρ).bind fun d => .ret (setE ρ "text" (.val d), .next) := by kernel_rfl
theorem in_st2 (n : Nat) (ρ : Rho) : inS n 2 ρ = (((valB ρ "text").bind fun d => slcP d (some 4) (some (-5))).bind fun a => ((.ret (.str "") : T PV).bind fun b => ((.ret (.int 0) : T PV).bind fun c => (.ret [] : T (List PV)).bind fun ds => .ret (c :: ds)).bind fun ds => (.ret (b :: ds) : T (List PV))).bind fun ds => (.ret (a :: ds) : T (List PV))).bind fun ds => .chk (ds.length == 3 && decide (ds.length ≤ sizeLine)) (.ret (setAll ρ (([("body" : Str), ("signs" : Str), ("place" : Str)]).reverse.zip ds.reverse), .next)) := by kernel_rfl
theorem in_st3 (n : Nat) (ρ : Rho) : inS n 3 ρ = whileT (cmT .Lt (vB "place") (fun ρ => (valB ρ "body").bind lenP)) (inB n 19 inW) 100 ρ := by kernel_rfl
noncomputable def ixT (ρ : Rho) : T PV := (valB ρ "body").bind fun d => match d with
  | .str x => (((.ret (.str "]") : T PV).bind fun e => ((binT .Add (vB "place") (fun _ => intE 2) ρ).bind fun g => (.ret [] : T (List PV)).bind fun ds => .ret (g :: ds)).bind fun ds => (.ret (e :: ds) : T (List PV)))).bind fun ds => idxP x ds
  | _ => .fail
theorem in_w (n : Nat) : inB n 19 inW = seqT (ifX (cmT .Eq (subT (vB "body") (vB "place")) fun _ => strE "[") (inB n 18 (ifT (inW[0]? : Option PySem.Stmt))) (inB n 18 (ifE (inW[0]? : Option PySem.Stmt)))) (seqT (augO "place" fun _ => intE 1) stop) := by kernel_rfl
theorem in_a (n : Nat) : inB n 18 (ifT (inW[0]? : Option PySem.Stmt)) = seqT (asgT "place" ixT) (seqT (augO "signs" (subT (vB "body") (binT .Sub (vB "place") fun _ => intE 1))) stop) := by kernel_rfl
theorem in_b (n : Nat) : inB n 18 (ifE (inW[0]? : Option PySem.Stmt)) = seqT (augO "place" (ieT (cmT .Eq (subT (vB "body") (vB "place")) fun _ => strE "\\") (fun _ => intE 1) (fun _ => intE 0))) (seqT (augO "signs" (subT (vB "body") (vB "place"))) stop) := by kernel_rfl
theorem in_st4 (n : Nat) (ρ : Rho) : inS n 4 ρ = (ieT (cmT .Eq (vB "text") (binT .Add (binT .Add (fun _ => strE "(?s:") (vB "body")) fun _ => strE ".*)\\Z")) (vE "signs") (fun _ => strE "") ρ).bind fun d => .ret (ρ, .ret d) := by kernel_rfl
end Mine
namespace Mine
open StrLaws in
theorem sub_one {l : List Nat} {c i : Nat} : Builtin.Str.subAt (tx l) (tx [c]) i = decide (l[i]? = some c) := by
  have e := subAt_eq (tx l) (tx [c]) i
  rw [e, tx_list, tx_list, tx_len]
  by_cases h : i < l.length
  · rw [List.drop_eq_getElem_cons h, List.getElem?_eq_getElem h, Bool.eq_iff_iff]
    show ((List.take 1 (l[i] :: List.drop (i + 1) l) == [c]) = true) ↔ _
    rw [List.take_succ_cons, List.take_zero]
    simp
  · have hn : l[i]? = none := List.getElem?_eq_none (by omega)
    rw [List.drop_eq_nil_of_le (by omega), hn]
    simp
theorem at_one {l : List Nat} {c i : Nat} : StrLaws.At (tx l) (tx [c]) (tx l).length i ↔ l[i]? = some c := by
  unfold StrLaws.At
  rw [sub_one, tx_len, tx_len, decide_eq_true_iff]
  constructor
  · exact fun h => h.2
  · intro h
    have := (List.getElem?_eq_some_iff.mp h).1
    exact ⟨by simp; omega, h⟩
theorem idx_one {l : List Nat} {c lo j : Nat} (hz : l.length ≤ 1000) (hj : l[j]? = some c) (hlo : lo ≤ j) (hn : ∀ k, lo ≤ k → k < j → l[k]? ≠ some c) {P : PV → Prop} (h : P (.int (j : Nat))) : (idxP (tx l) [.str (tx [c]), .int (lo : Nat)]).Holds P := by
  have hlt := (List.getElem?_eq_some_iff.mp hj).1
  refine T.chk_holds ?_ ?_
  · simp only [Bool.and_eq_true, decide_eq_true_eq, tx_len]
    exact ⟨⟨by omega, by omega⟩, Nat.le_trans hz (by decide)⟩
  · rw [Int.toNat_natCast]
    rcases StrLaws.occ_head_from (tx l) (tx [c]) lo 1 (Nat.le_refl 1) with ⟨_, hf⟩ | ⟨i, r, h0, h1, h2, h3⟩
    · exact absurd (at_one.mpr hj) (hf j hlo)
    · rw [h0]
      have hi := at_one.mp h2
      have : i = j := by
        rcases Nat.lt_trichotomy i j with q | q | q
        · exact absurd hi (hn i h1 q)
        · exact q
        · exact absurd (at_one.mpr hj) (h3 j hlo q)
      rw [this]; exact h
theorem starts_one {l : List Nat} {c : Nat} : Txt.startswith (tx l) (tx [c]) = decide (l[0]? = some c) := by
  unfold Txt.startswith
  rw [sub_one, tx_len, tx_len]
  cases l with
  | nil => simp
  | cons a l => simp
theorem ends_one {l : List Nat} {c : Nat} : Txt.endswith (tx l) (tx [c]) = decide (l.getLast? = some c) := by
  unfold Txt.endswith
  rw [sub_one, tx_len, tx_len, List.getLast?_eq_getElem?]
  cases l with
  | nil => simp
  | cons a l => simp
theorem slash_tx : slash = tx [47] := by decide +kernel
theorem starts_tx {l m : List Nat} : Txt.startswith (tx l) (tx m) = decide (m <+: l) := by
  unfold Txt.startswith
  have e := StrLaws.subAt_eq (tx l) (tx m) 0
  rw [e, tx_list, tx_list, tx_len, tx_len, List.drop_zero, Bool.eq_iff_iff]
  simp only [Bool.and_eq_true, decide_eq_true_eq, beq_iff_eq]
  constructor
  · rintro ⟨_, h⟩
    exact List.prefix_iff_eq_take.mpr h.symm
  · intro h
    exact ⟨by have := h.length_le; omega, (List.prefix_iff_eq_take.mp h).symm⟩
noncomputable def joinL (l m : List Nat) : List Nat := if m[0]? = some 47 ∨ l = [] then m else if l.getLast? = some 47 then l ++ m else l ++ 47 :: m
theorem join_holds {l m : List Nat} (hl : l.length ≤ 1000) (hm : m.length ≤ 1000) {P : PV → Prop} (h : P (.str (tx (joinL l m)))) : (joinS [.str (tx l), .str (tx m)]).Holds P := by
  have z : ∀ k, k ≤ 3000 → decide (k ≤ sizeLine) = true := fun k hk => decide_eq_true (Nat.le_trans hk (by decide))
  show (joinT (tx l) (tx m)).Holds P
  have tail : (¬ (m[0]? = some 47 ∨ l = [])) → (joinTail (tx l) (tx m)).Holds P := by
    intro hn
    unfold joinL at h
    rw [if_neg hn] at h
    unfold joinTail
    refine T.chk_holds (by rw [tx_len]; exact z _ (by omega)) ?_
    rw [slash_tx, ends_one]
    by_cases hg : l.getLast? = some 47
    · rw [if_pos hg] at h
      simp only [hg, decide_true]
      refine ite_yes (T.chk_holds (by rw [tx_len, tx_len]; exact z _ (by omega)) ?_)
      rw [tx_app]; exact h
    · rw [if_neg hg] at h
      simp only [hg, decide_false]
      have e : tx [47] ++ tx m = tx (47 :: m) := tx_app [47] m
      show T.Holds P (T.chk _ (T.chk _ _))
      refine T.chk_holds (by rw [tx_len, tx_len]; exact z _ (by simp; omega)) ?_
      rw [e]
      refine T.chk_holds (by rw [tx_len, tx_len]; exact z _ (by simp; omega)) ?_
      rw [tx_app]; exact h
  unfold joinT
  refine T.chk_holds (by rw [tx_len]; exact z _ (by omega)) ?_
  rw [slash_tx, starts_one]
  by_cases hs : m[0]? = some 47
  · simp only [hs, decide_true]
    unfold joinL at h
    rw [if_pos (.inl hs)] at h
    exact ite_yes (ite_yes h)
  · simp only [hs, decide_false]
    show T.Holds P (T.chk (decide ((tx l).length ≤ sizeLine)) _)
    refine T.chk_holds (by rw [tx_len]; exact z _ (by omega)) ?_
    by_cases he : l = []
    · subst he
      unfold joinL at h
      rw [if_pos (.inr rfl)] at h
      exact h
    · have : (!((tx l).length != 0)) = false := by
        rw [tx_len]
        cases l with
        | nil => exact absurd rfl he
        | cons a l => simp
      rw [this]
      exact tail (fun q => q.elim hs he)
end Mine
namespace Mine
structure InI (b : List Nat) (tt : PV) (k : Nat) (sg : List Nat) (ρ : Rho) : Prop where
  body : Has ρ "body" (.val (.str (tx b)))
  text : Has ρ "text" (.val tt)
  place : Has ρ "place" (.val (.int (k : Nat)))
  signs : Has ρ "signs" (.val (.str (tx sg)))
theorem InI.setp {b : List Nat} {tt : PV} {k j : Nat} {sg : List Nat} {ρ : Rho} (T : InI b tt k sg ρ) : InI b tt j sg (setE ρ "place" (.val (.int (j : Nat)))) :=
  ⟨T.body.set_ne (by decide +kernel) rfl, T.text.set_ne (by decide +kernel) rfl, Has.set, T.signs.set_ne (by decide +kernel) rfl⟩
theorem InI.sets {b : List Nat} {tt : PV} {k : Nat} {sg sg' : List Nat} {ρ : Rho} (T : InI b tt k sg ρ) : InI b tt k sg' (setE ρ "signs" (.val (.str (tx sg')))) :=
  ⟨T.body.set_ne (by decide +kernel) rfl, T.text.set_ne (by decide +kernel) rfl, T.place.set_ne (by decide +kernel) rfl, Has.set⟩
section
variable {b : List Nat} {tt : PV} {k : Nat} {sg : List Nat} {ρ : Rho} {Q : Rho × Fl → Prop}
theorem aug_holds {x : Str} {t : Rho → T PV} {a d r : PV} (h : Has ρ x (.val a)) (ht : ∀ P : PV → Prop, P d → (t ρ).Holds P) (hr : ∀ P : PV → Prop, P r → (iopP .Add a d).Holds P) (hq : Q (setE ρ x (.val r), .next)) : (augO x t ρ).Holds Q := by
  have e : findE ρ x = some (.val a) := h
  unfold augO
  rw [show ownsE ρ x = false by unfold ownsE; rw [e], if_neg (by decide)]
  unfold augT
  rw [e]
  exact T.bind_holds _ (ht _ (T.bind_holds _ (hr _ hq)))
theorem in_at (J : InI b tt k sg ρ) {c : Nat} (hc : b[k]? = some c) (hb : b.length ≤ 1000) {P : PV → Prop} (h : P (.str (tx [c]))) : (subT (vB "body") (vB "place") ρ).Holds P :=
  sub_holds (fun P h => vB_holds J.body h) (fun P h => vB_holds J.place h) (fun P h => by rw [itm_at hc hb]; exact T.chk_holds rfl h) h
theorem in_inc (J : InI b tt k sg ρ) (h : ∀ ρ', InI b tt (k + 1) sg ρ' → Q (ρ', .next)) : (augO "place" (fun _ => intE 1) ρ).Holds Q :=
  aug_holds (d := .int 1) (r := .int ((k + 1 : Nat) : Int)) J.place (fun P h => h) (fun P h => h) (h _ J.setp)
theorem add_sign {a : List Nat} {c : Nat} (h : a.length ≤ 1000) : ∀ P : PV → Prop, P (.str (tx (a ++ [c]))) → (iopP .Add (.str (tx a)) (.str (tx [c]))).Holds P := fun P hp => by
  refine T.chk_holds (b := decide ((tx a).length + (tx [c]).length ≤ sizeLine)) (decide_eq_true (by rw [tx_len, tx_len]; exact Nat.le_trans (show a.length + [c].length ≤ 1001 by simp; omega) (by decide))) ?_
  rw [tx_app]; exact hp
theorem in_sign (n : Nat) (J : InI b tt k sg ρ) {c : Nat} (hc : b[k]? = some c) (hb : b.length ≤ 1000) (hs : sg.length ≤ 900) (h : ∀ ρ', InI b tt (k + 1) (sg ++ [c]) ρ' → Q (ρ', .next)) : (seqT (seqT (augO "signs" (subT (vB "body") (vB "place"))) stop) (seqT (augO "place" fun _ => intE 1) stop) ρ).Holds Q := by
  refine seq_intro (seq_intro (aug_holds (r := .str (tx (sg ++ [c]))) J.signs (fun P hp => in_at J hc hb hp) (add_sign (by omega)) ?_))
  exact seq_intro (in_inc J.sets fun ρ' J' => h ρ' J')
theorem in_lt (J : InI b tt k sg ρ) (hb : b.length ≤ 1000) {P : Bool → Prop} (h : P (decide (k < b.length))) : (cmT .Lt (vB "place") (fun ρ => (valB ρ "body").bind lenP) ρ).Holds P :=
  cm_holds (y := .int (b.length : Nat)) (fun P h => vB_holds J.place h) (fun P h => by
    show T.Holds P ((valB ρ "body").bind lenP)
    rw [valB_of J.body]
    refine T.chk_holds (b := decide ((tx b).length ≤ sizeLine)) (decide_eq_true (by rw [tx_len]; exact Nat.le_trans hb (by decide))) ?_
    rw [tx_len]; exact h) lt_holds h
theorem in_br (J : InI b tt k sg ρ) {c : Nat} (hc : b[k]? = some c) (hb : b.length ≤ 1000) {P : Bool → Prop} (h : P (c == 91)) : (cmT .Eq (subT (vB "body") (vB "place")) (fun _ => strE "[") ρ).Holds P :=
  cm_holds (fun P h => in_at J hc hb h) (fun P h => strE_holds (ρ := ρ) s_br h) one_str h
theorem in_brack (n : Nat) (J : InI b tt k sg ρ) (h0 : b[k]? = some 91) {j c : Nat} (hkj : k + 2 ≤ j) (hj : b[j]? = some 93) (hn : ∀ i, k + 2 ≤ i → i < j → b[i]? ≠ some 93) (hc : b[j - 1]? = some c) (hb : b.length ≤ 1000) (hs : sg.length ≤ 900)
    (h : ∀ ρ', InI b tt (j + 1) (sg ++ [c]) ρ' → Q (ρ', .next)) : (inB n 19 inW ρ).Holds Q := by
  rw [in_w]
  refine seq_intro (ifX_holds (v := true) (fun P hp => in_br J h0 hb hp) ?_)
  rw [if_pos rfl, in_a]
  refine seq_intro (asg_holds (d := .int ((j : Nat) : Int)) (fun P hp => ?_) ?_)
  · unfold ixT
    rw [valB_of J.body]
    show T.Holds P (((T.ret [PV.str "]"] : T (List PV)).bind fun _ => (((valB ρ "place").bind fun a => (intE 2).bind fun b => binP .Add a b).bind fun g => (T.ret [] : T (List PV)).bind fun ds => T.ret (g :: ds)).bind fun ds => (T.ret (PV.str "]" :: ds) : T (List PV))).bind fun ds => idxP (tx b) ds)
    rw [valB_of J.place, s_cl]
    show T.Holds P (idxP (tx b) [.str (tx [93]), .int ((k + 2 : Nat) : Int)])
    exact idx_one hb hj hkj hn hp
  have J1 : InI b tt j sg (setE ρ "place" (.val (.int ((j : Nat) : Int)))) := J.setp
  generalize setE ρ "place" (.val (.int ((j : Nat) : Int))) = ρ1 at J1
  refine seq_intro (aug_holds (d := .str (tx [c])) (r := .str (tx (sg ++ [c]))) J1.signs (fun P hp => sub_holds (k := .int ((j - 1 : Nat) : Int)) (fun P h => vB_holds J1.body h) (fun P h => bin_holds (y := .int 1) (fun P h => vB_holds J1.place h) (fun P (h : P (PV.int 1)) => (show T.Holds P (intE 1) from h)) (fun P h => ?_) h) (fun P h => by rw [itm_at hc hb]; exact T.chk_holds rfl h) hp) (add_sign (by omega)) ?_)
  · show P (.int ((j : Int) - 1))
    rw [show ((j : Int) - 1) = ((j - 1 : Nat) : Int) by omega]; exact h
  have J2 := J1.sets (sg' := sg ++ [c])
  exact seq_intro (in_inc J2 fun ρ' J' => h ρ' J')
theorem in_esc (n : Nat) (J : InI b tt k sg ρ) {c : Nat} (h0 : b[k]? = some 92) (hc : b[k + 1]? = some c) (hb : b.length ≤ 1000) (hs : sg.length ≤ 900) (h : ∀ ρ', InI b tt (k + 2) (sg ++ [c]) ρ' → Q (ρ', .next)) : (inB n 19 inW ρ).Holds Q := by
  rw [in_w]
  refine seq_intro (ifX_holds (v := false) (fun P hp => in_br J h0 hb hp) ?_)
  rw [if_neg (by decide), in_b]
  refine seq_intro (aug_holds (d := .int 1) (r := .int ((k + 1 : Nat) : Int)) J.place (fun P hp => T.bind_holds _ (cm_holds (v := true) (fun P h => in_at J h0 hb h) (fun P h => strE_holds (ρ := ρ) s_bs h) (fun P h => one_str P (by rw [beq_self_eq_true]; exact h)) (ite_yes hp))) (fun P h => h) ?_)
  have J1 : InI b tt (k + 1) sg (setE ρ "place" (.val (.int ((k + 1 : Nat) : Int)))) := J.setp
  generalize setE ρ "place" (.val (.int ((k + 1 : Nat) : Int))) = ρ1 at J1
  refine seq_intro (aug_holds (r := .str (tx (sg ++ [c]))) J1.signs (fun P hp => in_at J1 hc hb hp) (add_sign (by omega)) ?_)
  exact seq_intro (in_inc J1.sets fun ρ' J' => h ρ' J')
theorem in_plain (n : Nat) (J : InI b tt k sg ρ) {c : Nat} (h0 : b[k]? = some c) (h91 : (c == 91) = false) (h92 : (c == 92) = false) (hb : b.length ≤ 1000) (hs : sg.length ≤ 900) (h : ∀ ρ', InI b tt (k + 1) (sg ++ [c]) ρ' → Q (ρ', .next)) : (inB n 19 inW ρ).Holds Q := by
  rw [in_w]
  refine seq_intro (ifX_holds (v := false) (fun P hp => in_br J h0 hb (by rw [h91]; exact hp)) ?_)
  rw [if_neg (by decide), in_b]
  refine seq_intro (aug_holds (d := .int 0) (r := .int ((k : Nat) : Int)) J.place (fun P hp => T.bind_holds _ (cm_holds (v := false) (fun P h => in_at J h0 hb h) (fun P h => strE_holds (ρ := ρ) s_bs h) (fun P h => one_str P (by rw [h92]; exact h)) hp)) (fun P h => ?_) ?_)
  · show P (.int ((k : Int) + 0))
    rw [Int.add_zero]; exact h
  have J1 : InI b tt k sg (setE ρ "place" (.val (.int ((k : Nat) : Int)))) := J.setp
  generalize setE ρ "place" (.val (.int ((k : Nat) : Int))) = ρ1 at J1
  refine seq_intro (aug_holds (r := .str (tx (sg ++ [c]))) J1.signs (fun P hp => in_at J1 h0 hb hp) (add_sign (by omega)) ?_)
  exact seq_intro (in_inc J1.sets fun ρ' J' => h ρ' J')
theorem in_tok (n : Nat) (J : InI b tt k sg ρ) {c : Nat} {r : List Nat} (hd : b.drop k = tokL c ++ r) (hb : b.length ≤ 1000) (hs : sg.length ≤ 900) (h : ∀ ρ', InI b tt (k + (tokL c).length) (sg ++ [c]) ρ' → Q (ρ', .next)) : (inB n 19 inW ρ).Holds Q := by
  have g : ∀ i, b[k + i]? = (tokL c ++ r)[i]? := fun i => by rw [← hd, List.getElem?_drop]
  unfold tokL tok at hd h g
  by_cases hl : isLone c = true
  · rw [if_pos hl] at g h
    by_cases h91 : c = 91
    · subst h91
      rw [if_pos rfl] at g h
      refine in_brack n J (j := k + 3) (c := 91) (g 0) (by omega) (g 3) (fun i h1 h2 => ?_) (g 2) hb hs h
      have : i = k + 2 := by omega
      rw [this, g 2]
      simp [tx]
    · rw [if_neg h91] at g h
      refine in_brack n J (j := k + 2) (c := c) (g 0) (by omega) (g 2) (fun i h1 h2 => by omega) (g 1) hb hs h
  · rw [if_neg hl] at g h
    unfold escC at g h
    by_cases hsp : c ∈ specials
    · rw [if_pos hsp] at g h
      exact in_esc n J (g 0) (g 1) hb hs h
    · rw [if_neg hsp] at g h
      have n1 : (c == 91) = false := by
        cases q : c == 91 with
        | false => rfl
        | true => have : c = 91 := by simpa using q
                  subst this; exact absurd (by decide) hsp
      have n2 : (c == 92) = false := by
        cases q : c == 92 with
        | false => rfl
        | true => have : c = 92 := by simpa using q
                  subst this; exact absurd (by decide) hsp
      exact in_plain n J (g 0) n1 n2 hb hs h
theorem in_loop (n : Nat) (hb : b.length ≤ 1000) : ∀ (p : List Nat) (f k : Nat) (sg : List Nat) (ρ : Rho), b.drop k = flat p → k ≤ b.length → p.length + 1 ≤ f → sg.length + p.length ≤ 900 → InI b tt k sg ρ → (∀ ρ', InI b tt b.length (sg ++ p) ρ' → Q (ρ', .next)) →
    (whileT (cmT .Lt (vB "place") (fun ρ => (valB ρ "body").bind lenP)) (inB n 19 inW) f ρ).Holds Q
  | [], f, k, sg, ρ, hd, hk, hf, hs, J, h => by
    obtain ⟨f, rfl⟩ : ∃ f', f = f' + 1 := ⟨f - 1, by simp at hf; omega⟩
    have he : k = b.length := by
      have := congrArg List.length hd
      simp [flat] at this
      omega
    subst he
    refine while_stop (fun P hp => in_lt J hb (by rw [decide_eq_false (by omega)]; exact hp)) ?_
    have := h ρ
    rw [List.append_nil] at this
    exact this J
  | c :: p, f, k, sg, ρ, hd, hk, hf, hs, J, h => by
    obtain ⟨f, rfl⟩ : ∃ f', f = f' + 1 := ⟨f - 1, by simp at hf; omega⟩
    have hc : flat (c :: p) = tokL c ++ flat p := by simp [flat]
    rw [hc] at hd
    have hlen := congrArg List.length hd
    simp only [List.length_drop, List.length_append] at hlen
    have h1 := (tokL_len c).2
    simp only [List.length_cons] at hf hs
    refine while_step (fun P hp => in_lt J hb (by rw [decide_eq_true (by omega)]; exact hp)) ?_
    refine in_tok n J hd hb (by omega) fun ρ' J' => ?_
    refine in_loop n hb p f _ _ ρ' ?_ (by omega) (by omega) (by simp; omega) J' fun ρ'' J'' => ?_
    · rw [← List.drop_drop, hd, List.drop_append_of_le_length (Nat.le_refl _), List.drop_length, List.nil_append]
    · exact h ρ'' (by simpa using J'')
end
end Mine
namespace Mine
noncomputable def insideL (q : List Nat) : List Nat := if q.getLast? = some 47 then q else q ++ [47]
noncomputable def InOk (q : List Nat) : Prop := q ≠ [] ∧ q.length ≤ 80 ∧ ∀ c ∈ q, c < 128
noncomputable def inOkB (q : List Nat) : Bool := !q.isEmpty && decide (q.length ≤ 80) && q.all fun c => decide (c < 128)
theorem inOkB_iff {q : List Nat} : inOkB q = true ↔ InOk q := by
  unfold inOkB InOk
  rw [Bool.and_eq_true, Bool.and_eq_true, decide_eq_true_iff, List.all_eq_true, Bool.not_eq_true', and_assoc]
  refine and_congr ?_ (and_congr Iff.rfl ⟨fun h c hc => of_decide_eq_true (h c hc), fun h c hc => decide_eq_true (h c hc)⟩)
  cases q with
  | nil => exact ⟨fun h => (nomatch h), fun h => absurd rfl h⟩
  | cons c q => exact ⟨fun _ h => (nomatch h), fun _ => rfl⟩
theorem quo_last {q : List Nat} : (quo q).getLast? = some 47 ↔ q.getLast? = some 47 := by
  rcases List.eq_nil_or_concat q with rfl | ⟨r, c, rfl⟩
  · simp [quo]
  · have e : quo (r.concat c) = quo r ++ quo1 c := by simp [quo]
    rw [e, List.concat_eq_append, List.getLast?_concat]
    unfold quo1
    split
    · rename_i h
      have : ¬ c = 47 := fun q => by subst q; exact absurd h (by decide)
      simp [this]
    · simp
theorem quo_inside {q : List Nat} (h : q ≠ []) : joinL (quo q) [42] = quo (insideL q) ++ [42] := by
  have hq : quo q ≠ [] := fun e => h (by
    cases q with
    | nil => rfl
    | cons c q =>
      rw [quo_cons] at e
      have := congrArg List.length e
      have h1 : 1 ≤ (quo1 c).length := by unfold quo1; split <;> simp
      rw [List.length_append, List.length_nil] at this
      omega)
  unfold joinL insideL
  rw [if_neg (by simpa using hq)]
  by_cases hl : q.getLast? = some 47
  · rw [if_pos (quo_last.mpr hl), if_pos hl]
  · rw [if_neg (fun e => hl (quo_last.mp e)), if_neg hl]
    have : quo (q ++ [47]) = quo q ++ [47] := by simp [quo, quo1, isLone]
    rw [this]; simp
theorem inside_ok {q : List Nat} (h : InOk q) : TrOk (insideL q) := by
  unfold insideL TrOk
  have := h.2.1
  split
  · exact ⟨by omega, h.2.2⟩
  · refine ⟨by simp; omega, fun c hc => ?_⟩
    rcases List.mem_append.mp hc with hc | hc
    · exact h.2.2 c hc
    · rw [List.mem_singleton.mp hc]; decide
theorem lone_in (c : Nat) : decide (c ∈ [42, 63, 91]) = isLone c := by
  unfold isLone
  rw [Bool.eq_iff_iff]
  simp [or_assoc]
theorem in_elt {ρ : Rho} {c : Nat} (h : Has ρ "sign" (.val (.str (tx [c])))) {P : PV → Prop} (hp : P (.str (tx (quo1 c)))) : (inElt ρ).Holds P := by
  refine T.bind_holds _ (cm_holds (v := isLone c) (fun P h' => vB_holds h h') (fun P h' => strE_holds (l := [42, 63, 91]) (ρ := ρ) (by decide +kernel) h') (fun P h' => ?_) ?_)
  · show P (.bool (Txt.contains (tx [42, 63, 91]) (tx [c])))
    rw [contains_one, lone_in]; exact h'
  unfold quo1 at hp
  cases hl : isLone c with
  | true =>
    rw [hl, if_pos rfl] at hp
    refine ite_yes (bin_holds (x := .str (tx [91, c])) (y := .str (tx [93])) (fun P h' => bin_holds (x := .str (tx [91])) (y := .str (tx [c])) (fun P h' => strE_holds (ρ := ρ) s_br h') (fun P h' => vB_holds h h') (fun P h' => ?_) h') (fun P h' => strE_holds (ρ := ρ) s_cl h') (fun P h' => ?_) hp)
    · exact T.chk_holds (b := decide ((tx [91]).length + (tx [c]).length ≤ sizeLine)) (decide_eq_true (by rw [tx_len, tx_len]; exact (show 2 ≤ sizeLine by decide))) h'
    · exact T.chk_holds (b := decide ((tx [91, c]).length + (tx [93]).length ≤ sizeLine)) (decide_eq_true (by rw [tx_len, tx_len]; exact (show 3 ≤ sizeLine by decide))) h'
  | false =>
    rw [hl, if_neg (by decide)] at hp
    exact vE_holds h hp
theorem signs_tx (q : List Nat) : signs (tx q) = q.map fun c => .str (tx [c]) := by
  unfold signs
  rw [tx_list]; rfl
theorem in_quoted {ρ : Rho} {q : List Nat} (hq : q.length ≤ 80) (h : Has ρ "path" (.val (.str (tx q)))) {P : PV → Prop} (hp : P (.str (tx (quo q)))) : (((.ret (.str "") : T PV).bind fun d => match d with
      | .str x => .chk (decide (x.length ≤ sizeLine)) ((inComp ρ).bind fun y => joinP x y) | _ => .fail)).Holds P := by
  show T.Holds _ (T.chk (decide ((("" : Str)).length ≤ sizeLine)) ((inComp ρ).bind fun y => joinP "" y))
  refine T.chk_holds (by decide +kernel) (T.bind_holds _ ?_)
  unfold inComp
  rw [valB_of h]
  show T.Holds _ (((T.chk (decide ((tx q).length ≤ sizeLine)) (.ret (signs (tx q))) : T (List PV)).bind fun ds => T.chk (decide (ds.length ≤ sizeLine)) (compT (fun _ => .ret true) inElt (capt inSc (scAt 33) ρ) "sign" ds [])).bind fun rs => (T.ret (PV.list rs) : T PV))
  have hz : ∀ k, k ≤ 1000 → decide (k ≤ sizeLine) = true := fun k hk => decide_eq_true (Nat.le_trans hk (by decide))
  refine T.bind_holds _ (T.bind_holds _ (T.chk_holds (by rw [tx_len]; exact hz _ (by omega)) ?_))
  show T.Holds _ (T.chk (decide ((signs (tx q)).length ≤ sizeLine)) _)
  rw [signs_tx]
  refine T.chk_holds (by rw [List.length_map]; exact hz _ (by omega)) ?_
  refine compT_holds (t := fun _ => true) (g := fun d => match d with | .str y => .str (tx (y.cps.toList.flatMap quo1)) | _ => .none) _ [] (fun _ _ _ h => h) (fun d hd _ P hP => ?_) ?_
  · obtain ⟨c, hc, rfl⟩ := List.mem_map.mp hd
    refine in_elt (c := c) Has.set ?_
    simpa [tx_list] using hP
  · rw [show (q.map fun c => PV.str (tx [c])).filter (fun _ => true) = q.map fun c => PV.str (tx [c]) from List.filter_eq_self.mpr fun _ _ => rfl, List.map_map, List.nil_append]
    have e : (List.map ((fun d => match d with | PV.str y => PV.str (tx (y.cps.toList.flatMap quo1)) | _ => PV.none) ∘ fun c => PV.str (tx [c])) q) = ((q.map quo1).map tx).map .str := by
      rw [List.map_map, List.map_map]
      refine List.map_congr_left fun c _ => ?_
      simp [tx_list]
    rw [e]
    show T.Holds P ((T.ofOpt (strsOf (((q.map quo1).map tx).map .str))).bind fun ys => T.chk (JoinOk "" ys) (T.ret (PV.str (Txt.join "" ys))))
    rw [strsOf_map]
    refine T.chk_holds (joinOk_of_weight ?_ (by decide +kernel)) ?_
    · have : ∀ q : List Nat, (((q.map quo1).map tx).map (fun x : Str => x.length)).sum ≤ 3 * q.length := by
        intro q
        induction q with
        | nil => decide
        | cons c q ih =>
          simp only [List.map_cons, List.sum_cons, List.length_cons]
          have h1 : (quo1 c).length ≤ 3 := by unfold quo1; split <;> simp
          rw [tx_len]
          omega
      have := this q
      simp only [List.length_map] at this ⊢
      omega
    · rw [join_flat]
      exact hp
noncomputable def insideS : List PV → T PV
  | [.str x] => .chk (inOkB x.cps.toList) (.ret (.str (tx (insideL x.cps.toList))))
  | _ => .fail
theorem tranS_yes {x : Str} (h : ∃ p, x = tx (quo p ++ [42]) ∧ TrOk p) : tranS [.str x] = .any (fun r => ∃ p, x = tx (quo p ++ [42]) ∧ TrOk p ∧ r = .str (tx (flatTx p))) .ret := by
  unfold tranS; exact if_pos h
theorem slc_body (p : List Nat) : Txt.slice (tx (flatTx p)) (some 4) (some (-5)) = tx (flat p) := by
  have hl : (flatTx p).length = (flat p).length + 9 := by simp [flatTx]
  have e : Txt.slice (tx (flatTx p)) (some 4) (some (-5)) = Txt.slice (tx (flatTx p)) (some ((4 : Nat) : Int)) (some ((((flat p).length + 4 : Nat)) : Int)) := by
    have := StrLaws.sliceText_neg_hi (tx (flatTx p)) (some 4) (j := -5) (by decide) (by rw [tx_len, hl]; omega)
    refine this.trans ?_
    rw [tx_len, hl]
    congr 2
    omega
  rw [e, slc_at _ (by omega) (by omega)]
  congr 1
  have : (flatTx p).drop 4 = flat p ++ ([46, 42] ++ [41, 92, 90]) := by simp [flatTx]
  rw [this, show (flat p).length + 4 - 4 = (flat p).length by omega, List.take_left]
end Mine
namespace Mine
theorem in_text {ρ : Rho} {q : List Nat} (ok : InOk q) (h : Has ρ "quoted" (.val (.str (tx (quo q))))) {P : PV → Prop} (hp : P (.str (tx (flatTx (insideL q))))) : (in1 ρ).Holds P := by
  unfold in1
  rw [valE_of h]
  refine T.bind_holds _ (T.bind_holds _ ?_)
  show T.Holds _ (joinS [.str (tx (quo q)), .str "*"])
  rw [s_star]
  have := quo_len q
  have h80 := ok.2.1
  refine join_holds (by omega) (by simp) ?_
  show T.Holds P (tranS [.str (tx (joinL (quo q) [42]))])
  rw [quo_inside ok.1, tranS_yes ⟨insideL q, rfl, inside_ok ok⟩]
  rintro r ⟨p, hx, _, rfl⟩
  have e := quo_inj (List.append_cancel_right (tx_inj hx))
  rw [← e]; exact hp
theorem in_run (n : Nat) {q : List Nat} (ok : InOk q) {P : PV → Prop} (h : P (.str (tx (insideL q)))) {ρ : Rho} (hp : Has ρ "path" (.val (.str (tx q)))) : ((rrX (F9 n) (X2 (n + 3) (F9 n)) (inY n) 100 33 0 ρ).bind retT).Holds P := by
  have ok' := inside_ok ok
  have hfl := flat_len (insideL q)
  have h90 := ok'.1
  have h81 : (insideL q).length ≤ 81 := by
    have := ok.2.1
    unfold insideL; split <;> simp <;> omega
  refine rx_holds (by decide +kernel) ?_
  show T.Holds _ (inS n 0 ρ)
  rw [in_st0]
  refine T.bind_holds _ (in_quoted ok.2.1 hp ?_)
  show After _ P (setE ρ "quoted" (.val (.str (tx (quo q)))), .next)
  have h1 : Has (setE ρ "quoted" (.val (.str (tx (quo q))))) "quoted" (.val (.str (tx (quo q)))) := Has.set
  generalize setE ρ "quoted" (.val (.str (tx (quo q)))) = ρ1 at h1
  refine rx_holds (by decide +kernel) ?_
  show T.Holds _ (inS n 1 ρ1)
  rw [in_st1]
  refine T.bind_holds _ (in_text ok h1 ?_)
  show After _ P (setE ρ1 "text" (.val (.str (tx (flatTx (insideL q))))), .next)
  have h2 : Has (setE ρ1 "text" (.val (.str (tx (flatTx (insideL q)))))) "text" (.val (.str (tx (flatTx (insideL q))))) := Has.set
  generalize setE ρ1 "text" (.val (.str (tx (flatTx (insideL q))))) = ρ2 at h2
  refine rx_holds (by decide +kernel) ?_
  show T.Holds _ (inS n 2 ρ2)
  rw [in_st2, valB_of h2]
  refine T.bind_holds _ (T.bind_holds _ (T.chk_holds (b := decide ((tx (flatTx (insideL q))).length ≤ sizeLine)) (decide_eq_true (by
    rw [tx_len]; exact Nat.le_trans (show (flatTx (insideL q)).length ≤ 1000 by simp [flatTx]; omega) (by decide))) ?_))
  rw [slc_body]
  show T.Holds (After (rrX (F9 n) (X2 (n + 3) (F9 n)) (inY n) 100 33 3) P) (T.chk (3 == 3 && decide (3 ≤ sizeLine)) (T.ret (setE (setE (setE ρ2 "place" (.val (.int 0))) "signs" (.val (.str ""))) "body" (.val (.str (tx (flat (insideL q))))), Fl.next)))
  refine T.chk_holds (show (3 == 3 && decide (3 ≤ sizeLine)) = true by decide +kernel) ?_
  show After _ P (setE (setE (setE ρ2 "place" (.val (.int 0))) "signs" (.val (.str ""))) "body" (.val (.str (tx (flat (insideL q))))), .next)
  have J : InI (flat (insideL q)) (.str (tx (flatTx (insideL q)))) 0 [] (setE (setE (setE ρ2 "place" (.val (.int 0))) "signs" (.val (.str ""))) "body" (.val (.str (tx (flat (insideL q)))))) :=
    ⟨Has.set, ((h2.set_ne (by decide +kernel) rfl).set_ne (by decide +kernel) rfl).set_ne (by decide +kernel) rfl, (Has.set.set_ne (by decide +kernel) rfl).set_ne (by decide +kernel) rfl, by
      rw [show (tx [] : Str) = "" by decide +kernel]
      exact Has.set.set_ne (by decide +kernel) rfl⟩
  generalize setE (setE (setE ρ2 "place" (.val (.int 0))) "signs" (.val (.str ""))) "body" (.val (.str (tx (flat (insideL q))))) = ρ3 at J
  refine rx_holds (by decide +kernel) ?_
  show T.Holds _ (inS n 3 ρ3)
  rw [in_st3]
  refine in_loop n (by omega) (insideL q) 100 0 [] ρ3 (by simp) (by omega) (by omega) (by simp; omega) J fun ρ4 J4 => ?_
  rw [List.nil_append] at J4
  refine rx_holds (by decide +kernel) ?_
  show T.Holds _ (inS n 4 ρ4)
  rw [in_st4]
  have e1 : ("(?s:" : Str) = tx [40, 63, 115, 58] := by decide +kernel
  have e2 : (".*)\\Z" : Str) = tx [46, 42, 41, 92, 90] := by decide +kernel
  have z : ∀ k, k ≤ 1000 → decide (k ≤ sizeLine) = true := fun k hk => decide_eq_true (Nat.le_trans hk (by decide))
  refine T.bind_holds _ (T.bind_holds _ (cm_holds (v := true) (y := .str (tx (flatTx (insideL q)))) (fun P h => vB_holds J4.text h) (fun P h => bin_holds (x := .str (tx ([40, 63, 115, 58] ++ flat (insideL q)))) (y := .str (tx [46, 42, 41, 92, 90])) (fun P h => bin_holds (x := .str (tx [40, 63, 115, 58])) (y := .str (tx (flat (insideL q)))) (fun P h => strE_holds (ρ := ρ4) e1 h) (fun P h => vB_holds J4.body h) (fun P h => ?_) h) (fun P h => strE_holds (ρ := ρ4) e2 h) (fun P h => ?_) h) (fun P h => ?_) (ite_yes (vE_holds J4.signs h))))
  · refine T.chk_holds (b := decide ((tx [40, 63, 115, 58]).length + (tx (flat (insideL q))).length ≤ sizeLine)) (by rw [tx_len, tx_len]; exact z _ (by simp; omega)) ?_
    rw [tx_app]; exact h
  · refine T.chk_holds (b := decide ((tx ([40, 63, 115, 58] ++ flat (insideL q))).length + (tx [46, 42, 41, 92, 90]).length ≤ sizeLine)) (by rw [tx_len, tx_len]; exact z _ (by simp; omega)) ?_
    rw [tx_app]
    have : [40, 63, 115, 58] ++ flat (insideL q) ++ [46, 42, 41, 92, 90] = flatTx (insideL q) := by simp [flatTx]
    rw [this]; exact h
  · have e : ((flatTx (insideL q)) == (flatTx (insideL q))) = true := beq_self_eq_true _
    have h' : P (.bool ((flatTx (insideL q)) == (flatTx (insideL q)))) := by rw [e]; exact h
    exact h'
noncomputable def inRaw (n : Nat) : List PV → T PV := callT ["path"] (readX (F9 n) (X2 (n + 3) (F9 n)) (inY n) 100 33).1
theorem con_inRaw (n : Nat) : Con "_law_inside" (n + 5) (inRaw n) := by
  refine con_readX (k := 13) (n := n + 3) (F := F9 n) (X := X2 (n + 3) (F9 n)) (Y := inY n) (W := 100) (ps := ["path"]) rfl rfl (by refine ⟨?_, ?_, ?_, ?_, ?_, ?_, ?_, ?_, ?_, ?_⟩ <;> kernel_rfl) (by decide +kernel) (by kernel_rfl) ?_
  intro pm vs h
  obtain ⟨v, rfl⟩ := one_of h
  kernel_rfl
theorem con_inside (n : Nat) : Con "_law_inside" (n + 5) insideS := by
  refine (con_inRaw n).as ?_
  intro ds P h
  unfold insideS at h
  split at h
  · rename_i x
    obtain ⟨hok, h⟩ := T.holds_chk h
    unfold inRaw
    have hx : x = tx x.cps.toList := tx_of x
    refine callX_holds rfl (in_run n (inOkB_iff.mp hok) h ?_)
    rw [← hx]
    kernel_rfl
  · exact h.elim
end Mine
namespace Mine
noncomputable def F10 (n : Nat) : FS (n + 4) := ⟨[("_law_inside", insideS)], fun p hp => by
  simp only [List.mem_cons, List.mem_nil_iff, or_false] at hp
  rcases hp with rfl
  exact con_inside n⟩
noncomputable abbrev blS (n j : Nat) : Rho → T (Rho × Fl) := rsX (F10 n) (X2 (n + 4) (F10 n)) (Yno (n + 4)) 0 34 j
noncomputable def retComp : Option PySem.Stmt → Option Scope | some (.Return (some (.ListComp _ _ s _)) _) => some s | _ => none
noncomputable def blSc : Scope := (retComp (bodyAt 34)[1]?).getD (scAt 34)
noncomputable def swT (a b : Rho → T PV) (ρ : Rho) : T PV := (a ρ).bind fun d => match d with
      | .str x => .chk (decide (x.length ≤ sizeLine)) ((b ρ).bind fun y => strArg (fun y => .ret (.bool (Txt.startswith x y))) y) | _ => .fail
noncomputable def blTest : Rho → T Bool := andT (cmT .NotEq (vB "other") (vB "path")) (trT (swT (vB "other") (vB "head")))
theorem bl_st0 (n : Nat) (ρ : Rho) : blS n 0 ρ = (((valE (frz ρ "path") "path").bind fun d => (.ret [d] : T (List PV))).bind insideS).bind fun d => .ret (setE (frz ρ "path") "head" (.val d), .next) := by kernel_rfl
noncomputable def blComp (ρ : Rho) : T PV := (((valB ρ "paths").bind itemsP).bind fun ds => T.chk (decide (ds.length ≤ sizeLine)) (compT blTest (vE "other") (capt blSc (scAt 34) ρ) "other" ds [])).bind fun rs => .ret (.list rs)
theorem bl_st1 (n : Nat) (ρ : Rho) : blS n 1 ρ = (blComp ρ).bind fun d => .ret (ρ, .ret d) := by kernel_rfl
noncomputable def below (p : Str) (L : List Str) : List Str := L.filter fun o => decide (o ≠ p) && decide (insideL p.cps.toList <+: o.cps.toList)
noncomputable def BelOk (p : Str) (L : List Str) : Prop := InOk p.cps.toList ∧ L.length ≤ 100 ∧ ∀ o ∈ L, o.length ≤ 1000
open Classical in
noncomputable def belowS : List PV → T PV
  | [.str p, .list l] => if ∃ L : List Str, l = L.map .str ∧ BelOk p L then .any (fun r => ∃ L : List Str, l = L.map .str ∧ BelOk p L ∧ r = .list ((below p L).map .str)) .ret else .fail
  | _ => .fail
theorem bl_test {ρ : Rho} {o p : Str} {q : List Nat} (h1 : Has ρ "other" (.val (.str o))) (h2 : Has ρ "path" (.val (.str p))) (h3 : Has ρ "head" (.val (.str (tx q)))) (ho : o.length ≤ 1000) {P : Bool → Prop} (h : P (decide (o ≠ p) && decide (q <+: o.cps.toList))) : (blTest ρ).Holds P := by
  refine and_holds (va := decide (o ≠ p)) (vb := decide (q <+: o.cps.toList)) (fun P h => cm_holds (fun P h => vB_holds h1 h) (fun P h => vB_holds h2 h) (fun P h => ?_) h) (fun _ P h => ?_) h
  · have e : (!(o.cps.toList == p.cps.toList)) = decide (o ≠ p) := by
      rw [Bool.eq_iff_iff]
      simp only [Bool.not_eq_true', beq_eq_false_iff_ne, ne_eq, decide_eq_true_eq]
      constructor
      · intro hn e; exact hn (by rw [e])
      · intro hn e; exact hn (by rw [tx_of o, tx_of p, e])
    show P (.bool (!(o.cps.toList == p.cps.toList)))
    rw [e]; exact h
  · refine T.bind_holds _ ?_
    unfold swT
    show T.Holds _ ((valB ρ "other").bind _)
    rw [valB_of h1]
    refine T.chk_holds (b := decide (o.length ≤ sizeLine)) (decide_eq_true (Nat.le_trans ho (by decide))) ?_
    show T.Holds _ ((valB ρ "head").bind _)
    rw [valB_of h3]
    show P (Txt.startswith o (tx q))
    have e : Txt.startswith o (tx q) = decide (q <+: o.cps.toList) := by
      conv => lhs; rw [tx_of o]
      exact starts_tx
    rw [e]; exact h
noncomputable def blRaw (n : Nat) : List PV → T PV := callT ["path", "paths"] (readX (F10 n) (X2 (n + 4) (F10 n)) (Yno (n + 4)) 0 34).1
theorem con_blRaw (n : Nat) : Con "_law_below" (n + 6) (blRaw n) := by
  refine con_readX (k := 14) (n := n + 4) (F := F10 n) (X := X2 (n + 4) (F10 n)) (Y := Yno (n + 4)) (W := 0) (ps := ["path", "paths"]) rfl rfl (by refine ⟨?_, ?_, ?_, ?_, ?_, ?_, ?_, ?_, ?_, ?_⟩ <;> kernel_rfl) (by decide +kernel) (by kernel_rfl) ?_
  intro pm vs h
  obtain ⟨v, u, rfl⟩ := two_of h
  kernel_rfl
theorem con_below (n : Nat) : Con "_law_below" (n + 6) belowS := by
  refine (con_blRaw n).as ?_
  intro ds P h
  unfold belowS at h
  split at h
  · rename_i p l
    split at h
    · rename_i hh
      obtain ⟨L, rfl, ok⟩ := hh
      have hP := h _ ⟨L, rfl, ok, rfl⟩
      unfold blRaw
      refine callX_holds rfl (rx_holds (by decide +kernel) ?_)
      show T.Holds _ (blS n 0 _)
      have p0 : Has (rho0 ["path", "paths"] [.str p, .list (L.map .str)]) "path" (.val (.str p)) := by kernel_rfl
      have l0 : Has (rho0 ["path", "paths"] [.str p, .list (L.map .str)]) "paths" (.val (.list (L.map .str))) := by kernel_rfl
      generalize rho0 ["path", "paths"] [.str p, .list (L.map .str)] = ρ at p0 l0
      rw [bl_st0, frz_val p0, valE_of p0]
      show T.Holds _ ((insideS [.str p]).bind _)
      refine T.bind_holds _ (T.chk_holds (inOkB_iff.mpr ok.1) ?_)
      show After _ P (setE ρ "head" (.val (.str (tx (insideL p.cps.toList)))), .next)
      have p1 : Has (setE ρ "head" (.val (.str (tx (insideL p.cps.toList))))) "path" (.val (.str p)) := p0.set_ne (by decide +kernel) rfl
      have l1 : Has (setE ρ "head" (.val (.str (tx (insideL p.cps.toList))))) "paths" (.val (.list (L.map .str))) := l0.set_ne (by decide +kernel) rfl
      have h1 : Has (setE ρ "head" (.val (.str (tx (insideL p.cps.toList))))) "head" (.val (.str (tx (insideL p.cps.toList)))) := Has.set
      generalize setE ρ "head" (.val (.str (tx (insideL p.cps.toList)))) = ρ1 at p1 l1 h1
      refine rx_holds (by decide +kernel) ?_
      show T.Holds _ (blS n 1 ρ1)
      rw [bl_st1]
      refine T.bind_holds _ ?_
      unfold blComp
      rw [valB_of l1]
      have z : ∀ k, k ≤ 1000 → decide (k ≤ sizeLine) = true := fun k hk => decide_eq_true (Nat.le_trans hk (by decide))
      have hl : (L.map PV.str).length ≤ 1000 := by have := ok.2.1; rw [List.length_map]; omega
      show T.Holds _ (((T.chk (decide ((L.map PV.str).length ≤ sizeLine)) (.ret (L.map PV.str)) : T (List PV)).bind fun ds => T.chk (decide (ds.length ≤ sizeLine)) (compT blTest (vE "other") (capt blSc (scAt 34) ρ1) "other" ds [])).bind fun rs => (.ret (.list rs) : T PV))
      refine T.bind_holds _ (T.bind_holds _ (T.chk_holds (z _ hl) ?_))
      show T.Holds _ (T.chk (decide ((L.map PV.str).length ≤ sizeLine)) _)
      refine T.chk_holds (z _ hl) ?_
      refine compT_holds (t := fun d => match d with | .str o => decide (o ≠ p) && decide (insideL p.cps.toList <+: o.cps.toList) | _ => false) (g := id) _ [] (fun d hd P hP => ?_) (fun d hd _ P hP => ?_) ?_
      · obtain ⟨o, ho, rfl⟩ := List.mem_map.mp hd
        exact bl_test Has.set ((p1.capt (by decide +kernel)).set_ne (by decide +kernel) rfl) ((h1.capt (by decide +kernel)).set_ne (by decide +kernel) rfl) (ok.2.2 o ho) hP
      · obtain ⟨o, ho, rfl⟩ := List.mem_map.mp hd
        exact vE_holds Has.set hP
      · rw [List.nil_append, List.map_id, List.filter_map]
        exact hP
    · exact h.elim
  · exact h.elim
end Mine
namespace Mine
theorem forZ_holds {body : Rho → T (Rho × Fl)} {x y : Str} {P : Rho × Fl → Prop} (I : Nat → Rho → Prop) : ∀ (as bs : List PV) (i : Nat) (ρ : Rho), as.length = bs.length →
    (∀ j a b ρ, as[j]? = some a → bs[j]? = some b → I (i + j) ρ → (body (setE (setE ρ x (.val a)) y (.val b))).Holds fun r => r.2 = .next ∧ I (i + j + 1) r.1) →
    (∀ ρ, I (i + as.length) ρ → P (ρ, .next)) → I i ρ → (forZ body x y as bs ρ).Holds P
  | [], _, i, ρ, hl, _, done, h => by rw [forZ_stop (.inl rfl)]; exact done ρ h
  | _ :: _, [], i, ρ, hl, _, done, h => by cases hl
  | a :: as, b :: bs, i, ρ, hl, step, done, h => by
    unfold forZ
    refine T.bind_holds _ (T.holds_mono (fun r hr => ?_) _ (step 0 a b ρ rfl rfl h))
    obtain ⟨ρ', f⟩ := r
    obtain ⟨rfl, hr⟩ := hr
    exact forZ_holds I as bs (i + 1) ρ' (by simpa using hl) (fun j a b ρ ha hb hI => by
        have := step (j + 1) a b ρ (by simpa using ha) (by simpa using hb) (by rw [show i + (j + 1) = i + 1 + j by omega]; exact hI)
        rw [show i + (j + 1) + 1 = i + 1 + j + 1 by omega] at this
        exact this) (fun ρ hI => done ρ (by rw [show i + (a :: as).length = i + 1 + as.length by simp; omega]; exact hI)) hr
noncomputable abbrev txs (l : List (List Nat)) : List PV := l.map fun q => .str (tx q)
noncomputable def F11 (n : Nat) : FS (n + 2) := ⟨[("join", joinS)], fun p hp => by
  simp only [List.mem_cons, List.mem_nil_iff, or_false] at hp
  rcases hp with rfl
  exact con_join n⟩
noncomputable abbrev jdS (n j : Nat) : Rho → T (Rho × Fl) := rsX (F11 n) (X2 (n + 2) (F11 n)) (Yno (n + 2)) 0 31 j
noncomputable def jdB (n : Nat) : Rho → T (Rho × Fl) := (rdS (rdX (F11 n) (X2 (n + 2) (F11 n)) (Yno (n + 2)) 0 19 (scAt 31)) (forBody (bodyAt 31)[1]?)).1
noncomputable def zipT (tb : Rho → T (Rho × Fl)) (ρ : Rho) : T (Rho × Fl) := (valE ρ "ups").bind fun a => (valE ρ "names").bind fun b => match a, b with
      | .list l, .list m => forZ tb "up" "name" l m ρ
      | _, _ => .fail
noncomputable def appT (x : Str) (t : Rho → T PV) (ρ : Rho) : T (Rho × Fl) := match findE ρ x with
      | some (.own l) => (t ρ).bind fun d => .chk (decide (l.length ≤ sizeLine)) (.ret (updE ρ x (.own (l ++ [d])), .next))
      | _ => .fail
theorem jd_st0 (n : Nat) (ρ : Rho) : jdS n 0 ρ = .chk true (.ret (setE ρ "paths" (.own [.str "/"]), .next)) := by kernel_rfl
theorem jd_st1 (n : Nat) (ρ : Rho) : jdS n 1 ρ = zipT (jdB n) ρ := by kernel_rfl
theorem jd_st2 (n : Nat) (ρ : Rho) : jdS n 2 ρ = (valE (frz ρ "paths") "paths").bind fun d => .ret (frz ρ "paths", .ret d) := by kernel_rfl
theorem jd_b (n : Nat) : jdB n = seqT (appT "paths" fun ρ => (((subT (vB "paths") (vB "up") ρ).bind fun d => ((valE ρ "name").bind fun e => (.ret [] : T (List PV)).bind fun ds => .ret (e :: ds)).bind fun ds => (.ret (d :: ds) : T (List PV))).bind joinS)) stop := by kernel_rfl
noncomputable abbrev slS (n j : Nat) : Rho → T (Rho × Fl) := rsX (F0 n) (X2 n (F0 n)) (Yno n) 0 32 j
noncomputable def slB (n : Nat) : Rho → T (Rho × Fl) := (rdS (rdX (F0 n) (X2 n (F0 n)) (Yno n) 0 19 (scAt 32)) (forBody (bodyAt 32)[1]?)).1
theorem sl_st0 (n : Nat) (ρ : Rho) : slS n 0 ρ = .chk true (.ret (setE ρ "texts" (.own [.str ""]), .next)) := by kernel_rfl
theorem sl_st1 (n : Nat) (ρ : Rho) : slS n 1 ρ = zipT (slB n) ρ := by kernel_rfl
theorem sl_st2 (n : Nat) (ρ : Rho) : slS n 2 ρ = ((.chk true (.ret (.list [.str "/"])) : T PV).bind fun a => ((valB ρ "texts").bind fun d => slcP d (some 1) none).bind fun b => binP .Add a b).bind fun d => .ret (ρ, .ret d) := by kernel_rfl
theorem sl_b (n : Nat) : slB n = seqT (appT "texts" (binT .Add (binT .Add (subT (vB "texts") (vB "up")) fun _ => strE "/") (vB "name"))) stop := by kernel_rfl
end Mine
namespace Mine
noncomputable abbrev Tree := List (Nat × List Nat)
noncomputable def jstep (acc : List (List Nat)) (p : Nat × List Nat) : List (List Nat) := acc ++ [joinL (acc.getD p.1 []) p.2]
noncomputable def sstep (acc : List (List Nat)) (p : Nat × List Nat) : List (List Nat) := acc ++ [acc.getD p.1 [] ++ 47 :: p.2]
noncomputable def jacc (z : Tree) : List (List Nat) := z.foldl jstep [[47]]
noncomputable def sacc (z : Tree) : List (List Nat) := z.foldl sstep [[]]
noncomputable def JOk (z : Tree) : Prop := z.length ≤ 10 ∧ (∀ (i : Nat) (p : Nat × List Nat), z[i]? = some p → p.1 ≤ i) ∧ ∀ p ∈ z, p.2.length ≤ 10
theorem take_step {α : Type} {z : List α} {i : Nat} {p : α} (h : z[i]? = some p) : z.take (i + 1) = z.take i ++ [p] := by
  rw [List.take_add_one, h]; rfl
theorem jacc_step {z : Tree} {i : Nat} {p : Nat × List Nat} (h : z[i]? = some p) : jacc (z.take (i + 1)) = jstep (jacc (z.take i)) p := by
  unfold jacc; rw [take_step h, List.foldl_append]; rfl
theorem sacc_step {z : Tree} {i : Nat} {p : Nat × List Nat} (h : z[i]? = some p) : sacc (z.take (i + 1)) = sstep (sacc (z.take i)) p := by
  unfold sacc; rw [take_step h, List.foldl_append]; rfl
theorem jacc_len (z : Tree) : (jacc z).length = z.length + 1 := by
  have : ∀ (z : Tree) (a : List (List Nat)), (z.foldl jstep a).length = a.length + z.length := by
    intro z
    induction z with
    | nil => simp
    | cons p z ih => intro a; rw [List.foldl_cons, ih]; simp [jstep]; omega
  rw [jacc, this]; simp; omega
theorem sacc_len (z : Tree) : (sacc z).length = z.length + 1 := by
  have : ∀ (z : Tree) (a : List (List Nat)), (z.foldl sstep a).length = a.length + z.length := by
    intro z
    induction z with
    | nil => simp
    | cons p z ih => intro a; rw [List.foldl_cons, ih]; simp [sstep]; omega
  rw [sacc, this]; simp; omega
theorem joinL_len (l m : List Nat) : (joinL l m).length ≤ l.length + m.length + 1 := by
  unfold joinL
  split
  · omega
  · split <;> simp <;> omega
theorem getD_mem {α : Type} {l : List α} {i : Nat} {d : α} (h : i < l.length) : l.getD i d ∈ l := by
  rw [List.getD_eq_getElem?_getD, List.getElem?_eq_getElem h]; exact List.getElem_mem h
theorem jacc_size {z : Tree} (ok : JOk z) : ∀ i, i ≤ z.length → ∀ q ∈ jacc (z.take i), q.length ≤ 1 + 11 * i
  | 0, _, q, hq => by
    simp [jacc] at hq; subst hq; simp
  | i + 1, hi, q, hq => by
    have hp : z[i]? = some z[i] := List.getElem?_eq_getElem hi
    rw [jacc_step hp] at hq
    rcases List.mem_append.mp hq with hq | hq
    · have := jacc_size ok i (by omega) q hq; omega
    · rw [List.mem_singleton.mp hq]
      have hlen : (jacc (z.take i)).length = i + 1 := by rw [jacc_len, List.length_take]; omega
      have h1 := jacc_size ok i (by omega) _ (getD_mem (d := []) (show (z[i]).1 < (jacc (z.take i)).length by have := ok.2.1 i _ hp; omega))
      have h2 := ok.2.2 _ (List.getElem_mem hi)
      have := joinL_len ((jacc (z.take i)).getD (z[i]).1 []) (z[i]).2
      omega
theorem sacc_size {z : Tree} (ok : JOk z) : ∀ i, i ≤ z.length → ∀ q ∈ sacc (z.take i), q.length ≤ 1 + 11 * i
  | 0, _, q, hq => by
    simp [sacc] at hq; subst hq; simp
  | i + 1, hi, q, hq => by
    have hp : z[i]? = some z[i] := List.getElem?_eq_getElem hi
    rw [sacc_step hp] at hq
    rcases List.mem_append.mp hq with hq | hq
    · have := sacc_size ok i (by omega) q hq; omega
    · rw [List.mem_singleton.mp hq]
      have hlen : (sacc (z.take i)).length = i + 1 := by rw [sacc_len, List.length_take]; omega
      have h1 := sacc_size ok i (by omega) _ (getD_mem (d := []) (show (z[i]).1 < (sacc (z.take i)).length by have := ok.2.1 i _ hp; omega))
      have h2 := ok.2.2 _ (List.getElem_mem hi)
      simp only [List.length_append, List.length_cons]
      omega
noncomputable abbrev upsP (z : Tree) : List PV := z.map fun p => .int (p.1 : Nat)
noncomputable abbrev namesP (z : Tree) : List PV := z.map fun p => .str (tx p.2)
theorem itm_txs {l : List (List Nat)} {i : Nat} (hi : i < l.length) (hl : l.length ≤ 1000) {P : PV → Prop} (h : P (.str (tx (l.getD i [])))) : (itmP (.list (txs l)) (.int (i : Nat))).Holds P := by
  refine itm_list (d := .str (tx (l.getD i []))) ?_ (by simpa using hl) h
  simp [txs, List.getElem?_eq_getElem hi]
theorem app_holds {x : Str} {t : Rho → T PV} {l : List PV} {d : PV} {ρ : Rho} {Q : Rho × Fl → Prop} (h : Has ρ x (.own l)) (hl : l.length ≤ 1000) (ht : ∀ P : PV → Prop, P d → (t ρ).Holds P) (hq : Q (updE ρ x (.own (l ++ [d])), .next)) : (appT x t ρ).Holds Q := by
  unfold appT
  rw [show findE ρ x = some (.own l) from h]
  exact T.bind_holds _ (ht _ (T.chk_holds (decide_eq_true (Nat.le_trans hl (by decide))) hq))
theorem jd_run (n : Nat) {z : Tree} (ok : JOk z) {P : PV → Prop} (h : P (.list (txs (jacc z)))) {ρ : Rho} (hu : Has ρ "ups" (.val (.list (upsP z)))) (hn : Has ρ "names" (.val (.list (namesP z)))) : ((rrX (F11 n) (X2 (n + 2) (F11 n)) (Yno (n + 2)) 0 31 0 ρ).bind retT).Holds P := by
  refine rx_holds (by decide +kernel) ?_
  show T.Holds _ (jdS n 0 ρ)
  rw [jd_st0]
  refine T.chk_holds rfl ?_
  show After _ P (setE ρ "paths" (.own [.str "/"]), .next)
  have u1 : Has (setE ρ "paths" (.own [.str "/"])) "ups" (.val (.list (upsP z))) := hu.set_ne (by decide +kernel) rfl
  have n1 : Has (setE ρ "paths" (.own [.str "/"])) "names" (.val (.list (namesP z))) := hn.set_ne (by decide +kernel) rfl
  have p1 : Has (setE ρ "paths" (.own [.str "/"])) "paths" (.own (txs (jacc (z.take 0)))) := by
    have : txs (jacc (z.take 0)) = [.str ("/" : Str)] := by
      rw [show ("/" : Str) = tx [47] by decide +kernel]; rfl
    rw [this]; exact Has.set
  generalize setE ρ "paths" (.own [.str "/"]) = ρ1 at u1 n1 p1
  refine rx_holds (by decide +kernel) ?_
  show T.Holds _ (jdS n 1 ρ1)
  rw [jd_st1]
  unfold zipT
  rw [valE_of u1, valE_of n1]
  show T.Holds _ (forZ (jdB n) "up" "name" (upsP z) (namesP z) ρ1)
  have h10 := ok.1
  refine forZ_holds (fun i ρ => Has ρ "paths" (.own (txs (jacc (z.take i))))) _ _ 0 ρ1 (by simp) (fun i a b ρ ha hb hI => ?_) (fun ρ2 hI => ?_) p1
  · simp only [Nat.zero_add] at hI ⊢
    simp only [upsP, namesP, List.getElem?_map, Option.map_eq_some_iff] at ha hb
    obtain ⟨p, hp, rfl⟩ := ha
    obtain ⟨p', hp', rfl⟩ := hb
    rw [hp] at hp'; cases hp'
    have hi := (List.getElem?_eq_some_iff.mp hp).1
    have hlen : (jacc (z.take i)).length = i + 1 := by rw [jacc_len, List.length_take]; omega
    have hui := ok.2.1 i p hp
    have P0 : Has (setE (setE ρ "up" (.val (.int (p.1 : Nat)))) "name" (.val (.str (tx p.2)))) "paths" (.own (txs (jacc (z.take i)))) := (hI.set_ne (by decide +kernel) rfl).set_ne (by decide +kernel) rfl
    have U0 : Has (setE (setE ρ "up" (.val (.int (p.1 : Nat)))) "name" (.val (.str (tx p.2)))) "up" (.val (.int (p.1 : Nat))) := Has.set.set_ne (by decide +kernel) rfl
    have N0 : Has (setE (setE ρ "up" (.val (.int (p.1 : Nat)))) "name" (.val (.str (tx p.2)))) "name" (.val (.str (tx p.2))) := Has.set
    generalize setE (setE ρ "up" (.val (.int (p.1 : Nat)))) "name" (.val (.str (tx p.2))) = ρ' at P0 U0 N0
    rw [jd_b]
    refine seq_intro (app_holds (d := .str (tx (joinL ((jacc (z.take i)).getD p.1 []) p.2))) P0 (by rw [List.length_map, hlen]; omega) (fun P hP => ?_) ?_)
    · refine T.bind_holds _ (T.bind_holds _ (sub_holds (x := .list (txs (jacc (z.take i)))) (k := .int (p.1 : Nat)) (d := .str (tx ((jacc (z.take i)).getD p.1 []))) (fun P h => by show (valB ρ' "paths").Holds P; rw [valB_own P0]; exact h) (fun P h => vB_holds U0 h) (fun P h => itm_txs (by omega) (by omega) h) ?_))
      rw [valE_of N0]
      show T.Holds P (joinS [.str (tx ((jacc (z.take i)).getD p.1 [])), .str (tx p.2)])
      have h1 := jacc_size ok i (by omega) _ (getD_mem (d := []) (show p.1 < (jacc (z.take i)).length by omega))
      have h2 := ok.2.2 p (List.mem_of_getElem? hp)
      exact join_holds (by omega) (by omega) hP
    · refine ⟨rfl, ?_⟩
      rw [jacc_step hp]
      have : txs (jstep (jacc (z.take i)) p) = txs (jacc (z.take i)) ++ [.str (tx (joinL ((jacc (z.take i)).getD p.1 []) p.2))] := by simp [jstep, txs]
      rw [this]
      exact Has.upd
  · simp only [Nat.zero_add, upsP, List.length_map, List.take_length] at hI
    refine rx_holds (by decide +kernel) ?_
    show T.Holds _ (jdS n 2 ρ2)
    rw [jd_st2, valE_of hI.frz]
    exact h
end Mine
namespace Mine
noncomputable def spells (z : Tree) : List (List Nat) := [47] :: (sacc z).drop 1
theorem drop_txs (l : List (List Nat)) (k : Nat) : (txs l).drop k = txs (l.drop k) := by simp [txs]
theorem sl_run (n : Nat) {z : Tree} (ok : JOk z) {P : PV → Prop} (h : P (.list (txs (spells z)))) {ρ : Rho} (hu : Has ρ "ups" (.val (.list (upsP z)))) (hn : Has ρ "names" (.val (.list (namesP z)))) : ((rrX (F0 n) (X2 n (F0 n)) (Yno n) 0 32 0 ρ).bind retT).Holds P := by
  refine rx_holds (by decide +kernel) ?_
  show T.Holds _ (slS n 0 ρ)
  rw [sl_st0]
  refine T.chk_holds rfl ?_
  show After _ P (setE ρ "texts" (.own [.str ""]), .next)
  have u1 : Has (setE ρ "texts" (.own [.str ""])) "ups" (.val (.list (upsP z))) := hu.set_ne (by decide +kernel) rfl
  have n1 : Has (setE ρ "texts" (.own [.str ""])) "names" (.val (.list (namesP z))) := hn.set_ne (by decide +kernel) rfl
  have p1 : Has (setE ρ "texts" (.own [.str ""])) "texts" (.own (txs (sacc (z.take 0)))) := by
    have : txs (sacc (z.take 0)) = [.str ("" : Str)] := by
      rw [show ("" : Str) = tx [] by decide +kernel]; rfl
    rw [this]; exact Has.set
  generalize setE ρ "texts" (.own [.str ""]) = ρ1 at u1 n1 p1
  refine rx_holds (by decide +kernel) ?_
  show T.Holds _ (slS n 1 ρ1)
  rw [sl_st1]
  unfold zipT
  rw [valE_of u1, valE_of n1]
  show T.Holds _ (forZ (slB n) "up" "name" (upsP z) (namesP z) ρ1)
  have h10 := ok.1
  have zz : ∀ k, k ≤ 3000 → decide (k ≤ sizeLine) = true := fun k hk => decide_eq_true (Nat.le_trans hk (by decide))
  refine forZ_holds (fun i ρ => Has ρ "texts" (.own (txs (sacc (z.take i))))) _ _ 0 ρ1 (by simp) (fun i a b ρ ha hb hI => ?_) (fun ρ2 hI => ?_) p1
  · simp only [Nat.zero_add] at hI ⊢
    simp only [upsP, namesP, List.getElem?_map, Option.map_eq_some_iff] at ha hb
    obtain ⟨p, hp, rfl⟩ := ha
    obtain ⟨p', hp', rfl⟩ := hb
    rw [hp] at hp'; cases hp'
    have hi := (List.getElem?_eq_some_iff.mp hp).1
    have hlen : (sacc (z.take i)).length = i + 1 := by rw [sacc_len, List.length_take]; omega
    have hui := ok.2.1 i p hp
    have P0 : Has (setE (setE ρ "up" (.val (.int (p.1 : Nat)))) "name" (.val (.str (tx p.2)))) "texts" (.own (txs (sacc (z.take i)))) := (hI.set_ne (by decide +kernel) rfl).set_ne (by decide +kernel) rfl
    have U0 : Has (setE (setE ρ "up" (.val (.int (p.1 : Nat)))) "name" (.val (.str (tx p.2)))) "up" (.val (.int (p.1 : Nat))) := Has.set.set_ne (by decide +kernel) rfl
    have N0 : Has (setE (setE ρ "up" (.val (.int (p.1 : Nat)))) "name" (.val (.str (tx p.2)))) "name" (.val (.str (tx p.2))) := Has.set
    generalize setE (setE ρ "up" (.val (.int (p.1 : Nat)))) "name" (.val (.str (tx p.2))) = ρ' at P0 U0 N0
    have h1 := sacc_size ok i (by omega) _ (getD_mem (d := []) (show p.1 < (sacc (z.take i)).length by omega))
    have h2 := ok.2.2 p (List.mem_of_getElem? hp)
    rw [sl_b]
    refine seq_intro (app_holds (d := .str (tx ((sacc (z.take i)).getD p.1 [] ++ 47 :: p.2))) P0 (by rw [List.length_map, hlen]; omega) (fun P hP => ?_) ?_)
    · refine bin_holds (x := .str (tx ((sacc (z.take i)).getD p.1 [] ++ [47]))) (y := .str (tx p.2)) (fun P h => bin_holds (x := .str (tx ((sacc (z.take i)).getD p.1 []))) (y := .str (tx [47])) (fun P h => sub_holds (x := .list (txs (sacc (z.take i)))) (k := .int (p.1 : Nat)) (d := .str (tx ((sacc (z.take i)).getD p.1 []))) (fun P h => by show (valB ρ' "texts").Holds P; rw [valB_own P0]; exact h) (fun P h => vB_holds U0 h) (fun P h => itm_txs (by omega) (by omega) h) h) (fun P h => strE_holds (ρ := ρ') slash_tx h) (fun P h => ?_) h) (fun P h => vB_holds N0 h) (fun P h => ?_) hP
      · refine T.chk_holds (b := decide ((tx ((sacc (z.take i)).getD p.1 [])).length + (tx [47]).length ≤ sizeLine)) (by rw [tx_len, tx_len]; exact zz _ (by simp only [List.length_cons, List.length_nil]; omega)) ?_
        rw [tx_app]; exact h
      · refine T.chk_holds (b := decide ((tx ((sacc (z.take i)).getD p.1 [] ++ [47])).length + (tx p.2).length ≤ sizeLine)) (by rw [tx_len, tx_len]; exact zz _ (by simp only [List.length_append, List.length_cons, List.length_nil]; omega)) ?_
        rw [tx_app, List.append_assoc]; exact h
    · refine ⟨rfl, ?_⟩
      rw [sacc_step hp]
      have : txs (sstep (sacc (z.take i)) p) = txs (sacc (z.take i)) ++ [.str (tx ((sacc (z.take i)).getD p.1 [] ++ 47 :: p.2))] := by simp [sstep, txs]
      rw [this]
      exact Has.upd
  · simp only [Nat.zero_add, upsP, List.length_map, List.take_length] at hI
    refine rx_holds (by decide +kernel) ?_
    show T.Holds _ (slS n 2 ρ2)
    have hl : (txs (sacc z)).length ≤ 1000 := by rw [List.length_map, sacc_len]; omega
    rw [sl_st2, valB_own hI]
    refine T.bind_holds _ (T.bind_holds _ (T.chk_holds rfl ?_))
    refine T.bind_holds _ (T.chk_holds (b := decide ((0 : Int) ≤ 1) && decide ((txs (sacc z)).length ≤ sizeLine)) (by rw [zz _ (by omega)]; rfl) ?_)
    show T.Holds _ (binP .Add (.list [.str "/"]) (.list ((txs (sacc z)).drop 1)))
    rw [drop_txs]
    have e : ([PV.str ("/" : Str)] ++ txs ((sacc z).drop 1)) = txs (spells z) := by
      rw [show ("/" : Str) = tx [47] by decide +kernel]; rfl
    have hd : ([PV.str ("/" : Str)] ++ txs ((sacc z).drop 1)).length ≤ 1000 := by
      rw [e, List.length_map]
      unfold spells
      have := sacc_len z
      simp only [List.length_cons, List.length_drop]; omega
    refine T.chk_holds (b := decide (([PV.str ("/" : Str)]).length + (txs ((sacc z).drop 1)).length ≤ sizeLine)) (by rw [← List.length_append]; exact zz _ (by omega)) ?_
    rw [e]; exact h
noncomputable def OkT (us ns : List PV) (z : Tree) : Prop := us = upsP z ∧ ns = namesP z ∧ JOk z
open Classical in
noncomputable def joinedS : List PV → T PV
  | [.list us, .list ns] => if ∃ z, OkT us ns z then .any (fun r => ∃ z, OkT us ns z ∧ r = .list (txs (jacc z))) .ret else .fail
  | _ => .fail
open Classical in
noncomputable def spellS : List PV → T PV
  | [.list us, .list ns] => if ∃ z, OkT us ns z then .any (fun r => ∃ z, OkT us ns z ∧ r = .list (txs (spells z))) .ret else .fail
  | _ => .fail
noncomputable def jdRaw (n : Nat) : List PV → T PV := callT ["ups", "names"] (readX (F11 n) (X2 (n + 2) (F11 n)) (Yno (n + 2)) 0 31).1
theorem con_jdRaw (n : Nat) : Con "_law_joined" (n + 4) (jdRaw n) := by
  refine con_readX (k := 11) (n := n + 2) (F := F11 n) (X := X2 (n + 2) (F11 n)) (Y := Yno (n + 2)) (W := 0) (ps := ["ups", "names"]) rfl rfl (by refine ⟨?_, ?_, ?_, ?_, ?_, ?_, ?_, ?_, ?_, ?_⟩ <;> kernel_rfl) (by decide +kernel) (by kernel_rfl) ?_
  intro pm vs h
  obtain ⟨v, u, rfl⟩ := two_of h
  kernel_rfl
noncomputable def slRaw (n : Nat) : List PV → T PV := callT ["ups", "names"] (readX (F0 n) (X2 n (F0 n)) (Yno n) 0 32).1
theorem con_slRaw (n : Nat) : Con "_law_spelled" (n + 2) (slRaw n) := by
  refine con_readX (k := 12) (n := n) (F := F0 n) (X := X2 n (F0 n)) (Y := Yno n) (W := 0) (ps := ["ups", "names"]) rfl rfl (by refine ⟨?_, ?_, ?_, ?_, ?_, ?_, ?_, ?_, ?_, ?_⟩ <;> kernel_rfl) (by decide +kernel) (by kernel_rfl) ?_
  intro pm vs h
  obtain ⟨v, u, rfl⟩ := two_of h
  kernel_rfl
theorem con_joined (n : Nat) : Con "_law_joined" (n + 4) joinedS := by
  refine (con_jdRaw n).as ?_
  intro ds P h
  unfold joinedS at h
  split at h
  · rename_i us ns
    split at h
    · rename_i hh
      obtain ⟨z, hz⟩ := hh
      have hP := h _ ⟨z, hz, rfl⟩
      obtain ⟨rfl, rfl, ok⟩ := hz
      unfold jdRaw
      exact callX_holds rfl (jd_run n ok hP (by kernel_rfl) (by kernel_rfl))
    · exact h.elim
  · exact h.elim
theorem con_spell (n : Nat) : Con "_law_spelled" (n + 2) spellS := by
  refine (con_slRaw n).as ?_
  intro ds P h
  unfold spellS at h
  split at h
  · rename_i us ns
    split at h
    · rename_i hh
      obtain ⟨z, hz⟩ := hh
      have hP := h _ ⟨z, hz, rfl⟩
      obtain ⟨rfl, rfl, ok⟩ := hz
      unfold slRaw
      exact callX_holds rfl (sl_run n ok hP (by kernel_rfl) (by kernel_rfl))
    · exact h.elim
  · exact h.elim
end Mine
namespace Mine
noncomputable def txN (ns : List (List Nat)) : List Nat := ns.flatMap fun m => 47 :: m
noncomputable def pth (ns : List (List Nat)) : List Nat := if ns = [] then [47] else txN ns
noncomputable def NmOk (m : List Nat) : Prop := m ≠ [] ∧ 47 ∉ m ∧ m.length ≤ 10
theorem rfind_tx {a b : List Nat} (hb : 47 ∉ b) : Txt.rfind (tx (a ++ 47 :: b)) slash = (a.length : Nat) := by
  unfold Txt.rfind
  rw [slash_tx]
  have ha : (a ++ 47 :: b)[a.length]? = some 47 := by simp
  rcases StrLaws.last_spec (tx (a ++ 47 :: b)) (tx [47]) with ⟨_, hn⟩ | ⟨i, h0, h1, h2⟩
  · exact absurd (at_one.mpr ha) (hn _)
  · rw [h0]
    have hi := at_one.mp h1
    have : i = a.length := by
      rcases Nat.lt_trichotomy i a.length with q | q | q
      · exact absurd (at_one.mpr ha) (h2 _ q)
      · exact q
      · exfalso
        rw [List.getElem?_append_right (by omega)] at hi
        obtain ⟨k, hk⟩ : ∃ k, i - a.length = k + 1 := ⟨i - a.length - 1, by omega⟩
        rw [hk, List.getElem?_cons_succ] at hi
        exact hb (List.mem_of_getElem? hi)
    rw [this]
theorem head_tx {a b : List Nat} (hb : 47 ∉ b) : dirHead (tx (a ++ 47 :: b)) = tx (a ++ [47]) := by
  unfold dirHead
  rw [rfind_tx hb]
  have := StrLaws.sliceText_to (x := tx (a ++ 47 :: b)) (j := (a.length : Nat) + 1) ⟨by omega, by rw [tx_list]; simp; omega⟩
  refine (show Txt.slice (tx (a ++ 47 :: b)) none (some (((a.length : Nat) : Int) + 1)) = _ from this).trans ?_
  rw [tx_list, List.drop_zero]
  show tx _ = _
  congr 1
  have e : (((a.length : Nat) : Int) + 1 - 0).toNat = a.length + 1 := by omega
  rw [e, show a ++ 47 :: b = (a ++ [47]) ++ b by simp, List.take_append_of_le_length (by simp), List.take_of_length_le (by simp)]
theorem mulOk_slash {k : Nat} (h0 : 0 < k) (h : k ≤ 1000) : mulOkB slash (k : Int) = true := by
  unfold mulOkB
  rw [slash_tx, tx_len]
  have h1 : Builtin.Str.tooLong ([47].length * ((k : Int)).toNat) = false := by
    unfold Builtin.Str.tooLong
    rw [decide_eq_false_iff_not, Int.toNat_natCast]
    have : (1000 : Nat) ≤ sizeLine := by decide
    simp; omega
  have h2 : ¬ (((([47] : List Nat).length : Nat) : Int) > (2 ^ 63 - 1) / (k : Int)) := by
    have : (1 : Int) ≤ (2 ^ 63 - 1) / (k : Int) := (Int.le_ediv_iff_mul_le (by omega)).mpr (by omega)
    intro q
    have h1' : (((([47] : List Nat).length : Nat) : Int)) = 1 := rfl
    rw [h1'] at q
    generalize (2 ^ 63 - 1) / (k : Int) = y at this q
    omega
  rw [h1, decide_eq_false h2, decide_eq_false (show ¬ ((k : Int) < -2 ^ 63) by omega), decide_eq_false (show ¬ ((k : Int) ≥ 2 ^ 63) by omega)]
  simp
theorem mul_slash (k : Nat) : (Txt.mul slash (k : Int)).cps.toList = List.replicate k 47 := by
  have key : ∀ (k : Nat) (acc : Array Nat), ((List.replicate k (#[47] : Array Nat)).foldl (· ++ ·) acc).toList = acc.toList ++ List.replicate k 47 := by
    intro k
    induction k with
    | zero => simp
    | succ k ih => intro acc; rw [List.replicate_succ, List.foldl_cons, ih]; simp [List.replicate_succ]
  unfold Txt.mul
  rw [slash_tx]
  by_cases h1 : (k : Int) < 1
  · have : k = 0 := by omega
    subst this; rfl
  · rw [if_neg h1]
    by_cases h2 : k = 1
    · subst h2; rfl
    · have : (((k : Int) == 1 || (tx [47]).length == 0)) = false := by
        rw [tx_len]
        simp; omega
      rw [this, if_neg (by decide), Int.toNat_natCast]
      exact (key k #[]).trans (by simp)
theorem rstrip_tx {a : List Nat} (h : a.getLast? ≠ some 47) : Txt.rstripChars (tx (a ++ [47])) slash = tx a := by
  have e := stripBy_eq (slash.cps.contains) false true (tx (a ++ [47]))
  refine (show Txt.rstripChars (tx (a ++ [47])) slash = _ from e).trans ?_
  have c1 : ∀ c, slash.cps.contains c = (c == 47) := by
    intro c
    rw [slash_tx]
    rw [Bool.eq_iff_iff]
    simp [tx]
  rw [strSub_mk, tx_list]
  show tx _ = _
  congr 1
  have lo : stripLo (slash.cps.contains) false (tx (a ++ [47])) = 0 := rfl
  rw [lo]
  have hi : stripHi (slash.cps.contains) true (tx (a ++ [47])) 0 = a.length := by
    unfold stripHi
    rw [if_pos rfl, tx_len, tx_list, List.drop_zero, List.reverse_append]
    show (a ++ [47]).length - (List.takeWhile _ (47 :: a.reverse)).length = _
    rw [List.takeWhile_cons, c1 47, if_pos (by decide)]
    have : a.reverse.takeWhile (slash.cps.contains) = [] := by
      cases hr : a.reverse with
      | nil => rfl
      | cons c r =>
        rw [List.takeWhile_cons, c1 c]
        have hl : a.getLast? = some c := by rw [← List.head?_reverse, hr]; rfl
        have : (c == 47) = false := by
          cases q : c == 47 with
          | false => rfl
          | true => have : c = 47 := by simpa using q
                    subst this; exact absurd hl h
        rw [this, if_neg (by decide)]
    rw [this]
    simp
  rw [hi, List.drop_zero, Nat.sub_zero, List.take_left]
theorem txN_last {ns : List (List Nat)} (hn : ns ≠ []) (h : ∀ m ∈ ns, NmOk m) : (txN ns).getLast? ≠ some 47 := by
  rcases List.eq_nil_or_concat ns with rfl | ⟨r, m, rfl⟩
  · exact absurd rfl hn
  · have hm := h m (by simp)
    have e : txN (r.concat m) = txN r ++ [47] ++ m := by simp [txN]
    rw [e]
    intro q
    rcases List.eq_nil_or_concat m with rfl | ⟨r', c, rfl⟩
    · exact hm.1 rfl
    · rw [List.concat_eq_append, ← List.append_assoc, List.getLast?_concat] at q
      cases q
      exact hm.2.1 (by simp)
theorem txN_concat (r : List (List Nat)) (m : List Nat) : txN (r ++ [m]) = txN r ++ 47 :: m := by simp [txN]
theorem dir_pth {r : List (List Nat)} {m : List Nat} (h : ∀ m' ∈ r ++ [m], NmOk m') (hl : (txN (r ++ [m])).length ≤ 900) {P : PV → Prop} (hp : P (.str (tx (pth r)))) : (dirS [.str (tx (pth (r ++ [m])))]).Holds P := by
  have z : ∀ k, k ≤ 1000 → decide (k ≤ sizeLine) = true := fun k hk => decide_eq_true (Nat.le_trans hk (by decide))
  have hm := h m (by simp)
  have e : pth (r ++ [m]) = txN r ++ 47 :: m := by
    unfold pth
    rw [if_neg (by simp), txN_concat]
  rw [txN_concat, List.length_append, List.length_cons] at hl
  rw [e]
  have hz1 : (tx (txN r ++ 47 :: m)).length ≤ 1000 := by rw [tx_len]; simp; omega
  unfold dirS
  refine T.chk_holds (z _ hz1) (T.chk_holds (z _ hz1) ?_)
  rw [head_tx hm.2.1]
  have hz2 : (tx (txN r ++ [47])).length ≤ 1000 := by rw [tx_len]; simp; omega
  have hk : ((tx (txN r ++ [47])).length != 0) = true := by rw [tx_len]; simp
  refine T.chk_holds (z _ hz2) ?_
  show T.Holds P (.ite ((tx (txN r ++ [47])).length != 0) _ _)
  rw [hk]
  refine ite_yes (T.chk_holds (z _ hz2) (T.chk_holds ?_ ?_))
  · exact mulOk_slash (by rw [tx_len]; simp) hz2
  · rw [mul_slash, tx_list, tx_len]
    by_cases hr : r = []
    · subst hr
      have : (!(txN [] ++ [47] == List.replicate (txN [] ++ [47]).length 47)) = false := by decide
      rw [this]
      exact hp
    · have hne : (!(txN r ++ [47] == List.replicate (txN r ++ [47]).length 47)) = true := by
        have hlast := txN_last hr (fun m hm => h m (List.mem_append_left _ hm))
        rw [Bool.not_eq_true', beq_eq_false_iff_ne]
        intro q
        have hne : txN r ≠ [] := by
          cases r with
          | nil => exact absurd rfl hr
          | cons a r => simp [txN]
        obtain ⟨c, hc⟩ : ∃ c, (txN r).getLast? = some c := by
          cases hg : (txN r).getLast? with
          | none => exact absurd (List.getLast?_eq_none_iff.mp hg) hne
          | some c => exact ⟨c, rfl⟩
        have hmem : c ∈ txN r ++ [47] := List.mem_append_left _ (List.mem_of_getLast? hc)
        rw [q] at hmem
        have := List.eq_of_mem_replicate hmem
        rw [this] at hc
        exact hlast hc
      rw [hne]
      refine ite_yes (T.chk_holds (z _ (by rw [← tx_len]; exact hz2)) ?_)
      have hlast := txN_last hr (fun m hm => h m (List.mem_append_left _ hm))
      rw [rstrip_tx hlast]
      have : pth r = txN r := by unfold pth; rw [if_neg hr]
      rw [this] at hp
      exact hp
end Mine
namespace Mine
noncomputable abbrev wyS (n j : Nat) : Rho → T (Rho × Fl) := rsX (F2 n) (X2 (n + 2) (F2 n)) (Yno (n + 2)) 7 35 j
noncomputable def wyB (n : Nat) : Rho → T (Rho × Fl) := (rdS (rdX (F2 n) (X2 (n + 2) (F2 n)) (Yno (n + 2)) 7 19 (scAt 35)) (forBody (bodyAt 35)[1]?)).1
noncomputable def lastT : Rho → T PV := subT (vB "way") fun _ => intE (-1)
theorem wy_st0 (n : Nat) (ρ : Rho) : wyS n 0 ρ = ((valE ρ "path").bind fun d => (.ret [d] : T (List PV))).bind fun ds => .chk (decide (ds.length ≤ sizeLine)) (.ret (setE ρ "way" (.own ds), .next)) := by kernel_rfl
theorem wy_st1 (n : Nat) (ρ : Rho) : wyS n 1 ρ = whileT (cmT .NotEq lastT fun _ => strE "/") (wyB n) 7 ρ := by kernel_rfl
theorem wy_b (n : Nat) : wyB n = seqT (appT "way" fun ρ => ((lastT ρ).bind fun d => (.ret [d] : T (List PV))).bind dirS) stop := by kernel_rfl
theorem wy_st2 (n : Nat) (ρ : Rho) : wyS n 2 ρ = (valE (frz ρ "way") "way").bind fun d => .ret (frz ρ "way", .ret d) := by kernel_rfl
noncomputable def wayUp (ns : List (List Nat)) (i : Nat) : List (List Nat) := (List.range (i + 1)).map fun k => pth (ns.take (ns.length - k))
noncomputable def wayOf (ns : List (List Nat)) : List (List Nat) := wayUp ns ns.length
noncomputable def WayOk (ns : List (List Nat)) : Prop := ns.length ≤ 6 ∧ ∀ m ∈ ns, NmOk m
theorem wayUp_succ (ns : List (List Nat)) (i : Nat) : wayUp ns (i + 1) = wayUp ns i ++ [pth (ns.take (ns.length - (i + 1)))] := by
  unfold wayUp
  rw [List.range_succ, List.map_append]; rfl
theorem wayUp_last (ns : List (List Nat)) (i : Nat) : (wayUp ns i)[i]? = some (pth (ns.take (ns.length - i))) := by
  unfold wayUp
  rw [List.getElem?_map, List.getElem?_range (by omega)]; rfl
theorem txN_len {ns : List (List Nat)} (h : ∀ m ∈ ns, NmOk m) : (txN ns).length ≤ 11 * ns.length := by
  induction ns with
  | nil => simp [txN]
  | cons m ns ih =>
    have := ih fun m hm => h m (.tail _ hm)
    have h1 := (h m (.head _)).2.2
    show ((47 :: m) ++ txN ns).length ≤ _
    rw [List.length_append, List.length_cons, List.length_cons]
    omega
theorem last_holds {ρ : Rho} {l : List (List Nat)} {q : List Nat} (h : Has ρ "way" (.own (txs l))) (hl : l.length ≤ 1000) {i : Nat} (hi : l.length = i + 1) (hq : l[i]? = some q) {P : PV → Prop} (hp : P (.str (tx q))) : (lastT ρ).Holds P := by
  refine sub_holds (x := .list (txs l)) (k := .int (-1)) (d := .str (tx q)) (fun P h' => by show (valB ρ "way").Holds P; rw [valB_own h]; exact h') (fun P (h' : P (PV.int (-1))) => (show T.Holds P (intE (-1)) from h')) (fun P h' => ?_) hp
  show T.Holds P (.chk (decide ((txs l).length ≤ sizeLine)) (T.ite (decide ((0 : Int) ≤ -1)) _ (.chk (decide (-((txs l).length : Int) ≤ -1)) (T.ofOpt (txs l)[((-1 : Int) + (txs l).length).toNat]?))))
  have hn : (txs l).length = i + 1 := by rw [List.length_map]; exact hi
  refine T.chk_holds (decide_eq_true (Nat.le_trans (show (txs l).length ≤ 1000 by omega) (by decide))) ?_
  show T.Holds P (T.chk _ _)
  refine T.chk_holds (decide_eq_true (by omega)) ?_
  rw [hn, show ((-1 : Int) + ((i + 1 : Nat) : Int)).toNat = i by omega, List.getElem?_map, hq]
  exact h'
theorem pth_slash {ns : List (List Nat)} (h : ∀ m ∈ ns, NmOk m) : (!((tx (pth ns)).cps.toList == (("/" : Str)).cps.toList)) = decide (ns ≠ []) := by
  rw [tx_list, show (("/" : Str)).cps.toList = [47] by decide +kernel]
  cases ns with
  | nil => decide
  | cons m ns =>
    have hm := h m (.head _)
    have : pth (m :: ns) = 47 :: (m ++ txN ns) := by unfold pth; rw [if_neg (by simp)]; simp [txN]
    rw [this]
    have hne : m ++ txN ns ≠ [] := by
      intro e
      exact hm.1 (List.append_eq_nil_iff.mp e).1
    simp only [ne_eq, reduceCtorEq, not_false_eq_true, decide_true, Bool.not_eq_true', beq_eq_false_iff_ne, List.cons.injEq, true_and]
    exact hne
theorem wy_loop (n : Nat) {ns : List (List Nat)} (ok : WayOk ns) {Q : Rho × Fl → Prop} : ∀ (m f i : Nat) (ρ : Rho), i + m = ns.length → m + 1 ≤ f → Has ρ "way" (.own (txs (wayUp ns i))) → (∀ ρ', Has ρ' "way" (.own (txs (wayOf ns))) → Q (ρ', .next)) →
    (whileT (cmT .NotEq lastT fun _ => strE "/") (wyB n) f ρ).Holds Q
  | m, 0, i, ρ, hm, hf, J, h => by omega
  | m, f + 1, i, ρ, hm, hf, J, h => by
    have h6 := ok.1
    have hlen : (wayUp ns i).length = i + 1 := by simp [wayUp]
    have hsub : ∀ m' ∈ ns.take (ns.length - i), NmOk m' := fun m' hm' => ok.2 m' (List.mem_of_mem_take hm')
    have test : ∀ P : Bool → Prop, P (decide (ns.take (ns.length - i) ≠ [])) → (cmT .NotEq lastT (fun _ => strE "/") ρ).Holds P := fun P hP =>
      cm_holds (x := .str (tx (pth (ns.take (ns.length - i))))) (y := .str ("/" : Str)) (fun P h' => last_holds J (by omega) hlen (wayUp_last ns i) h') (fun P (h' : P (PV.str ("/" : Str))) => (show T.Holds P (strE "/") from h')) (fun P h' => by
        show P (.bool (!((tx (pth (ns.take (ns.length - i)))).cps.toList == (("/" : Str)).cps.toList)))
        rw [pth_slash hsub]; exact h') hP
    cases m with
    | zero =>
      have hi : i = ns.length := by omega
      subst hi
      refine while_stop (fun P hP => test P (by rw [decide_eq_false (by simp)]; exact hP)) (h ρ J)
    | succ m =>
      have hne : ns.take (ns.length - i) ≠ [] := by
        intro e
        have := congrArg List.length e
        rw [List.length_take] at this
        simp at this
        omega
      refine while_step (fun P hP => test P (by rw [decide_eq_true hne]; exact hP)) ?_
      obtain ⟨c, hc⟩ : ∃ c, ns[ns.length - (i + 1)]? = some c := ⟨_, List.getElem?_eq_getElem (by omega)⟩
      have hstep : ns.take (ns.length - i) = ns.take (ns.length - (i + 1)) ++ [c] := by
        rw [show ns.length - i = ns.length - (i + 1) + 1 by omega]; exact take_step hc
      have hb : ∀ {Q' : Rho × Fl → Prop}, Q' (updE ρ "way" (.own (txs (wayUp ns i) ++ [.str (tx (pth (ns.take (ns.length - (i + 1)))))])), .next) → (wyB n ρ).Holds Q' := by
        intro Q' hq
        rw [wy_b]
        refine seq_intro (app_holds (d := .str (tx (pth (ns.take (ns.length - (i + 1)))))) J (by rw [List.length_map]; omega) (fun P hP => ?_) hq)
        refine T.bind_holds _ (T.bind_holds _ (last_holds J (by omega) hlen (wayUp_last ns i) ?_))
        rw [hstep]
        have hsub' : ∀ m' ∈ ns.take (ns.length - (i + 1)) ++ [c], NmOk m' := by rw [← hstep]; exact hsub
        refine dir_pth hsub' ?_ hP
        have := txN_len hsub'
        have : (ns.take (ns.length - (i + 1)) ++ [c]).length ≤ 6 := by rw [← hstep]; exact Nat.le_trans (List.length_take_le' _ _) h6
        omega
      refine hb ?_
      · refine wy_loop n ok m f (i + 1) _ (by omega) (by omega) ?_ h
        rw [wayUp_succ]
        have : txs (wayUp ns i ++ [pth (ns.take (ns.length - (i + 1)))]) = txs (wayUp ns i) ++ [.str (tx (pth (ns.take (ns.length - (i + 1)))))] := by simp [txs]
        rw [this]
        exact Has.upd
open Classical in
noncomputable def waysS : List PV → T PV
  | [.str x] => if ∃ ns, x = tx (pth ns) ∧ WayOk ns then .any (fun r => ∃ ns, x = tx (pth ns) ∧ WayOk ns ∧ r = .list (txs (wayOf ns))) .ret else .fail
  | _ => .fail
noncomputable def wyRaw (n : Nat) : List PV → T PV := callT ["path"] (readX (F2 n) (X2 (n + 2) (F2 n)) (Yno (n + 2)) 7 35).1
theorem con_wyRaw (n : Nat) : Con "_law_way" (n + 4) (wyRaw n) := by
  refine con_readX (k := 15) (n := n + 2) (F := F2 n) (X := X2 (n + 2) (F2 n)) (Y := Yno (n + 2)) (W := 7) (ps := ["path"]) rfl rfl (by refine ⟨?_, ?_, ?_, ?_, ?_, ?_, ?_, ?_, ?_, ?_⟩ <;> kernel_rfl) (by decide +kernel) (by kernel_rfl) ?_
  intro pm vs h
  obtain ⟨v, rfl⟩ := one_of h
  kernel_rfl
theorem con_ways (n : Nat) : Con "_law_way" (n + 4) waysS := by
  refine (con_wyRaw n).as ?_
  intro ds P h
  unfold waysS at h
  split at h
  · rename_i x
    split at h
    · rename_i hh
      obtain ⟨ns, hx, ok⟩ := hh
      have hP := h _ ⟨ns, hx, ok, rfl⟩
      subst hx
      unfold wyRaw
      refine callX_holds rfl (rx_holds (by decide +kernel) ?_)
      show T.Holds _ (wyS n 0 _)
      have p0 : Has (rho0 ["path"] [.str (tx (pth ns))]) "path" (.val (.str (tx (pth ns)))) := by kernel_rfl
      generalize rho0 ["path"] [.str (tx (pth ns))] = ρ at p0
      rw [wy_st0, valE_of p0]
      refine T.bind_holds _ (T.chk_holds (show decide (1 ≤ sizeLine) = true by decide +kernel) ?_)
      show After _ P (setE ρ "way" (.own [.str (tx (pth ns))]), .next)
      refine rx_holds (by decide +kernel) ?_
      show T.Holds _ (wyS n 1 _)
      rw [wy_st1]
      refine wy_loop n ok ns.length 7 0 _ (by omega) (by have := ok.1; omega) ?_ fun ρ' J => ?_
      · have : txs (wayUp ns 0) = [.str (tx (pth ns))] := by simp [wayUp, txs]
        rw [this]; exact Has.set
      · refine rx_holds (by decide +kernel) ?_
        show T.Holds _ (wyS n 2 _)
        rw [wy_st2, valE_of J.frz]
        exact hP
    · exact h.elim
  · exact h.elim
end Mine
namespace Mine
noncomputable def F12 (n : Nat) : FS (n + 2) := ⟨[("_compare_args_orderless", cmpS)], fun p hp => by
  simp only [List.mem_cons, List.mem_nil_iff, or_false] at hp
  rcases hp with rfl
  exact con_cmp n⟩
noncomputable abbrev tdS (n j : Nat) : Rho → T (Rho × Fl) := rsX (F12 n) (X2 (n + 2) (F12 n)) (Yno (n + 2)) 0 38 j
noncomputable def tailT (ρ : Rho) : T PV := (valB ρ "way").bind fun d => slcP d (some 1) none
noncomputable def call2 (s : List PV → T PV) (a b : Rho → T PV) (ρ : Rho) : T PV := ((a ρ).bind fun d => ((b ρ).bind fun e => (.ret [] : T (List PV)).bind fun ds => .ret (e :: ds)).bind fun ds => (.ret (d :: ds) : T (List PV))).bind s
noncomputable def srtT (ρ : Rho) : T PV := ((valE ρ "way").bind fun d => (.ret [] : T (List PV)).bind fun ds => .ret (d :: ds)).bind srtP
theorem td_st0 (n : Nat) (ρ : Rho) : tdS n 0 ρ = ifX (orT (trT (call2 cmpS (vE "way") tailT)) (trT (call2 cmpS (vE "way") (binT .Add tailT fun _ => .chk true (.ret (.list [.str ""])))))) (seqT (fun ρ => (.ret (.bool false) : T PV).bind fun d => .ret (ρ, .ret d)) stop) stop ρ := by kernel_rfl
theorem td_st1 (n : Nat) (ρ : Rho) : tdS n 1 ρ = (call2 cmpS (binT .Add (vB "way") (vB "way")) srtT ρ).bind fun d => .ret (ρ, .ret d) := by kernel_rfl
end Mine
namespace Mine
structure ToldOk (w : List Str) : Prop where
  ne : w ≠ []
  nd : w.Nodup
  emp : ("" : Str) ∉ w
  len : w.length ≤ 50
  ok : ∀ x ∈ w, PyData.strOk x = true
open Classical in
theorem cmpS_holds {a b : List PV} (ha : ∀ d ∈ a, Fine d) (hb : ∀ d ∈ b, Fine d) (la : a.length ≤ 1000) (lb : b.length ≤ 1000) {v : Bool} (hv : v = true ↔ ∀ d, d ∈ a ↔ d ∈ b) {P : PV → Prop} (h : P (.bool v)) : (cmpS [.list a, .list b]).Holds P := by
  have z : ∀ k, k ≤ 1000 → k ≤ sizeLine := fun k hk => Nat.le_trans hk (by decide)
  have e : cmpS [.list a, .list b] = .ret (.bool (decide (∀ d, d ∈ a ↔ d ∈ b))) := by
    unfold cmpS
    exact if_pos ⟨⟨ha, z _ la⟩, hb, z _ lb⟩
  rw [e]
  have : decide (∀ d, d ∈ a ↔ d ∈ b) = v := by rw [Bool.eq_iff_iff, decide_eq_true_iff, hv]
  rw [this]
  exact h
theorem call2_holds {s : List PV → T PV} {a b : Rho → T PV} {ρ : Rho} {x y : PV} (ha : ∀ P : PV → Prop, P x → (a ρ).Holds P) (hb : ∀ P : PV → Prop, P y → (b ρ).Holds P) {P : PV → Prop} (h : (s [x, y]).Holds P) : (call2 s a b ρ).Holds P :=
  T.bind_holds _ (T.bind_holds _ (ha _ (T.bind_holds _ (T.bind_holds _ (hb _ h)))))
noncomputable def toldRaw (n : Nat) : List PV → T PV := callT ["way"] (readX (F12 n) (X2 (n + 2) (F12 n)) (Yno (n + 2)) 0 38).1
theorem con_toldRaw (n : Nat) : Con "_law_told" (n + 4) (toldRaw n) := by
  refine con_readX (k := 18) (n := n + 2) (F := F12 n) (X := X2 (n + 2) (F12 n)) (Y := Yno (n + 2)) (W := 0) (ps := ["way"]) rfl rfl (by refine ⟨?_, ?_, ?_, ?_, ?_, ?_, ?_, ?_, ?_, ?_⟩ <;> kernel_rfl) (by decide +kernel) (by kernel_rfl) ?_
  intro pm vs h
  obtain ⟨v, rfl⟩ := one_of h
  kernel_rfl
open Classical in
noncomputable def toldS : List PV → T PV
  | [.list l] => if ∃ w : List Str, l = w.map .str ∧ ToldOk w then .ret (.bool true) else .fail
  | _ => .fail
theorem mem_strs {x : Str} {w : List Str} : PV.str x ∈ w.map PV.str ↔ x ∈ w := by
  simp only [List.mem_map, PV.str.injEq, exists_eq_right]
theorem told_run (n : Nat) {w : List Str} (ok : ToldOk w) {P : PV → Prop} (h : P (.bool true)) {ρ : Rho} (hw : Has ρ "way" (.val (.list (w.map .str)))) : ((rrX (F12 n) (X2 (n + 2) (F12 n)) (Yno (n + 2)) 0 38 0 ρ).bind retT).Holds P := by
  obtain ⟨x, w, rfl⟩ : ∃ x r, w = x :: r := by
    cases w with
    | nil => exact absurd rfl ok.ne
    | cons x r => exact ⟨x, r, rfl⟩
  have h50 := ok.len
  simp only [List.length_cons] at h50
  have hx : x ∉ w := (List.nodup_cons.mp ok.nd).1
  have he : x ≠ "" := fun q => ok.emp (by rw [q]; exact .head _)
  have okw : ∀ y ∈ w, PyData.strOk y = true := fun y hy => ok.ok y (.tail _ hy)
  have fw : ∀ d ∈ w.map PV.str, Fine d := fine_strs okw
  have fx : ∀ d ∈ (x :: w).map PV.str, Fine d := fine_strs ok.ok
  have z : ∀ k, k ≤ 1000 → decide (k ≤ sizeLine) = true := fun k hk => decide_eq_true (Nat.le_trans hk (by decide))
  have tl : ∀ P : PV → Prop, P (.list (w.map .str)) → (tailT ρ).Holds P := fun P hP => by
    unfold tailT
    rw [valB_of hw]
    refine T.chk_holds (b := decide ((0 : Int) ≤ 1) && decide (((x :: w).map PV.str).length ≤ sizeLine)) ?_ hP
    rw [z _ (by simp; omega)]; rfl
  have fe : ∀ d ∈ w.map PV.str ++ [.str ""], Fine d := fun d hd => by
    rcases List.mem_append.mp hd with hd | hd
    · exact fw d hd
    · rw [List.mem_singleton.mp hd]; exact .str (by decide +kernel)
  have hadd1 : ∀ P : PV → Prop, P (.list (w.map .str ++ [.str ""])) → (binP .Add (.list (w.map .str)) (.list [.str ""])).Holds P := fun P h => by
    refine T.chk_holds (b := decide ((w.map PV.str).length + [PV.str ""].length ≤ sizeLine)) (z _ (by simp; omega)) ?_
    exact h
  refine rx_holds (by decide +kernel) ?_
  show T.Holds _ (tdS n 0 ρ)
  rw [td_st0]
  refine ifX_holds (v := false) (fun P hP => ?_) ?_
  · refine T.bind_holds _ (T.bind_holds _ (call2_holds (fun P h => vE_holds hw h) tl (cmpS_holds (v := false) fx fw (by simp; omega) (by simp; omega) ⟨fun q => (nomatch q), fun q => absurd (mem_strs.mp ((q (.str x)).mp (.head _))) hx⟩ ?_)))
    show T.Holds P (trT (call2 cmpS (vE "way") (binT .Add tailT fun _ => .chk true (.ret (.list [.str ""])))) ρ)
    refine T.bind_holds _ (call2_holds (y := .list (w.map PV.str ++ [.str ""])) (fun P h => vE_holds hw h) (fun P h => bin_holds (y := .list [.str ""]) tl (fun P h => T.chk_holds (t := T.ret (PV.list [.str ""])) rfl h) hadd1 h) (cmpS_holds (v := false) fx fe (by simp; omega) (by simp; omega) ⟨fun q => (nomatch q), fun q => ?_⟩ hP))
    rcases List.mem_append.mp ((q (.str x)).mp (.head _)) with m | m
    · exact absurd (mem_strs.mp m) hx
    · exact absurd (PV.str.inj (List.mem_singleton.mp m)) he
  rw [if_neg (by decide)]
  show After _ P (ρ, .next)
  refine rx_holds (by decide +kernel) ?_
  show T.Holds _ (tdS n 1 ρ)
  rw [td_st1]
  have hadd : ∀ P : PV → Prop, P (.list ((x :: w).map .str ++ (x :: w).map .str)) → (binP .Add (.list ((x :: w).map .str)) (.list ((x :: w).map .str))).Holds P := fun P h => by
    refine T.chk_holds (b := decide (((x :: w).map PV.str).length + ((x :: w).map PV.str).length ≤ sizeLine)) (z _ (by simp; omega)) ?_
    exact h
  refine T.bind_holds _ (T.bind_holds _ (T.bind_holds _ (bin_holds (x := .list ((x :: w).map .str)) (y := .list ((x :: w).map .str)) (d := .list ((x :: w).map .str ++ (x :: w).map .str)) (fun P h => vB_holds hw h) (fun P h => vB_holds hw h) hadd (T.bind_holds _ (T.bind_holds _ ?_)))))
  unfold srtT
  rw [valE_of hw]
  show T.Holds _ ((T.ofOpt (strsOf ((x :: w).map .str))).bind fun ss => T.chk (decide (ss.length < 64)) (.any (fun d => ∃ ss' : List Str, d = .list (ss'.map .str) ∧ ss'.Perm ss ∧ sortedS ss' = true) T.ret))
  rw [strsOf_map]
  refine T.chk_holds (decide_eq_true (by simp; omega)) ?_
  rintro d ⟨ss, rfl, hperm, _⟩
  have okss : ∀ y ∈ ss, PyData.strOk y = true := fun y hy => ok.ok y (hperm.mem_iff.mp hy)
  show T.Holds _ (cmpS [.list ((x :: w).map .str ++ (x :: w).map .str), .list (ss.map .str)])
  refine cmpS_holds (v := true) (fun d hd => (List.mem_append.mp hd).elim (fx d) (fx d)) (fine_strs okss) (by simp; omega) (by rw [List.length_map, hperm.length_eq]; simp; omega) ⟨fun _ d => ?_, fun _ => rfl⟩ h
  rw [List.mem_append, or_self, List.mem_map, List.mem_map]
  constructor
  · rintro ⟨y, hy, rfl⟩; exact ⟨y, hperm.mem_iff.mpr hy, rfl⟩
  · rintro ⟨y, hy, rfl⟩; exact ⟨y, hperm.mem_iff.mp hy, rfl⟩
theorem con_told (n : Nat) : Con "_law_told" (n + 4) toldS := by
  refine (con_toldRaw n).as ?_
  intro ds P h
  unfold toldS at h
  split at h
  · rename_i l
    split at h
    · rename_i hh
      obtain ⟨w, rfl, ok⟩ := hh
      unfold toldRaw
      exact callX_holds rfl (told_run n ok h (by kernel_rfl))
    · exact h.elim
  · exact h.elim
end Mine
namespace Mine
noncomputable def Fc (k : Nat) (s : { s : List PV → T PV // Con "_law_count" (k + 1) s }) : FS k := ⟨[("_law_count", s.1)], fun p hp => by
  simp only [List.mem_cons, List.mem_nil_iff, or_false] at hp
  rcases hp with rfl
  exact s.2⟩
theorem con_ctRaw (k : Nat) (s : { s : List PV → T PV // Con "_law_count" (k + 1) s }) : Con "_law_count" (k + 2) (callT ["node", "ups"] (readX (Fc k s) (X2 k (Fc k s)) (Yno k) 0 40).1) := by
  refine con_readX (k := 20) (n := k) (F := Fc k s) (X := X2 k (Fc k s)) (Y := Yno k) (W := 0) (ps := ["node", "ups"]) rfl rfl (by refine ⟨?_, ?_, ?_, ?_, ?_, ?_, ?_, ?_, ?_, ?_⟩ <;> kernel_rfl) (by decide +kernel) (by kernel_rfl) ?_
  intro pm vs h
  obtain ⟨v, u, rfl⟩ := two_of h
  kernel_rfl
noncomputable def cntS : (k : Nat) → { s : List PV → T PV // Con "_law_count" (k + 1) s }
  | 0 => ⟨fun _ => .fail, fun w H mg mb th x hx hn A frs s X vs ds Q E W R hF hX hr h => h.elim⟩
  | k + 1 => ⟨callT ["node", "ups"] (readX (Fc k (cntS k)) (X2 k (Fc k (cntS k))) (Yno k) 0 40).1, con_ctRaw k (cntS k)⟩
section
variable (k : Nat) (s : { s : List PV → T PV // Con "_law_count" (k + 1) s })
noncomputable abbrev ctS (j : Nat) : Rho → T (Rho × Fl) := rsX (Fc k s) (X2 k (Fc k s)) (Yno k) 0 40 j
noncomputable def ctB : Rho → T (Rho × Fl) := (rdS (rdX (Fc k s) (X2 k (Fc k s)) (Yno k) 0 19 (scAt 40)) (forBody (bodyAt 40)[2]?)).1
noncomputable def ctSc : Scope := match stAt 40 0 with
  | .Assign _ (.ListComp _ _ s _) _ => s
  | _ => scAt 40
noncomputable def ctIt (ρ : Rho) : T (List PV) := ((valB ρ "ups").bind lenP).bind fun d => match d with | .int k => .chk (decide (0 ≤ k) && decide (k ≤ 1000)) (.ret (intsTo k.toNat)) | _ => .fail
theorem ct_st0 (ρ : Rho) : ctS k s 0 ρ = (compTs ctIt (cmT .Eq (subT (vB "ups") (vB "heir")) (vB "node")) (binT .Add (vB "heir") fun _ => intE 1) ctSc (scAt 40) "heir" ρ).bind fun rs => .ret (setE ρ "heirs" (.val (.list rs)), .next) := by kernel_rfl
theorem ct_st1 (ρ : Rho) : ctS k s 1 ρ = .ret (setE ρ "product" (.val (.int 1)), .next) := by kernel_rfl
theorem ct_st2 (ρ : Rho) : ctS k s 2 ρ = ((valE (frz ρ "heirs") "heirs").bind itemsP).bind fun ds => forT (ctB k s) "heir" ds (frz ρ "heirs") := by kernel_rfl
theorem ct_b : ctB k s = seqT (augT "product" .Mult (call2 s.1 (vE "heir") (vE "ups"))) stop := by kernel_rfl
theorem ct_st3 (ρ : Rho) : ctS k s 3 ρ = (ieT (trT (vB "heirs")) (binT .Add (vB "product") fun _ => intE 1) (fun _ => intE 1) ρ).bind fun d => .ret (ρ, .ret d) := by kernel_rfl
end
end Mine
namespace Mine
noncomputable abbrev nats (l : List Nat) : List PV := l.map fun i => .int (i : Nat)
noncomputable def heirs (node : Nat) (ups : List Nat) : List Nat := ((List.range ups.length).filter fun i => ups[i]? == some node).map (· + 1)
noncomputable def cntO : Nat → Nat → List Nat → Option Nat
  | 0, _, _ => none
  | k + 1, node, ups => ((heirs node ups).foldlM (fun (p h : Nat) => (cntO k h ups).bind fun v => if intMulOk p v then some (p * v) else none) 1).map fun p => if heirs node ups = [] then 1 else p + 1
structure CtI (ups hs : List Nat) (p : Nat) (ρ : Rho) : Prop where
  ups : Has ρ "ups" (.val (.list (nats ups)))
  heirs : Has ρ "heirs" (.val (.list (nats hs)))
  prod : Has ρ "product" (.val (.int (p : Nat)))
theorem itm_nats {l : List Nat} {i : Nat} {v : Nat} (hi : l[i]? = some v) (hl : l.length ≤ 1000) {P : PV → Prop} (h : P (.int (v : Nat))) : (itmP (.list (nats l)) (.int (i : Nat))).Holds P :=
  itm_list (d := .int (v : Nat)) (by simp [nats, hi]) (by simpa using hl) h
theorem ct_loop {k : Nat} {ups hs0 : List Nat} (ih : ∀ node v, cntO k node ups = some v → ∀ P : PV → Prop, P (.int (v : Nat)) → ((cntS k).1 [.int (node : Nat), .list (nats ups)]).Holds P) {Q : Rho × Fl → Prop} : ∀ (hs : List Nat) (p q : Nat) (ρ : Rho), hs.foldlM (fun (p h : Nat) => (cntO k h ups).bind fun v => if intMulOk p v then some (p * v) else none) p = some q →
    CtI ups hs0 p ρ → (∀ ρ', CtI ups hs0 q ρ' → Q (ρ', .next)) → (forT (ctB k (cntS k)) "heir" (nats hs) ρ).Holds Q
  | [], p, q, ρ, e, J, h => by
    cases e; exact h ρ J
  | a :: hs, p, q, ρ, e, J, h => by
    rw [List.foldlM_cons] at e
    obtain ⟨p', e1, e2⟩ := Option.bind_eq_some_iff.mp e
    obtain ⟨v, e3, e4⟩ := Option.bind_eq_some_iff.mp e1
    have hm : intMulOk p v = true := by
      cases hq : intMulOk p v with
      | true => rfl
      | false => rw [hq] at e4; cases e4
    rw [hm, if_pos rfl] at e4
    cases e4
    show T.Holds Q ((ctB k (cntS k) (setE ρ "heir" (.val (.int (a : Nat))))).bind _)
    have J1 : CtI ups hs0 p (setE ρ "heir" (.val (.int (a : Nat)))) := ⟨J.ups.set_ne (by decide +kernel) rfl, J.heirs.set_ne (by decide +kernel) rfl, J.prod.set_ne (by decide +kernel) rfl⟩
    have hh : Has (setE ρ "heir" (.val (.int (a : Nat)))) "heir" (.val (.int (a : Nat))) := Has.set
    generalize setE ρ "heir" (.val (.int (a : Nat))) = ρ1 at J1 hh
    have hb : ∀ {Q' : Rho × Fl → Prop}, Q' (setE ρ1 "product" (.val (.int ((p : Int) * (v : Int)))), .next) → (ctB k (cntS k) ρ1).Holds Q' := by
      intro Q' hq
      rw [ct_b]
      refine seq_intro ?_
      unfold augT
      rw [show findE ρ1 "product" = some (.val (.int (p : Nat))) from J1.prod]
      refine T.bind_holds _ (call2_holds (fun P h => vE_holds hh h) (fun P h => vE_holds J1.ups h) (ih a v e3 _ ?_))
      exact T.bind_holds _ (T.chk_holds hm hq)
    refine T.bind_holds _ (hb ?_)
    have J2 : CtI ups hs0 (p * v) (setE ρ1 "product" (.val (.int ((p : Int) * (v : Int))))) := ⟨J1.ups.set_ne (by decide +kernel) rfl, J1.heirs.set_ne (by decide +kernel) rfl, by
      rw [show ((p : Int) * (v : Int)) = ((p * v : Nat) : Int) by simp]
      exact Has.set⟩
    exact ct_loop ih hs (p * v) q _ e2 J2 h
theorem cntS_succ (k : Nat) : (cntS (k + 1)).1 = callT ["node", "ups"] (readX (Fc k (cntS k)) (X2 k (Fc k (cntS k))) (Yno k) 0 40).1 := rfl
theorem cnt_holds : ∀ (k : Nat) {ups : List Nat}, ups.length ≤ 10 → ∀ (node v : Nat), cntO k node ups = some v → ∀ P : PV → Prop, P (.int (v : Nat)) → ((cntS k).1 [.int (node : Nat), .list (nats ups)]).Holds P
  | 0, ups, hl, node, v, e, P, h => by cases e
  | k + 1, ups, hl, node, v, e, P, h => by
    have z : ∀ k, k ≤ 1000 → decide (k ≤ sizeLine) = true := fun k hk => decide_eq_true (Nat.le_trans hk (by decide))
    obtain ⟨q, e1, e2⟩ := Option.map_eq_some_iff.mp e
    rw [cntS_succ]
    refine callX_holds rfl (rx_holds (by decide +kernel) ?_)
    show T.Holds _ (ctS k (cntS k) 0 _)
    have n0 : Has (rho0 ["node", "ups"] [.int (node : Nat), .list (nats ups)]) "node" (.val (.int (node : Nat))) := by kernel_rfl
    have u0 : Has (rho0 ["node", "ups"] [.int (node : Nat), .list (nats ups)]) "ups" (.val (.list (nats ups))) := by kernel_rfl
    generalize rho0 ["node", "ups"] [.int (node : Nat), .list (nats ups)] = ρ at n0 u0
    rw [ct_st0]
    refine T.bind_holds _ ?_
    unfold compTs ctIt
    rw [valB_of u0]
    refine T.bind_holds _ (T.bind_holds _ (T.chk_holds (b := decide ((nats ups).length ≤ sizeLine)) (z _ (by simp; omega)) ?_))
    show T.Holds _ (T.chk (decide ((0 : Int) ≤ ((nats ups).length : Nat)) && decide ((((nats ups).length : Nat) : Int) ≤ 1000)) (.ret (intsTo ((((nats ups).length : Nat) : Int)).toNat)))
    refine T.chk_holds (by simp; omega) ?_
    show T.Holds _ (T.chk _ _)
    have hlen : ((((nats ups).length : Nat) : Int)).toNat = ups.length := by simp
    rw [hlen]
    refine T.chk_holds (z _ (by simp [intsTo]; omega)) ?_
    refine compT_holds (t := fun d => match d with | .int i => ups[i.toNat]? == some node | _ => false) (g := fun d => match d with | .int i => .int (i + 1) | _ => .none) _ [] (fun d hd P hP => ?_) (fun d hd _ P hP => ?_) ?_
    · obtain ⟨i, hi, rfl⟩ := List.mem_map.mp hd
      have hi := List.mem_range.mp hi
      have hg : ups[i]? = some ups[i] := List.getElem?_eq_getElem hi
      have n1 : Has (setE (capt ctSc (scAt 40) ρ) "heir" (.val (.int (i : Nat)))) "node" (.val (.int (node : Nat))) := (n0.capt (by decide +kernel)).set_ne (by decide +kernel) rfl
      have u1 : Has (setE (capt ctSc (scAt 40) ρ) "heir" (.val (.int (i : Nat)))) "ups" (.val (.list (nats ups))) := (u0.capt (by decide +kernel)).set_ne (by decide +kernel) rfl
      have h1 : Has (setE (capt ctSc (scAt 40) ρ) "heir" (.val (.int (i : Nat)))) "heir" (.val (.int (i : Nat))) := Has.set
      refine cm_holds (x := .int ((ups[i] : Nat) : Int)) (y := .int (node : Nat)) (fun P h => sub_holds (fun P h => vB_holds u1 h) (fun P h => vB_holds h1 h) (fun P h => itm_nats hg (by omega) h) h) (fun P h => vB_holds n1 h) (fun P h => ?_) hP
      show P (.bool ((((ups[i] : Nat)) : Int) == ((node : Nat) : Int)))
      have : ((((ups[i] : Nat)) : Int) == ((node : Nat) : Int)) = (ups[(((i : Nat) : Int)).toNat]? == some node) := by
        rw [Int.toNat_natCast, hg, Bool.eq_iff_iff]
        simp only [beq_iff_eq, Option.some.injEq]
        omega
      rw [this]; exact h
    · obtain ⟨i, hi, rfl⟩ := List.mem_map.mp hd
      have h1 : Has (setE (capt ctSc (scAt 40) ρ) "heir" (.val (.int (i : Nat)))) "heir" (.val (.int (i : Nat))) := Has.set
      exact bin_holds (x := .int (i : Nat)) (y := .int 1) (fun P h => vB_holds h1 h) (fun P (h : P (PV.int 1)) => (show T.Holds P (intE 1) from h)) (fun P (h : P (PV.int ((i : Int) + 1))) => (show T.Holds P (binP .Add (.int (i : Nat)) (.int 1)) from h)) hP
    have hE : ((intsTo ups.length).filter (fun d => match d with | .int i => ups[i.toNat]? == some node | _ => false)).map (fun d => match d with | .int i => .int (i + 1) | _ => .none) = nats (heirs node ups) := by
      unfold intsTo heirs nats
      rw [List.filter_map, List.map_map, List.map_map]
      rfl
    rw [List.nil_append, hE]
    show After _ P (setE ρ "heirs" (.val (.list (nats (heirs node ups)))), .next)
    refine rx_holds (by decide +kernel) ?_
    show T.Holds _ (ctS k (cntS k) 1 _)
    rw [ct_st1]
    show After _ P (setE (setE ρ "heirs" (.val (.list (nats (heirs node ups))))) "product" (.val (.int 1)), .next)
    have J : CtI ups (heirs node ups) 1 (setE (setE ρ "heirs" (.val (.list (nats (heirs node ups))))) "product" (.val (.int 1))) :=
      ⟨(u0.set_ne (by decide +kernel) rfl).set_ne (by decide +kernel) rfl, Has.set.set_ne (by decide +kernel) rfl, Has.set⟩
    generalize setE (setE ρ "heirs" (.val (.list (nats (heirs node ups))))) "product" (.val (.int 1)) = ρ1 at J
    refine rx_holds (by decide +kernel) ?_
    show T.Holds _ (ctS k (cntS k) 2 ρ1)
    have hh10 : (heirs node ups).length ≤ 10 := by
      unfold heirs
      rw [List.length_map]
      exact Nat.le_trans (List.length_filter_le _ _) (by simpa using hl)
    rw [ct_st2, frz_val J.heirs, valE_of J.heirs]
    refine T.bind_holds _ (T.chk_holds (b := decide ((nats (heirs node ups)).length ≤ sizeLine)) (z _ (by simp; omega)) ?_)
    refine ct_loop (fun node v e => cnt_holds k hl node v e) (heirs node ups) 1 q ρ1 e1 J fun ρ2 J2 => ?_
    refine rx_holds (by decide +kernel) ?_
    show T.Holds _ (ctS k (cntS k) 3 ρ2)
    rw [ct_st3]
    refine T.bind_holds _ (T.bind_holds _ (T.bind_holds _ (vB_holds J2.heirs ?_)))
    refine T.chk_holds (b := decide ((nats (heirs node ups)).length ≤ sizeLine)) (z _ (by simp; omega)) ?_
    refine (show T.Holds _ (T.ite (!(nats (heirs node ups)).isEmpty) (binT .Add (vB "product") (fun _ => intE 1) ρ2) (intE 1)) from ?_)
    by_cases hE : heirs node ups = []
    · rw [if_pos hE] at e2
      have : (!(nats (heirs node ups)).isEmpty) = false := by simp [hE]
      rw [this]
      subst e2
      exact h
    · rw [if_neg hE] at e2
      have : (!(nats (heirs node ups)).isEmpty) = true := by simp [hE]
      rw [this]
      subst e2
      exact ite_yes (bin_holds (x := .int (q : Nat)) (y := .int 1) (fun P h => vB_holds J2.prod h) (fun P (h : P (PV.int 1)) => (show T.Holds P (intE 1) from h)) (fun P (h : P (PV.int ((q : Int) + 1))) => (show T.Holds P (binP .Add (.int (q : Nat)) (.int 1)) from h)) h)
end Mine
namespace Mine
theorem type_fromkeys : typeOf (.builtin "dict.fromkeys") = pure (.type "classmethod_descriptor") := by kernel_rfl
theorem slot_cd_get : Slot "classmethod_descriptor" "__get__" "classmethod_descriptor.__get__" :=
  .of (owner := "classmethod_descriptor") (n := "__get__") (by rw [typeLookup_type, builtinLookup_eq_fast]; kernel_rfl) (by decide +kernel) (by decide +kernel) (by decide +kernel)
    (by first | exact .inl (by decide +kernel) | exact .inr (by decide +kernel)) (by rw [isSubtype_type]; kernel_rfl)
theorem entry_cd_get : entryFor table "classmethod_descriptor.__get__" = some Builtin.«classmethod_descriptor.__get__» := entryFor_of_tree (by kernel_rfl)
theorem args_cd_get (a b c : Value) : argsOk "classmethod_descriptor.__get__" ⟨[a, b, c], []⟩ := by unfold argsOk; kernel_rfl
theorem slot_type_getattribute : Slot "type" "__getattribute__" "type.__getattribute__" :=
  .of (owner := "type") (n := "__getattribute__") (by rw [typeLookup_type, builtinLookup_eq_fast]; kernel_rfl) (by decide +kernel) (by decide +kernel) (by decide +kernel)
    (by first | exact .inl (by decide +kernel) | exact .inr (by decide +kernel)) (by rw [isSubtype_type]; kernel_rfl)
theorem entry_type_getattribute : entryFor table "type.__getattribute__" = some Builtin.«type.__getattribute__» := entryFor_of_tree (by kernel_rfl)
theorem args_type_getattribute (a b : Value) : argsOk "type.__getattribute__" ⟨[a, b], []⟩ := by unfold argsOk; kernel_rfl
theorem entry_fromkeys : entryFor table "dict.fromkeys" = some Builtin.«dict.fromkeys» := entryFor_of_tree (by kernel_rfl)
theorem entry_fkloop : entryFor table "dict.fromkeys.loop" = some Builtin.«dict.fromkeys.loop» := entryFor_of_tree (by kernel_rfl)
theorem isType_dict : isType (.type "dict") = pure true := by kernel_rfl
theorem typeOf_dict : typeOf (.type "dict") = pure (.type "type") := by kernel_rfl
theorem sub_dict_owner : isSubtype (.type "dict") (.type (".".intercalate ("dict.fromkeys".cutAt '.').dropLast)) = pure true := by rw [show (".".intercalate ("dict.fromkeys".cutAt '.').dropLast) = "dict" by decide +kernel, isSubtype_type]; kernel_rfl
noncomputable def boundFk : Obj := { cls := .type "builtin_function_or_method", dict := none, data := .fields #[.builtin "dict.fromkeys", .type "dict"], slots := #[] }
section
variable {prog : Program} {w : World} {A : Around} {E : Value → Shared → Prop} {h : Heap} {g : Array GenState} {d : Drawn} {t : Nat} {os : OsState}
theorem fk_get {R : Result → Shared → Prop} (hq : R (.ok (.ret (.ref h.objs.size))) ⟨h.push boundFk, g, d, t, os⟩) :
    codeAny (model prog w) A (.call (.builtin "classmethod_descriptor.__get__") ⟨[.builtin "dict.fromkeys", .none, .type "dict"], []⟩) R ⟨h, g, d, t, os⟩ := by
  have hT5 : (⟨h, g, d, t, os⟩ : Shared).TypeIs (.builtin "dict.fromkeys") "classmethod_descriptor" := type_fromkeys
  have f1 := isType_dict
  have f2 := sub_dict_owner
  refine codeAny_call_builtin slot_cd_get.plain entry_cd_get (slot_cd_get.check _ _ _ _ _ _ _ _ hT5 (args_cd_get _ _ _) ?_)
  unfold Builtin.«classmethod_descriptor.__get__»
  repeat (any_goals (first | assumption | wp_step))
theorem fk_eq (tk : Tok) : Builtin.«type.__getattribute__» ⟨[.type "dict", .str "fromkeys" tk], []⟩ = (holding [.builtin "dict.fromkeys"] (call (.builtin "classmethod_descriptor.__get__") [.builtin "dict.fromkeys", .none, .type "dict"]) >>= fun v => ret v) := by kernel_rfl
theorem gm_eq (pl : Sem Bool) : getMethod (.type "dict") "fromkeys" pl = (getAttr (.type "dict") "fromkeys" >>= fun v => pure (v, [])) := by kernel_rfl
theorem ga_eq (nm : Value) : getAttrBy (.type "dict") nm true false = holding [.type "dict", nm] (getAttrByItsOwn (.type "dict") nm (.type "type") (.builtin "type.__getattribute__") true false) := by kernel_rfl
theorem hb_eq : hookBefore (.type "type") = pure none := by kernel_rfl
theorem cg_eq (nm : Value) : callGetattribute (.type "dict") nm (.builtin "type.__getattribute__") false = call (.builtin "type.__getattribute__") [.type "dict", nm] := by kernel_rfl
theorem fk_entry {tk : Tok} {Q : Fin → Shared → Prop} (hq : Q (.done (.ret (.ref h.objs.size))) ⟨h.push boundFk, g, d, t, os⟩) :
    wpAny (model prog w) A (Builtin.«type.__getattribute__» ⟨[.type "dict", .str "fromkeys" tk], []⟩) Q E ⟨h, g, d, t, os⟩ := by
  rw [fk_eq]
  exact wpAny_bind (wpAny_holding (wpAny_call (fk_get (wpAny_pure hq))))
theorem fk_acall {tk : Tok} {R : Result → Shared → Prop} (hq : R (.ok (.ret (.ref h.objs.size))) ⟨h.push boundFk, g, d, t, os⟩) :
    codeAny (model prog w) A (.call (.builtin "type.__getattribute__") ⟨[.type "dict", .str "fromkeys" tk], []⟩) R ⟨h, g, d, t, os⟩ :=
  codeAny_call_builtin slot_type_getattribute.plain entry_type_getattribute (slot_type_getattribute.check _ _ _ _ _ _ _ _ (show (⟨h, g, d, t, os⟩ : Shared).TypeIs (.type "dict") "type" from typeOf_dict) (args_type_getattribute _ _) (fk_entry hq))
theorem fk_method {Q : Value × List Value → Shared → Prop} {pl : Sem Bool} (hq : Q (.ref h.objs.size, []) ⟨h.push boundFk, g, d, t + 1, os⟩) :
    wpAny (model prog w) A (getMethod (.type "dict") "fromkeys" pl) Q E ⟨h, g, d, t, os⟩ := by
  rw [gm_eq]
  unfold getAttr
  refine wpAny_bind (wpAny_bind (wpAny_mkText ?_))
  rw [ga_eq]
  refine wpAny_holding ?_
  unfold getAttrByItsOwn
  rw [hb_eq]
  refine wpAny_bind (wpAny_pure ?_)
  rw [cg_eq]
  refine wpAny_bind (wpAny_attempt (wpAny_holding (wpAny_call (fk_acall ?_))))
  exact wpAny_pure (wpAny_pure hq)
end
end Mine
namespace Mine
theorem typeCall_dict_0 : checkTypeCall "dict" ⟨[], []⟩ = pure () := by kernel_rfl
theorem newCall_dict_0 : checkBuiltinCall "dict.__new__" ⟨[.type "dict"], []⟩ = pure () := by kernel_rfl
section
variable {w : World} {A : Around} {E : Value → Shared → Prop} {s : Shared}
theorem code_dict_new0 {Q₁ : Value → Shared → Prop} (h : Q₁ (.ref s.heap.objs.size) { s with heap := s.heap.push { cls := .type "dict", data := .dict #[] } }) :
    codeAny (model pw w) A (.call (.builtin "dict.__new__") ⟨[.type "dict"], []⟩) (wants Q₁ E) s := by
  refine codeAny_call_builtin F.kt_plain_dict_new F.kt_entry_dict_new (wpAny_of_eq newCall_dict_0 ?_)
  have hsub := F.kt_sub_dict
  have hmro := F.kt_mro_dict
  obtain ⟨hp, g, d, tk, os⟩ := s
  unfold Builtin.«dict.__new__»
  wp_walk
  exact h
theorem call_dict0 {Q : Value → Shared → Prop} (h : Q (.ref s.heap.objs.size) { s with heap := s.heap.push { cls := .type "dict", data := .dict #[] } }) : wpAny (model pw w) A (call (.type "dict") []) Q E s := by
  refine callType_codes (Q₁ := fun obj s₁ => obj = .ref s.heap.objs.size ∧ s₁ = { s with heap := s.heap.push { cls := .type "dict", data := .dict #[] } }) F.kt_called_dict typeCall_dict_0 F.entry_dict_init (code_dict_new0 ⟨rfl, rfl⟩) ?_
  rintro obj s₁ ⟨rfl, rfl⟩
  have hnew : (s.heap.push { cls := .type "dict", data := .dict #[] }).DictOf (strKind pw w) s.heap.objs.size [] := Heap.DictOf.new s.heap
  refine ⟨hnew.typeIs, F.args_dict_init_1 _, ?_⟩
  unfold Builtin.«dict.__init__»
  refine wpAny_bind ?_
  unfold Builtin.Dict.selfAndRest
  refine wpAny_bind (wpAny_notOrdered_dict hnew.typeIs ?_)
  show wpAny _ _ (pure (s.heap.objs.size, [])) _ _ _
  refine wpAny_pure ?_
  show wpAny _ _ (Builtin.Dict.addKeywords s.heap.objs.size [] >>= _) _ _ _
  exact wpAny_bind (wpAny_pure (wpAny_pure ⟨rfl, h⟩))
noncomputable def nones (ks : List Str) : List (Str × Value) := ks.map fun k => (k, Value.none)
theorem nones_len {ks : List Str} {i : Nat} (h : ks.length ≤ 1000) : (nones (ks.take i)).length ≤ sizeLine := by
  unfold nones
  rw [List.length_map, List.length_take]
  exact Nat.le_trans (Nat.le_trans (Nat.min_le_right _ _) h) (by decide)
theorem nones_step {ks : List Str} {i : Nat} {k : Str} (hks : ks.Nodup) (hk0 : ks[i]? = some k) : stored (nones (ks.take i)) k Value.none = nones (ks.take (i + 1)) := by
  have hnot : k ∉ ks.take i := by
    have hnd : (ks.take (i + 1)).Nodup := hks.sublist (List.take_sublist _ _)
    rw [take_step hk0] at hnd
    intro hmem
    exact (List.nodup_append.mp hnd).2.2 k hmem k (.head _) rfl
  unfold stored
  rw [if_neg]
  · rw [take_step hk0]; simp [nones]
  · intro hany
    obtain ⟨p, hp, e⟩ := List.any_eq_true.mp hany
    obtain ⟨k', hk', rfl⟩ := List.mem_map.mp hp
    have : k' = k := by simpa using e
    exact hnot (this ▸ hk')
theorem fk_loop {J D ax : Addr} {vs : Array Value} {ks : List Str} (hh : A.handled = none) (hne : ax ≠ J) (hDJ : D ≠ J) (hDa : D ≠ ax) (hks : ks.Nodup) (hsz : vs.size = ks.length) (hz : ks.length ≤ 1000) (hv : ∀ (i : Nat) (k : Str), ks[i]? = some k → ∃ t, vs[i]? = some (Value.str k t)) {R : Result → Shared → Prop} :
    ∀ (m i : Nat) (s : Shared), i + m = ks.length → s.heap.IsListIter J ax i → s.heap.IsList ax vs → s.heap.DictOf (strKind pw w) D (nones (ks.take i)) →
    (∀ s' : Shared, (∀ b o, b ≠ J → b ≠ D → s.heap.get? b = some o → s'.heap.get? b = some o) → s'.gens = s.gens → s'.os = s.os → s'.heap.DictOf (strKind pw w) D (nones ks) → R (.ok (.ret (.ref D))) s') →
    codeAny (model pw w) A (.builtin "dict.fromkeys.loop" ⟨[.ref D, .ref J, .none], []⟩) R s := by
  have W := Walks.list (prog := pw) (w := w) (A := A.in1) hh J ax hne vs
  intro m
  induction m with
  | zero =>
    intro i s hm hi hl hd h
    refine codeAny_builtin entry_fkloop ?_
    rw [Around.under_plain (show (Code.builtin "dict.fromkeys.loop" ⟨[.ref D, .ref J, .none], []⟩).weight = 0 from rfl) rfl]
    unfold Builtin.«dict.fromkeys.loop»
    refine wpAny_bind ?_
    have hi' : i = vs.size := by omega
    subst hi'
    refine W.done s _ _ ⟨hi, hl⟩ fun h' tk hk => ?_
    have hk' : ∀ b o, b ≠ J → s.heap.get? b = some o → h'.get? b = some o := fun b o hb e => hk b o (fun q => hb (List.mem_singleton.mp q)) e
    refine wpAny_pure (h _ (fun b o hb _ e => hk' b o hb e) rfl rfl ?_)
    have e : ks.take vs.size = ks := List.take_of_length_le (by omega)
    rw [e] at hd
    exact hd.extBut hk' hDJ
  | succ m ih =>
    intro i s hm hi hl hd h
    refine codeAny_builtin entry_fkloop ?_
    rw [Around.under_plain (show (Code.builtin "dict.fromkeys.loop" ⟨[.ref D, .ref J, .none], []⟩).weight = 0 from rfl) rfl]
    unfold Builtin.«dict.fromkeys.loop»
    refine wpAny_bind ?_
    refine W.item i s _ _ (by omega) ⟨hi, hl⟩ fun v h' tk hP st hk => ?_
    obtain ⟨k, hk0⟩ : ∃ k, ks[i]? = some k := ⟨_, List.getElem?_eq_getElem (by omega)⟩
    obtain ⟨t, ht⟩ := hv i k hk0
    have hve : v = .str k t := by rw [ht] at hP; exact (Option.some.inj hP).symm
    subst hve
    have hk' : ∀ b o, b ≠ J → s.heap.get? b = some o → h'.get? b = some o := fun b o hb e => hk b o (fun q => hb (List.mem_singleton.mp q)) e
    have hd' : h'.DictOf (strKind pw w) D (nones (ks.take i)) := hd.extBut hk' hDJ
    have hT : (⟨h', s.gens, s.drawn, tk, s.os⟩ : Shared).TypeIs (.ref D) "dict" := Heap.DictOf.typeIs (s := ⟨h', s.gens, s.drawn, tk, s.os⟩) hd'
    refine wpAny_bind (wpAny_typeOf hT ?_)
    rw [if_pos (by decide)]
    refine wpAny_bind (wpAny_of_eq (a := D) rfl (wpAny_bind (wpAny_holding ?_)))
    refine wpAny_dictSet_pairs (knd := strKind pw w) (k := k) (by show Value.isStrOf k (.str k t) = true; simp [Value.isStrOf]) hd' (fun h'' hd'' hs => ?_) (nones_len (by omega))
    refine wpAny_pure ⟨Code.quiet_builtin _ (by decide +kernel), ?_⟩
    rw [nones_step hks hk0] at hd''
    refine ih (i + 1) _ (by omega) (st.1.at fun o e => (hs.2 J hDJ.symm).trans e) (st.2.at fun o e => (hs.2 ax hDa.symm).trans e) hd'' fun s' hk3 hg ho hd3 => ?_
    exact h s' (fun b o hb1 hb2 e => hk3 b o hb1 hb2 ((hs.2 b hb2).trans (hk' b o hb1 e))) hg ho hd3
end
end Mine
namespace Mine
section
variable {w : World} {A : Around} {E : Value → Shared → Prop} {s : Shared}
theorem typeOf_list {s : Shared} {a : Addr} {items : Array Value} (h : s.heap.IsList a items) : s.TypeIs (.ref a) "list" := let ⟨o, ho, hc, _⟩ := h; ⟨o, ho, hc⟩
theorem fk_run {u ax : Addr} {vs : Array Value} {ks : List Str} {Q : Value → Shared → Prop} (hh : A.handled = none) (hu : s.heap.get? u = some boundFk) (hl : s.heap.IsList ax vs) (hks : ks.Nodup) (hsz : vs.size = ks.length) (hz : ks.length ≤ 1000) (hv : ∀ (i : Nat) (k : Str), ks[i]? = some k → ∃ t, vs[i]? = some (Value.str k t))
    (h : ∀ s' : Shared, (∀ b o, s.heap.get? b = some o → s'.heap.get? b = some o) → s'.gens = s.gens → s'.os = s.os → s'.heap.DictOf (strKind pw w) s.heap.objs.size (nones ks) → Q (.ref s.heap.objs.size) s') : wpAny (model pw w) A (call (.ref u) [.ref ax]) Q E s := by
  refine wpAny_call (codeAny_of_tree ?_)
  show wpAny _ A.in1 (callAny (.ref u) ⟨[.ref ax], []⟩) _ _ _
  unfold callAny
  refine wpAny_bind (wpAny_load hu ?_)
  show wpAny _ _ (do checkBoundCall "dict.fromkeys" ⟨[.type "dict", .ref ax], []⟩; again (.builtin "dict.fromkeys" ⟨[.type "dict", .ref ax], []⟩)) _ _ _
  have hchk : checkBoundCall "dict.fromkeys" ⟨[.type "dict", .ref ax], []⟩ = pure () := by kernel_rfl
  rw [hchk]
  refine wpAny_bind (wpAny_pure (wpAny_pure ⟨Code.quiet_builtin _ (by decide +kernel), codeAny_builtin entry_fromkeys ?_⟩))
  rw [Around.under_plain (show (Code.builtin "dict.fromkeys" ⟨[.type "dict", .ref ax], []⟩).weight = 0 from rfl) rfl]
  have e : Builtin.«dict.fromkeys» ⟨[.type "dict", .ref ax], []⟩ = (rule "dict.fromkeys.default-none" >>= fun _ => call (.type "dict") >>= fun d => holding [d] (do
    let source ← typeOf (.ref ax)
    if (← typeOf d) == .type "dict" && source == .type "dict" then
      rule "dict.fromkeys.from-dict"
      let o ← Builtin.Dict.addrOf (.ref ax)
      Builtin.Dict.showsAll o
      let epoch ← dictEpoch o
      for i in [0:(← dictEntries o).size] do
        let some e := (← dictEntries o)[i]? | unsupported "internal:dict.fromkeys"
        holding [e.key] (dictSetHashed (← Builtin.Dict.addrOf d) e.key e.hash .none)
        if (← dictEpoch o) != epoch then unsupported "dict.fromkeys:source-changed-during-callback"
      return ← ret d
    if (← typeOf d) == .type "dict" && (source == .type "set" || source == .type "frozenset") then
      rule "dict.fromkeys.from-set"
      let s ← Builtin.Dict.addrOf (.ref ax)
      let was ← setEpoch s
      for (h, k) in ← setWalk s do
        holding [k] (dictSetHashed (← Builtin.Dict.addrOf d) k h .none)
        if (← setEpoch s) != was then unsupported "dict.fromkeys:source-changed-during-callback"
      return ← ret d
    again (.builtin "dict.fromkeys.loop" ⟨[d, ← pyIter (.ref ax), .none], []⟩))) := by kernel_rfl
  rw [e]
  clear e
  have hsD : s.heap.get? s.heap.objs.size = none := fresh_size (Nat.le_refl _)
  refine wpAny_bind (wpAny_rule (wpAny_bind (call_dict0 (wpAny_holding ?_))))
  have hl1 : (s.heap.push { cls := .type "dict", data := .dict #[] }).IsList ax vs := hl.push _
  have hd1 : (s.heap.push { cls := .type "dict", data := .dict #[] }).DictOf (strKind pw w) s.heap.objs.size [] := Heap.DictOf.new s.heap
  refine wpAny_bind (wpAny_typeOf (typeOf_list (s := { s with heap := s.heap.push { cls := .type "dict", data := .dict #[] } }) hl1) ?_)
  refine wpAny_bind (wpAny_typeOf (Heap.DictOf.typeIs (s := { s with heap := s.heap.push { cls := .type "dict", data := .dict #[] } }) hd1) ?_)
  rw [if_neg (by decide)]
  refine wpAny_bind (wpAny_typeOf (Heap.DictOf.typeIs (s := { s with heap := s.heap.push { cls := .type "dict", data := .dict #[] } }) hd1) ?_)
  rw [if_neg (by decide)]
  refine wpAny_bind (wpAny_pyIter_list hl1 ?_)
  have hsz1 : (s.heap.push { cls := .type "dict", data := .dict #[] }).objs.size = s.heap.objs.size + 1 := Heap.size_push ..
  have haxD : ax ≠ s.heap.objs.size := fun q => by obtain ⟨o, ho, _⟩ := hl; rw [q, hsD] at ho; cases ho
  have haxJ : ax ≠ s.heap.objs.size + 1 := fun q => by
    obtain ⟨o, ho, _⟩ := hl1
    rw [q, ← hsz1, fresh_size (Nat.le_refl _)] at ho; cases ho
  refine wpAny_pure ⟨Code.quiet_builtin _ (by decide +kernel), ?_⟩
  show codeAny (model pw w) A (.builtin "dict.fromkeys.loop" ⟨[.ref s.heap.objs.size, .ref (s.heap.push { cls := .type "dict", data := .dict #[] }).objs.size, .none], []⟩) _ _
  rw [hsz1]
  have hit : ((s.heap.push { cls := .type "dict", data := .dict #[] }).push { cls := .type "list_iterator", data := .fields #[.ref ax, .int 0 0] }).IsListIter (s.heap.objs.size + 1) ax 0 := by
    rw [← hsz1]; exact ⟨_, Heap.get?_push_size _ rfl, rfl, rfl⟩
  refine fk_loop hh haxJ (Nat.ne_of_lt (Nat.lt_succ_self _)) haxD.symm hks hsz hz hv ks.length 0 _ (by omega) hit (hl1.push _) (hd1.push _) fun s' hk hg ho hd => ?_
  refine h s' (fun b o e => ?_) hg ho hd
  refine hk b o (fun q => ?_) (fun q => ?_) (Heap.get?_push_of_some _ (Heap.get?_push_of_some _ e))
  · subst q
    exact absurd (Heap.lt_size e) (Nat.not_lt.mpr (Nat.le_succ _))
  · subst q
    rw [hsD] at e; cases e
end
end Mine
namespace Mine
noncomputable def ldA {α : Type} : Sem α → Option Addr
  | .load a _ _ => some a
  | _ => none
noncomputable def ldK {α : Type} (o : Obj) : Sem α → Sem α
  | .load _ _ k => k o
  | t => t
theorem wp_ld {α : Type} {M : Model} {A : Around} {t : Sem α} {a : Addr} {o : Obj} {Q : α → Shared → Prop} {E : Value → Shared → Prop} {s : Shared} (h : ldA t = some a) (ho : s.heap.get? a = some o) (hk : wpAny M A (ldK o t) Q E s) : wpAny M A t Q E s := by
  cases t with
  | load a' p k =>
    cases h
    exact fun Γ p hΓ => ⟨o, ho, hk Γ p hΓ⟩
  | _ => cases h
theorem untok_bool {v : Value} {b : Bool} (h : untok v = .bool b) : v = .bool b := by
  unfold untok at h
  split at h
  · cases h
  · cases h
  · exact h
theorem kw_obj {H : Heap} {mg mb : Str → Option Value} (th : TH H mg mb) : ∃ hh t ep, H.get? 39 = some { cls := .type "dict", dict := none, data := .dict #[⟨hh, .str "unhashable_fallback" t, .bool false⟩] ep, slots := #[] } := by
  have e := th.kwd
  generalize ho : H.get? 39 = oo at e
  unfold keysView at e
  split at e
  · rename_i c d es ep sl
    obtain ⟨e1, e⟩ := Prod.mk.inj (Option.some.inj e)
    obtain ⟨e2, e⟩ := Prod.mk.inj e
    obtain ⟨e3, e⟩ := Prod.mk.inj e
    obtain ⟨l⟩ := es
    obtain ⟨x, rfl⟩ : ∃ x, l = [x] := by
      have := congrArg List.length e
      rw [List.length_map] at this
      exact List.length_eq_one_iff.mp this
    obtain ⟨hh, k, v⟩ := x
    obtain ⟨ek, ev⟩ := Prod.mk.inj (List.cons.inj e).1
    obtain ⟨t, hk⟩ := untok_str ek
    have hv : v = .bool false := untok_bool ev
    exact ⟨hh, t, ep, by rw [e1, e2, e3, show k = _ from hk, hv]⟩
  · cases e
theorem bind_dd1 (pm v : Value) : ldA (bindArgs { fdAt 3 45 (.ref 39) with pyModule := pm } ⟨[v], []⟩) = some 39 := by kernel_rfl
theorem bind_dd2 (pm v : Value) (hh : Int) (t : Tok) (ep : Nat) : ldK { cls := .type "dict", dict := none, data := .dict #[⟨hh, .str "unhashable_fallback" t, .bool false⟩] ep, slots := #[] } (bindArgs { fdAt 3 45 (.ref 39) with pyModule := pm } ⟨[v], []⟩) = (pure [(("params" : Str), v), (("unhashable_fallback" : Str), .bool false)] : Sem (List (Str × Value))) := by kernel_rfl
section
variable {w : World} {A : Around} {E : Value → Shared → Prop} {s : Shared} {env : Env}
theorem Call_meth1G {M : Model} {o e : Expr} {name : Str} {apos pos : Pos} {Q : Value → Shared → Prop}
    (hbase : attributeBase o name env (eval o env) = eval o env) (hs : starEach [e] env = [(false, eval e env)]) (hline : (apos.endLine == pos.line) = true)
    (h : wpAny M A (eval o env) (fun ov s₁ => ∀ pl, wpAny M A (getMethod ov name pl) (fun r s₂ => wpAny M A (callWith pos r.1 r.2 [(false, eval e env)] []) Q E s₂) E s₁) E s) :
    wpAny M A (eval (.Call (.Attribute o name apos) [e] [] pos) env) Q E s := by
  rw [arm_eval_Call, hbase]
  refine wpAny_bind (wpAny_mono h (fun ov s₁ h₁ => ?_) fun _ _ e => e)
  refine wpAny_bind (wpAny_standAt ?_)
  have hform : methodCallForm ([e].length + ([] : List Keyword).length) (backTo pos (starEach [e] env)) (backToKw pos (keywordEach [] env)) = true := by rw [hs]; rfl
  have hpos : methodCallPos true o env apos pos = pure pos := by unfold methodCallPos; simp [hline]
  unfold methodCall
  rw [hform]
  refine wpAny_bind (wpAny_holding (wpAny_mono (h₁ _) (fun r s₂ h₂ => ?_) fun _ _ e => e))
  obtain ⟨f, first⟩ := r
  refine wpAny_bind (wpAny_of_eq hpos ?_)
  rw [hs]
  exact h₂
theorem callWith_fk {pos : Pos} {u : Addr} {t : Sem Value} {Q : Value → Shared → Prop}
    (h : wpAny (model pw w) A t (fun v s₁ => s₁.heap.get? u = some boundFk ∧ wpAny (model pw w) A (call (.ref u) [v]) Q E s₁) E s) : wpAny (model pw w) A (callWith pos (.ref u) [] [(false, t)] []) Q E s := by
  unfold callWith
  refine wpAny_bind (wpAny_holding (wpAny_mono (evalArgs_plain (Q := fun x s₁ => ∃ v, x = ⟨[v], []⟩ ∧ s₁.heap.get? u = some boundFk ∧ wpAny (model pw w) A (call (.ref u) [v]) Q E s₁) (Calls.spliced_cons (wpAny_mono h (fun v s₁ h₁ => Calls.spliced_nil ⟨v, rfl, h₁⟩) fun _ _ e => e))) (fun x s₁ h₁ => wpAny_bind (wpAny_standAt ?_)) fun _ _ x => x))
  obtain ⟨v, rfl, ho, hcall⟩ := h₁
  refine wpAny_bind (m := keeperOf (.ref u)) ?_
  unfold keeperOf
  refine wpAny_bind (wpAny_load ho ?_)
  simp only [boundFk, show (Value.type "builtin_function_or_method" != Value.type "method") = true by decide, show (Value.type "builtin_function_or_method" == Value.type "builtin_function_or_method" || Value.type "builtin_function_or_method" == Value.type "method-wrapper") = true by decide, if_true]
  refine wpAny_pure ?_
  exact wpAny_bind (wpAny_mono hcall (fun r s₂ hr => wpAny_bind (wpAny_holding (wpAny_point (wpAny_pure hr)))) fun _ _ x => x)
end
end Mine
namespace Mine
theorem strsOf_eq : ∀ {l : List PV} {ks : List Str}, strsOf l = some ks → l = ks.map .str
  | [], ks, h => by cases h; rfl
  | d :: l, ks, h => by
    cases d <;> simp only [strsOf, Option.map_eq_some_iff, reduceCtorEq] at h
    obtain ⟨zs, e1, rfl⟩ := h
    rw [strsOf_eq e1]; rfl
theorem rps_nones {w : World} {X : List Addr} {h : Heap} : ∀ (ks : List Str), Rps w X h (ks.map fun _ => PV.none) ((nones ks).map (·.2))
  | [] => rfl
  | k :: ks => ⟨.none, _, rfl, rfl, rps_nones ks⟩
noncomputable def fkP : PV → T PV
  | .list l => (T.ofOpt (strsOf l)).bind fun ks => .chk (decide ks.Nodup && decide (ks.length ≤ 1000)) (.ret (.dict ks (ks.map fun _ => .none)))
  | _ => .fail
section
variable {sc : Scope} {n : Nat}
theorem sndE_fromkeys {f m : Str} {p ap pos : Pos} {a : Expr} {ta : Rho → T PV} (hf : f = ("dict" : Str)) (hm : m = ("fromkeys" : Str)) (hk : sc.names.lookup f = some .globalImplicit) (hl : (ap.endLine == pos.line) = true) (hn : noStar a = true) (ha : SndE sc n a ta) :
    SndE sc n (.Call (.Attribute (.Name f p) m ap) [a] [] pos) fun ρ => (ta ρ).bind fkP := fun c O X ad ρ s I Q E h => by
  subst hf; subst hm
  refine Call_meth1G rfl (by cases a <;> first | rfl | cases hn) hl (ldBuiltin O I hk (by decide +kernel) (v := .type "dict") (by decide +kernel) (fun pl => ?_) (by decide +kernel) (by decide +kernel))
  obtain ⟨hp, g, dd, tk, os⟩ := s
  refine fk_method ?_
  have x₁ := I.push boundFk (tk + 1)
  have I₁ := I.nxt O x₁
  have hu : (hp.push boundFk).get? hp.objs.size = some boundFk := Heap.get?_push_size _ rfl
  have nt : ¬ isTab hp.objs.size := fun q => by obtain ⟨ps, e⟩ := I₁.wf.tabs.fields hu q; cases e
  refine callWith_fk (ha c O X ad ρ _ I₁ _ _ (T.holds_mono (fun d hd v s₃ x₃ r => ⟨x₃.ext.grow.exact hu nt (.inr fun _ _ e => by cases e), ?_⟩) _ (T.holds_bind _ h)))
  unfold fkP at hd
  split at hd
  · rename_i l
    obtain ⟨ks, hks, hd⟩ := T.holds_opt (T.holds_bind _ hd)
    obtain ⟨hb, hd⟩ := T.holds_chk hd
    simp only [Bool.and_eq_true, decide_eq_true_eq] at hb
    have hle := strsOf_eq hks
    obtain ⟨ax, vs, rfl, hax, ⟨k, hlst⟩, r1⟩ := r
    have I₃ := I₁.nxt O x₃
    have hlen : vs.length = ks.length := by rw [r1.length, hle, List.length_map]
    refine fk_run (ks := ks) I₃.wf.handled (x₃.ext.grow.exact hu nt (.inr fun _ _ e => by cases e)) (vs := vs.toArray) ⟨_, hlst, rfl, _, rfl⟩ hb.1 (by simpa using hlen) hb.2 (fun i k hk => ?_) fun s' hkp hg ho hdo => ?_
    · obtain ⟨v', hv', ⟨t, e⟩⟩ := r1.at i (.str k) (by rw [hle, List.getElem?_map, hk]; rfl)
      exact ⟨t, by rw [← e]; simpa using hv'⟩
    · have x₄ : Nxt c.H c.F s₃ s' := ⟨.keep I₃.wf.stays I₃.wf.tabs hkp, hg, ho⟩
      refine hd _ s' ((x₁.trans x₃).trans x₄) ⟨s₃.heap.objs.size, nones ks, rfl, I₃.fresh (Nat.le_refl _), ?_, hdo, by simp [nones, Function.comp_def], rps_nones ks⟩
      have hy : ((264 : Addr), 41, (263 : Addr), Value.none, "law") ∈ fnTab := by decide
      obtain ⟨_, ⟨pm, h2⟩, _⟩ := O.th.fn _ hy
      have := Heap.lt_size (I₃.wf.stays _ _ h2)
      rw [beq_eq_false_iff_ne]
      intro q
      rw [q] at this
      exact absurd this (by decide)
  · exact hd.elim
end
end Mine
namespace Mine
noncomputable def ddCall : Expr := match tryB (stAt 3 0) with | [.Return (some e) _] => e | _ => .Name "" default
noncomputable def ddA : Expr := match ddCall with | .Call _ [a] _ _ => a | _ => .Name "" default
noncomputable def ddP1 : Pos := match ddCall with | .Call (.Attribute (.Name _ p) _ _) _ _ _ => p | _ => default
noncomputable def ddP2 : Pos := match ddCall with | .Call (.Attribute (.Name _ _) _ p) _ _ _ => p | _ => default
noncomputable def ddP3 : Pos := match ddCall with | .Call _ _ _ p => p | _ => default
noncomputable def ddP4 : Pos := match tryB (stAt 3 0) with | [.Return _ p] => p | _ => default
noncomputable def ddNm : Pos := match ddA with | .Name _ p => p | _ => default
theorem body3' : bodyAt 3 = [.Try [.Return (some (.Call (.Attribute (.Name "dict" ddP1) "fromkeys" ddP2) [.Name "params" ddNm] [] ddP3)) ddP4] (((tryH (stAt 3 0))[0]?).getD (.ExceptHandler none none [] default) :: []) [] [] (tryP (stAt 3 0))] := by kernel_rfl
noncomputable def dd1T : Rho → T (Rho × Fl) := seqT (seqT (fun ρ => ((valE ρ "params").bind fkP).bind fun d => .ret (ρ, .ret d)) stop) stop
theorem dd1_snd {n : Nat} {c : Cx} (O : Ok (scAt 3) n c) (Ap : Apart c) : SSat c (bodyAt 3) dd1T := by
  rw [body3']
  refine consAt (tryAt (consAt (sndX_Return (sndE_fromkeys rfl rfl (by decide +kernel) (by decide +kernel) (by decide +kernel) (ta := fun ρ => valE ρ "params") (sndE_Name (by decide +kernel) (by decide +kernel))) c O Ap) (sndS_nil c O Ap))) (sndS_nil c O Ap)
noncomputable def dd1S : List PV → T PV
  | [.list l] => fkP (.list l)
  | _ => .fail
theorem con_dedup1 (n : Nat) : Con "_deduplicate" (n + 2) dd1S := by
  intro w H mg mb th y hy hyn A frs s X vs ds Q E W R hF hX hr h
  have hy0 : fnTab[0]? = some (46, 3, 45, .ref 39, "_deduplicate") := rfl
  have hfn := fn_get hy0
  obtain rfl := fn_uniq hfn hy (hyn.trans rfl)
  obtain ⟨h1, ⟨pm, h2⟩, h3⟩ := th.fn _ hy
  unfold dd1S at h
  split at h
  rotate_left
  · exact h.elim
  rename_i l
  obtain ⟨v, _, rfl, hv, rfl⟩ := hr
  obtain ⟨hh, tk, ep, hk⟩ := kw_obj th
  refine wpAny_call ?_
  refine codeAny_call_function (fd := { fdAt 3 45 (.ref 39) with pyModule := pm }) (body := bodyAt 3) R.depth (W.stays _ _ h2) rfl (by kernel_rfl) (by kernel_rfl) (by kernel_rfl) ?_ ?_
  · exact h3.keeps W.stays
  refine wp_ld (bind_dd1 pm v) (W.stays _ _ hk) ?_
  rw [bind_dd2]
  refine wpAny_pure ?_
  refine body_run (y := (46, 3, 45, .ref 39, "_deduplicate")) (n := n) (sc := scAt 3) (ps := ["params", "unhashable_fallback"]) (body := bodyAt 3) (t := dd1T) (pm := pm) hy rfl (by kernel_rfl) (by kernel_rfl) (by kernel_rfl) (by kernel_rfl) (by refine ⟨?_, ?_, ?_, ?_, ?_⟩ <;> kernel_rfl) (by decide +kernel) (by decide +kernel) th (X := X) (vs := [v, .bool false]) (ds := [.list l, .bool false]) W R hF hX ⟨_, _, rfl, hv, _, _, rfl, rfl, rfl⟩ rfl [] (fun _ h => nomatch h) (fun c O Ap _ _ => dd1_snd O Ap) ?_
  have hp : Has (rho0 ["params", "unhashable_fallback"] [.list l, .bool false]) "params" (.val (.list l)) := by kernel_rfl
  generalize rho0 ["params", "unhashable_fallback"] [.list l, .bool false] = ρ at hp
  refine T.bind_holds _ (seq_intro (seq_intro ?_))
  rw [valE_of hp]
  exact T.bind_holds _ h
end Mine
namespace Mine
noncomputable def compD (te : Rho → T PV) (ρ : Rho) (x : Str) : List PV → List Str → List PV → T (List Str × List PV)
  | [], ks, vs => .ret (ks, vs)
  | d :: ds, ks, vs => match d with
    | .str k => (te (setE ρ x (.val (.str k)))).bind fun y => .chk (decide (k ∉ ks)) (compD te ρ x ds (ks ++ [k]) (vs ++ [y]))
    | _ => .fail
section
variable {sc : Scope} {n : Nat} {c : Cx} {X : List Addr} {ad : Str → Addr} {ρ : Rho} {s : Shared}
theorem Inv.dct (O : Ok sc n c) (I : Inv c X ad ρ s) {a : Addr} {h' : Heap} {t : Nat} {kvs kvs' : List (Str × Value)} (hs : Heap.SameBut a s.heap h') (hl : s.heap.DictOf (strKind pw c.w) a kvs) (hl' : h'.DictOf (strKind pw c.w) a kvs')
    (ha : a ∈ X) (h0 : c.h0.get? a = none) (hp : ∀ p ∈ c.pin, p.1 ≠ a) (hw : ∀ x l, (x, Ent.own l) ∈ ρ → ad x ≠ a) (hL : c.env.locals ≠ a) : Inv c X ad ρ { s with heap := h', toks := t } := by
  obtain ⟨oa, es, ep, ho, hc, hd, _⟩ := hl
  obtain ⟨ob, es', ep', ho', hc', hd', _⟩ := hl'
  have hH : c.H.get? a = none := by
    cases e : c.H.get? a with
    | none => rfl
    | some o => have := O.base a o e; rw [h0] at this; cases this
  have hn : noCode oa := .of (by rw [hc.1]; intro e; cases e) (by intro vs _ _ e; rw [hd] at e; cases e)
  have hk := hs.extBut
  have W' := I.wf.same hs ho hn hH ho' (fun _ vs e => by rw [hd'] at e; cases e) fun es n e => ⟨_, _, hd'⟩
  have E' := I.ext.same O.base hs ho hn h0
  have h2 : ∀ v, oa.data ≠ .cell v := fun v e => by rw [hd] at e; cases e
  have h3 : ¬ isMeth oa := by unfold isMeth; rw [hc.1]; intro e; simp at e
  have h4 : a ∈ X ∨ (oa.cls ≠ .type "list" ∧ oa.cls ≠ .type "dict") := .inl ha
  refine ⟨W', E', I.gens, I.os, I.sub, fun b hb => ?_, fun p hq => ?_, fun y b hy => let ⟨w, o, e1, e2⟩ := I.cells y b hy; ⟨w, o, hk b o (fun q => by rw [q, ho] at e1; cases e1; exact h2 _ e2) e1, e2⟩, fun g hg => Rp.same hk (.inl ha) _ _ (I.ghs g hg), I.kinds, I.nd, ?_, ?_, I.inj, I.ownf⟩
  · by_cases q : b = a
    · subst q; exact ⟨_, ho'⟩
    · obtain ⟨o, e⟩ := I.ex b hb; exact ⟨o, hk b o q e⟩
  · obtain ⟨k1, k2, k3⟩ := I.pins p hq
    exact ⟨hk _ _ (hp p hq) k1, k2, k3⟩
  · obtain ⟨m, hn, hm⟩ := I.ns
    refine ⟨m, Heap.Ns.at' hn fun o e => hk _ o hL e, fun x e hx hkd => ?_⟩
    obtain ⟨v, hv, r⟩ := hm x e hx hkd
    exact ⟨v, hv, r.same hk ho h3 h4 fun l q => hw x l (q ▸ hx)⟩
  · intro x e hx hkd
    obtain ⟨b, v, hc, ⟨o, e1, e2⟩, r⟩ := I.cel x e hx hkd
    exact ⟨b, v, hc, ⟨o, hk b o (fun q => by rw [q, ho] at e1; cases e1; exact h2 _ e2) e1, e2⟩, r.same hk ho h3 h4 fun l q => hw x l (q ▸ hx)⟩
structure ShownD (c : Cx) (X : List Addr) (s : Shared) (D C : Addr) (s' : Shared) (ks : List Str) (vs : List PV) : Prop where
  dn : s.heap.get? D = none
  cn : s.heap.get? C = none
  ne : D ≠ C
  big : 264 < D
  nxt : Nxt c.H c.F s s'
  ns : ∃ m, s'.heap.Ns C m
  dct : ∃ kvs, s'.heap.DictOf (strKind pw c.w) D kvs ∧ kvs.map (·.1) = ks ∧ Rps c.w (C :: D :: X) s'.heap vs (kvs.map (·.2))
theorem stored_new {kvs : List (Str × Value)} {ks : List Str} {k0 : Str} {v : Value} (hks : kvs.map (·.1) = ks) (hk0 : k0 ∉ ks) : stored kvs k0 v = kvs ++ [(k0, v)] := by
  unfold stored
  rw [if_neg]
  intro hany
  obtain ⟨p, hp, e⟩ := List.any_eq_true.mp hany
  have : p.1 = k0 := by simpa using e
  exact hk0 (hks ▸ this ▸ List.mem_map_of_mem hp)
theorem comp_inD {sc' : Scope} {c' : Cx} {X' : List Addr} {ρ' : Rho} (O' : Ok sc' n c') {x : Str} {px pk : Pos} {elt iter : Expr} {scope : Scope} {pos : Pos} (hkx : c'.env.kindOf x = some .local) (hvx : isVar sc' x = true) (hdx : (x == ("__debug__" : Str)) = false) (hpin : c'.pin = [])
    (back : ∀ d s, Inv c' X' ad (setE ρ' x (.val d)) s → Inv c' X' ad ρ' s) (vals : ∀ d z l, (z, Ent.own l) ∉ setE ρ' x (.val d)) {te : Rho → T PV} (hte : SndE sc' n elt te)
    {D J : Addr} {ax : List Addr} {ds : List PV} {P : Nat → Value → Prop} {St : Nat → Heap → Prop} (hD0 : c'.h0.get? D = none) (hJ0 : c'.h0.get? J = none) (hDF : D ∉ c'.F) (hDX : D ∈ X') (hCD : D ≠ c'.env.locals) (hJC : J ≠ c'.env.locals) (hJD : J ≠ D) (hJX : J ∉ X')
    (S : Src c' J ax c'.gh ds P St) (hDax : D ∉ ax) (hCax : c'.env.locals ∉ ax) (hlen : ds.length ≤ sizeLine) {R : Result → Shared → Prop} {s₀ : Shared} (I₀ : Inv c' X' ad ρ' s₀) (st₀ : St 0 s₀.heap) (hl₀ : s₀.heap.DictOf (strKind pw c'.w) D [])
    {K : List Str × List PV → Prop} (hK : ∀ r, K r → ∀ s', Inv c' X' ad ρ' s' → (∃ kvs, s'.heap.DictOf (strKind pw c'.w) D kvs ∧ kvs.map (·.1) = r.1 ∧ Rps c'.w X' s'.heap r.2 (kvs.map (·.2))) → R (.ok .next) s') (h : (compD te ρ' x ds [] []).Holds K) :
    codeAny (model pw c'.w) c'.A (.compLoop (.DictComp (.Name x pk) elt [⟨.Name x px, iter, [], 0⟩] scope pos) 0 (.ref J) (.ref D) c'.env) R s₀ := by
  have nopin : ∀ (a : Addr), ∀ p ∈ c'.pin, p.1 ≠ a := fun a p hp => by rw [hpin] at hp; cases hp
  have hCX : c'.env.locals ∈ X' := I₀.sub _ O'.locX
  refine codeAny_compLoop_testsD (fun k s' => ∃ i acc ks kvs, k = ds.length + 1 - i ∧ i ≤ ds.length ∧ Inv c' X' ad ρ' s' ∧ St i s'.heap ∧ s'.heap.DictOf (strKind pw c'.w) D kvs ∧ kvs.map (·.1) = ks ∧ Rps c'.w X' s'.heap acc (kvs.map (·.2)) ∧ acc.length ≤ i ∧
    (compD te ρ' x (ds.drop i) ks acc).Holds K) ?_ (ds.length + 1) ⟨0, [], [], [], rfl, Nat.zero_le _, I₀, st₀, hl₀, rfl, rfl, Nat.le_refl _, h⟩
  rintro k s' ⟨i, acc, ks, kvs, rfl, hi, I', st, hl, hks, hr, hacc, h'⟩
  obtain ⟨oJ, hoJ, hiJ⟩ := S.it i _ st
  by_cases hlt : i < ds.length
  · refine S.W.item i s' _ _ hlt st fun v h₁ tk hP st₁ hk => ?_
    have hk' : Heap.ExtBut J s'.heap h₁ := fun b o hb e => hk b o (fun q => hb (List.mem_singleton.mp q)) e
    have I₁ : Inv c' X' ad ρ' { s' with heap := h₁, toks := tk } := I'.iter O' hk' (fun hm => absurd hm hJX) hoJ hiJ hJ0 (nopin _)
    have hl₁ : h₁.DictOf (strKind pw c'.w) D kvs := hl.extBut hk' fun q => hJD q.symm
    have hr₁ : Rps c'.w X' h₁ acc (kvs.map (·.2)) := Rps.same hk' (.inr fun o e => by rw [hoJ] at e; cases e; exact ⟨hiJ.2.1, hiJ.2.2.1⟩) _ _ hr
    obtain ⟨d, hd⟩ : ∃ d, ds[i]? = some d := ⟨_, List.getElem?_eq_getElem hlt⟩
    have rv : Rp c'.w X' h₁ d v := (S.val i v d hP hd).elim (fun q => I₁.ghs _ q) fun q => q.rp
    rw [drop_at hd] at h'
    unfold compD at h'
    split at h'
    rotate_left
    · exact h'.elim
    rename_i k0
    obtain ⟨m, hn, hm⟩ := I₁.ns
    refine wpAny_assign_Name (wpAny_storeName_local hkx hn (fun h₂ hn₂ hs₂ => ?_) ?_)
    · have I₂ : Inv c' X' ad (setE ρ' x (.val (.str k0))) { s' with heap := h₂, toks := tk + 1 } :=
        I₁.store O' hkx rfl hn (fun y e hy hky => hm y e (mem_without hy).1 hky) (show EntIn _ _ _ _ _ _ (.val (.str k0)) from rv) hn₂ hs₂
      have st₂ : St (i + 1) h₂ := S.W.frame _ _ _ st₁ fun b hb o e => hs₂.extBut b o (fun q => (List.mem_cons.mp hb).elim (fun q' => hJC (q'.symm.trans q)) fun q' => hCax (q ▸ q')) e
      have hl₂ : h₂.DictOf (strKind pw c'.w) D kvs := hl₁.extBut hs₂.extBut hCD
      have hr₂ : Rps c'.w X' h₂ acc (kvs.map (·.2)) := Rps.same hs₂.extBut (.inl hCX) _ _ hr₁
      rw [List.forIn_nil]
      refine wpAny_pure ?_
      rw [if_pos rfl]
      refine sndE_Name hvx hdx _ O' _ _ _ _ I₂ _ _ ?_
      show T.Holds _ (match findE (setE ρ' x (.val (.str k0))) x with | some (.val d) => (.ret d : T PV) | _ => .fail)
      rw [show findE (setE ρ' x (.val (.str k0))) x = some (.val (.str k0)) from Has.set]
      intro kv s₃ x₃ rk
      obtain ⟨kt, rfl⟩ := rk
      have I₃ := I₂.nxt O' x₃
      have st₃ : St (i + 1) s₃.heap := S.grow st₂ I₂.wf.tabs x₃.ext.grow
      have hl₃ := DictOf.grow hl₂ I₂.wf.tabs x₃.ext.grow hDF
      have hr₃ := I₂.rps O' x₃ hr₂
      refine hte _ O' _ _ _ _ I₃ _ _ (T.holds_mono (fun y hy vy s₄ x₄ ry => ?_) _ (T.holds_bind _ h'))
      obtain ⟨hk0, hy⟩ := T.holds_chk hy
      have I₄ := I₃.nxt O' x₄
      have st₄ : St (i + 1) s₄.heap := S.grow st₃ I₃.wf.tabs x₄.ext.grow
      have hl₄ := DictOf.grow hl₃ I₃.wf.tabs x₄.ext.grow hDF
      have hr₄ := I₃.rps O' x₄ hr₃
      have hlk : kvs.length ≤ sizeLine := by rw [← List.length_map (f := (·.2)), hr₄.length]; omega
      refine wpAny_dictSet_pairs (knd := strKind pw c'.w) (k := k0) (by show Value.isStrOf k0 (.str k0 kt) = true; simp [Value.isStrOf]) hl₄ (fun h₅ hl₅ hs₅ => ?_) hlk
      rw [stored_new hks (of_decide_eq_true hk0)] at hl₅
      have I₅ : Inv c' X' ad (setE ρ' x (.val (.str k0))) { s₄ with heap := h₅, toks := s₄.toks + 1 } := I₄.dct O' (t := s₄.toks + 1) hs₅ hl₄ hl₅ hDX hD0 (nopin _) (fun z l hz => absurd hz (vals _ z l)) (fun q => hCD q.symm)
      refine ⟨ds.length + 1 - (i + 1), by omega, i + 1, acc ++ [y], ks ++ [k0], kvs ++ [(k0, vy)], rfl, hlt, back _ _ I₅, ?_, hl₅, by rw [List.map_append, hks]; rfl, ?_, by rw [List.length_append]; exact Nat.succ_le_succ hacc, hy⟩
      · exact S.W.frame _ _ _ st₄ fun b hb o e => hs₅.extBut b o (fun q => (List.mem_cons.mp hb).elim (fun q' => hJD (q'.symm.trans q)) fun q' => hDax (q ▸ q')) e
      · rw [List.map_append]
        exact (Rps.same hs₅.extBut (.inl hDX) _ _ hr₄).snoc (Rp.same hs₅.extBut (.inl hDX) _ _ ry)
    · show (c'.env.scope.kind == .class || (c'.env.scope.kind == .module && _)) = false
      rw [O'.kind]; rfl
  · have hin : i = ds.length := by omega
    subst hin
    refine S.W.done s' _ _ st fun h₁ tk hk => ?_
    have hk' : Heap.ExtBut J s'.heap h₁ := fun b o hb e => hk b o (fun q => hb (List.mem_singleton.mp q)) e
    have I₁ : Inv c' X' ad ρ' { s' with heap := h₁, toks := tk } := I'.iter O' hk' (fun hm => absurd hm hJX) hoJ hiJ hJ0 (nopin _)
    have hl₁ : h₁.DictOf (strKind pw c'.w) D kvs := hl.extBut hk' fun q => hJD q.symm
    have hr₁ : Rps c'.w X' h₁ acc (kvs.map (·.2)) := Rps.same hk' (.inr fun o e => by rw [hoJ] at e; cases e; exact ⟨hiJ.2.1, hiJ.2.2.1⟩) _ _ hr
    rw [List.drop_length] at h'
    exact hK _ h' _ I₁ ⟨kvs, hl₁, hks, hr₁⟩
theorem comp_loopD (O : Ok sc n c) (I : Inv c X ad ρ s) {scope : Scope} {x : Str} {px pk : Pos} {elt iter : Expr} {pos : Pos} (hc : compOk scope sc x = true) {cl : List (Str × Addr)} (hcl : closOf c.env.cells scope.names [] = some cl)
    (hvx : isVar (relab scope sc) x = true) (hdx : (x == ("__debug__" : Str)) = false) {te : Rho → T PV} (hte : SndE (relab scope sc) n elt te)
    {C D J : Addr} {ax : List Addr} {G : List (Value × PV)} {ds : List PV} {P : Nat → Value → Prop} {St : Nat → Heap → Prop} (hC : s.heap.get? C = none) (hD : s.heap.get? D = none) (hJ : s.heap.get? J = none) (hCD : D ≠ C) (hbig : 264 < D) (hJC : J ≠ C) (hJD : J ≠ D)
    (S : Src c J ax G ds P St) (hDax : D ∉ ax) (hCax : C ∉ ax) (hlen : ds.length ≤ sizeLine) {R : Result → Shared → Prop} {s₀ : Shared} (I₀ : Inv (inCx c scope cl C D X s G) (C :: D :: X) ad (capt scope sc ρ) s₀) (st₀ : St 0 s₀.heap) (hl₀ : s₀.heap.DictOf (strKind pw c.w) D [])
    (h : (compD te (capt scope sc ρ) x ds [] []).Holds fun r => ∀ s', ShownD c X s D C s' r.1 r.2 → R (.ok .next) s') :
    codeAny (model pw c.w) c.A (.compLoop (.DictComp (.Name x pk) elt [⟨.Name x px, iter, [], 0⟩] scope pos) 0 (.ref J) (.ref D) (compEnvC scope cl C c.env)) R s₀ := by
  have O' := in_ok O I hc hcl hC (D := D) G
  have hx := comp_var O hc
  have hJX : J ∉ C :: D :: X := fun hm => by
    rcases List.mem_cons.mp hm with q | hm
    · exact hJC q
    · rcases List.mem_cons.mp hm with q | hm
      · exact hJD q
      · obtain ⟨o, e⟩ := I.ex J hm; rw [hJ] at e; cases e
  have hDF : D ∉ c.F := fun m => by obtain ⟨o, e⟩ := I.ex D (I.sub _ (O.hF _ m)); rw [hD] at e; cases e
  exact comp_inD (c' := inCx c scope cl C D X s G) O' ((O'.names x).trans hx) hvx hdx rfl (fun d s J => capt_back hx I₀ J) (fun d z l => capt_own) hte hD hJ hDF (.tail _ (.head _)) hCD hJC hJD hJX ⟨S.W, S.val, S.it, S.soft⟩ hDax hCax hlen I₀ st₀ hl₀
    (fun r hr s' I' ⟨kvs, a1, a2, a3⟩ => hr s' ⟨hD, hC, hCD, hbig, ⟨I'.ext, I'.gens, I'.os⟩, let ⟨m, hn, _⟩ := I'.ns; ⟨m, hn⟩, kvs, a1, a2, a3⟩) h
end
end Mine
namespace Mine
section
variable {sc : Scope} {n : Nat}
theorem comp_coreD {c : Cx} (O : Ok sc n c) {X : List Addr} {ad : Str → Addr} {ρ : Rho} {s : Shared} (I : Inv c X ad ρ s) {scope : Scope} {x : Str} {px pk : Pos} {elt iter : Expr} {pos pos' : Pos} (hc : compOk scope sc x = true) (hset : noSet iter = true)
    (hvx : isVar (relab scope sc) x = true) (hdx : (x == ("__debug__" : Str)) = false) {ti : Rho → T (List PV)} {te : Rho → T PV} (hi : SndI sc n iter ti false) (hte : SndE (relab scope sc) n elt te) {use : Option (Value → Sem Unit)} {Q E : Value → Shared → Prop}
    (h : (ti ρ).Holds fun ds => ds.length ≤ sizeLine ∧ (compD te (capt scope sc ρ) x ds [] []).Holds fun r => ∀ D C s', ShownD c X s D C s' r.1 r.2 → compPost (model pw c.w) c.A E use Q (.ref D) C (.ok .next) s') :
    wpAny (model pw c.w) c.A (comprehension (.DictComp (.Name x pk) elt [⟨.Name x px, iter, [], 0⟩] scope pos) scope c.env pos' newDict false (eval iter c.env) use) Q E s := by
  have hc' := hc
  simp only [compOk, Bool.and_eq_true, List.all_eq_true, Bool.or_eq_true, beq_iff_eq, bne_iff_ne] at hc'
  obtain ⟨⟨hk, hall⟩, hx⟩ := hc'
  obtain ⟨cl, hcl⟩ := closOf_some (cells := c.env.cells) scope.names [] fun y hy => O.cellEx y (((hall _ hy).2).resolve_left (by simp))
  refine wpAny_comprehension_free (use := use) rfl (noSet_ok hset c.env) (closureFor_of hcl) hk (fun y hy hl => ((hall y hy).1.2).resolve_left (by simp [hl])) ?_
  refine hi c O X ad ρ s I _ _ (T.holds_mono (fun ds hds s₂ J ax G P St x₂ S st hG hJ hJax _ => ?_) _ h)
  obtain ⟨hlen, hds⟩ := hds
  refine wpAny_newObj_type (wpAny_newFunctionEnv (fun y hy => (hall y hy).1.1) (by intro y hy; simp at hy) (fun h₁ hns₁ hsb₁ => ?_) hk)
  dsimp only at hns₁ hsb₁ ⊢
  have I₂ := I.nxt O x₂
  generalize hH2 : s₂.heap.push { cls := .type "dict", dict := none, data := .dict #[] } = H2 at hns₁ hsb₁ ⊢
  have hCs : H2.objs.size = s₂.heap.objs.size + 1 := by rw [← hH2, Heap.size_push]
  have hDC : s₂.heap.objs.size ≠ H2.objs.size := by rw [hCs]; exact Nat.ne_of_lt (Nat.lt_succ_self _)
  have below : ∀ b, b < s₂.heap.objs.size → b ≠ H2.objs.size ∧ b ≠ s₂.heap.objs.size := fun b hb => ⟨by rw [hCs]; exact Nat.ne_of_lt (Nat.lt_succ_of_lt hb), Nat.ne_of_lt hb⟩
  have old : ∀ b o, s₂.heap.get? b = some o → h₁.get? b = some o := fun b o e => hsb₁.extBut b o (below b (Heap.lt_size e)).1 (Heap.get?_push_of_some _ (hH2 ▸ Heap.get?_push_of_some _ e))
  have hl₀ : h₁.DictOf (strKind pw c.w) s₂.heap.objs.size [] := by
    have h0 : H2.DictOf (strKind pw c.w) s₂.heap.objs.size [] := hH2 ▸ Heap.DictOf.new s₂.heap
    exact (h0.push _).extBut hsb₁.extBut hDC
  have x₃ : Nxt c.H c.F s₂ { s₂ with heap := h₁, toks := s₂.toks + ([] : List (Str × Value)).length } := ⟨.keep I₂.wf.stays I₂.wf.tabs old, rfl, rfl⟩
  have hD₂ : s₂.heap.get? s₂.heap.objs.size = none := fresh_size (Nat.le_refl _)
  have hC₂ : s₂.heap.get? H2.objs.size = none := fresh_size (by rw [hCs]; omega)
  have back : ∀ b, s₂.heap.get? b = none → s.heap.get? b = none := fun b e => by
    cases q : s.heap.get? b with
    | none => rfl
    | some o => obtain ⟨o', e'⟩ := x₂.ext.there I.wf.tabs ⟨o, q⟩; rw [e] at e'; cases e'
  obtain ⟨oJ, hoJ, _⟩ := S.it 0 _ st
  have hJC : J ≠ H2.objs.size := fun q => by rw [q, hC₂] at hoJ; cases hoJ
  have hJD : J ≠ s₂.heap.objs.size := fun q => by rw [q, hD₂] at hoJ; cases hoJ
  have hax : ∀ b ∈ ax, s₂.heap.get? b ≠ none := fun b hb e => by obtain ⟨o, ho, _⟩ := S.soft 0 _ st b hb; rw [e] at ho; cases ho
  have st₁ : St 0 h₁ := S.W.frame _ _ _ st fun b _ o e => old b o e
  have I₁ := in_inv O I hc hcl (back _ hC₂) (back _ hD₂) x₂ x₃ hC₂ hD₂ hG hns₁ (let ⟨o, _, _, e, _⟩ := hl₀; ⟨o, e⟩)
  have hbig : 264 < s₂.heap.objs.size := by
    have hy : ((264 : Addr), 41, (263 : Addr), Value.none, "law") ∈ fnTab := by decide
    obtain ⟨_, ⟨pm, h2⟩, _⟩ := O.th.fn _ hy
    exact Heap.lt_size (I₂.wf.stays _ _ h2)
  have loop : ∀ s₃ : Shared, s₃ = { s₂ with heap := h₁, toks := s₂.toks + ([] : List (Str × Value)).length } →
      codeAny (model pw c.w) c.A (.compLoop (.DictComp (.Name x pk) elt [⟨.Name x px, iter, [], 0⟩] scope pos) 0 (.ref J) (.ref s₂.heap.objs.size) (compEnvC scope cl H2.objs.size c.env))
        (compPost (model pw c.w) c.A E use Q (.ref s₂.heap.objs.size) H2.objs.size) s₃ := by
    rintro s₃ rfl
    exact comp_loopD O I hc hcl hvx hdx hte (back _ hC₂) (back _ hD₂) hJ hDC hbig hJC hJD S (fun q => hax _ q hD₂) (fun q => hax _ q hC₂) hlen I₁ st₁ hl₀ (T.holds_mono (fun rs hr s' sh => hr _ _ s' sh) _ hds)
  exact codeAny_compStart_dict (loop _ rfl) (S.W.self 0 _ _ _ st₁ (loop _ rfl))
theorem ShownD.last {c : Cx} (O : Ok sc n c) {X : List Addr} {ad : Str → Addr} {ρ : Rho} {s s' : Shared} (I : Inv c X ad ρ s) {D C : Addr} {ks : List Str} {vs : List PV} (sh : ShownD c X s D C s' ks vs) {h' : Heap} (hs : Heap.SameBut C s'.heap h') :
    Nxt c.H c.F s { s' with heap := h' } ∧ Rp c.w X h' (.dict ks vs) (.ref D) := by
  obtain ⟨m, hn⟩ := sh.ns
  obtain ⟨oC, es, k, hoC, hdC⟩ := nsObj hn
  have hcode : noCode oC := ⟨fun ps e => (by rw [e] at hdC; cases hdC), fun vs q t e => by rw [hdC] at e; cases e⟩
  obtain ⟨kvs, hl, hk, hr⟩ := sh.dct
  refine ⟨⟨sh.nxt.ext.same I.wf.stays hs hoC hcode sh.cn, sh.nxt.gens, sh.nxt.os⟩, D, kvs, rfl, fun q => ?_, ?_, hl.extBut hs.extBut sh.ne, hk, ?_⟩
  · obtain ⟨o, e⟩ := I.ex D q; rw [sh.dn] at e; cases e
  · have := sh.big
    rw [beq_eq_false_iff_ne]
    intro q
    rw [q] at this
    exact absurd this (by decide)
  · exact Rps.mono (fun a ha => .tail _ (.tail _ ha)) _ _ (Rps.same hs.extBut (.inl (.head _)) _ _ hr)
theorem sndE_DictComp {scope : Scope} {x : Str} {px pk : Pos} {elt iter : Expr} {pos : Pos} (hc : compOk scope sc x = true) (hset : noSet iter = true) (hvx : isVar (relab scope sc) x = true) (hdx : (x == ("__debug__" : Str)) = false)
    {ti : Rho → T (List PV)} {te : Rho → T PV} (hi : SndI sc n iter ti false) (hte : SndE (relab scope sc) n elt te) :
    SndE sc n (.DictComp (.Name x pk) elt [⟨.Name x px, iter, [], 0⟩] scope pos) fun ρ => ((ti ρ).bind fun ds => .chk (decide (ds.length ≤ sizeLine)) (compD te (capt scope sc ρ) x ds [] [])).bind fun r => .ret (.dict r.1 r.2) := fun c O X ad ρ s I Q E h => by
  show wpAny _ _ (comprehension (.DictComp (.Name x pk) elt [⟨.Name x px, iter, [], 0⟩] scope pos) scope c.env _ newDict false (eval iter c.env)) _ _ _
  refine comp_coreD O I hc hset hvx hdx hi hte (use := none) ?_
  have h := T.holds_bind _ (T.holds_bind _ h)
  refine T.holds_mono (fun ds hd => ?_) _ h
  obtain ⟨hl, hd⟩ := T.holds_chk hd
  refine ⟨by simpa using hl, T.holds_mono (fun rs hr D C s' sh => ?_) _ hd⟩
  obtain ⟨m, hn⟩ := sh.ns
  refine ⟨m, hn, fun h' hs => ?_⟩
  obtain ⟨a, b⟩ := sh.last O I hs
  exact hr _ _ a b
end
end Mine
namespace Mine
section
variable {sc : Scope} {n : Nat}
theorem sndX_AssignD {y : Str} {py spos : Pos} {scope : Scope} {x : Str} {px pk : Pos} {elt iter : Expr} {pos : Pos} (hv : isVar sc y = true) (hloc : sc.names.lookup y = some .cell) (hc : compOk scope sc x = true) (hset : noSet iter = true) (hvx : isVar (relab scope sc) x = true) (hdx : (x == ("__debug__" : Str)) = false)
    {ti : Rho → T (List PV)} {te : Rho → T PV} (hi : SndI sc n iter ti false) (hte : SndE (relab scope sc) n elt te) :
    SndX sc n (.Assign [.Name y py] (.DictComp (.Name x pk) elt [⟨.Name x px, iter, [], 0⟩] scope pos) spos) fun ρ => (((ti ρ).bind fun ds => .chk (decide (ds.length ≤ sizeLine)) (compD te (capt scope sc ρ) x ds [] [])).bind fun r => (.ret (.dict r.1 r.2) : T PV)).bind fun d => .ret (setE ρ y (.val d), .next) := fun c O Ap X ad ρ s I Q E h => by
  refine wpAny_Assign_Name (sndE_DictComp hc hset hvx hdx hi hte c O X ad ρ s I _ _ (T.holds_mono (fun d hr => ?_) _ (T.holds_bind _ h))) ?_
  · exact fun v s' xx r => wp_store O Ap ((I.nxt O xx).wo _) hv (e := .val d) .val r fun s₂ I₂ => hr s₂ X ad _ I₂ trivial
  · have hb : (c.env.kindOf y == some .local) = false := by
      rw [O.names, hloc]; rfl
    show (pure (c.env.blockKind == .function && c.env.kindOf y == some .local && py.line == pos.line && !(scope.names.any fun (n, k) => n == y && (k == .local || k == .cell))) : Sem Bool) = _
    rw [hb]; simp
theorem sndX_AssignD' {y z : Str} {py spos : Pos} {scope : Scope} {x : Str} {px pk : Pos} {elt iter : Expr} {pos : Pos} (hz : z = x) (hv : isVar sc y = true) (hloc : (sc.names.lookup y == some .cell) = true) (hc : compOk scope sc x = true) (hset : noSet iter = true) (hvx : isVar (relab scope sc) x = true) (hdx : (x == ("__debug__" : Str)) = false)
    {ti : Rho → T (List PV)} {te : Rho → T PV} (hi : SndI sc n iter ti false) (hte : SndE (relab scope sc) n elt te) :
    SndX sc n (.Assign [.Name y py] (.DictComp (.Name z pk) elt [⟨.Name x px, iter, [], 0⟩] scope pos) spos) fun ρ => (((ti ρ).bind fun ds => .chk (decide (ds.length ≤ sizeLine)) (compD te (capt scope sc ρ) x ds [] [])).bind fun r => (.ret (.dict r.1 r.2) : T PV)).bind fun d => .ret (setE ρ y (.val d), .next) := by
  subst hz; exact sndX_AssignD hv (by simpa using hloc) hc hset hvx hdx hi hte
end
noncomputable def Y7 (n : Nat) (F : FS n) (X : Extra n) : ExtraX n := fun sc st => match st with
  | .Assign [.Name y py] (.DictComp (.Name z pk) elt [⟨.Name x px, iter, [], 0⟩] scope pos) spos =>
    if h : z = x ∧ isVar sc y = true ∧ (sc.names.lookup y == some .cell) = true ∧ compOk scope sc x = true ∧ noSet iter = true ∧ isVar (relab scope sc) x = true ∧ (x == ("__debug__" : Str)) = false then
      some ⟨_, sndX_AssignD' h.1 h.2.1 h.2.2.1 h.2.2.2.1 h.2.2.2.2.1 h.2.2.2.2.2.1 h.2.2.2.2.2.2 (rdI (rd F X 20 sc) iter false).2 (rd F X 20 (relab scope sc) elt).ex.2⟩
    else none
  | _ => none
end Mine
namespace Mine
noncomputable def abv (ups : List Nat) : Nat → Nat → Option (List Nat)
  | 0, _ => none
  | f + 1, v => if v = 0 then some [0] else (ups[v - 1]?).bind fun u => (abv ups f u).map (v :: ·)
noncomputable abbrev abS (n j : Nat) : Rho → T (Rho × Fl) := rsX (F0 n) (X2 n (F0 n)) (Yno n) 7 39 j
noncomputable def abB (n : Nat) : Rho → T (Rho × Fl) := (rdS (rdX (F0 n) (X2 n (F0 n)) (Yno n) 7 19 (scAt 39)) (forBody (bodyAt 39)[1]?)).1
noncomputable def lastL : Rho → T PV := subT (vB "line") fun _ => intE (-1)
theorem ab_st0 (n : Nat) (ρ : Rho) : abS n 0 ρ = ((valE ρ "node").bind fun d => (.ret [d] : T (List PV))).bind fun ds => .chk (decide (ds.length ≤ sizeLine)) (.ret (setE ρ "line" (.own ds), .next)) := by kernel_rfl
theorem ab_st1 (n : Nat) (ρ : Rho) : abS n 1 ρ = whileT (cmT .Gt lastL fun _ => intE 0) (abB n) 7 ρ := by kernel_rfl
theorem ab_b (n : Nat) : abB n = seqT (appT "line" (subT (vB "ups") (binT .Sub lastL fun _ => intE 1))) stop := by kernel_rfl
theorem ab_st2 (n : Nat) (ρ : Rho) : abS n 2 ρ = (valE (frz ρ "line") "line").bind fun d => .ret (frz ρ "line", .ret d) := by kernel_rfl
theorem lastL_holds {ρ : Rho} {p : List Nat} {v : Nat} (h : Has ρ "line" (.own (nats (p ++ [v])))) (hl : p.length ≤ 900) {P : PV → Prop} (hp : P (.int (v : Nat))) : (lastL ρ).Holds P := by
  refine sub_holds (x := .list (nats (p ++ [v]))) (k := .int (-1)) (d := .int (v : Nat)) (fun P h' => by show (valB ρ "line").Holds P; rw [valB_own h]; exact h') (fun P (h' : P (PV.int (-1))) => (show T.Holds P (intE (-1)) from h')) (fun P h' => ?_) hp
  show T.Holds P (.chk (decide ((nats (p ++ [v])).length ≤ sizeLine)) (T.ite (decide ((0 : Int) ≤ -1)) _ (.chk (decide (-((nats (p ++ [v])).length : Int) ≤ -1)) (T.ofOpt (nats (p ++ [v]))[((-1 : Int) + (nats (p ++ [v])).length).toNat]?))))
  have hn : (nats (p ++ [v])).length = p.length + 1 := by simp
  refine T.chk_holds (decide_eq_true (Nat.le_trans (show (nats (p ++ [v])).length ≤ 1000 by omega) (by decide))) ?_
  show T.Holds P (T.chk _ _)
  refine T.chk_holds (decide_eq_true (by omega)) ?_
  rw [hn, show ((-1 : Int) + ((p.length + 1 : Nat) : Int)).toNat = p.length by omega, List.getElem?_map]
  rw [List.getElem?_append_right (Nat.le_refl _)]
  simp
  exact h'
theorem ab_loop (n : Nat) {ups : List Nat} (hu10 : ups.length ≤ 10) {Q : Rho × Fl → Prop} : ∀ (f v : Nat) (p l : List Nat) (ρ : Rho), abv ups f v = some l → p.length + f ≤ 900 → Has ρ "line" (.own (nats (p ++ [v]))) → Has ρ "ups" (.val (.list (nats ups))) →
    (∀ ρ', Has ρ' "line" (.own (nats (p ++ l))) → Q (ρ', .next)) → (whileT (cmT .Gt lastL fun _ => intE 0) (abB n) f ρ).Holds Q
  | 0, v, p, l, ρ, e, hp, J, U, h => by cases e
  | f + 1, v, p, l, ρ, e, hp, J, U, h => by
    have test : ∀ P : Bool → Prop, P (decide (0 < v)) → (cmT .Gt lastL (fun _ => intE 0) ρ).Holds P := fun P hP =>
      cm_holds (x := .int (v : Nat)) (y := .int 0) (fun P h' => lastL_holds J (by omega) h') (fun P (h' : P (PV.int 0)) => (show T.Holds P (intE 0) from h')) (fun P h' => by
        show P (.bool (decide ((v : Int) > 0)))
        have : decide ((v : Int) > 0) = decide (0 < v) := decide_eq_decide.mpr (by omega)
        rw [this]; exact h') hP
    unfold abv at e
    by_cases hv : v = 0
    · rw [if_pos hv] at e
      cases e
      subst hv
      exact while_stop (fun P hP => test P hP) (h ρ J)
    · rw [if_neg hv] at e
      obtain ⟨u, hu, e⟩ := Option.bind_eq_some_iff.mp e
      obtain ⟨l', e', rfl⟩ := Option.map_eq_some_iff.mp e
      refine while_step (fun P hP => test P (by rw [decide_eq_true (by omega)]; exact hP)) ?_
      have hb : ∀ {Q' : Rho × Fl → Prop}, Q' (updE ρ "line" (.own (nats (p ++ [v]) ++ [.int (u : Nat)])), .next) → (abB n ρ).Holds Q' := by
        intro Q' hq
        rw [ab_b]
        refine seq_intro (app_holds (d := .int (u : Nat)) J (by simp; omega) (fun P hP => ?_) hq)
        refine sub_holds (x := .list (nats ups)) (k := .int ((v - 1 : Nat) : Int)) (fun P h' => vB_holds U h') (fun P h' => bin_holds (x := .int (v : Nat)) (y := .int 1) (fun P h' => lastL_holds J (by omega) h') (fun P (h' : P (PV.int 1)) => (show T.Holds P (intE 1) from h')) (fun P h' => ?_) h') (fun P h' => itm_nats hu (by omega) h') hP
        show P (.int ((v : Int) - 1))
        rw [show ((v : Int) - 1) = ((v - 1 : Nat) : Int) by omega]; exact h'
      refine hb ?_
      refine ab_loop n hu10 f u (p ++ [v]) l' _ e' (by simp; omega) ?_ (U.upd_ne (by decide +kernel)) fun ρ' J' => h ρ' (by simpa using J')
      have : nats (p ++ [v] ++ [u]) = nats (p ++ [v]) ++ [.int (u : Nat)] := by simp [nats]
      rw [this]
      exact Has.upd
noncomputable def AbOk (i : Int) (us : List PV) (l : List Nat) : Prop := ∃ (v : Nat) (ups : List Nat), i = v ∧ us = nats ups ∧ ups.length ≤ 10 ∧ abv ups 7 v = some l
open Classical in
noncomputable def abvS : List PV → T PV
  | [.int i, .list us] => if ∃ l, AbOk i us l then .any (fun r => ∃ l, AbOk i us l ∧ r = .list (nats l)) .ret else .fail
  | _ => .fail
noncomputable def abRaw (n : Nat) : List PV → T PV := callT ["node", "ups"] (readX (F0 n) (X2 n (F0 n)) (Yno n) 7 39).1
theorem con_abRaw (n : Nat) : Con "_law_above" (n + 2) (abRaw n) := by
  refine con_readX (k := 19) (n := n) (F := F0 n) (X := X2 n (F0 n)) (Y := Yno n) (W := 7) (ps := ["node", "ups"]) rfl rfl (by refine ⟨?_, ?_, ?_, ?_, ?_, ?_, ?_, ?_, ?_, ?_⟩ <;> kernel_rfl) (by decide +kernel) (by kernel_rfl) ?_
  intro pm vs h
  obtain ⟨v, u, rfl⟩ := two_of h
  kernel_rfl
theorem con_abv (n : Nat) : Con "_law_above" (n + 2) abvS := by
  refine (con_abRaw n).as ?_
  intro ds P h
  unfold abvS at h
  split at h
  · rename_i i us
    split at h
    · rename_i hh
      obtain ⟨l, hl⟩ := hh
      have hP := h _ ⟨l, hl, rfl⟩
      obtain ⟨v, ups, rfl, rfl, h10, e⟩ := hl
      unfold abRaw
      refine callX_holds rfl (rx_holds (by decide +kernel) ?_)
      show T.Holds _ (abS n 0 _)
      have n0 : Has (rho0 ["node", "ups"] [.int (v : Nat), .list (nats ups)]) "node" (.val (.int (v : Nat))) := by kernel_rfl
      have u0 : Has (rho0 ["node", "ups"] [.int (v : Nat), .list (nats ups)]) "ups" (.val (.list (nats ups))) := by kernel_rfl
      generalize rho0 ["node", "ups"] [.int (v : Nat), .list (nats ups)] = ρ at n0 u0
      rw [ab_st0, valE_of n0]
      refine T.bind_holds _ (T.chk_holds (show decide (1 ≤ sizeLine) = true by decide +kernel) ?_)
      show After _ P (setE ρ "line" (.own [.int (v : Nat)]), .next)
      refine rx_holds (by decide +kernel) ?_
      show T.Holds _ (abS n 1 _)
      rw [ab_st1]
      refine ab_loop n h10 7 v [] l _ e (by decide) Has.set (u0.set_ne (by decide +kernel) rfl) fun ρ' J => ?_
      refine rx_holds (by decide +kernel) ?_
      show T.Holds _ (abS n 2 _)
      rw [ab_st2, valE_of J.frz]
      exact hP
    · exact h.elim
  · exact h.elim
end Mine
namespace Mine
noncomputable def FL : FS 7 := ⟨[("_law_spelled", spellS), ("_law_joined", joinedS), ("_law_below", belowS), ("_law_way", waysS), ("_law_above", abvS), ("_law_told", toldS), ("_law_meeting", meetS), ("_law_count", (cntS 7).1), ("_deduplicate", dd1S), ("_compare_args_orderless", cmpS)], fun p hp => by
  simp only [List.mem_cons, List.mem_nil_iff, or_false] at hp
  rcases hp with rfl | rfl | rfl | rfl | rfl | rfl | rfl | rfl | rfl | rfl
  · exact (con_spell 0).mono (by decide)
  · exact (con_joined 0).mono (by decide)
  · exact (con_below 0).mono (by decide)
  · exact (con_ways 0).mono (by decide)
  · exact (con_abv 0).mono (by decide)
  · exact (con_told 0).mono (by decide)
  · exact (con_meet 0).mono (by decide)
  · exact (cntS 7).2
  · exact (con_dedup1 0).mono (by decide)
  · exact (con_cmp 0).mono (by decide)⟩
noncomputable abbrev lwY : ExtraX 7 := Y7 7 FL (X2 7 FL)
noncomputable abbrev lwS (j : Nat) : Rho → T (Rho × Fl) := rsX FL (X2 7 FL) lwY 0 41 j
noncomputable def asgV : PySem.Stmt → Expr | .Assign _ e _ => e | _ => .Name "" default
noncomputable def lcS : Expr → Scope | .ListComp _ _ s _ => s | .DictComp _ _ _ s _ => s | _ => scAt 41
noncomputable def ifTest : PySem.Stmt → Expr | .If t _ _ _ => t | _ => .Name "" default
noncomputable def lcE : Expr → Expr | .ListComp e _ _ _ => e | _ => .Name "" default
noncomputable def itemsT (t : Rho → T PV) (ρ : Rho) : T (List PV) := (t ρ).bind itemsP
noncomputable def rangeT (t : Rho → T PV) (ρ : Rho) : T (List PV) := (t ρ).bind fun d => match d with | .int k => .chk (decide (0 ≤ k) && decide (k ≤ 1000)) (.ret (intsTo k.toNat)) | _ => .fail
noncomputable def lstT (t : Rho → T (List PV)) (ρ : Rho) : T PV := (t ρ).bind fun rs => .ret (.list rs)
noncomputable def asgC (y : Str) (t : Rho → T (List PV)) (ρ : Rho) : T (Rho × Fl) := (t ρ).bind fun rs => .ret (setE ρ y (.val (.list rs)), .next)
noncomputable def call1 (s : List PV → T PV) (a : Rho → T PV) (ρ : Rho) : T PV := ((a ρ).bind fun d => (.ret [] : T (List PV)).bind fun ds => .ret (d :: ds)).bind s
noncomputable def yes : Rho → T Bool := fun _ => .ret true
noncomputable abbrev L41 := scAt 41
noncomputable def sc0 := lcS (asgV (stAt 41 0))
noncomputable def sc2 := lcS (asgV (stAt 41 2))
noncomputable def sc4 := lcS (asgV (stAt 41 4))
theorem lw0 (ρ : Rho) : lwS 0 ρ = asgC "drawn" (compTs (itemsT fun ρ => (valB ρ "script").bind fun d => slcP d none (some 5)) yes (binT .Mod (call1 intP (vE "cell")) (binT .Pow (fun _ => intE 10) fun _ => intE 6)) sc0 L41 "cell") ρ := by kernel_rfl
theorem lw1 (ρ : Rho) : lwS 1 ρ = asgT "numbers" (binT .Add (vB "drawn") fun ρ => (.chk true (.ret (.list [.int 0, .int 3, .int 1, .int 6, .int 2])) : T PV).bind fun d => (((valB ρ "drawn").bind lenP).bind fun d => match d with | .int i => (.ret (some i) : T (Option Int)) | _ => .fail).bind fun x => slcP d x none) ρ := by kernel_rfl
theorem lw2 (ρ : Rho) : lwS 2 ρ = asgC "ups" (compTs (rangeT fun _ => intE 5) yes (binT .Mod (subT (vB "numbers") (vB "place")) (binT .Add (vB "place") fun _ => intE 1)) sc2 L41 "place") ρ := by kernel_rfl
theorem lw3 (ρ : Rho) : lwS 3 ρ = asgT "turn" (call1 sumP (vE "numbers")) (frz ρ "numbers") := by kernel_rfl
theorem lw4 (ρ : Rho) : lwS 4 ρ = asgC "names" (compTs (rangeT fun _ => intE 5) yes (binT .Add (subT (fun _ => strE "a*b?[") (binT .Mod (binT .Add (vB "place") (vB "turn")) fun _ => intE 5)) (call1 chrP (binT .Add (fun _ => intE 48) (binT .Mod (binT .FloorDiv (subT (vB "numbers") (vB "place")) fun _ => intE 60) fun _ => intE 75)))) sc4 L41 "place") ρ := by kernel_rfl
theorem lw5 (ρ : Rho) : lwS 5 ρ = asgT "texts" (call2 spellS (vE "ups") (vE "names")) (frz (frz ρ "ups") "names") := by kernel_rfl
theorem lw6 (ρ : Rho) : lwS 6 ρ = asgT "paths" (call2 joinedS (vE "ups") (vE "names")) (frz (frz ρ "ups") "names") := by kernel_rfl
noncomputable def retF : Rho → T (Rho × Fl) := seqT (fun ρ => (.ret (.bool false) : T PV).bind fun d => .ret (ρ, .ret d)) stop
theorem lw7 (ρ : Rho) : lwS 7 ρ = ifX (cmT .NotEq (vB "paths") (vB "texts")) retF stop ρ := by kernel_rfl
end Mine
namespace Mine
noncomputable def sc8 := lcS (asgV (stAt 41 8))
noncomputable def sc9 := lcS (asgV (stAt 41 9))
noncomputable def cmpR : Expr → Expr | .Compare _ _ [r] _ => r | _ => .Name "" default
noncomputable def sc10e := cmpR (ifTest (stAt 41 10))
noncomputable def sc10 := lcS sc10e
noncomputable def sc10b := lcS (lcE sc10e)
noncomputable def sc11 := lcS (cmpR (ifTest (stAt 41 11)))
noncomputable def dctT (te : Rho → T PV) (ti : Rho → T (List PV)) (s sc : Scope) (x : Str) (ρ : Rho) : T PV := ((ti ρ).bind fun ds => .chk (decide (ds.length ≤ sizeLine)) (compD te (capt s sc ρ) x ds [] [])).bind fun r => (.ret (.dict r.1 r.2) : T PV)
theorem lw8 (ρ : Rho) : lwS 8 ρ = asgT "below" (dctT (call2 belowS (vE "path") (vE "paths")) (itemsT (vB "paths")) sc8 L41 "path") ρ := by kernel_rfl
noncomputable def nilT : Rho → T PV := fun _ => .chk true (.ret (.list []))
theorem lw9 (ρ : Rho) : lwS 9 ρ = asgC "ways" (compTs (itemsT (vB "paths")) (cmT .Eq (subT (vB "below") (vB "path")) nilT) (call1 waysS (vE "path")) sc9 L41 "path") ρ := by kernel_rfl
theorem lw10 (ρ : Rho) : lwS 10 ρ = ifX (cmT .NotEq (vB "ways") (lstT (compTs (rangeT fun _ => intE 6) (cmT .NotIn (vB "leaf") (vB "ups")) (lstT (compTs (itemsT (call2 abvS (vE "leaf") (vE "ups"))) yes (subT (vB "texts") (vB "node")) sc10b (relab sc10 L41) "node")) sc10 L41 "leaf"))) retF stop ρ := by kernel_rfl
theorem lw11 (ρ : Rho) : lwS 11 ρ = ifX (cmT .In (fun _ => .ret (.bool false)) (lstT (compTs (itemsT (vB "ways")) yes (call1 toldS (vE "way")) sc11 L41 "way"))) retF stop ρ := by kernel_rfl
theorem lw12 (ρ : Rho) : lwS 12 ρ = asgT "gates" (call1 meetS (vE "ways")) (frz ρ "ways") := by kernel_rfl
noncomputable def lwB (k : Nat) (ss : List PySem.Stmt) : Rho → T (Rho × Fl) := (rdS (rdX FL (X2 7 FL) lwY 0 k L41) ss).1
noncomputable def gB : List PySem.Stmt := forBody (bodyAt 41)[13]?
noncomputable def gB2 : List PySem.Stmt := forBody (gB[0]? : Option PySem.Stmt)
noncomputable def forX (x y : Str) (b : Rho → T (Rho × Fl)) (ρ : Rho) : T (Rho × Fl) := ((valE ρ y).bind itemsP).bind fun ds => forT b x ds ρ
theorem lw13 (ρ : Rho) : lwS 13 ρ = forX "row" "gates" (lwB 19 gB) (frz ρ "gates") := by kernel_rfl
theorem lw13a : lwB 19 gB = seqT (fun ρ => forX "way" "ways" (lwB 18 gB2) (frz ρ "ways")) stop := by kernel_rfl
noncomputable def lenArg : Expr → Expr | .Compare (.Call _ [a] _ _) _ _ _ => a | _ => .Name "" default
noncomputable def sc13 := lcS (lenArg (ifTest ((gB2[0]?).getD (.Pass default))))
theorem lw13b : lwB 18 gB2 = seqT (ifX (cmT .NotEq (fun ρ => (lstT (compTs (itemsT (vB "row")) (orT (cmT .Eq (vB "spot") (subT (vB "way") fun _ => intE 0)) (cmT .In (subT (vB "way") fun _ => intE 0) (subT (vB "below") (vB "spot")))) (vE "spot") sc13 L41 "spot") ρ).bind lenP) fun _ => intE 1) retF stop) stop := by kernel_rfl
theorem lw14 (ρ : Rho) : lwS 14 ρ = asgT "count" (call2 (cntS 7).1 (fun _ => intE 0) (vE "ups")) (frz ρ "ups") := by kernel_rfl
end Mine
namespace Mine
noncomputable def or2 : Expr → Expr | .BoolOp _ [_, b] _ => b | _ => .Name "" default
noncomputable def cmpL : Expr → Expr | .Compare l _ _ _ => l | _ => .Name "" default
noncomputable def arg1 : Expr → Expr | .Call _ (a :: _) _ _ => a | _ => .Name "" default
noncomputable def arg2 : Expr → Expr | .Call _ [_, b] _ _ => b | _ => .Name "" default
noncomputable def sc15 := lcS (arg1 (arg1 (cmpL (or2 (ifTest (stAt 41 15))))))
noncomputable def retV : PySem.Stmt → Expr | .Return (some e) _ => e | _ => .Name "" default
noncomputable def sc17a := lcS (arg1 (retV (stAt 41 17)))
noncomputable def sc17b := lcS (arg2 (retV (stAt 41 17)))
noncomputable def jnElt (ρ : Rho) : T PV := (.ret (.str " ") : T PV).bind fun d => match d with
      | .str x => .chk (decide (x.length ≤ sizeLine)) ((call1 srtP (vE "row") ρ).bind fun y => joinP x y) | _ => .fail
theorem lw15 (ρ : Rho) : lwS 15 ρ = ifX (orT (cmT .NotEq (fun ρ => (valB ρ "gates").bind lenP) (vB "count")) (cmT .NotEq (fun ρ => (call1 dd1S (lstT (compTs (itemsT (vB "gates")) yes jnElt sc15 L41 "row")) ρ).bind lenP) (vB "count"))) retF stop ρ := by kernel_rfl
theorem lw16 (ρ : Rho) : lwS 16 ρ = asgT "back" (call1 meetS (vE "gates")) (frz ρ "gates") := by kernel_rfl
theorem lw17 (ρ : Rho) : lwS 17 ρ = (call2 cmpS (lstT (compTs (itemsT (vB "back")) yes (call1 srtP (vE "row")) sc17a L41 "row")) (lstT (compTs (itemsT (vB "ways")) yes (call1 srtP (vE "way")) sc17b L41 "way")) ρ).bind fun d => .ret (ρ, .ret d) := by kernel_rfl
noncomputable def lwRaw : List PV → T PV := callT ["script"] (readX FL (X2 7 FL) lwY 0 41).1
theorem con_lwRaw : Con "law" 9 lwRaw := by
  refine con_readX (k := 21) (n := 7) (F := FL) (X := X2 7 FL) (Y := lwY) (W := 0) (ps := ["script"]) rfl rfl (by refine ⟨?_, ?_, ?_, ?_, ?_, ?_, ?_, ?_, ?_, ?_⟩ <;> kernel_rfl) (by decide +kernel) (by kernel_rfl) ?_
  intro pm vs h
  obtain ⟨v, rfl⟩ := one_of h
  kernel_rfl
end Mine
namespace Mine
noncomputable def AntiL (W : List (List Str)) : Prop := ∀ a ∈ W, ∀ b ∈ W, a ⊆ b → b ⊆ a
theorem pair_mem {L : List (List Str)} (h : L.Pairwise fun a b => ¬ a ⊆ b ∧ ¬ b ⊆ a) {a b : List Str} (ha : a ∈ L) (hb : b ∈ L) (hs : a ⊆ b) : a = b := by
  induction h with
  | nil => cases ha
  | cons hd _ ih =>
    rcases List.mem_cons.mp ha with e | ha'
    · rcases List.mem_cons.mp hb with e' | hb'
      · rw [e, e']
      · subst e; exact absurd hs (hd b hb').1
    · rcases List.mem_cons.mp hb with e' | hb'
      · subst e'; exact absurd hs (hd a ha').2
      · exact ih ha' hb'
theorem MinTr.some {W L : List (List Str)} (h : MinTr W L) {r' : List Str} (ht : ∀ r ∈ L, ∃ x ∈ r, x ∈ r') : ∃ w ∈ W, w ⊆ r' := by
  apply Classical.byContradiction
  intro hn
  obtain ⟨r, hr, hx⟩ := h.cov (fun x => x ∉ r') fun w hw => by
    apply Classical.byContradiction
    intro hq
    refine hn ⟨w, hw, fun x hx => ?_⟩
    apply Classical.byContradiction
    intro hxr
    exact hq ⟨x, hx, hxr⟩
  obtain ⟨x, h1, h2⟩ := ht r hr
  exact hx x h1 h2
theorem MinTr.dual {W L L' : List (List Str)} (h : MinTr W L) (h' : MinTr L L') (hW : AntiL W) : (∀ r' ∈ L', ∃ w ∈ W, w ⊆ r' ∧ r' ⊆ w) ∧ ∀ w ∈ W, ∃ r' ∈ L', w ⊆ r' ∧ r' ⊆ w := by
  have key : ∀ w ∈ W, ∃ r' ∈ L', r' ⊆ w := fun w hw => by
    obtain ⟨r', hr', hx⟩ := h'.cov (fun x => x ∈ w) fun r hr => by
      obtain ⟨x, hx1, hx2⟩ := h.tr r hr w hw
      exact ⟨x, hx2, hx1⟩
    exact ⟨r', hr', fun x hx' => hx x hx'⟩
  have key2 : ∀ r' ∈ L', ∃ w ∈ W, w ⊆ r' := fun r' hr' => h.some fun r hr => h'.tr r' hr' r hr
  refine ⟨fun r' hr' => ?_, fun w hw => ?_⟩
  · obtain ⟨w, hw, hs⟩ := key2 r' hr'
    obtain ⟨r2, hr2, hs2⟩ := key w hw
    have := pair_mem h'.anti hr2 hr' (fun x hx => hs (hs2 hx))
    subst this
    exact ⟨w, hw, hs, hs2⟩
  · obtain ⟨r', hr', hs⟩ := key w hw
    obtain ⟨w2, hw2, hs2⟩ := key2 r' hr'
    have := hW w2 hw2 w hw (fun x hx => hs (hs2 hx))
    exact ⟨r', hr', fun x hx => hs2 (this hx), hs⟩
theorem MinTr.crit {W L : List (List Str)} (h : MinTr W L) {r : List Str} (hr : r ∈ L) {x : Str} (hx : x ∈ r) : ∃ w ∈ W, x ∈ w ∧ ∀ y ∈ r, y ∈ w → y = x := by
  apply Classical.byContradiction
  intro hn
  obtain ⟨r2, hr2, hs⟩ := h.cov (fun y => y ∈ r ∧ y ≠ x) fun w hw => by
    obtain ⟨y, hyw, hyr⟩ := h.tr r hr w hw
    by_cases hyx : y = x
    · subst hyx
      apply Classical.byContradiction
      intro hq
      refine hn ⟨w, hw, hyw, fun z hz hzw => ?_⟩
      apply Classical.byContradiction
      intro hne
      exact hq ⟨z, hzw, hz, hne⟩
    · exact ⟨y, hyw, hyr, hyx⟩
  have := pair_mem h.anti hr2 hr (fun y hy => (hs y hy).1)
  subst this
  exact (hs x hx).2 rfl
theorem MinTr.one {W L : List (List Str)} (h : MinTr W L) (above : Str → Str → Prop) (hc : ∀ w ∈ W, ∀ x ∈ w, ∀ y ∈ w, x = y ∨ above x y ∨ above y x) (hup : ∀ x y, above x y → ∀ w ∈ W, y ∈ w → x ∈ w)
    {r : List Str} (hr : r ∈ L) {w : List Str} (hw : w ∈ W) {x y : Str} (hx : x ∈ r) (hxw : x ∈ w) (hy : y ∈ r) (hyw : y ∈ w) : x = y := by
  have key : ∀ x y, x ∈ r → y ∈ r → above x y → x = y := fun x y hx hy ha => by
    obtain ⟨v, hv, hyv, hu⟩ := h.crit hr hy
    exact hu x hx (hup x y ha v hv hyv)
  rcases hc w hw x hxw y hyw with q | q | q
  · exact q
  · exact key x y hx hy q
  · exact (key y x hy hx q).symm
end Mine
namespace Mine
noncomputable def chTab : List Nat := [0, 0, 1, 0, 2, 2, 1, 0, 3, 3, 4, 3, 5, 2, 1, 0, 6, 6, 7, 6, 8, 8, 7, 6, 9, 9, 4, 3, 5, 2, 1, 0]
noncomputable def bits : List Bool → Nat
  | [] => 0
  | b :: r => (if b then 1 else 0) + 2 * bits r
noncomputable def chOf (l : List Bool) : Nat := chTab.getD (bits l) 0
noncomputable def subB : List Bool → List Bool → Bool
  | a :: l, b :: m => (!a || b) && subB l m
  | _, _ => true
theorem ch_cmp : ∀ a b c d e a' b' c' d' e' : Bool, chOf [a, b, c, d, e] = chOf [a', b', c', d', e'] → subB [a, b, c, d, e] [a', b', c', d', e'] = true ∨ subB [a', b', c', d', e'] [a, b, c, d, e] = true := by decide +kernel
theorem ch_lt : ∀ a b c d e : Bool, chOf [a, b, c, d, e] < 10 := by decide +kernel
noncomputable def marks (U r : List Str) : List Bool := U.map fun u => decide (u ∈ r)
theorem sub_marks {U r r' : List Str} (h : subB (marks U r) (marks U r') = true) : ∀ x ∈ r, x ∈ U → x ∈ r' := by
  induction U with
  | nil => intro x _ hU; cases hU
  | cons u U ih =>
    simp only [marks, List.map_cons, subB, Bool.and_eq_true, Bool.or_eq_true, Bool.not_eq_true', decide_eq_true_eq, decide_eq_false_iff_not] at h
    intro x hx hU
    rcases List.mem_cons.mp hU with rfl | hU
    · exact h.1.resolve_left (fun q => q hx)
    · exact ih h.2 x hx hU
theorem five {l : List Bool} (h : l.length = 5) : ∃ a b c d e, l = [a, b, c, d, e] := five_of h
theorem sperner {U : List Str} (hU : U.length = 5) {L : List (List Str)} (ha : L.Pairwise fun a b => ¬ a ⊆ b ∧ ¬ b ⊆ a) (hs : ∀ r ∈ L, ∀ x ∈ r, x ∈ U) : L.length ≤ 10 := by
  have hm : ∀ r, ∃ a b c d e, marks U r = [a, b, c, d, e] := fun r => five (by simp [marks, hU])
  have hcmp : ∀ r ∈ L, ∀ r' ∈ L, chOf (marks U r) = chOf (marks U r') → r ⊆ r' ∨ r' ⊆ r := by
    intro r hr r' hr' e
    obtain ⟨a, b, c, d, e1, q⟩ := hm r
    obtain ⟨a', b', c', d', e1', q'⟩ := hm r'
    rcases ch_cmp a b c d e1 a' b' c' d' e1' (by rw [← q, ← q']; exact e) with h | h
    · rw [← q, ← q'] at h; exact .inl fun x hx => sub_marks h x hx (hs r hr x hx)
    · rw [← q, ← q'] at h; exact .inr fun x hx => sub_marks h x hx (hs r' hr' x hx)
  have hnd : (L.map fun r => chOf (marks U r)).Nodup := by
    unfold List.Nodup
    rw [List.pairwise_map]
    refine ha.imp_of_mem fun {a b} hma hmb h e => ?_
    rcases hcmp a hma b hmb e with q | q
    · exact h.1 q
    · exact h.2 q
  have hsub : (L.map fun r => chOf (marks U r)) ⊆ List.range 10 := by
    intro x hx
    obtain ⟨r, _, rfl⟩ := List.mem_map.mp hx
    obtain ⟨a, b, c, d, e, q⟩ := hm r
    rw [q]
    exact List.mem_range.mpr (ch_lt a b c d e)
  have := nodup_sub_len hnd hsub
  simpa using this
end Mine
namespace Mine
theorem growRow_len {w r : List Str} {k : Nat} (hw : w.length ≤ k) (hk : 1 ≤ k) : (growRow w r).length ≤ k := by
  unfold growRow
  split <;> simp <;> omega
theorem grow_cons (w r : List Str) (L : List (List Str)) : grow w (r :: L) = growRow w r ++ grow w L := rfl
theorem grow_len {w : List Str} {k : Nat} (hw : w.length ≤ k) (hk : 1 ≤ k) : ∀ L, (grow w L).length ≤ k * L.length
  | [] => by simp [grow]
  | r :: L => by
    have := grow_len hw hk L
    have h1 := growRow_len (r := r) hw hk
    rw [grow_cons, List.length_append, List.length_cons, Nat.mul_add]
    omega
theorem grow_len2 {w : List Str} {root : Str} (hr : root ∈ w) (hw : w.length ≤ 6) : ∀ L, (grow w L).length ≤ (L.filter fun r => decide (root ∈ r)).length + 6 * (L.filter fun r => !decide (root ∈ r)).length
  | [] => by simp [grow]
  | r :: L => by
    have ih := grow_len2 hr hw L
    rw [grow_cons, List.length_append]
    by_cases h : root ∈ r
    · have h1 : (growRow w r).length = 1 := by
        unfold growRow
        rw [if_neg]
        · rfl
        · intro q
          have : root ∈ r.filter fun x => decide (x ∈ w) := List.mem_filter.mpr ⟨h, by simpa using hr⟩
          rw [q] at this; cases this
      rw [List.filter_cons_of_pos (by simpa using h), List.filter_cons_of_neg (by simpa using h), List.length_cons]
      omega
    · have h1 := growRow_len (w := w) (r := r) hw (by decide)
      rw [List.filter_cons_of_neg (by simpa using h), List.filter_cons_of_pos (by simpa using h), List.length_cons]
      omega
theorem MinTr.rooted {W L : List (List Str)} (h : MinTr W L) {root : Str} (hroot : ∀ w ∈ W, root ∈ w) : ∃ r0 ∈ L, (∀ x ∈ r0, x = root) ∧ ∀ r ∈ L, root ∈ r → r = r0 := by
  obtain ⟨r0, h0, hs⟩ := h.cov (fun x => x = root) fun w hw => ⟨root, hroot w hw, rfl⟩
  exact ⟨r0, h0, hs, fun r hr hm => (pair_mem h.anti h0 hr fun x hx => (hs x hx) ▸ hm).symm⟩
theorem pair_one {L : List (List Str)} (h : L.Pairwise fun a b => ¬ a ⊆ b ∧ ¬ b ⊆ a) {r0 : List Str} (he : ∀ r ∈ L, r = r0) : L.length ≤ 1 := by
  match L, h, he with
  | [], _, _ => simp
  | [_], _, _ => simp
  | a :: b :: r, h, he =>
    have h1 := (List.pairwise_cons.mp h).1 b (.head _)
    have ea := he a (.head _)
    have eb := he b (.tail _ (.head _))
    rw [ea, eb] at h1
    exact absurd (fun x hx => hx) h1.1
theorem small_ways {W L : List (List Str)} {w U : List Str} {root : Str} (h : MinTr W L) (hroot : ∀ v ∈ W, root ∈ v) (hU : U.length = 5) (hin : ∀ v ∈ W, ∀ x ∈ v, x = root ∨ x ∈ U) (hr : root ∈ w) (hw : w.length ≤ 6) : (grow w L).length < 64 := by
  obtain ⟨r0, h0, hs, hone⟩ := h.rooted hroot
  have hA : (L.filter fun r => decide (root ∈ r)).length ≤ 1 := pair_one (h.anti.sublist (List.filter_sublist)) (r0 := r0) fun r hr => by
    have := List.mem_filter.mp hr
    exact hone r this.1 (by simpa using this.2)
  have hB : (L.filter fun r => !decide (root ∈ r)).length ≤ 10 := sperner hU (h.anti.sublist (List.filter_sublist)) fun r hr x hx => by
    have := List.mem_filter.mp hr
    obtain ⟨v, hv, hxv⟩ := h.el r this.1 x hx
    refine (hin v hv x hxv).resolve_left fun q => ?_
    have h2 : ¬ root ∈ r := by simpa using this.2
    exact h2 (q ▸ hx)
  have := grow_len2 hr hw L
  omega
theorem small_gates {W G L : List (List Str)} {w U : List Str} {root : Str} {i : Nat} (hG : MinTr W G) (hne : W ≠ []) (hroot : ∀ v ∈ W, root ∈ v) (hU : U.length = 5) (hin : ∀ v ∈ W, ∀ x ∈ v, x = root ∨ x ∈ U) (hi : G[i]? = some w) (h : MinTr (G.take i) L) : (grow w L).length < 64 := by
  have hwG : w ∈ G := List.mem_of_getElem? hi
  obtain ⟨r0, h0, hs, hone⟩ := hG.rooted hroot
  have gin : ∀ g ∈ G, ∀ x ∈ g, x = root ∨ x ∈ U := fun g hg x hx => by
    obtain ⟨v, hv, hxv⟩ := hG.el g hg x hx
    exact hin v hv x hxv
  have tsub : ∀ g ∈ G.take i, g ∈ G := fun g hg => List.mem_of_mem_take hg
  -- no row holds the root, or each does
  have hL : L.length ≤ 10 := by
    by_cases hq : ∃ g ∈ G.take i, root ∈ g
    · obtain ⟨g, hg, hgr⟩ := hq
      have eg := hone g (tsub g hg) hgr
      have hall : ∀ r ∈ L, root ∈ r := fun r hr => by
        obtain ⟨x, hxg, hxr⟩ := h.tr r hr g hg
        have := hs x (eg ▸ hxg)
        exact this ▸ hxr
      have hp : (L.map fun r => r.filter fun x => decide (x ≠ root)).Pairwise fun a b => ¬ a ⊆ b ∧ ¬ b ⊆ a := by
        rw [List.pairwise_map]
        refine h.anti.imp_of_mem fun {a b} ha hb hab => ⟨fun q => hab.1 fun x hx => ?_, fun q => hab.2 fun x hx => ?_⟩
        · by_cases e : x = root
          · exact e ▸ hall b hb
          · exact (List.mem_filter.mp (q (List.mem_filter.mpr ⟨hx, by simpa using e⟩))).1
        · by_cases e : x = root
          · exact e ▸ hall a ha
          · exact (List.mem_filter.mp (q (List.mem_filter.mpr ⟨hx, by simpa using e⟩))).1
      have := sperner hU hp fun r hr x hx => by
        obtain ⟨r', hr', rfl⟩ := List.mem_map.mp hr
        have hx' := List.mem_filter.mp hx
        obtain ⟨v, hv, hxv⟩ := h.el r' hr' x hx'.1
        exact (gin v (tsub v hv) x hxv).resolve_left (by simpa using hx'.2)
      simpa using this
    · refine sperner hU h.anti fun r hr x hx => ?_
      obtain ⟨v, hv, hxv⟩ := h.el r hr x hx
      exact (gin v (tsub v hv) x hxv).resolve_left fun e => hq ⟨v, hv, e ▸ hxv⟩
  have hw5 : w.length ≤ 5 := by
    by_cases hr : root ∈ w
    · have : w.length ≤ [root].length := nodup_sub_len (hG.nd w hwG) fun x hx => by
        have e := hone w hwG hr
        rw [hs x (e ▸ hx)]; exact .head _
      simp at this; omega
    · rw [← hU]
      exact nodup_sub_len (hG.nd w hwG) fun x hx => (gin w hwG x hx).resolve_left fun e => hr (e ▸ hx)
  have := grow_len (w := w) (k := 5) hw5 (by decide) L
  omega
end Mine
namespace Mine
noncomputable def istep (acc : List (List Nat)) (u : Nat) : List (List Nat) := acc ++ [acc.getD u [] ++ [acc.length]]
noncomputable def idsL (ups : List Nat) : List (List Nat) := ups.foldl istep [[]]
noncomputable def nameOf (names : List (List Nat)) (k : Nat) : List Nat := names.getD (k - 1) []
noncomputable def tnL (names : List (List Nat)) (ids : List Nat) : List Nat := txN (ids.map (nameOf names))
noncomputable def tpL (names : List (List Nat)) (ids : List Nat) : List Nat := pth (ids.map (nameOf names))
theorem idsL_len (ups : List Nat) : (idsL ups).length = ups.length + 1 := by
  have : ∀ (z : List Nat) (a : List (List Nat)), (z.foldl istep a).length = a.length + z.length := by
    intro z
    induction z with
    | nil => simp
    | cons p z ih => intro a; rw [List.foldl_cons, ih]; simp [istep]; omega
  rw [idsL, this]; simp; omega
theorem idsL_step {ups : List Nat} {i u : Nat} (h : ups[i]? = some u) : idsL (ups.take (i + 1)) = istep (idsL (ups.take i)) u := by
  unfold idsL; rw [take_step h, List.foldl_append]; rfl
theorem idsL_head (ups : List Nat) : ∃ tl, idsL ups = [] :: tl ∧ ∀ x ∈ tl, x ≠ [] := by
  have : ∀ (z : List Nat) (tl : List (List Nat)), (∀ x ∈ tl, x ≠ []) → ∃ tl', z.foldl istep ([] :: tl) = [] :: tl' ∧ ∀ x ∈ tl', x ≠ [] := by
    intro z
    induction z with
    | nil => intro tl h; exact ⟨tl, rfl, h⟩
    | cons p z ih =>
      intro tl h
      rw [List.foldl_cons]
      exact ih (tl ++ [([] :: tl).getD p [] ++ [([] :: tl).length]]) fun x hx => by
        rcases List.mem_append.mp hx with hx | hx
        · exact h x hx
        · rw [List.mem_singleton.mp hx]; simp
  exact this ups [] (fun _ h => nomatch h)
theorem getD_map' {α β : Type} {f : α → β} {l : List α} {i : Nat} {d : α} {e : β} (h : i < l.length) : (l.map f).getD i e = f (l.getD i d) := by
  simp [List.getD_eq_getElem?_getD, List.getElem?_map, List.getElem?_eq_getElem h]
theorem sacc_ids {z : Tree} (ok : JOk z) : ∀ i, i ≤ z.length → sacc (z.take i) = (idsL ((z.map (·.1)).take i)).map (tnL (z.map (·.2)))
  | 0, _ => by simp [sacc, idsL, tnL, txN]
  | i + 1, hi => by
    have hp : z[i]? = some z[i] := List.getElem?_eq_getElem hi
    have hpu : (z.map (·.1))[i]? = some z[i].1 := by rw [List.getElem?_map, hp]; rfl
    have ih := sacc_ids ok i (by omega)
    have hlen : (idsL ((z.map (·.1)).take i)).length = i + 1 := by rw [idsL_len, List.length_take, List.length_map]; omega
    have hu := ok.2.1 i _ hp
    rw [sacc_step hp, idsL_step hpu, ih]
    unfold sstep istep
    rw [List.map_append, getD_map' (d := []) (by omega)]
    congr 1
    rw [hlen]
    simp only [List.map_cons, List.map_nil]
    congr 1
    unfold tnL
    rw [List.map_append, List.map_cons, List.map_nil, txN_concat]
    congr 2
    unfold nameOf
    simp [List.getD_eq_getElem?_getD, hp]
noncomputable def NmsOk (names : List (List Nat)) : Prop := ∀ m ∈ names, NmOk m
theorem joinL_pth {ns : List (List Nat)} {m : List Nat} (h : ∀ a ∈ ns, NmOk a) (hm : NmOk m) : joinL (pth ns) m = pth (ns ++ [m]) := by
  have h0 : ¬ (m[0]? = some 47 ∨ pth ns = []) := by
    rintro (q | q)
    · exact hm.2.1 (List.mem_of_getElem? q)
    · unfold pth at q
      split at q
      · cases q
      · rename_i hne
        cases ns with
        | nil => exact hne rfl
        | cons a r => simp [txN] at q
  have e : pth (ns ++ [m]) = txN ns ++ 47 :: m := by unfold pth; rw [if_neg (by simp), txN_concat]
  unfold joinL
  rw [if_neg h0, e]
  by_cases hn : ns = []
  · subst hn
    have : pth [] = [47] := rfl
    rw [this, if_pos (show ([47] : List Nat).getLast? = some 47 from rfl)]; rfl
  · have hp : pth ns = txN ns := by unfold pth; rw [if_neg hn]
    rw [hp, if_neg (txN_last hn h)]
theorem ids_in (ups : List Nat) : ∀ x ∈ idsL ups, ∀ k ∈ x, 1 ≤ k ∧ k ≤ ups.length := by
  have : ∀ (z : List Nat) (a : List (List Nat)) (n : Nat), 1 ≤ a.length → a.length + z.length ≤ n + 1 → (∀ x ∈ a, ∀ k ∈ x, 1 ≤ k ∧ k ≤ n) → ∀ x ∈ z.foldl istep a, ∀ k ∈ x, 1 ≤ k ∧ k ≤ n := by
    intro z
    induction z with
    | nil => intro a n h1 h2 h; exact h
    | cons u z ih =>
      intro a n h1 h2 h
      rw [List.foldl_cons]
      simp only [List.length_cons] at h2
      refine ih (istep a u) n (by simp [istep]) (by simp [istep]; omega) fun x hx k hk => ?_
      rcases List.mem_append.mp hx with hx | hx
      · exact h x hx k hk
      · rw [List.mem_singleton.mp hx] at hk
        rcases List.mem_append.mp hk with hk | hk
        · by_cases hu : u < a.length
          · exact h _ (getD_mem hu) k hk
          · rw [List.getD_eq_getElem?_getD, List.getElem?_eq_none (by omega)] at hk; cases hk
        · rw [List.mem_singleton.mp hk]; omega
  exact fun x hx k hk => this ups [[]] ups.length (by simp) (by simp; omega) (fun x hx k hk => by rw [List.mem_singleton.mp hx] at hk; cases hk) x hx k hk
theorem nameOf_ok {names : List (List Nat)} (h : NmsOk names) {k : Nat} (h1 : 1 ≤ k) (h2 : k ≤ names.length) : NmOk (nameOf names k) := h _ (getD_mem (by omega))
theorem jacc_ids {z : Tree} (ok : JOk z) (hn : NmsOk (z.map (·.2))) : ∀ i, i ≤ z.length → jacc (z.take i) = (idsL ((z.map (·.1)).take i)).map (tpL (z.map (·.2)))
  | 0, _ => by simp [jacc, idsL, tpL, pth]
  | i + 1, hi => by
    have hp : z[i]? = some z[i] := List.getElem?_eq_getElem hi
    have hpu : (z.map (·.1))[i]? = some z[i].1 := by rw [List.getElem?_map, hp]; rfl
    have ih := jacc_ids ok hn i (by omega)
    have hlen : (idsL ((z.map (·.1)).take i)).length = i + 1 := by rw [idsL_len, List.length_take, List.length_map]; omega
    have hu := ok.2.1 i _ hp
    have hin := ids_in ((z.map (·.1)).take i)
    have hmem := getD_mem (l := idsL ((z.map (·.1)).take i)) (d := []) (i := z[i].1) (by omega)
    have hnm : NmOk z[i].2 := hn _ (List.mem_map_of_mem (f := (·.2)) (List.getElem_mem hi))
    rw [jacc_step hp, idsL_step hpu, ih]
    unfold jstep istep
    rw [List.map_append, getD_map' (d := []) (by omega)]
    congr 1
    rw [hlen]
    simp only [List.map_cons, List.map_nil]
    congr 1
    unfold tpL
    rw [joinL_pth (fun a ha => ?_) hnm, List.map_append, List.map_cons, List.map_nil]
    · congr 3
      unfold nameOf
      simp [List.getD_eq_getElem?_getD, hp]
    · obtain ⟨k, hk, rfl⟩ := List.mem_map.mp ha
      have := hin _ hmem k hk
      rw [List.length_take, List.length_map] at this
      exact nameOf_ok hn this.1 (by rw [List.length_map]; omega)
theorem spells_ids {z : Tree} (ok : JOk z) : spells z = (idsL (z.map (·.1))).map (tpL (z.map (·.2))) := by
  have h := sacc_ids ok z.length (Nat.le_refl _)
  rw [List.take_length, List.take_of_length_le (by simp)] at h
  unfold spells
  rw [h]
  obtain ⟨tl, e, hne⟩ := idsL_head (z.map (·.1))
  rw [e]
  simp only [List.map_cons, List.drop_succ_cons, List.drop_zero]
  congr 1
  refine List.map_congr_left fun x hx => ?_
  unfold tnL tpL pth
  rw [if_neg]
  intro q
  exact hne x hx (List.map_eq_nil_iff.mp q)
theorem joined_ids {z : Tree} (ok : JOk z) (hn : NmsOk (z.map (·.2))) : jacc z = (idsL (z.map (·.1))).map (tpL (z.map (·.2))) := by
  have h := jacc_ids ok hn z.length (Nat.le_refl _)
  rwa [List.take_length, List.take_of_length_le (by simp)] at h
end Mine
namespace Mine
structure TwoOk (names : List (List Nat)) : Prop where
  two : ∀ m ∈ names, m.length = 2 ∧ 47 ∉ m
  nd : names.Nodup
theorem TwoOk.nms {names : List (List Nat)} (h : TwoOk names) : NmsOk names := fun m hm => ⟨fun e => (by have := (h.two m hm).1; rw [e] at this; cases this), (h.two m hm).2, by have := (h.two m hm).1; omega⟩
noncomputable def InT (names : List (List Nat)) (l : List Nat) : Prop := ∀ k ∈ l, 1 ≤ k ∧ k ≤ names.length
section
variable {names : List (List Nat)}
theorem name_mem {k : Nat} (h : 1 ≤ k ∧ k ≤ names.length) : nameOf names k ∈ names := getD_mem (by omega)
theorem name_inj (h : TwoOk names) {k k' : Nat} (hk : 1 ≤ k ∧ k ≤ names.length) (hk' : 1 ≤ k' ∧ k' ≤ names.length) (e : nameOf names k = nameOf names k') : k = k' := by
  unfold nameOf at e
  rw [List.getD_eq_getElem?_getD, List.getD_eq_getElem?_getD, List.getElem?_eq_getElem (by omega), List.getElem?_eq_getElem (by omega)] at e
  have := (List.getElem_inj h.nd (h₀ := by omega) (h₁ := by omega)).mp e
  omega
theorem tnL_cons (k : Nat) (l : List Nat) : tnL names (k :: l) = (47 :: nameOf names k) ++ tnL names l := by simp [tnL, txN]
theorem pre_app {α : Type} {a b c d : List α} (h : a.length = b.length) : (a ++ c <+: b ++ d) ↔ a = b ∧ c <+: d := by
  constructor
  · rintro ⟨t, ht⟩
    rw [List.append_assoc] at ht
    obtain ⟨h1, h2⟩ := List.append_inj ht h
    exact ⟨h1, t, h2⟩
  · rintro ⟨rfl, t, rfl⟩
    exact ⟨t, by simp⟩
theorem blk_len (h : TwoOk names) {k : Nat} (hk : 1 ≤ k ∧ k ≤ names.length) : (47 :: nameOf names k).length = 3 := by
  have := (h.two _ (name_mem hk)).1
  simp [this]
theorem tn_pre (h : TwoOk names) : ∀ (l m : List Nat), InT names l → InT names m → ((tnL names l ++ [47] <+: tnL names m) ↔ (l <+: m ∧ l ≠ m))
  | [], [], _, _ => by simp [tnL, txN]
  | [], y :: m, _, _ => by
    rw [tnL_cons]
    simp [tnL, txN]
  | x :: l, [], _, _ => by
    rw [tnL_cons]
    simp [tnL, txN]
  | x :: l, y :: m, hl, hm => by
    have hx := hl x (.head _)
    have hy := hm y (.head _)
    rw [tnL_cons, tnL_cons, List.append_assoc, pre_app (by rw [blk_len h hx, blk_len h hy]), tn_pre h l m (fun k hk => hl k (.tail _ hk)) (fun k hk => hm k (.tail _ hk)), List.cons_prefix_cons]
    constructor
    · rintro ⟨e, h1, h2⟩
      have : x = y := name_inj h hx hy (List.cons.inj e).2
      subst this
      exact ⟨⟨rfl, h1⟩, fun q => h2 (List.cons.inj q).2⟩
    · rintro ⟨⟨rfl, h1⟩, h2⟩
      exact ⟨rfl, h1, fun q => h2 (by rw [q])⟩
theorem tn_inj (h : TwoOk names) : ∀ {l m : List Nat}, InT names l → InT names m → tnL names l = tnL names m → l = m
  | [], [], _, _, _ => rfl
  | [], y :: m, _, _, e => by rw [tnL_cons] at e; simp [tnL, txN] at e
  | x :: l, [], _, _, e => by rw [tnL_cons] at e; simp [tnL, txN] at e
  | x :: l, y :: m, hl, hm, e => by
    have hx := hl x (.head _)
    have hy := hm y (.head _)
    rw [tnL_cons, tnL_cons] at e
    obtain ⟨e1, e2⟩ := List.append_inj e (by rw [blk_len h hx, blk_len h hy])
    rw [name_inj h hx hy (List.cons.inj e1).2, tn_inj h (fun k hk => hl k (.tail _ hk)) (fun k hk => hm k (.tail _ hk)) e2]
theorem tn_len (h : TwoOk names) : ∀ {l : List Nat}, InT names l → (tnL names l).length = 3 * l.length
  | [], _ => rfl
  | x :: l, hl => by
    rw [tnL_cons, List.length_append, blk_len h (hl x (.head _)), tn_len h fun k hk => hl k (.tail _ hk), List.length_cons]; omega
theorem tp_nil : tpL names [] = [47] := rfl
theorem tp_cons {l : List Nat} (h : l ≠ []) : tpL names l = tnL names l := by
  unfold tpL pth
  rw [if_neg (by simpa using h)]; rfl
theorem tp_inj (h : TwoOk names) {l m : List Nat} (hl : InT names l) (hm : InT names m) (e : tpL names l = tpL names m) : l = m := by
  by_cases h1 : l = [] <;> by_cases h2 : m = []
  · rw [h1, h2]
  · subst h1
    rw [tp_nil, tp_cons h2] at e
    have := congrArg List.length e
    rw [tn_len h hm] at this
    simp at this
    omega
  · subst h2
    rw [tp_nil, tp_cons h1] at e
    have := congrArg List.length e
    rw [tn_len h hl] at this
    simp at this
    omega
  · rw [tp_cons h1, tp_cons h2] at e
    exact tn_inj h hl hm e
theorem names_map {l : List Nat} (h : TwoOk names) (hl : InT names l) : ∀ a ∈ l.map (nameOf names), NmOk a := fun a ha => by
  obtain ⟨k, hk, rfl⟩ := List.mem_map.mp ha
  exact nameOf_ok h.nms (hl k hk).1 (hl k hk).2
theorem inside_tp (h : TwoOk names) {l : List Nat} (hl : InT names l) : insideL (tpL names l) = tnL names l ++ [47] := by
  unfold insideL
  by_cases h1 : l = []
  · subst h1; rfl
  · rw [tp_cons h1, if_neg]
    exact txN_last (by simpa using h1) (names_map h hl)
theorem below_tp (h : TwoOk names) {l m : List Nat} (hl : InT names l) (hm : InT names m) : (tpL names m ≠ tpL names l ∧ insideL (tpL names l) <+: tpL names m) ↔ (l <+: m ∧ l ≠ m) := by
  rw [inside_tp h hl]
  by_cases h2 : m = []
  · subst h2
    rw [tp_nil]
    constructor
    · rintro ⟨h1, hp⟩
      have := hp.length_le
      rw [List.length_append, tn_len h hl] at this
      have : l = [] := List.length_eq_zero_iff.mp (by simp at this; omega)
      subst this
      exact absurd rfl h1
    · rintro ⟨h1, h3⟩
      exact absurd (List.prefix_nil.mp h1) h3
  · rw [tp_cons h2, tn_pre h l m hl hm]
    constructor
    · exact fun q => q.2
    · intro q
      refine ⟨fun e => q.2 ?_, q⟩
      rw [← tp_cons h2] at e
      exact (tp_inj h hm hl e).symm
noncomputable def wayIds (l : List Nat) : List (List Nat) := (List.range (l.length + 1)).map fun k => l.take (l.length - k)
theorem wayOf_ids (l : List Nat) : wayOf (l.map (nameOf names)) = (wayIds l).map (tpL names) := by
  unfold wayOf wayUp wayIds tpL
  rw [List.map_map, List.length_map]
  refine List.map_congr_left fun k _ => ?_
  simp [Function.comp, List.map_take]
theorem mem_wayIds {l x : List Nat} : x ∈ wayIds l ↔ x <+: l := by
  unfold wayIds
  rw [List.mem_map]
  constructor
  · rintro ⟨k, _, rfl⟩; exact List.take_prefix _ _
  · intro h
    refine ⟨l.length - x.length, List.mem_range.mpr (by omega), ?_⟩
    have := h.length_le
    rw [Nat.sub_sub_self this]
    exact (List.prefix_iff_eq_take.mp h).symm
end
end Mine
namespace Mine
noncomputable def hit : List Bool → List Bool → Bool
  | a :: l, b :: m => (a && b) || hit l m
  | _, _ => false
noncomputable def minB (ws : List (List Bool)) (S : List Bool) : Bool := ws.all (hit S) && (List.range S.length).all fun j => !(S.getD j false) || !(ws.all (hit (S.set j false)))
noncomputable def allB : Nat → List (List Bool)
  | 0 => [[]]
  | n + 1 => (allB n).map (false :: ·) ++ (allB n).map (true :: ·)
noncomputable def leavesI (I : List (List Nat)) : List (List Nat) := I.filter fun a => I.all fun b => !(a.isPrefixOf b && a != b)
noncomputable def wayB (I : List (List Nat)) (a : List Nat) : List Bool := I.map fun x => x.isPrefixOf a
noncomputable def chkA (ups : List Nat) : Bool :=
  let I := idsL ups
  ((List.range 6).filter fun n => !ups.contains n).map (fun n => (abv ups 7 n).map fun l => l.map (I.getD · [])) == (leavesI I).map fun a => some (wayIds a)
noncomputable def chkB (ups : List Nat) : Bool :=
  let I := idsL ups
  let ws := (leavesI I).map (wayB I)
  cntO 7 0 ups == some (((allB 6).filter (minB ws)).length)
theorem chkA_all : ∀ a < 2, ∀ b < 3, ∀ c < 4, ∀ d < 5, chkA [0, a, b, c, d] = true := by decide +kernel
theorem chkB_all : ∀ a < 2, ∀ b < 3, ∀ c < 4, ∀ d < 5, chkB [0, a, b, c, d] = true := by decide +kernel
end Mine
namespace Mine
theorem mem_allB : ∀ {n : Nat} {S : List Bool}, S ∈ allB n ↔ S.length = n
  | 0, S => by simp [allB]
  | n + 1, S => by
    unfold allB
    cases S with
    | nil => simp
    | cons b S =>
      rw [List.mem_append, List.mem_map, List.mem_map, List.length_cons]
      constructor
      · rintro (⟨x, hx, e⟩ | ⟨x, hx, e⟩) <;> cases e <;> rw [mem_allB.mp hx]
      · intro h
        have := mem_allB.mpr (Nat.succ.inj h)
        cases b with
        | false => exact .inl ⟨S, this, rfl⟩
        | true => exact .inr ⟨S, this, rfl⟩
theorem allB_nd : ∀ n, (allB n).Nodup
  | 0 => by simp [allB]
  | n + 1 => by
    unfold allB
    have ih := allB_nd n
    refine List.nodup_append.mpr ⟨?_, ?_, ?_⟩
    · unfold List.Nodup; rw [List.pairwise_map]; exact ih.imp fun h e => h (List.cons.inj e).2
    · unfold List.Nodup; rw [List.pairwise_map]; exact ih.imp fun h e => h (List.cons.inj e).2
    · intro a ha b hb e
      obtain ⟨x, _, rfl⟩ := List.mem_map.mp ha
      obtain ⟨y, _, rfl⟩ := List.mem_map.mp hb
      cases e
theorem hit_marks : ∀ {U : List Str} {S : List Bool} {w : List Str}, hit S (marks U w) = true ↔ ∃ (j : Nat) (u : Str), U[j]? = some u ∧ S[j]? = some true ∧ u ∈ w
  | [], S, w => by
    constructor
    · intro h; cases S <;> simp [marks, hit] at h
    · rintro ⟨j, u, h, _⟩; simp at h
  | v :: U, [], w => by
    constructor
    · intro h; simp [marks, hit] at h
    · rintro ⟨j, u, _, h, _⟩; simp at h
  | v :: U, b :: S, w => by
    have ih := hit_marks (U := U) (S := S) (w := w)
    simp only [marks, List.map_cons, hit, Bool.or_eq_true, Bool.and_eq_true, decide_eq_true_eq]
    constructor
    · rintro (⟨hb, hv⟩ | h)
      · exact ⟨0, v, rfl, by rw [hb]; rfl, hv⟩
      · obtain ⟨j, u, h1, h2, h3⟩ := ih.mp h
        exact ⟨j + 1, u, h1, h2, h3⟩
    · rintro ⟨j, u, h1, h2, h3⟩
      cases j with
      | zero =>
        simp at h1 h2
        exact .inl ⟨h2, h1 ▸ h3⟩
      | succ j => exact .inr (ih.mpr ⟨j, u, by simpa using h1, by simpa using h2, h3⟩)
theorem marks_at {U r : List Str} {j : Nat} {u : Str} (h : U[j]? = some u) : (marks U r)[j]? = some (decide (u ∈ r)) := by
  unfold marks; rw [List.getElem?_map, h]; rfl
theorem nd_at {U : List Str} (h : U.Nodup) {i j : Nat} {u : Str} (hi : U[i]? = some u) (hj : U[j]? = some u) : i = j := by
  obtain ⟨h1, e1⟩ := List.getElem?_eq_some_iff.mp hi
  obtain ⟨h2, e2⟩ := List.getElem?_eq_some_iff.mp hj
  exact (List.getElem_inj h (h₀ := h1) (h₁ := h2)).mp (e1.trans e2.symm)
theorem set_at {S : List Bool} {i j : Nat} : (S.set j false)[i]? = some true ↔ S[i]? = some true ∧ i ≠ j := by
  rw [List.getElem?_set]
  by_cases h : j = i
  · subst h
    rw [if_pos rfl]
    split <;> simp
  · rw [if_neg h]
    constructor
    · exact fun q => ⟨q, fun e => h e.symm⟩
    · exact fun q => q.1
theorem minTr_count {W L : List (List Str)} {U : List Str} (h : MinTr W L) (hU : U.Nodup) (hW : ∀ w ∈ W, ∀ x ∈ w, x ∈ U) : L.length = ((allB U.length).filter (minB (W.map (marks U)))).length := by
  have hall : ∀ S : List Bool, (W.map (marks U)).all (hit S) = true ↔ ∀ w ∈ W, ∃ (j : Nat) (u : Str), U[j]? = some u ∧ S[j]? = some true ∧ u ∈ w := by
    intro S
    rw [List.all_eq_true]
    constructor
    · intro q w hw; exact hit_marks.mp (q _ (List.mem_map_of_mem hw))
    · intro q x hx
      obtain ⟨w, hw, rfl⟩ := List.mem_map.mp hx
      exact hit_marks.mpr (q w hw)
  have inU : ∀ r ∈ L, ∀ x ∈ r, x ∈ U := fun r hr x hx => let ⟨w, hw, hxw⟩ := h.el r hr x hx; hW w hw x hxw
  have at' : ∀ x ∈ U, ∃ j : Nat, U[j]? = some x := fun x hx => List.getElem?_of_mem hx
  have hnd : (L.map (marks U)).Nodup := by
    unfold List.Nodup
    rw [List.pairwise_map]
    refine h.anti.imp_of_mem fun {a b} ha hb hab e => hab.1 fun x hx => ?_
    obtain ⟨j, hj⟩ := at' x (inU a ha x hx)
    have h1 := marks_at (r := a) hj
    have h2 := marks_at (r := b) hj
    rw [e, h2] at h1
    simpa [hx] using h1
  have h1 : L.map (marks U) ⊆ (allB U.length).filter (minB (W.map (marks U))) := by
    intro S hS
    obtain ⟨r, hr, rfl⟩ := List.mem_map.mp hS
    refine List.mem_filter.mpr ⟨mem_allB.mpr (by simp [marks]), ?_⟩
    unfold minB
    rw [Bool.and_eq_true]
    refine ⟨(hall _).mpr fun w hw => ?_, List.all_eq_true.mpr fun j hj => ?_⟩
    · obtain ⟨x, hxw, hxr⟩ := h.tr r hr w hw
      obtain ⟨j, hj⟩ := at' x (hW w hw x hxw)
      exact ⟨j, x, hj, by rw [marks_at hj, decide_eq_true hxr], hxw⟩
    · rw [Bool.or_eq_true, Bool.not_eq_true', Bool.not_eq_true']
      have hj := List.mem_range.mp hj
      have hju : j < U.length := by simpa [marks] using hj
      have hu : U[j]? = some U[j] := List.getElem?_eq_getElem hju
      by_cases hm : U[j] ∈ r
      · refine .inr ?_
        rw [← Bool.not_eq_true]
        intro q
        obtain ⟨w, hw, hxw, honly⟩ := h.crit hr hm
        obtain ⟨i, u, h1, h2, h3⟩ := (hall _).mp q w hw
        have h2' := set_at.mp h2
        rw [marks_at h1] at h2'
        have hur : u ∈ r := by simpa using h2'.1
        have := honly u hur h3
        subst this
        exact h2'.2 (nd_at hU h1 hu)
      · refine .inl ?_
        rw [List.getD_eq_getElem?_getD, marks_at hu]
        simp [hm]
  have h2 : (allB U.length).filter (minB (W.map (marks U))) ⊆ L.map (marks U) := by
    intro S hS
    obtain ⟨hlen, hmin⟩ := List.mem_filter.mp hS
    have hlen := mem_allB.mp hlen
    unfold minB at hmin
    rw [Bool.and_eq_true] at hmin
    obtain ⟨r, hr, hs⟩ := h.cov (fun x => ∃ j : Nat, U[j]? = some x ∧ S[j]? = some true) fun w hw => by
      obtain ⟨j, u, h1, h2, h3⟩ := (hall S).mp hmin.1 w hw
      exact ⟨u, h3, j, h1, h2⟩
    refine List.mem_map.mpr ⟨r, hr, ?_⟩
    refine List.ext_getElem? fun j => ?_
    by_cases hju : j < U.length
    · have hu : U[j]? = some U[j] := List.getElem?_eq_getElem hju
      rw [marks_at hu]
      have hSj : S[j]? = some S[j] := List.getElem?_eq_getElem (by omega)
      rw [hSj]
      congr 1
      rw [Bool.eq_iff_iff, decide_eq_true_iff]
      constructor
      · intro hm
        obtain ⟨i, h1, h2⟩ := hs _ hm
        have := nd_at hU h1 hu
        subst this
        rw [hSj] at h2
        exact Option.some.inj h2
      · intro hq
        apply Classical.byContradiction
        intro hm
        have hj := List.all_eq_true.mp hmin.2 j (List.mem_range.mpr (by omega))
        rw [Bool.or_eq_true, Bool.not_eq_true', Bool.not_eq_true'] at hj
        rcases hj with hj | hj
        · rw [List.getD_eq_getElem?_getD, hSj] at hj
          rw [hq] at hj; cases hj
        · have : (W.map (marks U)).all (hit (S.set j false)) = true := (hall _).mpr fun w hw => by
            obtain ⟨x, hxw, hxr⟩ := h.tr r hr w hw
            obtain ⟨i, h1, h2⟩ := hs x hxr
            refine ⟨i, x, h1, set_at.mpr ⟨h2, fun e => ?_⟩, hxw⟩
            subst e
            rw [hu] at h1
            exact hm (Option.some.inj h1 ▸ hxr)
          rw [this] at hj; cases hj
    · rw [List.getElem?_eq_none (by simp [marks]; omega), List.getElem?_eq_none (by omega)]
  have e1 := nodup_sub_len hnd h1
  have e2 := nodup_sub_len ((allB_nd U.length).filter _) h2
  rw [List.length_map] at e1 e2
  omega
end Mine
namespace Mine
noncomputable def leS (a b : Str) : Prop := ¬ (b.cps.toList < a.cps.toList)
theorem leS_trans {a b c : Str} (h1 : leS a b) (h2 : leS b c) : leS a c := by
  unfold leS at *
  rw [List.not_lt] at *
  exact List.le_trans h1 h2
theorem leS_anti {a b : Str} (h1 : leS a b) (h2 : leS b a) : a = b := by
  unfold leS at *
  rw [List.not_lt] at *
  have := List.le_antisymm h1 h2
  rw [tx_of a, tx_of b, this]
theorem rising_pair : ∀ (p : Str) (l : List Str), risingS p l = true → (p :: l).Pairwise leS
  | p, [], _ => by simp
  | p, x :: r, h => by
    simp only [risingS, Bool.and_eq_true, Bool.not_eq_true'] at h
    have h1 : leS p x := by
      unfold leS
      rw [ltCps_eq] at h
      simpa using h.1
    have h2 := rising_pair x r h.2
    refine List.pairwise_cons.mpr ⟨fun y hy => ?_, h2⟩
    rcases List.mem_cons.mp hy with rfl | hy
    · exact h1
    · exact leS_trans h1 ((List.pairwise_cons.mp h2).1 y hy)
theorem sorted_pair {l : List Str} (h : sortedS l = true) : l.Pairwise leS := by
  cases l with
  | nil => simp
  | cons x r => exact rising_pair x r h
theorem sort_unique : ∀ {l m : List Str}, l.Pairwise leS → m.Pairwise leS → l.Perm m → l = m
  | [], m, _, _, p => (List.nil_perm.mp p).symm
  | a :: l, m, h1, h2, p => by
    cases m with
    | nil => exact absurd p (by simp)
    | cons b m =>
      have hab : a = b := by
        have ha : a ∈ b :: m := p.mem_iff.mp (.head _)
        have hb : b ∈ a :: l := p.mem_iff.mpr (.head _)
        rcases List.mem_cons.mp ha with e | ha
        · exact e
        · rcases List.mem_cons.mp hb with e | hb
          · exact e.symm
          · exact leS_anti ((List.pairwise_cons.mp h1).1 b hb) ((List.pairwise_cons.mp h2).1 a ha)
      subst hab
      rw [sort_unique (List.pairwise_cons.mp h1).2 (List.pairwise_cons.mp h2).2 (List.Perm.cons_inv p)]
theorem sortedS_unique {l m : List Str} (h1 : sortedS l = true) (h2 : sortedS m = true) (p : l.Perm m) : l = m := sort_unique (sorted_pair h1) (sorted_pair h2) p
noncomputable def NoSp (x : Str) : Prop := 32 ∉ x.cps.toList ∧ x.cps.toList ≠ []
noncomputable def joinN : List (List Nat) → List Nat
  | [] => []
  | [x] => x
  | x :: y :: r => x ++ 32 :: joinN (y :: r)
theorem join_sp : ∀ (ls : List (List Nat)), Str.join " " (ls.map tx) = tx (joinN ls)
  | [] => by decide +kernel
  | [x] => rfl
  | x :: y :: r => by
    have ih := join_sp (y :: r)
    have e : Str.join " " ((x :: y :: r).map tx) = tx x ++ (" " : Str) ++ Str.join " " ((y :: r).map tx) := by
      simp only [List.map_cons, Str.join]
    rw [e, ih, show (" " : Str) = tx [32] by decide +kernel, tx_app, tx_app]
    simp [joinN]
theorem cut_eq {a b c d : List Nat} (ha : 32 ∉ a) (hb : 32 ∉ b) (h : a ++ 32 :: c = b ++ 32 :: d) : a = b ∧ c = d := by
  induction a generalizing b with
  | nil =>
    cases b with
    | nil => simpa using h
    | cons y b => simp at h; exact absurd (.head _) (h.1 ▸ hb)
  | cons x a ih =>
    cases b with
    | nil => simp at h; exact absurd (.head _) (h.1 ▸ ha)
    | cons y b =>
      simp only [List.cons_append, List.cons.injEq] at h
      obtain ⟨e1, e2⟩ := ih (fun m => ha (.tail _ m)) (fun m => hb (.tail _ m)) h.2
      exact ⟨by rw [h.1, e1], e2⟩
theorem joinN_inj : ∀ {l m : List (List Nat)}, (∀ x ∈ l, 32 ∉ x ∧ x ≠ []) → (∀ x ∈ m, 32 ∉ x ∧ x ≠ []) → joinN l = joinN m → l = m
  | [], [], _, _, _ => rfl
  | [], [y], _, hm, h => absurd h.symm (hm y (.head _)).2
  | [], y :: y2 :: m, _, hm, h => by simp [joinN] at h
  | [x], [], hl, _, h => absurd h (hl x (.head _)).2
  | x :: x2 :: l, [], hl, _, h => by simp [joinN] at h
  | [x], [y], _, _, h => by rw [show x = y from h]
  | [x], y :: y2 :: m, hl, _, h => by
    have : 32 ∈ x := by rw [show x = y ++ 32 :: joinN (y2 :: m) from h]; simp
    exact absurd this (hl x (.head _)).1
  | x :: x2 :: l, [y], _, hm, h => by
    have : 32 ∈ y := by rw [← show x ++ 32 :: joinN (x2 :: l) = y from h]; simp
    exact absurd this (hm y (.head _)).1
  | x :: x2 :: l, y :: y2 :: m, hl, hm, h => by
    obtain ⟨e1, e2⟩ := cut_eq (hl x (.head _)).1 (hm y (.head _)).1 (show x ++ 32 :: joinN (x2 :: l) = y ++ 32 :: joinN (y2 :: m) from h)
    rw [e1, joinN_inj (fun z hz => hl z (.tail _ hz)) (fun z hz => hm z (.tail _ hz)) e2]
theorem join_inj {l m : List Str} (hl : ∀ x ∈ l, NoSp x) (hm : ∀ x ∈ m, NoSp x) (h : Txt.join " " l = Txt.join " " m) : l = m := by
  have g : ∀ l : List Str, Txt.join " " l = tx (joinN (l.map fun x => x.cps.toList)) := fun l => by
    have e : l = (l.map fun x => x.cps.toList).map tx := by
      rw [List.map_map]
      conv => lhs; rw [← List.map_id l]
      exact List.map_congr_left fun x _ => tx_of x
    have := join_sp (l.map fun x => x.cps.toList)
    rw [← e] at this
    rw [← this]
    exact StrLaws.glued_eq_join _ _
  rw [g l, g m] at h
  have := joinN_inj (l := l.map fun x => x.cps.toList) (m := m.map fun x => x.cps.toList) (fun z hz => by obtain ⟨x, hx, rfl⟩ := List.mem_map.mp hz; exact hl x hx) (fun z hz => by obtain ⟨x, hx, rfl⟩ := List.mem_map.mp hz; exact hm x hx) (tx_inj h)
  have e2 := congrArg (List.map tx) this
  rw [List.map_map, List.map_map] at e2
  have id1 : ∀ l : List Str, l.map (tx ∘ fun x => x.cps.toList) = l := fun l => by
    conv => rhs; rw [← List.map_id l]
    exact List.map_congr_left fun x _ => (tx_of x).symm
  rwa [id1, id1] at e2
end Mine
namespace Mine
noncomputable def letters : List Nat := [97, 42, 98, 63, 91]
noncomputable def upsN (nm : List Nat) : List Nat := (List.range 5).map fun p => nm.getD p 0 % (p + 1)
noncomputable def namesN (nm : List Nat) (t : Nat) : List (List Nat) := (List.range 5).map fun p => [letters.getD ((p + t) % 5) 0, 48 + nm.getD p 0 / 60 % 75]
noncomputable def treeN (nm : List Nat) (t : Nat) : Tree := (upsN nm).zip (namesN nm t)
theorem letters_at : ∀ t < 5, ((List.range 5).map fun p => letters.getD ((p + t) % 5) 0).Nodup := by decide
theorem letter_ok : ∀ i < 5, letters.getD i 0 ≠ 47 ∧ letters.getD i 0 < 128 ∧ letters.getD i 0 ≠ 32 := by decide
theorem ups_form (nm : List Nat) : ∃ a b c d, upsN nm = [0, a, b, c, d] ∧ a < 2 ∧ b < 3 ∧ c < 4 ∧ d < 5 := by
  refine ⟨nm.getD 1 0 % 2, nm.getD 2 0 % 3, nm.getD 3 0 % 4, nm.getD 4 0 % 5, ?_, Nat.mod_lt _ (by decide), Nat.mod_lt _ (by decide), Nat.mod_lt _ (by decide), Nat.mod_lt _ (by decide)⟩
  show [nm.getD 0 0 % 1, _, _, _, _] = _
  rw [Nat.mod_one]
theorem names_two (nm : List Nat) (t : Nat) : TwoOk (namesN nm t) := by
  refine ⟨fun m hm => ?_, ?_⟩
  · obtain ⟨p, hp, rfl⟩ := List.mem_map.mp hm
    refine ⟨rfl, fun h => ?_⟩
    rcases List.mem_cons.mp h with h | h
    · exact (letter_ok _ (Nat.mod_lt _ (by decide))).1 h.symm
    · have := List.mem_singleton.mp h; omega
  · have h := letters_at (t % 5) (Nat.mod_lt _ (by decide))
    have e : ((List.range 5).map fun p => letters.getD ((p + t % 5) % 5) 0) = (namesN nm t).map fun m => m.getD 0 0 := by
      unfold namesN
      rw [List.map_map]
      refine List.map_congr_left fun p _ => ?_
      show _ = letters.getD ((p + t) % 5) 0
      rw [Nat.add_mod_mod]
    rw [e] at h
    unfold List.Nodup at h ⊢
    rw [List.pairwise_map] at h
    exact h.imp fun hne e => hne (by rw [e])
theorem names_signs (nm : List Nat) (t : Nat) : ∀ m ∈ namesN nm t, ∀ c ∈ m, c < 128 ∧ c ≠ 32 := by
  intro m hm c hc
  obtain ⟨p, hp, rfl⟩ := List.mem_map.mp hm
  rcases List.mem_cons.mp hc with rfl | hc
  · have := letter_ok _ (Nat.mod_lt (p + t) (show 0 < 5 by decide)); exact ⟨this.2.1, this.2.2⟩
  · have := List.mem_singleton.mp hc; omega
theorem names_len (nm : List Nat) (t : Nat) : (namesN nm t).length = 5 := by simp [namesN]
theorem ups_len (nm : List Nat) : (upsN nm).length = 5 := by simp [upsN]
theorem tree_fst (nm : List Nat) (t : Nat) : (treeN nm t).map (·.1) = upsN nm := by
  unfold treeN; exact List.map_fst_zip (by rw [names_len, ups_len]; exact Nat.le_refl _)
theorem tree_snd (nm : List Nat) (t : Nat) : (treeN nm t).map (·.2) = namesN nm t := by
  unfold treeN; exact List.map_snd_zip (by rw [names_len, ups_len]; exact Nat.le_refl _)
theorem tree_ok (nm : List Nat) (t : Nat) : JOk (treeN nm t) := by
  refine ⟨?_, fun i p hp => ?_, fun p hp => ?_⟩
  · rw [← List.length_map (f := (·.1)), tree_fst, ups_len]; decide
  · have h1 : (upsN nm)[i]? = some p.1 := by rw [← tree_fst nm t, List.getElem?_map, hp]; rfl
    have hi : i < 5 := by have := (List.getElem?_eq_some_iff.mp h1).1; rwa [ups_len] at this
    unfold upsN at h1
    rw [List.getElem?_map, List.getElem?_range hi] at h1
    have h2 : nm.getD i 0 % (i + 1) = p.1 := Option.some.inj h1
    have := Nat.mod_lt (nm.getD i 0) (show 0 < i + 1 by omega)
    omega
  · have : p.2 ∈ namesN nm t := by rw [← tree_snd nm t]; exact List.mem_map_of_mem hp
    have := ((names_two nm t).two _ this).1
    omega
theorem chk_ups (nm : List Nat) : chkA (upsN nm) = true ∧ chkB (upsN nm) = true := by
  obtain ⟨a, b, c, d, e, h1, h2, h3, h4⟩ := ups_form nm
  rw [e]
  exact ⟨chkA_all a h1 b h2 c h3 d h4, chkB_all a h1 b h2 c h3 d h4⟩
end Mine
namespace Mine
noncomputable def drawnN (l : List Int) : List Nat := (l.take 5).map fun i => (i.fmod 1000000).toNat
noncomputable def numsN (l : List Int) : List Nat := drawnN l ++ [0, 3, 1, 6, 2].drop (drawnN l).length
theorem fmod_nat (i : Int) : i.fmod 1000000 = ((i.fmod 1000000).toNat : Int) := by
  have := Int.fmod_nonneg_of_pos i (b := 1000000) (by decide)
  omega
theorem nums_len (l : List Int) : (numsN l).length = 5 := by
  unfold numsN
  rw [List.length_append, List.length_drop]
  have : (drawnN l).length ≤ 5 := by unfold drawnN; rw [List.length_map, List.length_take]; omega
  simp only [List.length_cons, List.length_nil]
  omega
theorem zle {k : Nat} (h : k ≤ 1000) : decide (k ≤ sizeLine) = true := decide_eq_true (Nat.le_trans h (by decide))
theorem compTs_all {ti : Rho → T (List PV)} {te : Rho → T PV} {scope sc : Scope} {x : Str} {ρ : Rho} {ds : List PV} {g : PV → PV} {P : List PV → Prop} (hi : ∀ P : List PV → Prop, P ds → (ti ρ).Holds P) (hl : ds.length ≤ 1000)
    (he : ∀ d ∈ ds, ∀ P : PV → Prop, P (g d) → (te (setE (capt scope sc ρ) x (.val d))).Holds P) (h : P (ds.map g)) : (compTs ti yes te scope sc x ρ).Holds P := by
  unfold compTs
  refine T.bind_holds _ (hi _ (T.chk_holds (zle hl) ?_))
  refine compT_holds (t := fun _ => true) (g := g) ds [] (fun _ _ _ h => h) (fun d hd _ P hP => he d hd P hP) ?_
  rw [List.nil_append, List.filter_eq_self.mpr fun _ _ => rfl]
  exact h
theorem asgC_holds {y : Str} {t : Rho → T (List PV)} {ρ : Rho} {rs : List PV} {Q : Rho × Fl → Prop} (h : ∀ P : List PV → Prop, P rs → (t ρ).Holds P) (hq : Q (setE ρ y (.val (.list rs)), .next)) : (asgC y t ρ).Holds Q := T.bind_holds _ (h _ hq)
theorem call1_holds {s : List PV → T PV} {a : Rho → T PV} {ρ : Rho} {x : PV} (ha : ∀ P : PV → Prop, P x → (a ρ).Holds P) {P : PV → Prop} (h : (s [x]).Holds P) : (call1 s a ρ).Holds P := T.bind_holds _ (T.bind_holds _ (ha _ h))
theorem lw_draw {l : List Int} {ρ : Rho} (h : Has ρ "script" (.val (.arg (l.map .int)))) (hl : l.length ≤ sizeLine) {Q : Rho × Fl → Prop} (hq : Q (setE ρ "drawn" (.val (.list (nats (drawnN l)))), .next)) : (lwS 0 ρ).Holds Q := by
  rw [lw0]
  have h5 : ((l.take 5).map PV.int).length ≤ 1000 := by rw [List.length_map, List.length_take]; omega
  refine asgC_holds (rs := nats (drawnN l)) (fun P hP => compTs_all (ds := (l.take 5).map .int) (g := fun d => match d with | .int i => .int (i.fmod 1000000) | _ => .none) (fun P hP => ?_) h5 (fun d hd P hP => ?_) ?_) hq
  · show T.Holds P (((valB ρ "script").bind fun d => slcP d none (some 5)).bind itemsP)
    rw [valB_of h]
    refine T.bind_holds _ (T.chk_holds (b := decide ((0 : Int) ≤ 5) && decide ((l.map PV.int).length ≤ sizeLine)) (by rw [List.length_map, decide_eq_true hl]; rfl) ?_)
    show T.Holds P (T.chk (decide (((l.map PV.int).take 5).length ≤ sizeLine)) (T.ret ((l.map PV.int).take 5)))
    rw [← List.map_take]
    exact T.chk_holds (zle h5) hP
  · obtain ⟨i, _, rfl⟩ := List.mem_map.mp hd
    refine bin_holds (x := .int i) (y := .int 1000000) (fun P h => call1_holds (s := intP) (x := .int i) (fun P h => vE_holds Has.set h) (show T.Holds P (intP [.int i]) from h)) (fun P (h : P (PV.int 1000000)) => ?_) (fun P h => ?_) hP
    · exact bin_holds (x := .int 10) (y := .int 6) (fun P (h : P (PV.int 10)) => (show T.Holds P (intE 10) from h)) (fun P (h : P (PV.int 6)) => (show T.Holds P (intE 6) from h)) (fun P h => (show T.Holds P (binP .Pow (.int 10) (.int 6)) from T.chk_holds (b := decide ((0 : Int) ≤ 6) && decide ((6 : Int) ≤ 1000000) && decide ((10 : Int).natAbs < 2 ^ 64)) (t := T.ret (PV.int ((10 : Int) ^ (6 : Int).toNat))) (by decide) h)) (show P (PV.int ((10 : Int) ^ (6 : Int).toNat)) from h)
    · exact (show T.Holds P (binP .Mod (.int i) (.int 1000000)) from T.chk_holds (b := (1000000 : Int) != 0) (t := T.ret (PV.int (i.fmod 1000000))) (by decide) h)
  · have : ((l.take 5).map PV.int).map (fun d => match d with | .int i => PV.int (i.fmod 1000000) | _ => .none) = nats (drawnN l) := by
      unfold drawnN nats
      rw [List.map_map, List.map_map]
      refine List.map_congr_left fun i _ => ?_
      show PV.int (i.fmod 1000000) = PV.int (((i.fmod 1000000).toNat : Nat) : Int)
      rw [← fmod_nat]
    rw [this]; exact hP
end Mine
namespace Mine
theorem nats_app (a b : List Nat) : nats a ++ nats b = nats (a ++ b) := by simp [nats]
theorem drop_nats (a : List Nat) (k : Nat) : (nats a).drop k = nats (a.drop k) := by simp [nats]
theorem lw_nums {l : List Int} {ρ : Rho} (h : Has ρ "drawn" (.val (.list (nats (drawnN l))))) {Q : Rho × Fl → Prop} (hq : Q (setE ρ "numbers" (.val (.list (nats (numsN l)))), .next)) : (lwS 1 ρ).Holds Q := by
  rw [lw1]
  have h5 : (drawnN l).length ≤ 5 := by unfold drawnN; rw [List.length_map, List.length_take]; omega
  refine asg_holds (d := .list (nats (numsN l))) (fun P hP => ?_) hq
  refine bin_holds (x := .list (nats (drawnN l))) (y := .list (nats ([0, 3, 1, 6, 2].drop (drawnN l).length))) (fun P h' => vB_holds h h') (fun P h' => ?_) (fun P h' => ?_) hP
  · refine T.bind_holds _ (T.chk_holds rfl ?_)
    rw [valB_of h]
    refine T.bind_holds _ (T.bind_holds _ (T.chk_holds (b := decide ((nats (drawnN l)).length ≤ sizeLine)) (zle (by simp; omega)) ?_))
    show T.Holds P (slcP (.list (nats [0, 3, 1, 6, 2])) (some (((nats (drawnN l)).length : Nat) : Int)) none)
    refine T.chk_holds (b := decide ((0 : Int) ≤ (((nats (drawnN l)).length : Nat) : Int)) && decide ((nats [0, 3, 1, 6, 2]).length ≤ sizeLine)) (by rw [decide_eq_true (by omega)]; decide) ?_
    rw [Int.toNat_natCast, drop_nats, List.length_map]
    exact h'
  · have hadd : ∀ P : PV → Prop, P (.list (nats (drawnN l) ++ nats ([0, 3, 1, 6, 2].drop (drawnN l).length))) → (binP .Add (.list (nats (drawnN l))) (.list (nats ([0, 3, 1, 6, 2].drop (drawnN l).length)))).Holds P := fun P h => by
      refine T.chk_holds (b := decide ((nats (drawnN l)).length + (nats ([0, 3, 1, 6, 2].drop (drawnN l).length)).length ≤ sizeLine)) (zle (by simp; omega)) ?_
      exact h
    refine hadd _ ?_
    rw [nats_app]
    exact h'
theorem getD_at {l : List Nat} {i : Nat} (h : i < l.length) : l[i]? = some (l.getD i 0) := by
  rw [List.getD_eq_getElem?_getD, List.getElem?_eq_getElem h]; rfl
theorem range5 {P : List PV → Prop} {ρ : Rho} (h : P (intsTo 5)) : (rangeT (fun _ => intE 5) ρ).Holds P := T.chk_holds (b := decide ((0 : Int) ≤ 5) && decide ((5 : Int) ≤ 1000)) (by decide) h
theorem lw_ups {nm : List Nat} (hn : nm.length = 5) {ρ : Rho} (h : Has ρ "numbers" (.val (.list (nats nm)))) {Q : Rho × Fl → Prop} (hq : Q (setE ρ "ups" (.val (.list (nats (upsN nm)))), .next)) : (lwS 2 ρ).Holds Q := by
  rw [lw2]
  refine asgC_holds (rs := nats (upsN nm)) (fun P hP => compTs_all (ds := intsTo 5) (g := fun d => match d with | .int i => .int ((nm.getD i.toNat 0 % (i.toNat + 1) : Nat) : Int) | _ => .none) (fun P hP => range5 hP) (by simp [intsTo]) (fun d hd P hP => ?_) ?_) hq
  · obtain ⟨i, hi, rfl⟩ := List.mem_map.mp hd
    have hi := List.mem_range.mp hi
    have h1 : Has (setE (capt sc2 L41 ρ) "place" (.val (.int (i : Nat)))) "numbers" (.val (.list (nats nm))) := (h.capt (by decide +kernel)).set_ne (by decide +kernel) rfl
    have h2 : Has (setE (capt sc2 L41 ρ) "place" (.val (.int (i : Nat)))) "place" (.val (.int (i : Nat))) := Has.set
    refine bin_holds (x := .int ((nm.getD i 0 : Nat) : Int)) (y := .int ((i + 1 : Nat) : Int)) (fun P h' => sub_holds (fun P h' => vB_holds h1 h') (fun P h' => vB_holds h2 h') (fun P h' => itm_nats (getD_at (by omega)) (by omega) h') h') (fun P h' => bin_holds (x := .int (i : Nat)) (y := .int 1) (fun P h' => vB_holds h2 h') (fun P (h' : P (PV.int 1)) => (show T.Holds P (intE 1) from h')) (fun P (h' : P (PV.int ((i + 1 : Nat) : Int))) => (show T.Holds P (binP .Add (.int (i : Nat)) (.int 1)) from h')) h') (fun P h' => ?_) hP
    have e : (((nm.getD i 0 : Nat) : Int)).fmod ((i + 1 : Nat) : Int) = ((nm.getD i 0 % (i + 1) : Nat) : Int) := by
      rw [Int.fmod_eq_emod_of_nonneg _ (by omega)]; simp
    show T.Holds P (T.chk ((((i + 1 : Nat) : Int)) != 0) (T.ret (PV.int ((((nm.getD i 0 : Nat) : Int)).fmod ((i + 1 : Nat) : Int)))))
    rw [e]
    refine T.chk_holds (by simp; omega) ?_
    exact h'
  · have : (intsTo 5).map (fun d => match d with | .int i => PV.int ((nm.getD i.toNat 0 % (i.toNat + 1) : Nat) : Int) | _ => .none) = nats (upsN nm) := by
      unfold intsTo upsN nats
      rw [List.map_map, List.map_map]
      rfl
    rw [this]; exact hP
end Mine
namespace Mine
theorem nums_of_nats : ∀ l : List Nat, numsOf' (nats l) = some (l.map fun (i : Nat) => (i : Int))
  | [] => rfl
  | x :: l => by
    show (numsOf' (nats l)).map _ = _
    rw [nums_of_nats l]; rfl
theorem sum_nat {nm : List Nat} (hn : nm.length = 5) : ∃ t : Nat, sumInts (nm.map fun (i : Nat) => (i : Int)) = t := by
  obtain ⟨a, b, c, d, e, rfl⟩ := five_of hn
  exact ⟨a + b + c + d + e, by simp [sumInts, preSum]⟩
theorem lw_turn {nm : List Nat} {t : Nat} (ht : sumInts (nm.map fun (i : Nat) => (i : Int)) = t) {ρ : Rho} (h : Has ρ "numbers" (.val (.list (nats nm)))) {Q : Rho × Fl → Prop} (hq : Q (setE ρ "turn" (.val (.int (t : Nat))), .next)) : (lwS 3 ρ).Holds Q := by
  rw [lw3, frz_val h]
  refine asg_holds (d := .int (t : Nat)) (fun P hP => call1_holds (s := sumP) (fun P h' => vE_holds h h') ?_) hq
  show T.Holds P ((T.ofOpt (numsOf' (nats nm))).bind fun ns => T.ret (PV.int (sumInts ns)))
  rw [nums_of_nats]
  show P (PV.int (sumInts (nm.map fun (i : Nat) => (i : Int))))
  rw [ht]; exact hP
theorem lett : ("a*b?[" : Str) = tx letters := by decide +kernel
theorem lw_names {nm : List Nat} {t : Nat} (hn : nm.length = 5) {ρ : Rho} (h : Has ρ "numbers" (.val (.list (nats nm)))) (hT : Has ρ "turn" (.val (.int (t : Nat)))) {Q : Rho × Fl → Prop} (hq : Q (setE ρ "names" (.val (.list (txs (namesN nm t)))), .next)) : (lwS 4 ρ).Holds Q := by
  rw [lw4]
  refine asgC_holds (rs := txs (namesN nm t)) (fun P hP => compTs_all (ds := intsTo 5) (g := fun d => match d with | .int i => .str (tx [letters.getD ((i.toNat + t) % 5) 0, 48 + nm.getD i.toNat 0 / 60 % 75]) | _ => .none) (fun P hP => range5 hP) (by simp [intsTo]) (fun d hd P hP => ?_) ?_) hq
  · obtain ⟨i, hi, rfl⟩ := List.mem_map.mp hd
    have hi := List.mem_range.mp hi
    have h1 : Has (setE (capt sc4 L41 ρ) "place" (.val (.int (i : Nat)))) "numbers" (.val (.list (nats nm))) := (h.capt (by decide +kernel)).set_ne (by decide +kernel) rfl
    have h2 : Has (setE (capt sc4 L41 ρ) "place" (.val (.int (i : Nat)))) "place" (.val (.int (i : Nat))) := Has.set
    have h3 : Has (setE (capt sc4 L41 ρ) "place" (.val (.int (i : Nat)))) "turn" (.val (.int (t : Nat))) := (hT.capt (by decide +kernel)).set_ne (by decide +kernel) rfl
    generalize setE (capt sc4 L41 ρ) "place" (.val (.int (i : Nat))) = ρ' at h1 h2 h3
    have hmod : ∀ (a b : Nat), 0 < b → ∀ P : PV → Prop, P (.int ((a % b : Nat) : Int)) → (binP .Mod (.int (a : Nat)) (.int (b : Nat))).Holds P := fun a b hb P h => by
      have e : ((a : Nat) : Int).fmod ((b : Nat) : Int) = ((a % b : Nat) : Int) := by rw [Int.fmod_eq_emod_of_nonneg _ (by omega)]; simp
      refine T.chk_holds (b := ((b : Nat) : Int) != 0) (by simp; omega) ?_
      show P (.int (((a : Nat) : Int).fmod ((b : Nat) : Int)))
      rw [e]; exact h
    have hlet : (letters.getD ((i + t) % 5) 0) = letters.getD ((i + t) % 5) 0 := rfl
    have hm5 : (i + t) % 5 < 5 := Nat.mod_lt _ (by decide)
    refine bin_holds (x := .str (tx [letters.getD ((i + t) % 5) 0])) (y := .str (tx [48 + nm.getD i 0 / 60 % 75])) (fun P h' => sub_holds (x := .str (tx letters)) (k := .int (((i + t) % 5 : Nat) : Int)) (fun P h' => strE_holds (ρ := ρ') lett h') (fun P h' => bin_holds (x := .int ((i + t : Nat) : Int)) (y := .int ((5 : Nat) : Int)) (fun P h' => bin_holds (x := .int (i : Nat)) (y := .int (t : Nat)) (fun P h' => vB_holds h2 h') (fun P h' => vB_holds h3 h') (fun P (h' : P (PV.int ((i + t : Nat) : Int))) => (show T.Holds P (binP .Add (.int (i : Nat)) (.int (t : Nat))) from h')) h') (fun P (h' : P (PV.int ((5 : Nat) : Int))) => (show T.Holds P (intE 5) from h')) (hmod _ _ (by decide)) h') (fun P h' => ?_) h') (fun P h' => ?_) (fun P h' => ?_) hP
    · rw [itm_at (c := letters.getD ((i + t) % 5) 0) (getD_at (by simp [letters]; omega)) (by simp [letters])]
      exact T.chk_holds rfl h'
    · refine call1_holds (s := chrP) (x := .int ((48 + nm.getD i 0 / 60 % 75 : Nat) : Int)) (fun P h' => ?_) ?_
      · refine bin_holds (x := .int ((48 : Nat) : Int)) (y := .int ((nm.getD i 0 / 60 % 75 : Nat) : Int)) (fun P (h' : P (PV.int ((48 : Nat) : Int))) => (show T.Holds P (intE 48) from h')) (fun P h' => bin_holds (x := .int ((nm.getD i 0 / 60 : Nat) : Int)) (y := .int ((75 : Nat) : Int)) (fun P h' => bin_holds (x := .int ((nm.getD i 0 : Nat) : Int)) (y := .int ((60 : Nat) : Int)) (fun P h' => sub_holds (fun P h' => vB_holds h1 h') (fun P h' => vB_holds h2 h') (fun P h' => itm_nats (getD_at (by omega)) (by omega) h') h') (fun P (h' : P (PV.int ((60 : Nat) : Int))) => (show T.Holds P (intE 60) from h')) (fun P h' => ?_) h') (fun P (h' : P (PV.int ((75 : Nat) : Int))) => (show T.Holds P (intE 75) from h')) (hmod _ _ (by decide)) h') (fun P (h' : P (PV.int ((48 + nm.getD i 0 / 60 % 75 : Nat) : Int))) => (show T.Holds P (binP .Add (.int ((48 : Nat) : Int)) (.int ((nm.getD i 0 / 60 % 75 : Nat) : Int))) from h')) h'
        have e : ((nm.getD i 0 : Nat) : Int).fdiv ((60 : Nat) : Int) = ((nm.getD i 0 / 60 : Nat) : Int) := by
          rw [Int.fdiv_eq_ediv_of_nonneg _ (by omega)]; simp
        have hp : Builtin.divisionGoesByPylong ((nm.getD i 0 : Nat) : Int) ((60 : Nat) : Int) = false := by
          unfold Builtin.divisionGoesByPylong
          rw [Bool.and_eq_false_iff]
          exact .inl (by decide)
        refine T.chk_holds (b := ((60 : Nat) : Int) != 0 && !Builtin.divisionGoesByPylong ((nm.getD i 0 : Nat) : Int) ((60 : Nat) : Int)) (by rw [hp]; rfl) ?_
        show P (.int (((nm.getD i 0 : Nat) : Int).fdiv ((60 : Nat) : Int)))
        rw [e]; exact h'
      · refine T.chk_holds (b := !(decide (((48 + nm.getD i 0 / 60 % 75 : Nat) : Int) < 0) || decide (((48 + nm.getD i 0 / 60 % 75 : Nat) : Int) > 0x10FFFF))) (by
          rw [decide_eq_false (by omega), decide_eq_false (by omega)]; rfl) ?_
        rw [Int.toNat_natCast]
        exact h'
    · refine T.chk_holds (b := decide ((tx [letters.getD ((i + t) % 5) 0]).length + (tx [48 + nm.getD i 0 / 60 % 75]).length ≤ sizeLine)) (by rw [tx_len, tx_len]; exact zle (by simp)) ?_
      rw [tx_app]; exact h'
  · have : (intsTo 5).map (fun d => match d with | .int i => PV.str (tx [letters.getD ((i.toNat + t) % 5) 0, 48 + nm.getD i.toNat 0 / 60 % 75]) | _ => .none) = txs (namesN nm t) := by
      unfold intsTo namesN txs
      rw [List.map_map, List.map_map]
      rfl
    rw [this]; exact hP
end Mine
namespace Mine
theorem okT_tree (nm : List Nat) (t : Nat) : OkT (nats (upsN nm)) (txs (namesN nm t)) (treeN nm t) := by
  refine ⟨?_, ?_, tree_ok nm t⟩
  · rw [← tree_fst nm t]; simp [nats, upsP]
  · rw [← tree_snd nm t]; simp [txs, namesP]
theorem okT_uniq {us ns : List PV} {z z' : Tree} (h : OkT us ns z) (h' : OkT us ns z') : z = z' := by
  have e1 := h.1.symm.trans h'.1
  have e2 := h.2.1.symm.trans h'.2.1
  have i1 : ∀ {z z' : Tree}, upsP z = upsP z' → namesP z = namesP z' → z = z' := by
    intro z
    induction z with
    | nil => intro z' e _; cases z' with
      | nil => rfl
      | cons p z' => cases e
    | cons p z ih => intro z' e e'; cases z' with
      | nil => cases e
      | cons p' z' =>
        simp only [upsP, namesP, List.map_cons, List.cons.injEq] at e e'
        have h1 : p.1 = p'.1 := by have := PV.int.inj e.1; omega
        have h2 : p.2 = p'.2 := tx_inj (PV.str.inj e'.1)
        rw [show p = p' from Prod.ext h1 h2, ih e.2 e'.2]
  exact i1 e1 e2
noncomputable def nodesI (nm : List Nat) : List (List Nat) := idsL (upsN nm)
noncomputable def textsL (nm : List Nat) (t : Nat) : List (List Nat) := (nodesI nm).map (tpL (namesN nm t))
theorem spellS_yes {us ns : List PV} {z : Tree} (h : OkT us ns z) {P : PV → Prop} (hP : P (.list (txs (spells z)))) : (spellS [.list us, .list ns]).Holds P := by
  have e : spellS [.list us, .list ns] = .any (fun r => ∃ z, OkT us ns z ∧ r = .list (txs (spells z))) .ret := by
    unfold spellS; exact if_pos ⟨z, h⟩
  rw [e]
  rintro r ⟨z', h', rfl⟩
  rw [okT_uniq h' h]; exact hP
theorem joinedS_yes {us ns : List PV} {z : Tree} (h : OkT us ns z) {P : PV → Prop} (hP : P (.list (txs (jacc z)))) : (joinedS [.list us, .list ns]).Holds P := by
  have e : joinedS [.list us, .list ns] = .any (fun r => ∃ z, OkT us ns z ∧ r = .list (txs (jacc z))) .ret := by
    unfold joinedS; exact if_pos ⟨z, h⟩
  rw [e]
  rintro r ⟨z', h', rfl⟩
  rw [okT_uniq h' h]; exact hP
theorem lw_texts {nm : List Nat} {t : Nat} {ρ : Rho} (hu : Has ρ "ups" (.val (.list (nats (upsN nm))))) (hn : Has ρ "names" (.val (.list (txs (namesN nm t))))) {Q : Rho × Fl → Prop} (hq : Q (setE ρ "texts" (.val (.list (txs (textsL nm t)))), .next)) : (lwS 5 ρ).Holds Q := by
  rw [lw5, frz_val hu, frz_val hn]
  refine asg_holds (d := .list (txs (textsL nm t))) (fun P hP => call2_holds (fun P h => vE_holds hu h) (fun P h => vE_holds hn h) (spellS_yes (okT_tree nm t) ?_)) hq
  rw [spells_ids (tree_ok nm t), tree_fst, tree_snd]
  exact hP
theorem lw_paths {nm : List Nat} {t : Nat} {ρ : Rho} (hu : Has ρ "ups" (.val (.list (nats (upsN nm))))) (hn : Has ρ "names" (.val (.list (txs (namesN nm t))))) {Q : Rho × Fl → Prop} (hq : Q (setE ρ "paths" (.val (.list (txs (textsL nm t)))), .next)) : (lwS 6 ρ).Holds Q := by
  rw [lw6, frz_val hu, frz_val hn]
  refine asg_holds (d := .list (txs (textsL nm t))) (fun P hP => call2_holds (fun P h => vE_holds hu h) (fun P h => vE_holds hn h) (joinedS_yes (okT_tree nm t) ?_)) hq
  rw [joined_ids (tree_ok nm t) (by rw [tree_snd]; exact (names_two nm t).nms), tree_fst, tree_snd]
  exact hP
end Mine
namespace Mine
theorem eqvP_fineL {l m : List Str} (hl : ∀ x ∈ l, PyData.strOk x = true) (hm : ∀ x ∈ m, PyData.strOk x = true) {P : Bool → Prop} (h : P (decide (l = m))) : (eqvP (.list (l.map .str)) (.list (m.map .str))).Holds P := by
  have fl : Fine (.list (l.map .str)) := .list hl
  have fm : Fine (.list (m.map .str)) := .list hm
  obtain ⟨g1, g2, g3⟩ := fl.dat
  obtain ⟨k1, k2, k3⟩ := fm.dat
  show T.Holds P ((T.ofOpt (toD (.list (l.map .str)))).bind fun p => (T.ofOpt (toD (.list (m.map .str)))).bind fun q => .chk (p.canLay0 && q.canLay0 && decide (min p.depth q.depth ≤ 30)) (.ret (PyData.eqv p q)))
  rw [g1, k1]
  refine T.chk_holds (by rw [g2, k2, decide_eq_true (by omega)]; rfl) ?_
  have e : PyData.eqv (dat (.list (l.map .str))) (dat (.list (m.map .str))) = decide (l = m) := by
    rw [Bool.eq_iff_iff, fine_eq fm fl, decide_eq_true_iff]
    constructor
    · intro q; exact str_inj _ _ (PV.list.inj q)
    · intro q; rw [q]
  show P (PyData.eqv (dat (.list (l.map .str))) (dat (.list (m.map .str))))
  rw [e]; exact h
theorem toDs_rows : ∀ R : List (List Str), toDs (R.map rowP) = some (R.map fun r => .list (r.map .str))
  | [] => rfl
  | r :: R => by
    show (match toD (rowP r), toDs (R.map rowP) with | some x, some y => some (x :: y) | _, _ => none) = _
    rw [toDs_rows R]
    show (match (toDs (r.map .str)).map PyData.list, some (R.map fun r => PyData.list (r.map .str)) with | some x, some y => some (x :: y) | _, _ => none) = _
    rw [toDs_strs r]; rfl
theorem rows_lay : ∀ R : List (List Str), (∀ r ∈ R, ∀ x ∈ r, PyData.strOk x = true) → PyData.canLayAll0 (R.map fun r => .list (r.map .str)) = true
  | [], _ => rfl
  | r :: R, h => by
    simp only [List.map_cons, PyData.canLayAll0, PyData.canLay0, canLay_strs r (h r (.head _)), rows_lay R fun r' hr' => h r' (.tail _ hr'), Bool.and_self]
theorem rows_depth : ∀ R : List (List Str), PyData.depthAll (R.map fun r => .list (r.map .str)) ≤ 2
  | [] => by simp [PyData.depthAll]
  | r :: R => by
    have h1 := rows_depth R
    have h2 := depth_strs r
    simp only [List.map_cons, PyData.depthAll, PyData.depth]
    omega
theorem rows_eqv : ∀ R : List (List Str), PyData.eqvAll (R.map fun r => .list (r.map .str)) (R.map fun r => .list (r.map .str)) = true
  | [] => rfl
  | r :: R => by
    have h2 := (eqvAll_strs r r).mpr rfl
    simp only [List.map_cons, PyData.eqvAll, PyData.eqv, h2, rows_eqv R, Bool.and_self]
theorem eqvP_rows {R : List (List Str)} (h : ∀ r ∈ R, ∀ x ∈ r, PyData.strOk x = true) {P : Bool → Prop} (hP : P true) : (eqvP (.list (R.map rowP)) (.list (R.map rowP))).Holds P := by
  show T.Holds P ((T.ofOpt ((toDs (R.map rowP)).map .list)).bind fun p => (T.ofOpt ((toDs (R.map rowP)).map .list)).bind fun q => .chk (p.canLay0 && q.canLay0 && decide (min p.depth q.depth ≤ 30)) (.ret (PyData.eqv p q)))
  rw [toDs_rows]
  refine T.chk_holds ?_ ?_
  · have h1 := rows_lay R h
    have h2 := rows_depth R
    have h3 : decide (min (PyData.depth (.list (R.map fun r => .list (r.map .str)))) (PyData.depth (.list (R.map fun r => .list (r.map .str)))) ≤ 30) = true := decide_eq_true (by
      simp only [PyData.depth]
      omega)
    rw [h3]
    simp only [PyData.canLay0, h1, Bool.and_self]
  · show P (PyData.eqv (.list _) (.list _))
    simp only [PyData.eqv, rows_eqv]
    exact hP
end Mine
namespace Mine
section
variable (nm : List Nat) (t : Nat)
noncomputable def Tn (ids : List Nat) : Str := tx (tpL (namesN nm t) ids)
noncomputable def US : List Str := (nodesI nm).map (Tn nm t)
theorem texts_US : txs (textsL nm t) = (US nm t).map .str := by
  unfold txs textsL US Tn
  rw [List.map_map, List.map_map]; rfl
theorem inT {x : List Nat} (h : x ∈ nodesI nm) : InT (namesN nm t) x := fun k hk => by
  have := ids_in (upsN nm) x h k hk
  rw [ups_len] at this
  rw [names_len]; exact this
theorem inT_pre {x y : List Nat} (h : x ∈ nodesI nm) (hp : y <+: x) : InT (namesN nm t) y := fun k hk => inT nm t h k (hp.subset hk)
theorem Tn_inj {x y : List Nat} (hx : InT (namesN nm t) x) (hy : InT (namesN nm t) y) (e : Tn nm t x = Tn nm t y) : x = y := tp_inj (names_two nm t) hx hy (tx_inj e)
theorem tn_signs {x : List Nat} (hx : InT (namesN nm t) x) : ∀ c ∈ tnL (namesN nm t) x, c < 128 ∧ c ≠ 32 := by
  intro c hc
  unfold tnL txN at hc
  obtain ⟨m, hm, hcm⟩ := List.mem_flatMap.mp hc
  obtain ⟨k, hk, rfl⟩ := List.mem_map.mp hm
  rcases List.mem_cons.mp hcm with rfl | hcm
  · decide
  · exact names_signs nm t _ (name_mem (hx k hk)) c hcm
theorem tp_signs {x : List Nat} (hx : InT (namesN nm t) x) : ∀ c ∈ tpL (namesN nm t) x, c < 128 ∧ c ≠ 32 := by
  by_cases h : x = []
  · subst h; rw [tp_nil]; intro c hc; rw [List.mem_singleton.mp hc]; decide
  · rw [tp_cons h]; exact tn_signs nm t hx
theorem tp_len {x : List Nat} (hx : InT (namesN nm t) x) : (tpL (namesN nm t) x).length ≤ 3 * x.length + 1 := by
  by_cases h : x = []
  · subst h; rw [tp_nil]; simp
  · rw [tp_cons h, tn_len (names_two nm t) hx]; omega
theorem tp_ne {x : List Nat} (hx : InT (namesN nm t) x) : tpL (namesN nm t) x ≠ [] := by
  by_cases h : x = []
  · subst h; rw [tp_nil]; simp
  · rw [tp_cons h]
    intro e
    have := tn_len (names_two nm t) hx
    rw [e] at this
    exact h (List.length_eq_zero_iff.mp (by simp only [List.length_nil] at this; omega))
end
end Mine
namespace Mine
section
variable (nm : List Nat) (t : Nat)
theorem Tn_ok {x : List Nat} (hx : InT (namesN nm t) x) : PyData.strOk (Tn nm t x) = true := by
  unfold PyData.strOk
  rw [← Array.all_toList, List.all_eq_true]
  intro c hc
  have := (tp_signs nm t hx c (by simpa [Tn, tx] using hc)).1
  rw [decide_eq_true_iff]; omega
theorem US_ok : ∀ x ∈ US nm t, PyData.strOk x = true := fun x hx => by
  obtain ⟨i, hi, rfl⟩ := List.mem_map.mp hx
  exact Tn_ok nm t (inT nm t hi)
theorem lw_same {ρ : Rho} (h1 : Has ρ "paths" (.val (.list (txs (textsL nm t))))) (h2 : Has ρ "texts" (.val (.list (txs (textsL nm t))))) {Q : Rho × Fl → Prop} (hq : Q (ρ, .next)) : (lwS 7 ρ).Holds Q := by
  rw [lw7]
  rw [texts_US] at h1 h2
  refine ifX_holds (v := false) (fun P hP => cm_holds (v := false) (fun P h => vB_holds h1 h) (fun P h => vB_holds h2 h) (fun P h => ?_) hP) ?_
  · refine T.bind_holds _ (eqvP_fineL (US_ok nm t) (US_ok nm t) ?_)
    rw [decide_eq_true rfl]; exact h
  · rw [if_neg (by decide)]; exact hq
theorem node_len {x : List Nat} (h : x ∈ nodesI nm) : x.length ≤ 5 := by
  obtain ⟨a, b, c, d, e, h1, h2, h3, h4⟩ := ups_form nm
  have key : ∀ a < 2, ∀ b < 3, ∀ c < 4, ∀ d < 5, ∀ x ∈ idsL [0, a, b, c, d], x.length ≤ 5 := by decide +kernel
  unfold nodesI at h
  rw [e] at h
  exact key a h1 b h2 c h3 d h4 x h
theorem nodes_nd : (nodesI nm).Nodup := by
  obtain ⟨a, b, c, d, e, h1, h2, h3, h4⟩ := ups_form nm
  have key : ∀ a < 2, ∀ b < 3, ∀ c < 4, ∀ d < 5, (idsL [0, a, b, c, d]).Nodup := by decide +kernel
  unfold nodesI
  rw [e]
  exact key a h1 b h2 c h3 d h4
theorem nodes_closed {x y : List Nat} (h : x ∈ nodesI nm) (hp : y <+: x) : y ∈ nodesI nm := by
  obtain ⟨a, b, c, d, e, h1, h2, h3, h4⟩ := ups_form nm
  have key : ∀ a < 2, ∀ b < 3, ∀ c < 4, ∀ d < 5, ((idsL [0, a, b, c, d]).all fun x => (wayIds x).all fun y => (idsL [0, a, b, c, d]).contains y) = true := by decide +kernel
  unfold nodesI at h ⊢
  rw [e] at h ⊢
  have h5 := List.all_eq_true.mp (List.all_eq_true.mp (key a h1 b h2 c h3 d h4) x h) y (mem_wayIds.mpr hp)
  simpa using h5
theorem US_nd : (US nm t).Nodup := by
  unfold US List.Nodup
  rw [List.pairwise_map]
  exact (nodes_nd nm).imp_of_mem fun {a b} ha hb hne e => hne (Tn_inj nm t (inT nm t ha) (inT nm t hb) e)
theorem nodes_len : (nodesI nm).length = 6 := by unfold nodesI; rw [idsL_len, ups_len]
end
end Mine
namespace Mine
noncomputable def All2 {α β : Type} (R : α → β → Prop) : List α → List β → Prop
  | [], [] => True
  | x :: xs, y :: ys => R x y ∧ All2 R xs ys
  | _, _ => False
theorem compT_rel {α : Type} {tt : Rho → T Bool} {te : Rho → T PV} {ρ : Rho} {x : Str} {f : α → PV} {t : α → Bool} {R : α → PV → Prop} : ∀ (xs : List α) (acc : List PV) {P : List PV → Prop}, (∀ a ∈ xs, ∀ P : Bool → Prop, P (t a) → (tt (setE ρ x (.val (f a)))).Holds P) →
    (∀ a ∈ xs, t a = true → ∀ P : PV → Prop, (∀ y, R a y → P y) → (te (setE ρ x (.val (f a)))).Holds P) → (∀ ys, All2 R (xs.filter t) ys → P (acc ++ ys)) → (compT tt te ρ x (xs.map f) acc).Holds P
  | [], acc, P, _, _, h => by
    have := h [] trivial
    rw [List.append_nil] at this
    exact this
  | a :: xs, acc, P, h1, h2, h => by
    rw [List.map_cons]
    unfold compT
    refine T.bind_holds _ (h1 a (.head _) _ ?_)
    have r1 : ∀ e ∈ xs, ∀ P : Bool → Prop, P (t e) → (tt (setE ρ x (.val (f e)))).Holds P := fun e he => h1 e (.tail _ he)
    have r2 : ∀ e ∈ xs, t e = true → ∀ P : PV → Prop, (∀ y, R e y → P y) → (te (setE ρ x (.val (f e)))).Holds P := fun e he => h2 e (.tail _ he)
    simp only [T.Holds]
    cases ht : t a with
    | true =>
      rw [if_pos rfl]
      refine T.bind_holds _ (h2 a (.head _) ht _ fun y hy => compT_rel xs _ r1 r2 fun ys hys => ?_)
      rw [List.filter_cons_of_pos ht] at h
      have := h (y :: ys) ⟨hy, hys⟩
      rw [List.append_assoc]
      exact this
    | false =>
      rw [if_neg (by decide)]
      refine compT_rel xs _ r1 r2 fun ys hys => ?_
      rw [List.filter_cons_of_neg (by simp [ht])] at h
      exact h ys hys
theorem all2_map {α β : Type} {g : α → β} : ∀ {xs : List α} {ys : List β}, All2 (fun a y => y = g a) xs ys → ys = xs.map g
  | [], [], _ => rfl
  | [], _ :: _, h => h.elim
  | _ :: _, [], h => h.elim
  | x :: xs, y :: ys, ⟨h1, h2⟩ => by rw [h1, all2_map h2, List.map_cons]
theorem compTs_rel {α : Type} {ti : Rho → T (List PV)} {tt : Rho → T Bool} {te : Rho → T PV} {scope sc : Scope} {x : Str} {ρ : Rho} {xs : List α} {f : α → PV} {t : α → Bool} {R : α → PV → Prop} {P : List PV → Prop} (hi : ∀ P : List PV → Prop, P (xs.map f) → (ti ρ).Holds P) (hl : xs.length ≤ 1000)
    (ht : ∀ a ∈ xs, ∀ P : Bool → Prop, P (t a) → (tt (setE (capt scope sc ρ) x (.val (f a)))).Holds P) (he : ∀ a ∈ xs, t a = true → ∀ P : PV → Prop, (∀ y, R a y → P y) → (te (setE (capt scope sc ρ) x (.val (f a)))).Holds P)
    (h : ∀ ys, All2 R (xs.filter t) ys → P ys) : (compTs ti tt te scope sc x ρ).Holds P := by
  unfold compTs
  refine T.bind_holds _ (hi _ (T.chk_holds (zle (by rw [List.length_map]; exact hl)) ?_))
  exact compT_rel xs [] ht he fun ys hys => h ys hys
theorem compTs_map {α : Type} {ti : Rho → T (List PV)} {tt : Rho → T Bool} {te : Rho → T PV} {scope sc : Scope} {x : Str} {ρ : Rho} {xs : List α} {f : α → PV} {t : α → Bool} {g : α → PV} {P : List PV → Prop} (hi : ∀ P : List PV → Prop, P (xs.map f) → (ti ρ).Holds P) (hl : xs.length ≤ 1000)
    (ht : ∀ a ∈ xs, ∀ P : Bool → Prop, P (t a) → (tt (setE (capt scope sc ρ) x (.val (f a)))).Holds P) (he : ∀ a ∈ xs, t a = true → ∀ P : PV → Prop, P (g a) → (te (setE (capt scope sc ρ) x (.val (f a)))).Holds P)
    (h : P ((xs.filter t).map g)) : (compTs ti tt te scope sc x ρ).Holds P :=
  compTs_rel (R := fun a y => y = g a) hi hl ht (fun a ha hta P hP => he a ha hta P (hP _ rfl)) fun ys hys => by rw [all2_map hys]; exact h
theorem compD_holds {te : Rho → T PV} {ρ : Rho} {x : Str} {g : Str → PV} {P : List Str × List PV → Prop} : ∀ (ks ak : List Str) (av : List PV), (ak ++ ks).Nodup → (∀ k ∈ ks, ∀ P : PV → Prop, P (g k) → (te (setE ρ x (.val (.str k)))).Holds P) →
    P (ak ++ ks, av ++ ks.map g) → (compD te ρ x (ks.map .str) ak av).Holds P
  | [], ak, av, _, _, h => by
    have h' : P (ak, av) := by simpa using h
    exact h'
  | k :: ks, ak, av, nd, he, h => by
    rw [List.map_cons]
    unfold compD
    refine T.bind_holds _ (he k (.head _) _ (T.chk_holds ?_ (compD_holds ks (ak ++ [k]) (av ++ [g k]) (by simpa using nd) (fun e hm => he e (.tail _ hm)) (by simpa using h))))
    have := (List.nodup_append.mp nd).2.2
    exact decide_eq_true fun q => this k q k (.head _) rfl
theorem lookup_zip {g : Str → PV} : ∀ {ks : List Str} {k : Str}, k ∈ ks → (ks.zip (ks.map g)).lookup k = some (g k)
  | [], _, h => nomatch h
  | y :: ks, k, h => by
    rw [List.map_cons, List.zip_cons_cons, List.lookup_cons]
    by_cases q : k = y
    · subst q; simp
    · have : (k == y) = false := by simpa using q
      rw [this]
      exact lookup_zip ((List.mem_cons.mp h).resolve_left q)
theorem belowS_yes {p : Str} {L : List Str} (h : BelOk p L) {P : PV → Prop} (hP : P (.list ((below p L).map .str))) : (belowS [.str p, .list (L.map .str)]).Holds P := by
  have e : belowS [.str p, .list (L.map .str)] = T.any (fun r => ∃ L' : List Str, L.map PV.str = L'.map PV.str ∧ BelOk p L' ∧ r = PV.list ((below p L').map PV.str)) T.ret := by
    unfold belowS; exact if_pos ⟨L, rfl, h⟩
  rw [e]
  rintro r ⟨L', h', _, rfl⟩
  rw [← str_inj _ _ h']; exact hP
noncomputable def belP (L : List Str) (p : Str) : PV := .list ((below p L).map .str)
section
variable (nm : List Nat) (t : Nat)
noncomputable def belD : PV := .dict (US nm t) ((US nm t).map (belP (US nm t)))
theorem Tn_bel {x : List Nat} (hx : x ∈ nodesI nm) : BelOk (Tn nm t x) (US nm t) := by
  have len : ∀ y ∈ nodesI nm, (tpL (namesN nm t) y).length ≤ 16 := fun y hy => by
    have h1 := tp_len nm t (inT nm t hy)
    have h2 := node_len nm hy
    omega
  refine ⟨?_, ?_, fun o ho => ?_⟩
  · unfold Tn
    rw [tx_list]
    exact ⟨tp_ne nm t (inT nm t hx), Nat.le_trans (len x hx) (by decide), fun c hc => (tp_signs nm t (inT nm t hx) c hc).1⟩
  · unfold US; rw [List.length_map, nodes_len]; decide
  · obtain ⟨y, hy, rfl⟩ := List.mem_map.mp ho
    unfold Tn
    rw [tx_len]
    exact Nat.le_trans (len y hy) (by decide)
theorem below_US {x : List Nat} (hx : x ∈ nodesI nm) : below (Tn nm t x) (US nm t) = ((nodesI nm).filter fun y => x.isPrefixOf y && x != y).map (Tn nm t) := by
  unfold below US
  rw [List.filter_map]
  congr 1
  refine List.filter_congr fun y hy => ?_
  have h := below_tp (names_two nm t) (inT nm t hx) (inT nm t hy)
  rw [Bool.eq_iff_iff]
  unfold Function.comp Tn
  rw [Bool.and_eq_true, Bool.and_eq_true, decide_eq_true_iff, decide_eq_true_iff, List.isPrefixOf_iff_prefix, bne_iff_ne, tx_list, tx_list]
  rw [← h]
  exact ⟨fun q => ⟨fun e => q.1 (by rw [e]), q.2⟩, fun q => ⟨fun e => q.1 (tx_inj e), q.2⟩⟩
theorem items_txs {l : List Str} (h : l.length ≤ 1000) {P : List PV → Prop} (hP : P (l.map .str)) : (itemsP (.list (l.map .str))).Holds P := T.chk_holds (b := decide ((l.map PV.str).length ≤ sizeLine)) (zle (by rw [List.length_map]; exact h)) hP
theorem US_len : (US nm t).length = 6 := by unfold US; rw [List.length_map, nodes_len]
theorem lw_below {ρ : Rho} (hp : Has ρ "paths" (.val (.list (txs (textsL nm t))))) {Q : Rho × Fl → Prop} (hq : Q (setE ρ "below" (.val (belD nm t)), .next)) : (lwS 8 ρ).Holds Q := by
  rw [lw8]
  rw [texts_US] at hp
  refine asg_holds (d := belD nm t) (fun P hP => ?_) hq
  unfold dctT
  refine T.bind_holds _ (T.bind_holds _ (T.bind_holds _ (vB_holds hp (items_txs (by rw [US_len]; decide) (T.chk_holds (zle (by rw [List.length_map, US_len]; decide)) ?_)))))
  refine compD_holds (g := belP (US nm t)) (US nm t) [] [] (by rw [List.nil_append]; exact US_nd nm t) (fun k hk P hP => ?_) ?_
  · obtain ⟨x, hx, rfl⟩ := List.mem_map.mp hk
    exact call2_holds (fun P h => vE_holds Has.set h) (fun P h => vE_holds ((hp.capt (by decide +kernel)).set_ne (by decide +kernel) rfl) h) (belowS_yes (Tn_bel nm t hx) hP)
  · exact hP
end
end Mine
namespace Mine
theorem cut47 : ∀ {a b c d : List Nat}, 47 ∉ a → 47 ∉ b → (c = [] ∨ c.head? = some 47) → (d = [] ∨ d.head? = some 47) → a ++ c = b ++ d → a = b ∧ c = d
  | [], [], _, _, _, _, _, _, h => ⟨rfl, h⟩
  | [], y :: b, c, d, _, hb, hc, _, h => by
    rw [List.nil_append] at h
    subst h
    rcases hc with e | e
    · cases e
    · exact absurd (by rw [List.cons_append, List.head?_cons, Option.some.injEq] at e; rw [e]; exact .head _) hb
  | x :: a, [], c, d, ha, _, _, hd, h => by
    rw [List.nil_append] at h
    subst h
    rcases hd with e | e
    · cases e
    · exact absurd (by rw [List.cons_append, List.head?_cons, Option.some.injEq] at e; rw [e]; exact .head _) ha
  | x :: a, y :: b, c, d, ha, hb, hc, hd, h => by
    rw [List.cons_append, List.cons_append, List.cons.injEq] at h
    obtain ⟨e1, e2⟩ := cut47 (fun m => ha (.tail _ m)) (fun m => hb (.tail _ m)) hc hd h.2
    exact ⟨by rw [h.1, e1], e2⟩
theorem txN_head (ns : List (List Nat)) : txN ns = [] ∨ (txN ns).head? = some 47 := by
  cases ns with
  | nil => exact .inl rfl
  | cons m ns => exact .inr (by simp [txN])
theorem txN_inj : ∀ {ns ms : List (List Nat)}, (∀ m ∈ ns, NmOk m) → (∀ m ∈ ms, NmOk m) → txN ns = txN ms → ns = ms
  | [], [], _, _, _ => rfl
  | [], _ :: _, _, _, e => by simp [txN] at e
  | _ :: _, [], _, _, e => by simp [txN] at e
  | n :: ns, m :: ms, hn, hm, e => by
    have e' : n ++ txN ns = m ++ txN ms := by simpa [txN] using e
    obtain ⟨e1, e2⟩ := cut47 (hn n (.head _)).2.1 (hm m (.head _)).2.1 (txN_head ns) (txN_head ms) e'
    rw [e1, txN_inj (fun k hk => hn k (.tail _ hk)) (fun k hk => hm k (.tail _ hk)) e2]
theorem pth_inj {ns ms : List (List Nat)} (hn : ∀ m ∈ ns, NmOk m) (hm : ∀ m ∈ ms, NmOk m) (e : pth ns = pth ms) : ns = ms := by
  have no : ∀ {ks : List (List Nat)}, (∀ m ∈ ks, NmOk m) → ks ≠ [] → txN ks ≠ [47] := fun {ks} h hne q => by
    match ks, hne with
    | m :: r, _ =>
      have : m ++ txN r = [] := by simpa [txN] using q
      exact (h m (.head _)).1 (List.append_eq_nil_iff.mp this).1
  unfold pth at e
  split at e <;> split at e
  · rename_i h1 h2; rw [h1, h2]
  · rename_i h1 h2; exact absurd e.symm (no hm h2)
  · rename_i h1 h2; exact absurd e (no hn h1)
  · exact txN_inj hn hm e
theorem waysS_yes {ns : List (List Nat)} (h : WayOk ns) {P : PV → Prop} (hP : P (.list (txs (wayOf ns)))) : (waysS [.str (tx (pth ns))]).Holds P := by
  have e : waysS [.str (tx (pth ns))] = T.any (fun r => ∃ ms, tx (pth ns) = tx (pth ms) ∧ WayOk ms ∧ r = PV.list (txs (wayOf ms))) T.ret := by
    unfold waysS; exact if_pos ⟨ns, rfl, h⟩
  rw [e]
  rintro r ⟨ms, h', ok, rfl⟩
  rw [← pth_inj h.2 ok.2 (tx_inj h')]; exact hP
section
variable (nm : List Nat) (t : Nat)
noncomputable def wayT (a : List Nat) : List Str := (wayIds a).map (Tn nm t)
noncomputable def WS : List (List Str) := (leavesI (nodesI nm)).map (wayT nm t)
theorem way_ok {a : List Nat} (ha : a ∈ nodesI nm) {P : PV → Prop} (hP : P (rowP (wayT nm t a))) : (waysS [.str (Tn nm t a)]).Holds P := by
  have hi := inT nm t ha
  have h1 : WayOk (a.map (nameOf (namesN nm t))) := ⟨by rw [List.length_map]; exact Nat.le_trans (node_len nm ha) (by decide), names_map (names_two nm t) hi⟩
  refine waysS_yes h1 ?_
  rw [wayOf_ids]
  have : PV.list (txs ((wayIds a).map (tpL (namesN nm t)))) = rowP (wayT nm t a) := by
    unfold rowP wayT txs Tn
    rw [List.map_map, List.map_map]; rfl
  rw [this]; exact hP
theorem itm_dict {ks : List Str} {g : Str → PV} {k : Str} (h : k ∈ ks) {P : PV → Prop} (hP : P (g k)) : (itmP (.dict ks (ks.map g)) (.str k)).Holds P := by
  show T.Holds P (T.ofOpt ((ks.zip (ks.map g)).lookup k))
  rw [lookup_zip h]; exact hP
theorem mem_US {a : List Nat} (ha : a ∈ nodesI nm) : Tn nm t a ∈ US nm t := List.mem_map_of_mem ha
theorem bel_ok (k : Str) : ∀ x ∈ below k (US nm t), PyData.strOk x = true := fun x hx => US_ok nm t x (List.mem_filter.mp hx).1
theorem leaf_bel {a : List Nat} (ha : a ∈ nodesI nm) : decide (below (Tn nm t a) (US nm t) = []) = (nodesI nm).all fun b => !(a.isPrefixOf b && a != b) := by
  rw [below_US nm t ha, Bool.eq_iff_iff, decide_eq_true_iff, List.map_eq_nil_iff, List.filter_eq_nil_iff, List.all_eq_true]
  exact ⟨fun q b hb => by rw [Bool.not_eq_true']; exact Bool.eq_false_iff.mpr (q b hb), fun q b hb => by have := q b hb; rw [Bool.not_eq_true'] at this; rw [this]; decide⟩
theorem lw_ways {ρ : Rho} (hp : Has ρ "paths" (.val (.list (txs (textsL nm t))))) (hb : Has ρ "below" (.val (belD nm t))) {Q : Rho × Fl → Prop} (hq : Q (setE ρ "ways" (.val (.list ((WS nm t).map rowP))), .next)) : (lwS 9 ρ).Holds Q := by
  rw [lw9]
  rw [texts_US] at hp
  refine asgC_holds (rs := (WS nm t).map rowP) (fun P hP => compTs_map (xs := nodesI nm) (f := fun a => .str (Tn nm t a)) (t := fun a => (nodesI nm).all fun b => !(a.isPrefixOf b && a != b)) (g := fun a => rowP (wayT nm t a)) (fun P hP => ?_) (by rw [nodes_len]; decide) (fun a ha P hP => ?_) (fun a ha _ P hP => ?_) ?_) hq
  · refine T.bind_holds _ (vB_holds hp (items_txs (by rw [US_len]; decide) ?_))
    have : (US nm t).map PV.str = (nodesI nm).map fun a => .str (Tn nm t a) := by unfold US; rw [List.map_map]; rfl
    rw [this]; exact hP
  · refine cm_holds (v := decide (below (Tn nm t a) (US nm t) = [])) (x := belP (US nm t) (Tn nm t a)) (y := .list []) (fun P h => sub_holds (fun P h => vB_holds ((hb.capt (by decide +kernel)).set_ne (by decide +kernel) rfl) h) (fun P h => vB_holds Has.set h) (fun P h => itm_dict (mem_US nm t ha) h) h) (fun P (h : P (.list [])) => ?_) (fun P h => ?_) (by rw [leaf_bel nm t ha]; exact hP)
    · exact T.chk_holds (b := true) (t := T.ret (PV.list [])) rfl h
    · refine T.bind_holds _ (eqvP_fineL (l := below (Tn nm t a) (US nm t)) (m := []) (bel_ok nm t _) (fun _ h => nomatch h) ?_)
      exact h
  · exact call1_holds (s := waysS) (fun P h => vE_holds Has.set h) (way_ok nm t ha hP)
  · have : ((nodesI nm).filter fun a => (nodesI nm).all fun b => !(a.isPrefixOf b && a != b)).map (fun a => rowP (wayT nm t a)) = (WS nm t).map rowP := by
      unfold WS leavesI
      rw [List.map_map]; rfl
    rw [this]; exact hP
end
end Mine
namespace Mine
theorem nats_inj : ∀ {l m : List Nat}, nats l = nats m → l = m
  | [], [], _ => rfl
  | [], _ :: _, h => by simp at h
  | _ :: _, [], h => by simp at h
  | x :: l, y :: m, h => by
    simp only [List.map_cons, List.cons.injEq] at h
    have h1 := PV.int.inj h.1
    rw [show x = y by omega, nats_inj h.2]
theorem toDs_nats : ∀ l : List Nat, toDs (nats l) = some (l.map fun (i : Nat) => PyData.int (i : Int))
  | [] => rfl
  | x :: l => by
    show (match toD (.int (x : Nat)), toDs (nats l) with | some x, some r => some (x :: r) | _, _ => none) = _
    rw [toDs_nats l]; rfl
theorem lay_nats : ∀ l : List Nat, PyData.canLayAll0 (l.map fun (i : Nat) => PyData.int (i : Int)) = true
  | [] => rfl
  | x :: l => by simp only [List.map_cons, PyData.canLayAll0, PyData.canLay0, lay_nats l, Bool.and_self]
theorem depth_nats : ∀ l : List Nat, PyData.depthAll (l.map fun (i : Nat) => PyData.int (i : Int)) = 0
  | [] => rfl
  | x :: l => by simp only [List.map_cons, PyData.depthAll, PyData.depth, depth_nats l, Nat.max_self]
theorem inP_nats (i : Nat) (l : List Nat) : inP (.int (i : Nat)) (nats l) = .chk true (.ret (l.contains i)) := by
  unfold inP
  rw [toDs_nats]
  have h1 := lay_nats l
  have h2 := depth_nats l
  have h3 : decide (min (PyData.depthAll (l.map fun (i : Nat) => PyData.int (i : Int))) (PyData.depth (.int (i : Nat))) ≤ 30) = true := decide_eq_true (by omega)
  simp only [toD, T.ofOpt, T.bind, h1, PyData.canLay0, h3, Bool.and_self]
  congr 2
  rw [List.any_map, Bool.eq_iff_iff, List.any_eq_true, List.contains_iff_mem]
  constructor
  · rintro ⟨x, hx, q⟩
    have q' : ((x : Int) == (i : Int)) = true := q
    have : x = i := by rw [beq_iff_eq] at q'; omega
    rw [← this]; exact hx
  · intro h
    exact ⟨i, h, show ((i : Int) == (i : Int)) = true by simp⟩
noncomputable def chkC (ups : List Nat) : Bool := (List.range 6).all fun n => match abv ups 7 n with | some l => l.all fun v => decide (v < 6) | none => false
theorem chkC_all : ∀ a < 2, ∀ b < 3, ∀ c < 4, ∀ d < 5, chkC [0, a, b, c, d] = true := by decide +kernel
theorem abv_ups (nm : List Nat) {n : Nat} (h : n < 6) : ∃ l, abv (upsN nm) 7 n = some l ∧ ∀ v ∈ l, v < 6 := by
  obtain ⟨a, b, c, d, e, h1, h2, h3, h4⟩ := ups_form nm
  have := chkC_all a h1 b h2 c h3 d h4
  rw [← e] at this
  have := List.all_eq_true.mp this n (List.mem_range.mpr h)
  generalize abv (upsN nm) 7 n = o at this
  cases o with
  | none => cases this
  | some l => exact ⟨l, rfl, fun v hv => of_decide_eq_true (List.all_eq_true.mp this v hv)⟩
theorem abvS_yes {v : Nat} {ups l : List Nat} (h10 : ups.length ≤ 10) (h : abv ups 7 v = some l) {P : PV → Prop} (hP : P (.list (nats l))) : (abvS [.int (v : Nat), .list (nats ups)]).Holds P := by
  have e : abvS [.int (v : Nat), .list (nats ups)] = T.any (fun r => ∃ l, AbOk (v : Nat) (nats ups) l ∧ r = PV.list (nats l)) T.ret := by
    unfold abvS; exact if_pos ⟨l, v, ups, rfl, rfl, h10, h⟩
  rw [e]
  rintro r ⟨l', ⟨v', ups', e1, e2, _, h'⟩, rfl⟩
  have e1 : v = v' := by omega
  rw [← nats_inj e2, ← e1, h] at h'
  rw [← Option.some.inj h']; exact hP
theorem lst_holds {t : Rho → T (List PV)} {ρ : Rho} {rs : List PV} (h : ∀ P : List PV → Prop, P rs → (t ρ).Holds P) {P : PV → Prop} (hP : P (.list rs)) : (lstT t ρ).Holds P := T.bind_holds _ (h _ hP)
theorem range6 {P : List PV → Prop} {ρ : Rho} (h : P (intsTo 6)) : (rangeT (fun _ => intE 6) ρ).Holds P := T.chk_holds (b := decide ((0 : Int) ≤ 6) && decide ((6 : Int) ≤ 1000)) (by decide) h
section
variable (nm : List Nat) (t : Nat)
noncomputable def aboveT (i : Nat) : List Str := ((abv (upsN nm) 7 i).getD []).map fun v => Tn nm t ((nodesI nm).getD v [])
theorem above_ways : ((List.range 6).filter fun n => !(upsN nm).contains n).map (fun i => rowP (aboveT nm t i)) = (WS nm t).map rowP := by
  have h := (chk_ups nm).1
  unfold chkA at h
  have h := eq_of_beq h
  have h2 := congrArg (List.map fun o : Option (List (List Nat)) => rowP ((o.getD []).map (Tn nm t))) h
  rw [List.map_map, List.map_map] at h2
  have e2 : (WS nm t).map rowP = (leavesI (idsL (upsN nm))).map ((fun o : Option (List (List Nat)) => rowP ((o.getD []).map (Tn nm t))) ∘ fun a => some (wayIds a)) := by
    unfold WS
    rw [List.map_map]; rfl
  rw [e2, ← h2]
  refine List.map_congr_left fun i hi => ?_
  have hi := List.mem_range.mp (List.mem_filter.mp hi).1
  obtain ⟨l, hl, _⟩ := abv_ups nm hi
  show rowP (aboveT nm t i) = rowP ((((abv (upsN nm) 7 i).map fun l => l.map ((idsL (upsN nm)).getD · [])).getD []).map (Tn nm t))
  unfold aboveT
  rw [hl]
  simp only [Option.getD_some, Option.map_some, List.map_map]
  rfl
theorem way_strs : ∀ r ∈ WS nm t, ∀ x ∈ r, x ∈ US nm t := by
  intro r hr x hx
  obtain ⟨a, ha, rfl⟩ := List.mem_map.mp hr
  obtain ⟨y, hy, rfl⟩ := List.mem_map.mp hx
  exact mem_US nm t (nodes_closed nm (List.mem_filter.mp ha).1 (mem_wayIds.mp hy))
theorem lw_seen {ρ : Rho} (hw : Has ρ "ways" (.val (.list ((WS nm t).map rowP)))) (hx : Has ρ "texts" (.val (.list (txs (textsL nm t))))) (hu : Has ρ "ups" (.val (.list (nats (upsN nm))))) {Q : Rho × Fl → Prop} (hq : Q (ρ, .next)) : (lwS 10 ρ).Holds Q := by
  rw [lw10]
  rw [texts_US] at hx
  have u5 := ups_len nm
  refine ifX_holds (v := false) (fun P hP => cm_holds (v := false) (x := .list ((WS nm t).map rowP)) (y := .list ((WS nm t).map rowP)) (fun P h => vB_holds hw h) (fun P h => lst_holds (rs := (WS nm t).map rowP) (fun P h => ?_) h) (fun P h => ?_) hP) ?_
  · refine compTs_map (xs := List.range 6) (f := fun i => .int (i : Nat)) (t := fun n => !(upsN nm).contains n) (g := fun i => rowP (aboveT nm t i)) (fun P h => range6 h) (by decide) (fun i hi P hP => ?_) (fun i hi _ P hP => ?_) (by rw [above_ways]; exact h)
    · refine cm_holds (x := .int (i : Nat)) (y := .list (nats (upsN nm))) (fun P h => vB_holds Has.set h) (fun P h => vB_holds ((hu.capt (by decide +kernel)).set_ne (by decide +kernel) rfl) h) (fun P h => ?_) hP
      show T.Holds P ((inP (.int (i : Nat)) (nats (upsN nm))).bind fun r => .ret (.bool (!r)))
      rw [inP_nats]
      exact T.chk_holds rfl h
    · have hi := List.mem_range.mp hi
      obtain ⟨l, hl, hl6⟩ := abv_ups nm hi
      have h1 : Has (setE (capt sc10 L41 ρ) "leaf" (.val (.int (i : Nat)))) "leaf" (.val (.int (i : Nat))) := Has.set
      have h2 : Has (setE (capt sc10 L41 ρ) "leaf" (.val (.int (i : Nat)))) "ups" (.val (.list (nats (upsN nm)))) := (hu.capt (by decide +kernel)).set_ne (by decide +kernel) rfl
      have h3 : Has (setE (capt sc10 L41 ρ) "leaf" (.val (.int (i : Nat)))) "texts" (.val (.list ((US nm t).map .str))) := (hx.capt (by decide +kernel)).set_ne (by decide +kernel) rfl
      generalize setE (capt sc10 L41 ρ) "leaf" (.val (.int (i : Nat))) = ρ1 at h1 h2 h3
      have e : aboveT nm t i = l.map fun v => Tn nm t ((nodesI nm).getD v []) := by unfold aboveT; rw [hl]; rfl
      have hl1000 : l.length ≤ 1000 := by
        have : ∀ (f v : Nat) (l : List Nat), abv (upsN nm) f v = some l → l.length ≤ f := by
          intro f
          induction f with
          | zero => intro v l h; cases h
          | succ f ih =>
            intro v l h
            unfold abv at h
            split at h
            · cases h; simp
            · obtain ⟨u, _, h⟩ := Option.bind_eq_some_iff.mp h
              obtain ⟨l', h', rfl⟩ := Option.map_eq_some_iff.mp h
              have := ih u l' h'
              simp only [List.length_cons]; omega
        have := this 7 i l hl
        omega
      refine lst_holds (rs := l.map fun v => .str (Tn nm t ((nodesI nm).getD v []))) (fun P h => ?_) ?_
      · refine compTs_map (xs := l) (f := fun v => .int (v : Nat)) (t := fun _ => true) (g := fun v => .str (Tn nm t ((nodesI nm).getD v []))) (fun P h => ?_) hl1000 (fun _ _ _ h => h) (fun v hv _ P hP => ?_) (by rw [List.filter_eq_self.mpr fun _ _ => rfl]; exact h)
        refine T.bind_holds _ (call2_holds (fun P h => vE_holds h1 h) (fun P h => vE_holds h2 h) (abvS_yes (by omega) hl ?_))
        · exact T.chk_holds (b := decide ((nats l).length ≤ sizeLine)) (zle (by simpa using hl1000)) h
        have hv6 := hl6 v hv
        have t4 : Has (setE (capt sc10b (relab sc10 L41) ρ1) "node" (.val (.int (v : Nat)))) "texts" (.val (.list ((US nm t).map .str))) := (h3.capt (by decide +kernel)).set_ne (by decide +kernel) rfl
        have n4 : Has (setE (capt sc10b (relab sc10 L41) ρ1) "node" (.val (.int (v : Nat)))) "node" (.val (.int (v : Nat))) := Has.set
        have e6 : ((US nm t).map PV.str).length ≤ 1000 := by rw [List.length_map, US_len]; decide
        refine sub_holds (x := .list ((US nm t).map .str)) (k := .int (v : Nat)) (d := .str (Tn nm t ((nodesI nm).getD v []))) (fun P h => vB_holds t4 h) (fun P h => vB_holds n4 h) (fun P h => ?_) hP
        have hv' : v < (nodesI nm).length := by rw [nodes_len]; exact hv6
        have hk : ((US nm t).map PV.str)[v]? = some (PV.str (Tn nm t ((nodesI nm).getD v []))) := by
          unfold US
          rw [List.map_map, List.getElem?_map, List.getElem?_eq_getElem hv', List.getD_eq_getElem?_getD, List.getElem?_eq_getElem hv']
          rfl
        revert hk e6
        generalize (US nm t).map PV.str = L
        intro e6 hk
        exact itm_list hk e6 h
      · have : PV.list (l.map fun v => .str (Tn nm t ((nodesI nm).getD v []))) = rowP (aboveT nm t i) := by rw [e]; unfold rowP; rw [List.map_map]; rfl
        rw [this]; exact hP
  · refine T.bind_holds _ (eqvP_rows (fun r hr x hx => US_ok nm t x (way_strs nm t r hr x hx)) ?_)
    exact h
  · rw [if_neg (by decide)]; exact hq
end
end Mine
namespace Mine
theorem rows_inj : ∀ {a b : List (List Str)}, a.map rowP = b.map rowP → a = b
  | [], [], _ => rfl
  | [], _ :: _, h => by simp at h
  | _ :: _, [], h => by simp at h
  | x :: a, y :: b, h => by
    simp only [List.map_cons, List.cons.injEq] at h
    rw [rowP_inj h.1, rows_inj h.2]
theorem meetS_yes {W : List (List Str)} {U : List Str} (M : MeetOk W U) {P : PV → Prop} (h : ∀ L, MinTr W L → P (.list (L.map rowP))) : (meetS [.list (W.map rowP)]).Holds P := by
  have e : meetS [.list (W.map rowP)] = T.any (fun d => ∃ W' L, W.map rowP = W'.map rowP ∧ d = PV.list (L.map rowP) ∧ MinTr W' L) T.ret := by
    unfold meetS; exact if_pos ⟨W, U, rfl, M⟩
  rw [e]
  rintro d ⟨W', L, hW, rfl, hL⟩
  rw [← rows_inj hW] at hL
  exact h L hL
theorem toldS_yes {w : List Str} (h : ToldOk w) {P : PV → Prop} (hP : P (.bool true)) : (toldS [rowP w]).Holds P := by
  have e : toldS [rowP w] = .ret (.bool true) := by
    unfold toldS rowP; exact if_pos ⟨w, rfl, h⟩
  rw [e]; exact hP
theorem wayIds_nd (a : List Nat) : (wayIds a).Nodup := by
  unfold wayIds List.Nodup
  rw [List.pairwise_map]
  refine (List.nodup_range).imp_of_mem fun {i j} hi hj hne e => hne ?_
  have hi := List.mem_range.mp hi
  have hj := List.mem_range.mp hj
  have := congrArg List.length e
  rw [List.length_take, List.length_take, Nat.min_eq_left (Nat.sub_le _ _), Nat.min_eq_left (Nat.sub_le _ _)] at this
  omega
section
variable (nm : List Nat) (t : Nat)
theorem way_nd {a : List Nat} (ha : a ∈ nodesI nm) : (wayT nm t a).Nodup := by
  unfold wayT List.Nodup
  rw [List.pairwise_map]
  refine (wayIds_nd a).imp_of_mem fun {x y} hx hy hne e => hne ?_
  exact Tn_inj nm t (inT_pre nm t ha (mem_wayIds.mp hx)) (inT_pre nm t ha (mem_wayIds.mp hy)) e
theorem way_len {a : List Nat} (ha : a ∈ nodesI nm) : (wayT nm t a).length ≤ 6 := by
  unfold wayT wayIds
  rw [List.length_map, List.length_map, List.length_range]
  have := node_len nm ha
  omega
theorem way_told {a : List Nat} (ha : a ∈ nodesI nm) : ToldOk (wayT nm t a) := by
  refine ⟨fun e => ?_, way_nd nm t ha, fun h => ?_, Nat.le_trans (way_len nm t ha) (by decide), fun x hx => ?_⟩
  · have : Tn nm t a ∈ wayT nm t a := List.mem_map_of_mem (mem_wayIds.mpr (List.prefix_refl a))
    rw [e] at this; cases this
  · obtain ⟨y, hy, e⟩ := List.mem_map.mp h
    have e2 : Tn nm t y = tx [] := e.trans (by decide +kernel)
    exact tp_ne nm t (inT_pre nm t ha (mem_wayIds.mp hy)) (tx_inj e2)
  · obtain ⟨y, hy, rfl⟩ := List.mem_map.mp hx
    exact Tn_ok nm t (inT_pre nm t ha (mem_wayIds.mp hy))
theorem leaf_node {a : List Nat} (h : a ∈ leavesI (nodesI nm)) : a ∈ nodesI nm := (List.mem_filter.mp h).1
theorem WS_len : (WS nm t).length ≤ 6 := by
  unfold WS leavesI
  rw [List.length_map]
  have := List.length_filter_le (fun a => (nodesI nm).all fun b => !(a.isPrefixOf b && a != b)) (nodesI nm)
  rw [nodes_len] at this
  exact this
theorem items_rows {l : List (List Str)} (h : l.length ≤ 1000) {P : List PV → Prop} (hP : P (l.map rowP)) : (itemsP (.list (l.map rowP))).Holds P := T.chk_holds (b := decide ((l.map rowP).length ≤ sizeLine)) (zle (by rw [List.length_map]; exact h)) hP
theorem lw_told {ρ : Rho} (hw : Has ρ "ways" (.val (.list ((WS nm t).map rowP)))) {Q : Rho × Fl → Prop} (hq : Q (ρ, .next)) : (lwS 11 ρ).Holds Q := by
  rw [lw11]
  refine ifX_holds (v := false) (fun P hP => cm_holds (v := false) (x := .bool false) (y := .list (((WS nm t).map fun _ => true).map .bool)) (fun P (h : P (PV.bool false)) => (show T.Holds P (T.ret (PV.bool false)) from h)) (fun P h => lst_holds (rs := ((WS nm t).map fun _ => true).map .bool) (fun P h => ?_) h) (fun P h => ?_) hP) ?_
  · refine compTs_map (xs := WS nm t) (f := rowP) (t := fun _ => true) (g := fun _ => .bool true) (fun P h => T.bind_holds _ (vB_holds hw (items_rows (Nat.le_trans (WS_len nm t) (by decide)) h))) (Nat.le_trans (WS_len nm t) (by decide)) (fun _ _ _ h => h) (fun w hm _ P hP => ?_) ?_
    · obtain ⟨a, ha, rfl⟩ := List.mem_map.mp hm
      exact call1_holds (s := toldS) (fun P h => vE_holds Has.set h) (toldS_yes (way_told nm t (leaf_node nm ha)) hP)
    · rw [List.filter_eq_self.mpr fun _ _ => rfl]
      rw [List.map_map] at h
      exact h
  · show T.Holds P ((inP (.bool false) (((WS nm t).map fun _ => true).map .bool)).bind fun r => .ret (.bool r))
    rw [inP_bools]
    have : ((WS nm t).map fun _ => true).contains false = false := by
      rw [← Bool.not_eq_true]
      intro q
      rw [List.contains_iff_mem] at q
      obtain ⟨_, _, e⟩ := List.mem_map.mp q
      cases e
    rw [this]
    exact T.chk_holds rfl h
  · rw [if_neg (by decide)]; exact hq
noncomputable def rootT : Str := Tn nm t []
noncomputable def US5 : List Str := (US nm t).drop 1
theorem US_root : US nm t = rootT nm t :: US5 nm t := by
  obtain ⟨tl, e, _⟩ := idsL_head (upsN nm)
  unfold US5 US nodesI rootT
  rw [e]; rfl
theorem US5_len : (US5 nm t).length = 5 := by unfold US5; rw [List.length_drop, US_len]
theorem WS_root : ∀ v ∈ WS nm t, rootT nm t ∈ v := fun v hv => by
  obtain ⟨a, ha, rfl⟩ := List.mem_map.mp hv
  exact List.mem_map_of_mem (mem_wayIds.mpr List.nil_prefix)
theorem WS_in : ∀ v ∈ WS nm t, ∀ x ∈ v, x = rootT nm t ∨ x ∈ US5 nm t := fun v hv x hx => by
  have := way_strs nm t v hv x hx
  rw [US_root] at this
  exact List.mem_cons.mp this
theorem WS_meet : MeetOk (WS nm t) (US nm t) := by
  refine ⟨fun w hw => ⟨?_, fun x hx => US_ok nm t x (way_strs nm t w hw x hx), way_strs nm t w hw⟩, by rw [US_len]; decide, Nat.le_trans (WS_len nm t) (by decide), fun i w L hi hL => ?_⟩
  · obtain ⟨a, ha, rfl⟩ := List.mem_map.mp hw
    exact way_nd nm t (leaf_node nm ha)
  · have hw := List.mem_of_getElem? hi
    have hl : w.length ≤ 6 := by
      obtain ⟨a, ha, rfl⟩ := List.mem_map.mp hw
      exact way_len nm t (leaf_node nm ha)
    exact small_ways hL (fun v hv => WS_root nm t v (List.mem_of_mem_take hv)) (US5_len nm t) (fun v hv => WS_in nm t v (List.mem_of_mem_take hv)) (WS_root nm t w hw) hl
theorem lw_gates {ρ : Rho} (hw : Has ρ "ways" (.val (.list ((WS nm t).map rowP)))) {Q : Rho × Fl → Prop} (hq : ∀ G, MinTr (WS nm t) G → Q (setE ρ "gates" (.val (.list (G.map rowP))), .next)) : (lwS 12 ρ).Holds Q := by
  rw [lw12, frz_val hw]
  exact T.bind_holds _ (call1_holds (s := meetS) (fun P h => vE_holds hw h) (meetS_yes (WS_meet nm t) fun L hL => hq L hL))
end
end Mine
namespace Mine
theorem or_holds {a b : Rho → T Bool} {va vb : Bool} {ρ : Rho} (ha : ∀ P : Bool → Prop, P va → (a ρ).Holds P) (hb : va = false → ∀ P : Bool → Prop, P vb → (b ρ).Holds P) {P : Bool → Prop} (hp : P (va || vb)) : (orT a b ρ).Holds P := by
  refine T.bind_holds _ (ha _ ?_)
  cases va with
  | true => exact ite_yes hp
  | false => exact hb rfl P hp
theorem one_len {r : List Str} {f : Str → Bool} (nd : r.Nodup) (h : ∃ x ∈ r, f x = true) (h1 : ∀ x ∈ r, ∀ y ∈ r, f x = true → f y = true → x = y) : (r.filter f).length = 1 := by
  obtain ⟨x, hx, hfx⟩ := h
  have nd' := nd.filter f
  have e : ∀ y ∈ r.filter f, y = x := fun y hy => by
    have := List.mem_filter.mp hy
    exact h1 y this.1 x hx this.2 hfx
  have hm : x ∈ r.filter f := List.mem_filter.mpr ⟨hx, hfx⟩
  match hr : r.filter f, nd', e, hm with
  | [a], _, _, _ => rfl
  | a :: b :: l, nd', e, _ =>
    have ea := e a (.head _)
    have eb := e b (.tail _ (.head _))
    have := (List.nodup_cons.mp nd').1
    exact absurd (by rw [ea, ← eb]; exact .head _) this
structure J13 (nm : List Nat) (t : Nat) (G : List (List Str)) (ρ : Rho) : Prop where
  ways : Has ρ "ways" (.val (.list ((WS nm t).map rowP)))
  gates : Has ρ "gates" (.val (.list (G.map rowP)))
  below : Has ρ "below" (.val (belD nm t))
  ups : Has ρ "ups" (.val (.list (nats (upsN nm))))
theorem J13.set {nm : List Nat} {t : Nat} {G : List (List Str)} {ρ : Rho} (J : J13 nm t G ρ) {x : Str} {e : Ent} (h1 : (x == "ways") = false) (h2 : (x == "gates") = false) (h3 : (x == "below") = false) (h4 : (x == "ups") = false) : J13 nm t G (setE ρ x e) :=
  ⟨J.ways.set_ne h1 rfl, J.gates.set_ne h2 rfl, J.below.set_ne h3 rfl, J.ups.set_ne h4 rfl⟩
section
variable (nm : List Nat) (t : Nat)
theorem mem_way {a y : List Nat} (ha : a ∈ nodesI nm) (hy : y ∈ nodesI nm) : Tn nm t y ∈ wayT nm t a ↔ y <+: a := by
  constructor
  · intro h
    obtain ⟨z, hz, e⟩ := List.mem_map.mp h
    have hz := mem_wayIds.mp hz
    rw [← Tn_inj nm t (inT_pre nm t ha hz) (inT nm t hy) e]; exact hz
  · intro h; exact List.mem_map_of_mem (mem_wayIds.mpr h)
theorem way_head (a : List Nat) : ∃ r, wayT nm t a = Tn nm t a :: r := by
  unfold wayT wayIds
  rw [List.range_succ_eq_map]
  refine ⟨_, by rw [List.map_cons, List.map_cons, Nat.sub_zero, List.take_length]⟩
theorem way_at (a : List Nat) : ((wayT nm t a).map PV.str)[0]? = some (.str (Tn nm t a)) := by
  obtain ⟨r, e⟩ := way_head nm t a
  rw [e]; rfl
theorem str_beq (x y : Str) : (x.cps.toList == y.cps.toList) = decide (x = y) := by
  rw [Bool.eq_iff_iff, beq_iff_eq, decide_eq_true_iff]
  exact ⟨fun e => by rw [tx_of x, tx_of y, e], fun e => by rw [e]⟩
theorem spot_holds {ρ : Rho} {a y : List Nat} (J : Has ρ "below" (.val (belD nm t))) (ha : a ∈ nodesI nm) (hy : y ∈ nodesI nm) (hw : Has ρ "way" (.val (rowP (wayT nm t a)))) (hs : Has ρ "spot" (.val (.str (Tn nm t y)))) {P : Bool → Prop} (hP : P (decide (Tn nm t y ∈ wayT nm t a))) :
    (orT (cmT .Eq (vB "spot") (subT (vB "way") fun _ => intE 0)) (cmT .In (subT (vB "way") fun _ => intE 0) (subT (vB "below") (vB "spot"))) ρ).Holds P := by
  have w0 : ∀ P : PV → Prop, P (.str (Tn nm t a)) → (subT (vB "way") (fun _ => intE 0) ρ).Holds P := fun P h =>
    sub_holds (x := rowP (wayT nm t a)) (k := .int ((0 : Nat) : Int)) (fun P h => vB_holds hw h) (fun P (h : P (PV.int ((0 : Nat) : Int))) => (show T.Holds P (intE 0) from h)) (fun P h => itm_list (i := 0) (way_at nm t a) (by rw [List.length_map]; exact Nat.le_trans (way_len nm t ha) (by decide)) h) h
  refine or_holds (va := decide (Tn nm t y = Tn nm t a)) (vb := decide (Tn nm t a ∈ below (Tn nm t y) (US nm t))) (fun P h => cm_holds (x := .str (Tn nm t y)) (y := .str (Tn nm t a)) (fun P h => vB_holds hs h) w0 (fun P h => ?_) h) (fun _ P h => cm_holds (x := .str (Tn nm t a)) (y := belP (US nm t) (Tn nm t y)) w0 (fun P h => sub_holds (fun P h => vB_holds J h) (fun P h => vB_holds hs h) (fun P h => itm_dict (mem_US nm t hy) h) h) (fun P h => ?_) h) ?_
  · show P (.bool ((Tn nm t y).cps.toList == (Tn nm t a).cps.toList))
    rw [str_beq]; exact h
  · show T.Holds P ((inP (.str (Tn nm t a)) ((below (Tn nm t y) (US nm t)).map .str)).bind fun r => .ret (.bool r))
    rw [inP_strs (Tn_ok nm t (inT nm t ha)) (bel_ok nm t _)]
    exact T.chk_holds rfl h
  · have e : (decide (Tn nm t y = Tn nm t a) || decide (Tn nm t a ∈ below (Tn nm t y) (US nm t))) = decide (Tn nm t y ∈ wayT nm t a) := by
      rw [Bool.eq_iff_iff, Bool.or_eq_true, decide_eq_true_iff, decide_eq_true_iff, decide_eq_true_iff, mem_way nm t ha hy, below_US nm t hy]
      constructor
      · rintro (q | q)
        · rw [Tn_inj nm t (inT nm t hy) (inT nm t ha) q]; exact List.prefix_refl a
        · obtain ⟨z, hz, e⟩ := List.mem_map.mp q
          obtain ⟨hzI, hz⟩ := List.mem_filter.mp hz
          rw [Bool.and_eq_true, List.isPrefixOf_iff_prefix] at hz
          rw [← Tn_inj nm t (inT nm t hzI) (inT nm t ha) e]; exact hz.1
      · intro h
        by_cases e : y = a
        · exact .inl (by rw [e])
        · refine .inr (List.mem_map_of_mem (List.mem_filter.mpr ⟨ha, ?_⟩))
          rw [Bool.and_eq_true, List.isPrefixOf_iff_prefix, bne_iff_ne]
          exact ⟨h, e⟩
    rw [e]; exact hP
theorem gate_in {G : List (List Str)} (hG : MinTr (WS nm t) G) {r : List Str} (hr : r ∈ G) : ∀ x ∈ r, x ∈ US nm t := fun x hx => by
  obtain ⟨w, hw, hxw⟩ := hG.el r hr x hx
  exact way_strs nm t w hw x hxw
theorem gate_len {G : List (List Str)} (hG : MinTr (WS nm t) G) {r : List Str} (hr : r ∈ G) : r.length ≤ 6 := by
  have := nodup_sub_len (hG.nd r hr) (gate_in nm t hG hr)
  rwa [US_len] at this
theorem gate_one {G : List (List Str)} (hG : MinTr (WS nm t) G) {r : List Str} (hr : r ∈ G) {a : List Nat} (ha : a ∈ leavesI (nodesI nm)) : (r.filter fun x => decide (x ∈ wayT nm t a)).length = 1 := by
  have hw : wayT nm t a ∈ WS nm t := List.mem_map_of_mem ha
  refine one_len (hG.nd r hr) ?_ fun x hx y hy fx fy => ?_
  · obtain ⟨x, hxw, hxr⟩ := hG.tr r hr _ hw
    exact ⟨x, hxr, decide_eq_true hxw⟩
  · refine hG.one (fun x y => ∃ i j, i ∈ nodesI nm ∧ j ∈ nodesI nm ∧ x = Tn nm t i ∧ y = Tn nm t j ∧ i <+: j) (fun w hw x hx y hy => ?_) (fun x y ⟨i, j, hi, hj, e1, e2, hp⟩ w hw hy => ?_) hr hw hx (of_decide_eq_true fx) hy (of_decide_eq_true fy)
    · obtain ⟨b, hb, rfl⟩ := List.mem_map.mp hw
      have hbn := leaf_node nm hb
      obtain ⟨i, hi, rfl⟩ := List.mem_map.mp hx
      obtain ⟨j, hj, rfl⟩ := List.mem_map.mp hy
      have hi := mem_wayIds.mp hi
      have hj := mem_wayIds.mp hj
      rcases Nat.le_total i.length j.length with q | q
      · exact .inr (.inl ⟨i, j, nodes_closed nm hbn hi, nodes_closed nm hbn hj, rfl, rfl, List.prefix_of_prefix_length_le hi hj q⟩)
      · exact .inr (.inr ⟨j, i, nodes_closed nm hbn hj, nodes_closed nm hbn hi, rfl, rfl, List.prefix_of_prefix_length_le hj hi q⟩)
    · obtain ⟨b, hb, rfl⟩ := List.mem_map.mp hw
      have hbn := leaf_node nm hb
      subst e1; subst e2
      exact (mem_way nm t hbn hi).mpr (hp.trans ((mem_way nm t hbn hj).mp hy))
theorem lw13_in {G : List (List Str)} (hG : MinTr (WS nm t) G) {r : List Str} (hr : r ∈ G) {a : List Nat} (ha : a ∈ leavesI (nodesI nm)) {ρ : Rho} (J : J13 nm t G ρ) (h1 : Has ρ "row" (.val (rowP r))) (h2 : Has ρ "way" (.val (rowP (wayT nm t a)))) {Q : Rho × Fl → Prop} (hq : Q (ρ, .next)) : (lwB 18 gB2 ρ).Holds Q := by
  rw [lw13b]
  refine seq_intro (ifX_holds (v := false) (fun P hP => cm_holds (v := false) (x := .int ((1 : Nat) : Int)) (y := .int 1) (fun P h => ?_) (fun P (h : P (PV.int 1)) => (show T.Holds P (intE 1) from h)) (fun P h => ?_) hP) ?_)
  · have l6 := gate_len nm t hG hr
    refine T.bind_holds _ (lst_holds (rs := (r.filter fun x => decide (x ∈ wayT nm t a)).map .str) (fun P h => ?_) ?_)
    · refine compTs_map (xs := r) (f := fun x => .str x) (t := fun x => decide (x ∈ wayT nm t a)) (g := fun x => .str x) (fun P h => T.bind_holds _ (vB_holds h1 (items_txs (by omega) h))) (by omega) (fun x hx P hP => ?_) (fun x hx _ P hP => vE_holds Has.set hP) h
      obtain ⟨y, hy, rfl⟩ := List.mem_map.mp (gate_in nm t hG hr x hx)
      have hbl : Has (setE (capt sc13 L41 ρ) "spot" (.val (.str (Tn nm t y)))) "below" (.val (belD nm t)) := (J.below.capt (by decide +kernel)).set_ne (by decide +kernel) rfl
      have hwy : Has (setE (capt sc13 L41 ρ) "spot" (.val (.str (Tn nm t y)))) "way" (.val (rowP (wayT nm t a))) := (h2.capt (by decide +kernel)).set_ne (by decide +kernel) rfl
      exact spot_holds nm t hbl (leaf_node nm ha) hy hwy Has.set hP
    · rw [← gate_one nm t hG hr ha] at h
      rw [← List.length_map (f := PV.str)] at h
      refine T.chk_holds (b := decide (((r.filter fun x => decide (x ∈ wayT nm t a)).map PV.str).length ≤ sizeLine)) (zle ?_) h
      have := List.length_filter_le (fun x => decide (x ∈ wayT nm t a)) r
      rw [List.length_map]; omega
  · exact h
  · rw [if_neg (by decide)]
    exact hq
end
end Mine
namespace Mine
section
variable (nm : List Nat) (t : Nat)
theorem gates_eq {G : List (List Str)} (hG : MinTr (WS nm t) G) : G.length = ((allB 6).filter (minB ((leavesI (nodesI nm)).map (wayB (nodesI nm))))).length := by
  have e := minTr_count hG (US_nd nm t) (way_strs nm t)
  rw [US_len] at e
  have ew : (WS nm t).map (marks (US nm t)) = (leavesI (nodesI nm)).map (wayB (nodesI nm)) := by
    unfold WS
    rw [List.map_map]
    refine List.map_congr_left fun a ha => ?_
    show marks (US nm t) (wayT nm t a) = wayB (nodesI nm) a
    unfold marks US wayB
    rw [List.map_map]
    refine List.map_congr_left fun x hx => ?_
    show decide (Tn nm t x ∈ wayT nm t a) = x.isPrefixOf a
    rw [Bool.eq_iff_iff, decide_eq_true_iff, mem_way nm t (leaf_node nm ha) hx, List.isPrefixOf_iff_prefix]
  rw [ew] at e
  exact e
theorem gates_count {G : List (List Str)} (hG : MinTr (WS nm t) G) : cntO 7 0 (upsN nm) = some G.length := by
  have h := (chk_ups nm).2
  unfold chkB at h
  have h := eq_of_beq h
  rw [gates_eq nm t hG]
  exact h
theorem gates_len {G : List (List Str)} (hG : MinTr (WS nm t) G) : G.length ≤ 64 := by
  rw [gates_eq nm t hG]
  refine Nat.le_trans (List.length_filter_le _ _) ?_
  decide
theorem lw_ones {G : List (List Str)} (hG : MinTr (WS nm t) G) {ρ : Rho} (J : J13 nm t G ρ) {Q : Rho × Fl → Prop} (hq : ∀ ρ', J13 nm t G ρ' → Q (ρ', .next)) : (lwS 13 ρ).Holds Q := by
  rw [lw13, frz_val J.gates]
  unfold forX
  rw [valE_of J.gates]
  refine T.bind_holds _ (items_rows (Nat.le_trans (gates_len nm t hG) (by decide)) ?_)
  refine forT_holds (P := Q) (fun _ ρ => J13 nm t G ρ) (G.map rowP) 0 ρ (fun j d ρ hj J => ?_) (fun ρ J => hq ρ J) J
  rw [List.getElem?_map, Option.map_eq_some_iff] at hj
  obtain ⟨r, hr, rfl⟩ := hj
  have hr := List.mem_of_getElem? hr
  rw [lw13a]
  refine seq_intro ?_
  have J1 : J13 nm t G (setE ρ "row" (.val (rowP r))) := J.set (by decide +kernel) (by decide +kernel) (by decide +kernel) (by decide +kernel)
  have r1 : Has (setE ρ "row" (.val (rowP r))) "row" (.val (rowP r)) := Has.set
  generalize setE ρ "row" (.val (rowP r)) = ρ1 at J1 r1
  show T.Holds _ (forX "way" "ways" (lwB 18 gB2) (frz ρ1 "ways"))
  rw [frz_val J1.ways]
  unfold forX
  rw [valE_of J1.ways]
  refine T.bind_holds _ (items_rows (Nat.le_trans (WS_len nm t) (by decide)) ?_)
  refine forT_holds (fun _ ρ => J13 nm t G ρ ∧ Has ρ "row" (.val (rowP r))) ((WS nm t).map rowP) 0 ρ1 (fun j d ρ hj hJ => ?_) (fun ρ hJ => hJ.1) ⟨J1, r1⟩
  rw [List.getElem?_map, Option.map_eq_some_iff] at hj
  obtain ⟨w, hw, rfl⟩ := hj
  obtain ⟨a, ha, rfl⟩ := List.mem_map.mp (List.mem_of_getElem? hw)
  have J2 : J13 nm t G (setE ρ "way" (.val (rowP (wayT nm t a)))) := hJ.1.set (by decide +kernel) (by decide +kernel) (by decide +kernel) (by decide +kernel)
  have r2 : Has (setE ρ "way" (.val (rowP (wayT nm t a)))) "row" (.val (rowP r)) := hJ.2.set_ne (by decide +kernel) rfl
  exact lw13_in nm t hG hr ha J2 r2 Has.set ⟨J2, r2⟩
theorem count_any {k : Nat} {ups : List Nat} {v : Nat} (hl : ups.length ≤ 10) (e : cntO k 0 ups = some v) {ρ : Rho} (hu : Has ρ "ups" (.val (.list (nats ups)))) {Q : Rho × Fl → Prop} (hq : Q (setE ρ "count" (.val (.int (v : Nat))), .next)) : (asgT "count" (call2 (cntS k).1 (fun _ => intE 0) (vE "ups")) ρ).Holds Q :=
  asg_holds (d := .int (v : Nat)) (fun P hP => call2_holds (x := .int ((0 : Nat) : Int)) (y := .list (nats ups)) (fun P (h : P (PV.int ((0 : Nat) : Int))) => (show T.Holds P (intE 0) from h)) (fun P h => vE_holds hu h) (cnt_holds k hl 0 v e P hP)) hq
theorem lw_count {G : List (List Str)} (hG : MinTr (WS nm t) G) {ρ : Rho} (J : J13 nm t G ρ) {Q : Rho × Fl → Prop} (hq : Q (setE ρ "count" (.val (.int (G.length : Nat))), .next)) : (lwS 14 ρ).Holds Q := by
  rw [lw14, frz_val J.ups]
  exact count_any (by rw [ups_len]; decide) (gates_count nm t hG) J.ups hq
end
end Mine
namespace Mine
theorem srt_holds {r : List Str} (hl : r.length < 64) {P : PV → Prop} (h : ∀ ss : List Str, ss.Perm r → sortedS ss = true → P (.list (ss.map .str))) : (srtP [rowP r]).Holds P := by
  show T.Holds P ((T.ofOpt (strsOf (r.map .str))).bind fun ss => T.chk (decide (ss.length < 64)) (.any (fun d => ∃ ss' : List Str, d = .list (ss'.map .str) ∧ ss'.Perm ss ∧ sortedS ss' = true) T.ret))
  rw [strsOf_map]
  refine T.chk_holds (decide_eq_true hl) ?_
  rintro d ⟨ss, rfl, hp, hs⟩
  exact h ss hp hs
theorem sum_le : ∀ {l : List Str}, (∀ x ∈ l, x.length ≤ 16) → (l.map (·.length)).sum ≤ 16 * l.length
  | [], _ => by simp
  | x :: l, h => by
    have h1 := h x (.head _)
    have h2 := sum_le (l := l) fun y hy => h y (.tail _ hy)
    simp only [List.map_cons, List.sum_cons, List.length_cons]
    omega
noncomputable def JnR (r : List Str) (y : PV) : Prop := ∃ ss : List Str, ss.Perm r ∧ sortedS ss = true ∧ y = .str (Txt.join " " ss)
theorem jn_holds {r : List Str} (hl : r.length ≤ 6) (h16 : ∀ x ∈ r, x.length ≤ 16) {ρ : Rho} (hr : Has ρ "row" (.val (rowP r))) {P : PV → Prop} (hP : ∀ y, JnR r y → P y) : (jnElt ρ).Holds P := by
  show T.Holds P (T.chk (decide ((" " : Str).length ≤ sizeLine)) ((call1 srtP (vE "row") ρ).bind fun y => joinP " " y))
  refine T.chk_holds (by decide +kernel) (T.bind_holds _ (call1_holds (s := srtP) (fun P h => vE_holds hr h) (srt_holds (by omega) fun ss hp hs => ?_)))
  show T.Holds P ((T.ofOpt (strsOf (ss.map .str))).bind fun ys => .chk (JoinOk " " ys) (.ret (.str (Txt.join " " ys))))
  rw [strsOf_map]
  refine T.chk_holds (joinOk_of_weight ?_ (by decide +kernel)) (hP _ ⟨ss, hp, hs, rfl⟩)
  have h1 := sum_le (l := ss) fun x hx => h16 x (hp.mem_iff.mp hx)
  have h2 := hp.length_eq
  omega
theorem jn_keys : ∀ {G : List (List Str)} {ys : List PV}, (∀ r ∈ G, ∀ x ∈ r, NoSp x) → (G.Pairwise fun a b => ¬ a ⊆ b ∧ ¬ b ⊆ a) → All2 JnR G ys → ∃ ks : List Str, ys = ks.map .str ∧ ks.length = G.length ∧ ks.Nodup ∧ ∀ k ∈ ks, ∃ r ∈ G, ∃ ss : List Str, ss.Perm r ∧ k = Txt.join " " ss
  | [], [], _, _, _ => ⟨[], rfl, rfl, List.nodup_nil, fun _ h => nomatch h⟩
  | [], _ :: _, _, _, h => h.elim
  | _ :: _, [], _, _, h => h.elim
  | r :: G, y :: ys, ok, anti, ⟨h1, h2⟩ => by
    obtain ⟨ss, hp, _, rfl⟩ := h1
    obtain ⟨a1, a2⟩ := List.pairwise_cons.mp anti
    obtain ⟨ks, rfl, hl, nd, hk⟩ := jn_keys (fun r hr => ok r (.tail _ hr)) a2 h2
    refine ⟨Txt.join " " ss :: ks, rfl, by simp [hl], List.nodup_cons.mpr ⟨fun hm => ?_, nd⟩, fun k hk' => ?_⟩
    · obtain ⟨r', hr', ss', hp', e⟩ := hk _ hm
      have := join_inj (fun x hx => ok r (.head _) x (hp.mem_iff.mp hx)) (fun x hx => ok r' (.tail _ hr') x (hp'.mem_iff.mp hx)) e
      subst this
      exact (a1 r' hr').1 fun x hx => hp'.mem_iff.mp (hp.mem_iff.mpr hx)
    · rcases List.mem_cons.mp hk' with rfl | hk'
      · exact ⟨r, .head _, ss, hp, rfl⟩
      · obtain ⟨r', hr', q⟩ := hk k hk'
        exact ⟨r', .tail _ hr', q⟩
theorem ne_int (i : Int) : ∀ P : PV → Prop, P (.bool false) → (cmpP .NotEq (.int i) (.int i)).Holds P := fun P h => by
  show P (.bool (!(i == i)))
  rw [beq_self_eq_true]; exact h
section
variable (nm : List Nat) (t : Nat)
theorem Tn_nosp {x : List Nat} (hx : InT (namesN nm t) x) : NoSp (Tn nm t x) := by
  unfold NoSp Tn
  rw [tx_list]
  exact ⟨fun h => (tp_signs nm t hx 32 h).2 rfl, tp_ne nm t hx⟩
theorem US_nosp : ∀ x ∈ US nm t, NoSp x := fun x hx => by
  obtain ⟨y, hy, rfl⟩ := List.mem_map.mp hx
  exact Tn_nosp nm t (inT nm t hy)
theorem US_16 : ∀ x ∈ US nm t, x.length ≤ 16 := fun x hx => by
  obtain ⟨y, hy, rfl⟩ := List.mem_map.mp hx
  have h1 := tp_len nm t (inT nm t hy)
  have h2 := node_len nm hy
  unfold Tn
  rw [tx_len]
  omega
theorem lw_many {G : List (List Str)} (hG : MinTr (WS nm t) G) {ρ : Rho} (J : J13 nm t G ρ) (hc : Has ρ "count" (.val (.int (G.length : Nat)))) {Q : Rho × Fl → Prop} (hq : Q (ρ, .next)) : (lwS 15 ρ).Holds Q := by
  rw [lw15]
  have g64 := gates_len nm t hG
  refine ifX_holds (v := false) (fun P hP => or_holds (va := false) (vb := false) (fun P h => cm_holds (v := false) (x := .int (G.length : Nat)) (y := .int (G.length : Nat)) (fun P h => ?_) (fun P h => vB_holds hc h) (ne_int _) h) (fun _ P h => cm_holds (v := false) (x := .int (G.length : Nat)) (y := .int (G.length : Nat)) (fun P h => ?_) (fun P h => vB_holds hc h) (ne_int _) h) hP) ?_
  · show T.Holds P ((valB ρ "gates").bind lenP)
    rw [valB_of J.gates]
    rw [← List.length_map (f := rowP)] at h
    exact T.chk_holds (b := decide ((G.map rowP).length ≤ sizeLine)) (zle (by rw [List.length_map]; omega)) h
  · refine T.bind_holds _ (T.bind_holds _ (T.bind_holds _ (T.bind_holds _ ?_)))
    refine compTs_rel (xs := G) (f := rowP) (t := fun _ => true) (R := JnR) (fun P h => T.bind_holds _ (vB_holds J.gates (items_rows (by omega) h))) (by omega) (fun _ _ _ h => h) (fun r hr _ P hP => jn_holds (gate_len nm t hG hr) (fun x hx => US_16 nm t x (gate_in nm t hG hr x hx)) Has.set hP) fun ys hys => ?_
    rw [List.filter_eq_self.mpr fun _ _ => rfl] at hys
    obtain ⟨ks, rfl, hl, nd, _⟩ := jn_keys (fun r hr x hx => US_nosp nm t x (gate_in nm t hG hr x hx)) hG.anti hys
    show T.Holds _ ((T.ofOpt (strsOf (ks.map .str))).bind fun ks => T.chk (decide ks.Nodup && decide (ks.length ≤ 1000)) (T.ret (PV.dict ks (ks.map fun _ => .none))))
    rw [strsOf_map]
    refine T.chk_holds (by rw [decide_eq_true nd, decide_eq_true (by omega)]; rfl) ?_
    rw [← hl] at h
    exact T.chk_holds (b := decide (ks.length ≤ sizeLine)) (zle (by omega)) h
  · rw [if_neg (by decide)]; exact hq
end
end Mine
namespace Mine
theorem perm_same : ∀ {l m : List Str}, l.Nodup → m.Nodup → (∀ x, x ∈ l ↔ x ∈ m) → l.Perm m
  | [], m, _, _, h => by
    cases m with
    | nil => exact .nil
    | cons y m => exact nomatch (h y).mpr (.head _)
  | x :: l, m, hl, hm, h => by
    obtain ⟨hx, hl⟩ := List.nodup_cons.mp hl
    have hxm : x ∈ m := (h x).mp (.head _)
    refine (List.Perm.cons x (perm_same hl (hm.erase x) fun y => ?_)).trans (List.perm_cons_erase hxm).symm
    rw [List.Nodup.mem_erase_iff hm, ← h y, List.mem_cons]
    constructor
    · intro hy; exact ⟨fun e => hx (e ▸ hy), .inr hy⟩
    · rintro ⟨hne, e | hy⟩
      · exact absurd e hne
      · exact hy
noncomputable def SrR (r : List Str) (y : PV) : Prop := ∃ ss : List Str, ss.Perm r ∧ sortedS ss = true ∧ y = rowP ss
theorem all2_left {α β : Type} {R : α → β → Prop} : ∀ {xs : List α} {ys : List β}, All2 R xs ys → ∀ x ∈ xs, ∃ y ∈ ys, R x y
  | [], [], _, x, hx => nomatch hx
  | [], _ :: _, h, _, _ => h.elim
  | _ :: _, [], h, _, _ => h.elim
  | a :: xs, b :: ys, ⟨h1, h2⟩, x, hx => by
    rcases List.mem_cons.mp hx with rfl | hx
    · exact ⟨b, .head _, h1⟩
    · obtain ⟨y, hy, q⟩ := all2_left h2 x hx; exact ⟨y, .tail _ hy, q⟩
theorem all2_right {α β : Type} {R : α → β → Prop} : ∀ {xs : List α} {ys : List β}, All2 R xs ys → ∀ y ∈ ys, ∃ x ∈ xs, R x y
  | [], [], _, x, hx => nomatch hx
  | [], _ :: _, h, _, _ => h.elim
  | _ :: _, [], h, _, _ => h.elim
  | a :: xs, b :: ys, ⟨h1, h2⟩, x, hx => by
    rcases List.mem_cons.mp hx with rfl | hx
    · exact ⟨a, .head _, h1⟩
    · obtain ⟨y, hy, q⟩ := all2_right h2 x hx; exact ⟨y, .tail _ hy, q⟩
theorem all2_len {α β : Type} {R : α → β → Prop} : ∀ {xs : List α} {ys : List β}, All2 R xs ys → ys.length = xs.length
  | [], [], _ => rfl
  | [], _ :: _, h => h.elim
  | _ :: _, [], h => h.elim
  | a :: xs, b :: ys, ⟨h1, h2⟩ => by simp [all2_len h2]
section
variable (nm : List Nat) (t : Nat)
theorem WS_ne : WS nm t ≠ [] := by
  obtain ⟨a, b, c, d, e, h1, h2, h3, h4⟩ := ups_form nm
  have key : ∀ a < 2, ∀ b < 3, ∀ c < 4, ∀ d < 5, (leavesI (idsL [0, a, b, c, d])).isEmpty = false := by decide +kernel
  have := key a h1 b h2 c h3 d h4
  rw [← e] at this
  unfold WS nodesI
  intro q
  rw [List.map_eq_nil_iff] at q
  rw [q] at this
  cases this
theorem gates_meet {G : List (List Str)} (hG : MinTr (WS nm t) G) : MeetOk G (US nm t) :=
  ⟨fun w hw => ⟨hG.nd w hw, fun x hx => US_ok nm t x (gate_in nm t hG hw x hx), gate_in nm t hG hw⟩, by rw [US_len]; decide, Nat.le_trans (gates_len nm t hG) (by decide),
    fun i w L hi hL => small_gates hG (WS_ne nm t) (WS_root nm t) (US5_len nm t) (WS_in nm t) hi hL⟩
theorem lw_back {G : List (List Str)} (hG : MinTr (WS nm t) G) {ρ : Rho} (J : J13 nm t G ρ) {Q : Rho × Fl → Prop} (hq : ∀ B, MinTr G B → Q (setE ρ "back" (.val (.list (B.map rowP))), .next)) : (lwS 16 ρ).Holds Q := by
  rw [lw16, frz_val J.gates]
  exact T.bind_holds _ (call1_holds (s := meetS) (fun P h => vE_holds J.gates h) (meetS_yes (gates_meet nm t hG) fun L hL => hq L hL))
theorem back_len {G B : List (List Str)} (hG : MinTr (WS nm t) G) (hB : MinTr G B) : B.length ≤ 64 := by
  have e := minTr_count hB (US_nd nm t) (fun w hw => gate_in nm t hG hw)
  rw [US_len] at e
  rw [e]
  refine Nat.le_trans (List.length_filter_le _ _) ?_
  decide
theorem back_in {G B : List (List Str)} (hG : MinTr (WS nm t) G) (hB : MinTr G B) {r : List Str} (hr : r ∈ B) : ∀ x ∈ r, x ∈ US nm t := fun x hx => by
  obtain ⟨w, hw, hxw⟩ := hB.el r hr x hx
  exact gate_in nm t hG hw x hxw
theorem WS_anti : AntiL (WS nm t) := fun v hv w hw h => by
  obtain ⟨a, ha, rfl⟩ := List.mem_map.mp hv
  obtain ⟨b, hb, rfl⟩ := List.mem_map.mp hw
  have h1 : Tn nm t a ∈ wayT nm t b := h (List.mem_map_of_mem (mem_wayIds.mpr (List.prefix_refl a)))
  have h2 := (mem_way nm t (leaf_node nm hb) (leaf_node nm ha)).mp h1
  have h3 := List.all_eq_true.mp (List.mem_filter.mp ha).2 b (leaf_node nm hb)
  rw [Bool.not_eq_true', Bool.and_eq_false_iff] at h3
  rcases h3 with h3 | h3
  · rw [← Bool.not_eq_true, List.isPrefixOf_iff_prefix] at h3; exact absurd h2 h3
  · have : a = b := by simpa using h3
    rw [this]; exact fun x hx => hx
theorem lw_last {G B : List (List Str)} (hG : MinTr (WS nm t) G) (hB : MinTr G B) {ρ : Rho} (hw : Has ρ "ways" (.val (.list ((WS nm t).map rowP)))) (hb : Has ρ "back" (.val (.list (B.map rowP)))) {Q : Rho × Fl → Prop} (hq : Q (ρ, .ret (.bool true))) : (lwS 17 ρ).Holds Q := by
  rw [lw17]
  have b64 := back_len nm t hG hB
  have w6 := WS_len nm t
  obtain ⟨d1, d2⟩ := hG.dual hB (WS_anti nm t)
  have wnd : ∀ w ∈ WS nm t, w.Nodup := fun w hw => ((WS_meet nm t).ok w hw).1
  have u6 := US_len nm t
  have bl : ∀ r ∈ B, r.length < 64 := fun r hr => by
    have := nodup_sub_len (hB.nd r hr) (back_in nm t hG hB hr)
    omega
  have wl : ∀ r ∈ WS nm t, r.length < 64 := fun r hr => by
    have := nodup_sub_len (wnd r hr) (way_strs nm t r hr)
    omega
  refine T.bind_holds _ (T.bind_holds _ (T.bind_holds _ (T.bind_holds _ ?_)))
  refine compTs_rel (xs := B) (f := rowP) (t := fun _ => true) (R := SrR) (fun P h => T.bind_holds _ (vB_holds hb (items_rows (by omega) h))) (by omega) (fun _ _ _ h => h) (fun r hr _ P hP => call1_holds (s := srtP) (fun P h => vE_holds Has.set h) (srt_holds (bl r hr) fun ss hp hs => hP _ ⟨ss, hp, hs, rfl⟩)) fun as has => ?_
  rw [List.filter_eq_self.mpr fun _ _ => rfl] at has
  show T.Holds _ (T.bind (T.bind (lstT (compTs (itemsT (vB "ways")) yes (call1 srtP (vE "way")) sc17b L41 "way") ρ) _) _)
  refine T.bind_holds _ (T.bind_holds _ (T.bind_holds _ ?_))
  refine compTs_rel (xs := WS nm t) (f := rowP) (t := fun _ => true) (R := SrR) (fun P h => T.bind_holds _ (vB_holds hw (items_rows (by omega) h))) (by omega) (fun _ _ _ h => h) (fun r hr _ P hP => call1_holds (s := srtP) (fun P h => vE_holds Has.set h) (srt_holds (wl r hr) fun ss hp hs => hP _ ⟨ss, hp, hs, rfl⟩)) fun cs hcs => ?_
  rw [List.filter_eq_self.mpr fun _ _ => rfl] at hcs
  have fine : ∀ {X : List (List Str)} {zs : List PV}, All2 SrR X zs → (∀ r ∈ X, ∀ x ∈ r, x ∈ US nm t) → ∀ d ∈ zs, Fine d := fun {X zs} h hx d hd => by
    obtain ⟨r, hr, ss, hp, _, rfl⟩ := all2_right h d hd
    exact fine_row fun x hxs => US_ok nm t x (hx r hr x (hp.mem_iff.mp hxs))
  have same : ∀ {r w : List Str} {a c : PV}, r.Nodup → w.Nodup → w ⊆ r → r ⊆ w → SrR r a → SrR w c → a = c := fun {r w a c} n1 n2 h1 h2 ⟨s1, p1, q1, e1⟩ ⟨s2, p2, q2, e2⟩ => by
    have hp : r.Perm w := perm_same n1 n2 fun x => ⟨fun h => h2 h, fun h => h1 h⟩
    rw [e1, e2, sortedS_unique q1 q2 ((p1.trans hp).trans p2.symm)]
  show T.Holds _ (cmpS [.list as, .list cs])
  refine cmpS_holds (v := true) (fine has fun r hr => back_in nm t hG hB hr) (fine hcs (way_strs nm t)) (by rw [all2_len has]; omega) (by rw [all2_len hcs]; omega) ⟨fun _ d => ⟨fun hd => ?_, fun hd => ?_⟩, fun _ => rfl⟩ hq
  · obtain ⟨r, hr, hd'⟩ := all2_right has d hd
    obtain ⟨w, hw', h1, h2⟩ := d1 r hr
    obtain ⟨c, hc, hc'⟩ := all2_left hcs w hw'
    rw [same (hB.nd r hr) (wnd w hw') h1 h2 hd' hc']; exact hc
  · obtain ⟨w, hw', hd'⟩ := all2_right hcs d hd
    obtain ⟨r, hr, h1, h2⟩ := d2 w hw'
    obtain ⟨c, hc, hc'⟩ := all2_left has r hr
    rw [← same (hB.nd r hr) (wnd w hw') h1 h2 hc' hd']; exact hc
end
end Mine
namespace Mine
theorem lw_go {j : Nat} {ρ : Rho} {P : PV → Prop} (hj : j < (bodyAt 41).length) (h : (lwS j ρ).Holds (After (rrX FL (X2 7 FL) lwY 0 41 (j + 1)) P)) : ((rrX FL (X2 7 FL) lwY 0 41 j ρ).bind retT).Holds P := rx_holds hj h
theorem law_run {l : List Int} (hl : l.length ≤ 63) {P : PV → Prop} (h : P (.bool true)) : (lwRaw [.arg (l.map .int)]).Holds P := by
  unfold lwRaw
  refine callX_holds rfl ?_
  have s0 : Has (rho0 ["script"] [.arg (l.map .int)]) "script" (.val (.arg (l.map .int))) := by kernel_rfl
  generalize rho0 ["script"] [.arg (l.map .int)] = ρ0 at s0
  refine lw_go (by decide +kernel) (lw_draw s0 (Nat.le_trans hl (by decide)) ?_)
  generalize hρ1 : setE ρ0 "drawn" (.val (.list (nats (drawnN l)))) = ρ1
  have d1 : Has ρ1 "drawn" (.val (.list (nats (drawnN l)))) := by rw [← hρ1]; exact Has.set
  refine lw_go (by decide +kernel) (lw_nums d1 ?_)
  generalize hnm : numsN l = nm
  have n5 : nm.length = 5 := by rw [← hnm]; exact nums_len l
  generalize hρ2 : setE ρ1 "numbers" (.val (.list (nats nm))) = ρ2
  have n2 : Has ρ2 "numbers" (.val (.list (nats nm))) := by rw [← hρ2]; exact Has.set
  refine lw_go (by decide +kernel) (lw_ups n5 n2 ?_)
  have n3 : Has (setE ρ2 "ups" (.val (.list (nats (upsN nm))))) "numbers" (.val (.list (nats nm))) := n2.set_ne (by decide +kernel) rfl
  have u3 : Has (setE ρ2 "ups" (.val (.list (nats (upsN nm))))) "ups" (.val (.list (nats (upsN nm)))) := Has.set
  generalize setE ρ2 "ups" (.val (.list (nats (upsN nm)))) = ρ3 at n3 u3
  obtain ⟨t, ht⟩ := sum_nat n5
  refine lw_go (by decide +kernel) (lw_turn ht n3 ?_)
  have n4 : Has (setE ρ3 "turn" (.val (.int (t : Nat)))) "numbers" (.val (.list (nats nm))) := n3.set_ne (by decide +kernel) rfl
  have u4 : Has (setE ρ3 "turn" (.val (.int (t : Nat)))) "ups" (.val (.list (nats (upsN nm)))) := u3.set_ne (by decide +kernel) rfl
  have t4 : Has (setE ρ3 "turn" (.val (.int (t : Nat)))) "turn" (.val (.int (t : Nat))) := Has.set
  generalize setE ρ3 "turn" (.val (.int (t : Nat))) = ρ4 at n4 u4 t4
  refine lw_go (by decide +kernel) (lw_names n5 n4 t4 ?_)
  have u5 : Has (setE ρ4 "names" (.val (.list (txs (namesN nm t))))) "ups" (.val (.list (nats (upsN nm)))) := u4.set_ne (by decide +kernel) rfl
  have m5 : Has (setE ρ4 "names" (.val (.list (txs (namesN nm t))))) "names" (.val (.list (txs (namesN nm t)))) := Has.set
  generalize setE ρ4 "names" (.val (.list (txs (namesN nm t)))) = ρ5 at u5 m5
  refine lw_go (by decide +kernel) (lw_texts u5 m5 ?_)
  have u6 : Has (setE ρ5 "texts" (.val (.list (txs (textsL nm t))))) "ups" (.val (.list (nats (upsN nm)))) := u5.set_ne (by decide +kernel) rfl
  have m6 : Has (setE ρ5 "texts" (.val (.list (txs (textsL nm t))))) "names" (.val (.list (txs (namesN nm t)))) := m5.set_ne (by decide +kernel) rfl
  have x6 : Has (setE ρ5 "texts" (.val (.list (txs (textsL nm t))))) "texts" (.val (.list (txs (textsL nm t)))) := Has.set
  generalize setE ρ5 "texts" (.val (.list (txs (textsL nm t)))) = ρ6 at u6 m6 x6
  refine lw_go (by decide +kernel) (lw_paths u6 m6 ?_)
  have u7 : Has (setE ρ6 "paths" (.val (.list (txs (textsL nm t))))) "ups" (.val (.list (nats (upsN nm)))) := u6.set_ne (by decide +kernel) rfl
  have x7 : Has (setE ρ6 "paths" (.val (.list (txs (textsL nm t))))) "texts" (.val (.list (txs (textsL nm t)))) := x6.set_ne (by decide +kernel) rfl
  have p7 : Has (setE ρ6 "paths" (.val (.list (txs (textsL nm t))))) "paths" (.val (.list (txs (textsL nm t)))) := Has.set
  generalize setE ρ6 "paths" (.val (.list (txs (textsL nm t)))) = ρ7 at u7 x7 p7
  refine lw_go (by decide +kernel) (lw_same nm t p7 x7 ?_)
  refine lw_go (by decide +kernel) (lw_below nm t p7 ?_)
  have u8 : Has (setE ρ7 "below" (.val (belD nm t))) "ups" (.val (.list (nats (upsN nm)))) := u7.set_ne (by decide +kernel) rfl
  have x8 : Has (setE ρ7 "below" (.val (belD nm t))) "texts" (.val (.list (txs (textsL nm t)))) := x7.set_ne (by decide +kernel) rfl
  have p8 : Has (setE ρ7 "below" (.val (belD nm t))) "paths" (.val (.list (txs (textsL nm t)))) := p7.set_ne (by decide +kernel) rfl
  have b8 : Has (setE ρ7 "below" (.val (belD nm t))) "below" (.val (belD nm t)) := Has.set
  generalize setE ρ7 "below" (.val (belD nm t)) = ρ8 at u8 x8 p8 b8
  refine lw_go (by decide +kernel) (lw_ways nm t p8 b8 ?_)
  have u9 : Has (setE ρ8 "ways" (.val (.list ((WS nm t).map rowP)))) "ups" (.val (.list (nats (upsN nm)))) := u8.set_ne (by decide +kernel) rfl
  have x9 : Has (setE ρ8 "ways" (.val (.list ((WS nm t).map rowP)))) "texts" (.val (.list (txs (textsL nm t)))) := x8.set_ne (by decide +kernel) rfl
  have b9 : Has (setE ρ8 "ways" (.val (.list ((WS nm t).map rowP)))) "below" (.val (belD nm t)) := b8.set_ne (by decide +kernel) rfl
  have w9 : Has (setE ρ8 "ways" (.val (.list ((WS nm t).map rowP)))) "ways" (.val (.list ((WS nm t).map rowP))) := Has.set
  generalize setE ρ8 "ways" (.val (.list ((WS nm t).map rowP))) = ρ9 at u9 x9 b9 w9
  refine lw_go (by decide +kernel) (lw_seen nm t w9 x9 u9 ?_)
  refine lw_go (by decide +kernel) (lw_told nm t w9 ?_)
  refine lw_go (by decide +kernel) (lw_gates nm t w9 fun G hG => ?_)
  have J : J13 nm t G (setE ρ9 "gates" (.val (.list (G.map rowP)))) := ⟨w9.set_ne (by decide +kernel) rfl, Has.set, b9.set_ne (by decide +kernel) rfl, u9.set_ne (by decide +kernel) rfl⟩
  generalize setE ρ9 "gates" (.val (.list (G.map rowP))) = ρ10 at J
  refine lw_go (by decide +kernel) (lw_ones nm t hG J fun ρ11 J => ?_)
  refine lw_go (by decide +kernel) (lw_count nm t hG J ?_)
  have J2 : J13 nm t G (setE ρ11 "count" (.val (.int (G.length : Nat)))) := J.set (by decide +kernel) (by decide +kernel) (by decide +kernel) (by decide +kernel)
  have c2 : Has (setE ρ11 "count" (.val (.int (G.length : Nat)))) "count" (.val (.int (G.length : Nat))) := Has.set
  generalize setE ρ11 "count" (.val (.int (G.length : Nat))) = ρ12 at J2 c2
  refine lw_go (by decide +kernel) (lw_many nm t hG J2 c2 ?_)
  refine lw_go (by decide +kernel) (lw_back nm t hG J2 fun B hB => ?_)
  refine lw_go (by decide +kernel) (lw_last nm t hG hB (J2.ways.set_ne (by decide +kernel) rfl) Has.set ?_)
  exact h
end Mine
namespace Mine
noncomputable abbrev hidL : List Addr := [232, 86]
noncomputable def YPw (w : World) (h : Heap) : Prop := ∃ s : Shared, obsAll s = valAll w ∧ ∀ b o, s.heap.get? b = some o → h.get? b = some o
theorem obs_fn {s : Shared} {w : World} (e : obsAll s = valAll w) {x : Addr × Nat × Addr × Value × String} (hx : x ∈ fnTab) :
    s.heap.nsMap 3 (Str.ofString x.2.2.2.2) = some (.ref x.1) ∧ (∃ pm, s.heap.get? x.1 = some (fnObj x pm)) ∧ s.heap.CodeRec (.ref x.2.2.1) (nameAt x.2.1) := by
  have h := List.map_inj_left.mp (show obsFn s = valFn from congrArg Prod.fst e) x hx
  obtain ⟨h1, h2⟩ := Prod.mk.inj h
  obtain ⟨h2, h3⟩ := Prod.mk.inj h2
  refine ⟨h2, ?_, ?_⟩
  · generalize ho : s.heap.get? x.1 = oo at h1
    unfold fnView at h1
    split at h1
    · rename_i c d fd sl
      obtain ⟨e0, h1⟩ := Prod.mk.inj (Option.some.inj h1)
      obtain ⟨e1, h1⟩ := Prod.mk.inj h1
      obtain ⟨h1, e2⟩ := Prod.mk.inj h1
      refine ⟨fd.pyModule, ?_⟩
      unfold fnObj
      rw [e0, e1, e2, ← h1]
    · cases h1
  · generalize ho : s.heap.get? x.2.2.1 = oo at h3
    unfold codeName at h3
    split at h3
    · rename_i c d vs sl
      split at h3
      · rename_i q t hq
        exact ⟨_, _, vs, t, rfl, ho, rfl, (Option.some.inj h3) ▸ hq⟩
      · cases h3
    · cases h3
theorem strV_inv {v : Value} (h : isStrV v = true) : ∃ x t, v = .str x t := by
  unfold isStrV at h
  split at h
  · exact ⟨_, _, rfl⟩
  · cases h
theorem intV_inv {v : Value} (h : isIntV v = true) : ∃ x t, v = .int x t := by
  unfold isIntV at h
  split at h
  · exact ⟨_, _, rfl⟩
  · cases h
theorem boolV_inv {v : Value} (h : isBoolV v = true) : ∃ x, v = .bool x := by
  unfold isBoolV at h
  split at h
  · exact ⟨_, rfl⟩
  · cases h
theorem hd_of {h : Heap} {c P : Addr} (e : hdView (h.get? c) = some (Value.type "code", some (Value.ref P), true, true, true, true)) (hne : c ≠ P) : CodeHd h c P := by
  generalize ho : h.get? c = oo at e
  unfold hdView at e
  split at e
  · rename_i cl d vs sl
    obtain ⟨e0, e⟩ := Prod.mk.inj (Option.some.inj e)
    obtain ⟨e1, e⟩ := Prod.mk.inj e
    obtain ⟨e2, e⟩ := Prod.mk.inj e
    obtain ⟨e3, e⟩ := Prod.mk.inj e
    obtain ⟨e4, e5⟩ := Prod.mk.inj e
    obtain ⟨f, tf, hf⟩ := strV_inv e2
    obtain ⟨k, tk, hk⟩ := intV_inv e3
    obtain ⟨b, hb⟩ := boolV_inv e4
    obtain ⟨j, tj, hj⟩ := intV_inv e5
    exact ⟨_, vs, f, tf, k, tk, b, j, tj, ho, e0, rfl, e1, by rw [Array.getD_eq_getD_getElem?, e1]; rfl, hf, hk, hb, hj, hne⟩
  · cases e
theorem view_keep {α : Type} {f : Option Obj → Option α} (h0 : f none = none) {h h' : Heap} {b : Addr} {v : α} (e : f (h.get? b) = some v) (k : ∀ b o, h.get? b = some o → h'.get? b = some o) (hb : b ∉ hidL) : f ((hideAll h' hidL).get? b) = some v := by
  cases ho : h.get? b with
  | none => rw [ho, h0] at e; cases e
  | some o =>
    rw [hideAll_get _ (k b o ho) hb, ← ho]; exact e
theorem hide_ns {h : Heap} {a : Addr} {m : Str → Option Value} (x : h.Ns a m) (ha : a ∉ hidL) : (hideAll h hidL).Ns a m := by
  obtain ⟨o, es, ep, ho, r⟩ := x
  exact ⟨o, es, ep, hideAll_get _ ho ha, r⟩
theorem frees_ok : (bltNames.all fun x => !startupNames.contains x && !(looseW q0 loose0).contains x && !((recsOf q0).map (·.name)).contains x && !((litsOf q0).map (·.1)).contains x && !((clssOf q0 (looseW q0 loose0)).map (·.name)).contains x) = true := by kernel_rfl
theorem main_here {s : Shared} {w : World} (e : obsAll s = valAll w) {h : Heap} {mg : Str → Option Value} (k : ∀ b o, s.heap.get? b = some o → h.get? b = some o) (g : h.Ns mainGlobals mg) : mg = s.heap.nsMap 3 := by
  have h1 : s.heap.isNs 3 = true := congrArg (fun x => x.2.1) e
  have h2 : h.Ns 3 (s.heap.nsMap 3) := (Heap.Ns.of_isNs h1).keeps k
  exact g.eq_nsMap.trans h2.eq_nsMap.symm
theorem tabs_at {s : Shared} {w : World} (e : obsAll s = valAll w) {h : Heap} (k : ∀ b o, s.heap.get? b = some o → h.get? b = some o) : h.get? 232 = some (tabObj #[]) ∧ h.get? 86 = some (tabObj #[]) ∧ CodeHd h 234 232 ∧ CodeHd h 90 86 := by
  have e1 : s.heap.get? 232 = some (tabObj #[]) := congrArg (fun x => x.2.2.2.2.1.1) e
  have e2 : s.heap.get? 86 = some (tabObj #[]) := congrArg (fun x => x.2.2.2.2.1.2.1) e
  have e3 : hdView (s.heap.get? 234) = some (Value.type "code", some (Value.ref 232), true, true, true, true) := congrArg (fun x => x.2.2.2.2.1.2.2.1) e
  have e4 : hdView (s.heap.get? 90) = some (Value.type "code", some (Value.ref 86), true, true, true, true) := congrArg (fun x => x.2.2.2.2.1.2.2.2) e
  exact ⟨k _ _ e1, k _ _ e2, (hd_of e3 (by decide)).keeps k, (hd_of e4 (by decide)).keeps k⟩
theorem hide_hd {h : Heap} {c P : Addr} (x : CodeHd h c P) (hc : c ∉ hidL) : CodeHd (hideAll h hidL) c P := by
  obtain ⟨o, vs, file, tf, flags, tg, inF, text, tt, e, r⟩ := x
  exact ⟨o, vs, file, tf, flags, tg, inF, text, tt, hideAll_get _ e hc, r⟩
theorem fn_out : ∀ x ∈ fnTab, x.1 ∉ hidL ∧ x.2.2.1 ∉ hidL := by decide
theorem th_of {w : World} {s₀ : Shared} {mg mb : Str → Option Value} {h : Heap} {R : WRecords} {XP : (Str → Option Value) → Heap → Prop} (G : Ground q0 loose0 R XP w s₀ mg mb h) (Y : YPw w h) : TH (hideAll h hidL) mg mb := by
  obtain ⟨s, e, k⟩ := Y
  have hm := main_here e k G.T.g
  obtain ⟨t1, t2, c1, c2⟩ := tabs_at e k
  obtain ⟨mc, hmc, hq⟩ := G.T.nolimit
  obtain ⟨bm, ob, b1, b2, b3, b4, b5, b6⟩ := G.T.bmain
  have bne : ∀ P, h.get? P = some (tabObj #[]) → bm ≠ P := fun P hP q => by
    rw [q, hP] at b3; cases b3; cases b6
  have bmg : bm ≠ mainGlobals := fun q => by
    obtain ⟨o, es, ep, ho, hd, _⟩ := G.T.g
    rw [q, ho] at b3; cases b3; rw [hd] at b6; cases b6
  have bout : bm ∉ hidL := fun q => by
    rcases List.mem_cons.mp q with q | q
    · exact bne _ t1 q
    · exact bne _ t2 (List.mem_singleton.mp q)
  refine ⟨hide_ns G.T.g (by decide), hide_ns G.T.b (by decide), G.T.builtins, ⟨mc, hide_ns hmc (by decide), hq⟩, fun x hx => ?_, fun x hx => ?_, ?_, ?_, view_keep rfl (congrArg (fun x => x.2.2.2.2.2.1) e) k (by decide), view_keep rfl (congrArg (fun x => x.2.2.2.2.2.2.1) e) k (by decide), view_keep rfl (congrArg (fun x => x.2.2.2.2.2.2.2.1) e) k (by decide), view_keep rfl (congrArg (fun x => x.2.2.2.2.2.2.2.2) e) k (by decide), hide_hd c1 (by decide), hide_hd c2 (by decide),
    ⟨⟨bm, ob, b1, b2, bmg, bne _ t1, hideAll_get _ b3 bout, b4, b5, b6⟩, ⟨bm, ob, b1, b2, bmg, bne _ t2, hideAll_get _ b3 bout, b4, b5, b6⟩⟩, hideAll_none _ (by decide), hideAll_none _ (by decide)⟩
  · have q := List.all_eq_true.mp frees_ok x hx
    simp only [Bool.and_eq_true, Bool.not_eq_true'] at q
    obtain ⟨⟨⟨⟨q1, q2⟩, q3⟩, q4⟩, q5⟩ := q
    have nm : ∀ {l : List Str}, l.contains x = false → x ∉ l := fun {l} h q => by rw [List.contains_iff_mem.mpr q] at h; cases h
    exact G.T.free x (nm q1) (nm q2) (nm q3) (nm q4) (nm q5)
  · obtain ⟨h1, ⟨pm, h2⟩, h3⟩ := obs_fn e hx
    obtain ⟨o1, o2⟩ := fn_out x hx
    rw [hm]
    obtain ⟨c', o, vs, t, ec, ho, hd, hv⟩ := h3
    refine ⟨h1, ⟨pm, hideAll_get _ (k _ _ h2) o1⟩, ⟨c', o, vs, t, ec, hideAll_get _ (k _ _ ho) ?_, hd, hv⟩⟩
    cases ec; exact o2
  · rw [hm]; exact congrArg (fun x => x.2.2.1) e
  · rw [hm]; exact congrArg (fun x => x.2.2.2.1) e
theorem ints_of {R : WRecords} : ∀ {xs : List WData}, WShape.hasItems R xs .int = true → ∃ l : List Int, xs = l.map WData.int
  | [], _ => ⟨[], rfl⟩
  | x :: xs, h => by
    unfold WShape.hasItems at h
    obtain ⟨h1, h2⟩ := Bool.and_eq_true_iff.mp h
    obtain ⟨i, rfl⟩ := hasW_int h1
    obtain ⟨l, rfl⟩ := ints_of h2
    exact ⟨i :: l, rfl⟩
theorem rps_ints {R : WRecords} {cl : Str → Option Addr} {w : World} {h : Heap} : ∀ {l : List Int} {vs : List Value} {as : List Addr}, ReadsAllW R cl h vs (l.map WData.int) as → Rps w [] h (l.map PV.int) vs
  | [], _, _, r => (readsAllW_nil_inv r).1
  | i :: l, _, _, r => by
    obtain ⟨v, vs, a1, a2, e, _, r1, r2⟩ := readsAllW_cons_inv (d := WData.int i) (ds := l.map WData.int) r
    obtain ⟨t, e2, _⟩ := readsW_int_inv r1
    exact ⟨v, vs, e, ⟨t, e2⟩, rps_ints r2⟩
theorem law_call : WalkO q0 loose0 (fun _ _ => True) YPw (PySem.Challenge.rw_rx0060_01.row.toRowW) dLaw [] fun f vs => PySem.call f vs := by
  intro w s₀ s₁ mg mb G Y a o pm cd doc dV kV ho hd hcd hdf hmg hg args vals as hpre hlay hrd hwell hlow
  have th := th_of G Y
  obtain ⟨s, e, k⟩ := Y
  obtain ⟨t1, t2, c1, c2⟩ := tabs_at e k
  have hx : ((264 : Addr), (41 : Nat), (263 : Addr), Value.none, "law") ∈ fnTab := by decide
  have ha : a = 264 := by
    have h1 := (th.fn _ hx).1
    have h2 : mg (Str.ofString "law") = some (.ref a) := hmg
    rw [h1] at h2
    have := Value.ref.inj (Option.some.inj h2)
    exact this.symm
  subst ha
  have hsh : WShape.hasAll _ args [.list .int] = true := (pre_splitW hpre).1
  have hcond := (pre_splitW hpre).2
  obtain ⟨d, r', rfl, hd1, hd2⟩ := hasAllW_cons hsh
  obtain rfl := hasAllW_nil hd2
  obtain ⟨xs, rfl, hxs⟩ := hasW_list hd1
  obtain ⟨l, rfl⟩ := ints_of hxs
  have h63 : l.length ≤ 63 := by
    have hc : WTm.holds [] (.and (.not (.lt (.lit (.int ((63 : Nat) : Int))) (.len (.arg 0)))) (.lit (.bool true))) { args := [.list (l.map WData.int)] } = true := hcond
    simp [WTm.holds, WTm.value, less?] at hc
    have e : Num.less? (WData.int 63) (WData.int (l.length : Nat)) = some (decide ((63 : Int) < (l.length : Nat))) := rfl
    rw [e] at hc
    by_cases q : (63 : Int) < (l.length : Nat)
    · rw [decide_eq_true q] at hc; cases hc
    · omega
  obtain ⟨v, vr, b1, b2, rfl, _, r1, r2⟩ := readsAllW_cons_inv hrd
  obtain ⟨rfl, _⟩ := readsAllW_nil_inv r2
  obtain ⟨a', vs, as', rfl, hlst, hrs, _⟩ := readsW_list_inv r1
  have W : Wf (hideAll s₁.heap hidL) callerA [] s₁.heap := ⟨⟨rfl, fun b o e => of_hideAll _ e, trivial⟩, ⟨⟨#[], t1, .inl rfl⟩, ⟨#[], t2, .inl rfl⟩⟩, rfl, fun _ h => nomatch h⟩
  refine con_lwRaw w _ mg mb th _ hx rfl callerA [] s₁ [] [.ref a'] [.arg (l.map .int)] _ _ W ⟨by decide, by decide⟩ (fun _ h => nomatch h) (fun _ h => nomatch h) ⟨_, _, rfl, ⟨a', vs.toList, rfl, fun h => (nomatch h), hlst, rps_ints hrs⟩, rfl⟩ (law_run h63 ?_)
  intro v s' x hv
  obtain rfl : v = .bool true := hv
  refine ⟨.inl ⟨.bool true, .bool true, [], rfl, raisesW_false fun _ h => (nomatch h), .bool true, postW_of (X := same (.bool true) (.bool true)) rfl rfl (by decide +kernel), fun _ => ⟨List.nodup_nil, fun _ h => nomatch h⟩⟩, ⟨fun b ob hb => ?_, fun b ob hb => x.ext.there W.tabs ⟨ob, hb⟩⟩, x.os, AllBare.of_eq (x.gens.trans hg)⟩
  have tab : ∀ {P c : Addr} {line col : Nat} {q : Str}, s₁.heap.get? P = some (tabObj #[]) → CodeHd s₁.heap c P → TabOk s'.heap P line col q → s₁.heap.get? P = some ob → asItWas s₁.heap s'.heap P ob := fun {P c line col q} hP hc ⟨ps, hp, _⟩ hb => by
    rw [hP] at hb
    obtain rfl := Option.some.inj hb
    obtain ⟨oc, vc, _, _, _, _, _, _, _, f1, f2, f3, f4, _⟩ := hc
    refine .inr (.inl ⟨⟨c, oc, vc, f1, f2, f3, f4⟩, rfl, #[], ps, rfl, ?_⟩)
    rw [hp]; simp
  by_cases q : isTab b
  · rcases q with rfl | rfl
    · exact tab t1 c1 x.ext.tabs.l hb
    · exact tab t2 c2 x.ext.tabs.t hb
  · exact .inl (x.ext.grow.exact hb q (.inl fun h => nomatch h))
end Mine
theorem PySem.Challenge.cw_rx0060_01_holds : PySem.Challenge.rw_rx0060_01.Holds :=
  Mine.head Mine.YPw (fun w s e => ⟨s, e, fun _ _ h => h⟩) (fun w h h' ⟨s, e, k⟩ k' => ⟨s, e, fun b o hb => k' b o (k b o hb)⟩) Mine.law_call
