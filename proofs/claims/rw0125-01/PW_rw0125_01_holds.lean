import PyProof.Rows.All
import Wide.All
import OpenK.AllK
import Wide.FinOn
import Open.Pieces
import Open.FastT9
import Lean
import PySem.Challenge.RW_rw0125_01
set_option Elab.async false
set_option maxRecDepth 100000
set_option linter.unusedVariables false
set_option linter.unusedSimpArgs false
namespace Mine
-- part A1
section
open PySem PySem.W PyProof.Rows

/-! the layer: a frozen part hb of the heap, runs that keep everything, data -/
noncomputable abbrev PW : Program := PySem.Challenge.pw_rw0125_01
noncomputable def Ext (h h' : Heap) : Prop := ∀ b o, h.get? b = some o → h'.get? b = some o
theorem Ext.refl (h : Heap) : Ext h h := fun _ _ e => e
theorem Ext.trans {a b c : Heap} (x : Ext a b) (y : Ext b c) : Ext a c := fun p o e => y p o (x p o e)
theorem Ext.push {h : Heap} (o : Obj) : Ext h (h.push o) := fun _ _ e => Heap.get?_push_of_some o e

open Classical in
noncomputable def only (h : Heap) (p : Addr → Prop) : Heap := ⟨h.objs.mapIdx (fun i o => if p i then o else { cls := .none, data := .freed }), h.life⟩
open Classical in
theorem get_only (h : Heap) (p : Addr → Prop) (a : Addr) : (only h p).get? a = if p a then h.get? a else none := by
  unfold only Heap.get?
  rw [Array.getElem?_mapIdx]
  cases e : h.objs[a]? with
  | none => by_cases q : p a <;> simp [q]
  | some o => by_cases q : p a <;> simp [q]

/-- what a run does to the frozen part and to the heap -/
structure Step (hb h hb' h' : Heap) : Prop where
  ext : Ext h h'
  fz : Ext hb hb'
  inn : Ext hb' h'
  new : ∀ b o, hb'.get? b = some o → hb.get? b = some o ∨ h.get? b = none
theorem Step.refl {hb h : Heap} (x : Ext hb h) : Step hb h hb h := ⟨.refl _, .refl _, x, fun _ _ e => .inl e⟩
theorem Step.trans {hb h hb1 h1 hb2 h2 : Heap} (x : Step hb h hb1 h1) (y : Step hb1 h1 hb2 h2) : Step hb h hb2 h2 :=
  ⟨x.ext.trans y.ext, x.fz.trans y.fz, y.inn, fun b o e => by
    rcases y.new b o e with q | q
    · exact x.new b o q
    · right
      cases e' : h.get? b with
      | none => rfl
      | some o' => rw [x.ext b o' e'] at q; cases q⟩

/-- everything that is new since h is frozen -/
noncomputable def frz (hb h h' : Heap) : Heap := only h' fun b => (hb.get? b).isSome = true ∨ h.get? b = none
theorem frz_new {hb h h' : Heap} {b : Addr} (e : h.get? b = none) : (frz hb h h').get? b = h'.get? b := by
  unfold frz; rw [get_only]; simp [e]
theorem step_frz {hb h h' : Heap} (x : Ext hb h) (y : Ext h h') : Step hb h (frz hb h h') h' := by
  refine ⟨y, fun b o e => ?_, fun b o e => ?_, fun b o e => ?_⟩
  · unfold frz; rw [get_only, if_pos (.inl (by rw [e]; rfl))]; exact y b o (x b o e)
  · unfold frz at e; rw [get_only] at e; split at e
    · exact e
    · cases e
  · unfold frz at e; rw [get_only] at e; split at e
    · rename_i q
      rcases q with q | q
      · obtain ⟨o', ho'⟩ := Option.isSome_iff_exists.mp q
        have := y b o' (x b o' ho')
        rw [this] at e; cases e; exact .inl ho'
      · exact .inr q
    · cases e
theorem size_none (h : Heap) : h.get? h.objs.size = none := by
  cases e : h.get? h.objs.size with
  | none => rfl
  | some o => exact absurd (Heap.lt_size e) (Nat.lt_irrefl _)
theorem frz_push {hb h : Heap} {o : Obj} (hf : o.isFreed = false) : (frz hb h (h.push o)).get? h.objs.size = some o := by
  rw [frz_new (size_none h)]; exact Heap.get?_push_size _ hf

/-- data -/
inductive D where
  | none | bool (b : Bool) | int (i : Int) | str (s : Str) | list (l : List D) | tup (l : List D)
  | ws (raw : Str) (n nt : Int) (count : List Int) (trailing : Int) (simple : Bool)
  | range (a b : Int) | adr (a : Addr) | ty (T : String) | lam

noncomputable def wsEntries (vr vn vt vm vs : Value) (hs : List Int) (ts : List Nat) : List DictEntry :=
  [⟨hs.getD 0 0, .str "raw" (ts.getD 0 0), vr⟩, ⟨hs.getD 1 0, .str "n" (ts.getD 1 0), vn⟩, ⟨hs.getD 2 0, .str "nt" (ts.getD 2 0), vt⟩,
   ⟨hs.getD 3 0, .str "norm" (ts.getD 3 0), vm⟩, ⟨hs.getD 4 0, .str "is_simple" (ts.getD 4 0), vs⟩]

noncomputable def lamQ : Str := "_law_asked.<locals>.<lambda>"
/-- the lambda that gives a pile's last -/
structure LamFd (fd : FuncData) : Prop where
  qual : fd.qualname = lamQ
  glob : fd.globals = mainGlobals
  blt : fd.builtins = builtinsNs
  clo : fd.closure = []
  co : fd.scope.isCoroutine = false
  gen : fd.scope.isGenerator = false
  kind : fd.scope.kind = .function
  loc : fd.scope.names.lookup ("pile" : Str) = some .local
  cells : ∀ p ∈ fd.scope.names, p.2 ≠ .cell ∧ p.2 ≠ .free
  no : fd.scope.names.lookup ("common" : Str) ≠ some .local
  body : ∃ p1 p2 p3 p4 k, fd.body = .expr (.Subscript (.Name "pile" p1) (.UnaryOp .USub (.Constant (.int 1) k p2) p3) p4)
  bind : ∀ v, bindArgs fd ⟨[v], []⟩ = pure [(("pile" : Str), v)]
inductive Has (h : Heap) : Value → D → Prop where
  | none : Has h .none .none
  | bool (b : Bool) : Has h (.bool b) (.bool b)
  | int (i : Int) (t : Tok) : Has h (.int i t) (.int i)
  | str (x : Str) (t : Tok) : Has h (.str x t) (.str x)
  | list {a : Addr} {vs : List Value} {ds : List D} {n : Nat} (e : h.get? a = some { cls := .type "list", data := .seq vs.toArray n }) (len : vs.length = ds.length)
      (all : ∀ (i : Nat) (v : Value) (d : D), vs[i]? = some v → ds[i]? = some d → Has h v d) : Has h (.ref a) (.list ds)
  | tup {a : Addr} {vs : List Value} {ds : List D} {n : Nat} (e : h.get? a = some { cls := .type "tuple", data := .seq vs.toArray n }) (len : vs.length = ds.length)
      (all : ∀ (i : Nat) (v : Value) (d : D), vs[i]? = some v → ds[i]? = some d → Has h v d) : Has h (.ref a) (.tup ds)
  | ws {a dx : Addr} {vr vn vt vm vs : Value} {hs : List Int} {ts : List Nat} {k : Nat} {raw : Str} {n nt trailing : Int} {count : List Int} {simple : Bool}
      (ea : h.get? a = some { cls := .ref 83, dict := some dx, data := .plain }) (ed : h.get? dx = some { cls := .type "dict", data := .dict (wsEntries vr vn vt vm vs hs ts).toArray k })
      (hr : Has h vr (.str raw)) (hn : Has h vn (.int n)) (ht : Has h vt (.int nt)) (hm : Has h vm (.tup [.tup (count.map .int), .int trailing])) (hs : Has h vs (.bool simple)) :
      Has h (.ref a) (.ws raw n nt count trailing simple)
  | range {p : Addr} {a b : Int} {t u v : Tok} (e : h.get? p = some { cls := .type "range", data := .fields #[.int a t, .int b u, .int 1 v] }) : Has h (.ref p) (.range a b)
  | adr (a : Addr) : Has h (.ref a) (.adr a)
  | ty (T : String) : Has h (.type T) (.ty T)
  | lam {a : Addr} {o : Obj} {fd : FuncData} (e : h.get? a = some o) (d : o.data = .func fd) (k : LamFd fd) (c : h.CodeRec fd.code lamQ) : Has h (.ref a) .lam

theorem Has.mono {h h' : Heap} {v : Value} {d : D} (x : Has h v d) (k : Ext h h') : Has h' v d := by
  induction x with
  | none => exact .none
  | bool b => exact .bool b
  | int i t => exact .int i t
  | str y t => exact .str y t
  | list e len _ ih => exact .list (k _ _ e) len ih
  | tup e len _ ih => exact .tup (k _ _ e) len ih
  | ws ea ed _ _ _ _ _ r1 r2 r3 r4 r5 => exact .ws (k _ _ ea) (k _ _ ed) r1 r2 r3 r4 r5
  | range e => exact .range (k _ _ e)
  | adr a => exact .adr a
  | ty T => exact .ty T
  | lam e d q c => exact .lam (k _ _ e) d q (c.keeps k)

noncomputable def HasL (h : Heap) (vs : List Value) (ds : List D) : Prop := vs.length = ds.length ∧ ∀ (i : Nat) (v : Value) (d : D), vs[i]? = some v → ds[i]? = some d → Has h v d
theorem HasL.mono {h h' : Heap} {vs : List Value} {ds : List D} (x : HasL h vs ds) (k : Ext h h') : HasL h' vs ds := ⟨x.1, fun i v d a b => (x.2 i v d a b).mono k⟩
theorem HasL.nil {h : Heap} : HasL h [] [] := ⟨rfl, fun i v d a => by simp at a⟩
theorem HasL.cons {h : Heap} {v : Value} {d : D} {vs : List Value} {ds : List D} (x : Has h v d) (y : HasL h vs ds) : HasL h (v :: vs) (d :: ds) :=
  ⟨by simp [y.1], fun i v' d' a b => by
    cases i with
    | zero => simp at a b; subst a b; exact x
    | succ i => simp at a b; exact y.2 i v' d' a b⟩

/-- a run from hb, h: it ends without raising, keeps every object, and its result is told on the frozen part -/
noncomputable def Tri {α : Type} (w : World) (A : Around) (t : Sem α) (hb h : Heap) (P : α → Heap → Prop) : Prop :=
  ∀ (s : Shared) (Q : α → Shared → Prop) (E : Value → Shared → Prop), s.heap = h →
    (∀ r hb' h' tk, Step hb h hb' h' → P r hb' → Q r { s with heap := h', toks := tk }) → wpAny (model PW w) A t Q E s
section
variable {α β : Type} {w : World} {A : Around} {hb h : Heap}
theorem Tri.pure {a : α} {P : α → Heap → Prop} (hx : Ext hb h) (p : P a hb) : Tri w A (Pure.pure a) hb h P := fun s Q E e k => by
  subst e; exact wpAny_pure (k a hb s.heap s.toks (.refl hx) p)
theorem Tri.bind {t : Sem α} {f : α → Sem β} {P : α → Heap → Prop} {P' : β → Heap → Prop} (x : Tri w A t hb h P)
    (y : ∀ r hb' h', Step hb h hb' h' → P r hb' → Tri w A (f r) hb' h' P') : Tri w A (t >>= f) hb h P' := fun s Q E e k => by
  subst e
  refine wpAny_bind (x s _ E rfl fun r hb' h' tk st p => y r hb' h' st p _ _ _ rfl fun r2 hb2 h2 tk2 st2 p2 => k r2 hb2 h2 tk2 (st.trans st2) p2)
theorem Tri.mono {t : Sem α} {P P' : α → Heap → Prop} (x : Tri w A t hb h P) (y : ∀ r hb', P r hb' → P' r hb') : Tri w A t hb h P' :=
  fun s Q E e k => x s Q E e fun r hb' h' tk st p => k r hb' h' tk st (y r hb' p)
theorem Tri.mono' {t : Sem α} {P P' : α → Heap → Prop} (x : Tri w A t hb h P) (y : ∀ r hb' h', Step hb h hb' h' → P r hb' → P' r hb') : Tri w A t hb h P' :=
  fun s Q E e k => x s Q E e fun r hb' h' tk st p => k r hb' h' tk st (y r hb' h' st p)
/-- from a rule of the library that keeps the heap -/
theorem Tri.quiet {t : Sem α} {r : α} {P : α → Heap → Prop} (hx : Ext hb h) (p : P r hb)
    (x : ∀ (s : Shared) (Q : α → Shared → Prop) (E : Value → Shared → Prop), s.heap = h → (∀ tk, Q r { s with toks := tk }) → wpAny (model PW w) A t Q E s) : Tri w A t hb h P :=
  fun s Q E e k => x s Q E e fun tk => by subst e; exact k r hb s.heap tk (.refl hx) p
end
end
-- part SD
section
open PySem PySem.W PyProof.Rows PySem.Calls

noncomputable abbrev LW : OpenLaw := PySem.Challenge.rw_rw0125_01
theorem out1 : readsOut PW PW.main.body "vars" = false := by
  rw [PySem.W.Fast.te13343964577679436407]
  kernel_rfl
theorem out2 : readsOut PW PW.main.body "dir" = false := by
  rw [PySem.W.Fast.te13343964577679436407]
  kernel_rfl
theorem out3 : readsOut PW PW.main.body "locals" = false := by
  rw [PySem.W.Fast.te13343964577679436407]
  kernel_rfl
theorem bare_none : (["vars", "dir", "locals"] : List Str).filter (readsOut PW PW.main.body) = [] := by
  rw [List.filter_cons_of_neg (by rw [out1]; exact Bool.false_ne_true), List.filter_cons_of_neg (by rw [out2]; exact Bool.false_ne_true), List.filter_cons_of_neg (by rw [out3]; exact Bool.false_ne_true), List.filter_nil]
theorem looks1 : (sreFenced PW.main && ((moduleNames PW.main.body).isEmpty || lookedIntoSs (moduleNames PW.main.body) PW.main.body)) = true := by kernel_rfl
theorem looks2 : namesResolve PW = true := by
  rw [PySem.W.Fast.te8377067652309620493]
  kernel_rfl
theorem looks3 : PW.boundNames.all (fun n => !worldNames.contains n) = true := by kernel_rfl
theorem looks4 : noRoadLSs { strict := !(importedModules PW.main.body).all cThrough.contains, foot := none, bare := [] } PW.main.body = true := by
  rw [PySem.W.Fast.te8326940854005059898]
  kernel_rfl
theorem looks5 : (namesMeet PW PW.main.body fun _ n => attrL n) = true := by
  rw [PySem.W.Fast.te17119622794617984870, PySem.W.Fast.te17868728402115742887]
  kernel_rfl
theorem looks : looksOpen PW = true := by
  unfold looksOpen
  rw [bare_none]
  exact look_both (look_both (look_both (look_both looks1 looks2) looks3) looks4) looks5
theorem part_said : LW.row.partSaid = true := by
  unfold OpenRow.partSaid
  rw [show looksOpen LW.row.prog = true from looks]
  kernel_rfl
theorem row_is_said : LW.row.wellSaid = true := look_both (look_both part_said (by kernel_rfl)) (by kernel_rfl)
theorem said1 : decide (LW.foot ≤ (behindTheImports LW.prog).length) = true := by kernel_rfl
theorem said2 : LW.footing.all footLine = true := by kernel_rfl
theorem said3 : noClassBlock LW.prog LW.footing = true := by
  rw [PySem.W.Fast.te8179353310426384613]
  kernel_rfl
theorem said4 : LW.most.all (fun n => decide (63 ≤ n)) = true := by kernel_rfl
theorem said5 : LW.bound.all (fun n => decide (2 ^ 63 ≤ n)) = true := by kernel_rfl
theorem said6 : noRoadLSs { strict := true, foot := some LW.bound', writes := LW.writes, may := LW.may } LW.footing = true := by
  rw [PySem.W.Fast.te8326940854005059898]
  kernel_rfl
theorem said7 : defStands LW.about LW.above = true := by kernel_rfl
theorem said8 : LW.namesIt = true := by
  rw [PySem.W.Fast.te16286561074155671207]
  kernel_rfl
theorem said9 : (["type", "isinstance", "issubclass", "getattr", "hasattr"] : List Str).all (fun n => LW.about != [n]) = true := by kernel_rfl
theorem said10 : LW.bound'.all (fun n => !builtinNamed n || LW.about == [n] || !LW.reads n) = true := by kernel_rfl
theorem said11 : (!LW.writes || (LW.prog.main.body.flatMap importedNames).all fun n => !LW.reads n) = true := by kernel_rfl
theorem said12 : ((LW.prog.main.body.flatMap importedNames).all (fun n => !LW.reads n || (drawsOf n LW.prog.main.body).all fun mn => mn.2 != ("attrgetter" : Str) && mn.2 != ("methodcaller" : Str))) = true := by kernel_rfl
theorem said13 : namesMeet LW.prog LW.footing (fun sc n => (!(["type", "isinstance", "issubclass", "getattr", "hasattr"] : List Str).contains n || sc.names.lookup n == some .globalImplicit) &&
    (LW.may != some n || sc.kind == .module || sc.names.lookup n == some .globalImplicit)) = true := by
  rw [PySem.W.Fast.te17119622794617984870]
  kernel_rfl
theorem said14 : LW.own.contains LW.name = true := by kernel_rfl
theorem said15 : (LW.own.eraseDups.length == LW.own.length) = true := by kernel_rfl
theorem said16 : LW.own.all (fun n => !builtinNamed n) = true := by kernel_rfl
theorem said17 : namesMeet LW.prog LW.above (fun _ n => !LW.own.contains n) = true := by
  rw [PySem.W.Fast.te17119622794617984870]
  kernel_rfl
theorem said18 : (namesMeet LW.prog LW.footing fun sc n => sc.kind == .module || sc.names.lookup n != some .globalExplicit) = true := by
  rw [PySem.W.Fast.te17119622794617984870]
  kernel_rfl
theorem law_said : OpenLaw.wellSaid PySem.Challenge.rw_rw0125_01 = true := by
  unfold OpenLaw.wellSaid
  exact (look_both (look_both (look_both (look_both (look_both (look_both (look_both (look_both (look_both (look_both (look_both (look_both (look_both (look_both (look_both (look_both (look_both (look_both row_is_said
    said1) said2) said3) said4) said5) said6) said7) said8) said9) said10) said11) said12) said13) said14) said15) said16) said17) said18)
theorem whole : PW.tablesWhole = true := by
  unfold Program.tablesWhole TablesWhole.wProgram
  rw [PySem.W.Fast.te6116379765354995101]
  kernel_rfl
theorem is_bare : PW.bare := ⟨rfl, rfl, rfl, rfl, rfl, whole⟩
end
-- part H1
section
open PySem PySem.W PyProof.Rows PySem.Calls

noncomputable def Fwd (w : World) (c : Code) (q : Pos) {α : Type} (n : Nat) (x : Sem α) (s : Shared) (p : Pos) (a : α) (s' : Shared) (p' : Pos) : Prop :=
  ∀ (K : α → Sem Fin) (H : Value → Sem Fin) (gd : Bool → Bool) (lv : List Value → List Value) (N : Nat) (r : Shared),
    topRun treeTable PySem.Challenge.pw_rw0125_01 w 11 (some (.ref 6)) N s' ⟨K a, c, p', [topFrame q]⟩ = some r →
      topRun treeTable PySem.Challenge.pw_rw0125_01 w 11 (some (.ref 6)) (n + N) s ⟨x.wrap K H gd lv, c, p, [topFrame q]⟩ = some r

section
variable {w : World} {c : Code} {q : Pos} {α β : Type} {n m : Nat} {s s' s'' : Shared} {p p' p'' : Pos}

theorem top_step {N : Nat} {s s' r : Shared} {t t' : Thread} (h1 : through t = false) (h2 : stepOk 11 (some (.ref 6)) t = true) (h3 : step (denote treeTable) PySem.Challenge.pw_rw0125_01 w s t = .go s' t')
    (k : topRun treeTable PySem.Challenge.pw_rw0125_01 w 11 (some (.ref 6)) N s' t' = some r) : topRun treeTable PySem.Challenge.pw_rw0125_01 w 11 (some (.ref 6)) (N + 1) s t = some r := by
  unfold topRun
  rw [h1, h2, h3]
  exact k

theorem Fwd.pure {a : α} : Fwd w c q 0 (Pure.pure a : Sem α) s p a s p := fun K H gd lv N r k => by
  rw [Nat.zero_add]; exact k
theorem Fwd.bind {x : Sem α} {f : α → Sem β} {a : α} {b : β} (h1 : Fwd w c q n x s p a s' p') (h2 : Fwd w c q m (f a) s' p' b s'' p'') : Fwd w c q (n + m) (x >>= f) s p b s'' p'' := fun K H gd lv N r k => by
  rw [Sem.bind_eq_wrap', Sem.wrap_wrap, Nat.add_assoc]
  exact h1 _ _ _ _ _ _ (h2 _ _ _ _ _ _ k)
theorem Fwd.keep {x : Sem α} {a : α} {l : List Value} (h : Fwd w c q n x s p a s' p') : Fwd w c q n (x.keep l) s p a s' p' := fun K H gd lv N r k => by
  rw [Sem.keep_eq_wrap, Sem.wrap_wrap]
  exact h _ _ _ _ _ _ k
theorem Fwd.holding {x : Sem α} {a : α} {l : List Value} (h : Fwd w c q n x s p a s' p') : Fwd w c q n (holding l x) s p a s' p' := by
  unfold PySem.holding
  split
  · exact h
  · exact h.keep
theorem Fwd.onRaise {x : Sem α} {a : α} {f : Value → Sem Unit} (h : Fwd w c q n x s p a s' p') : Fwd w c q n (x.onRaise f) s p a s' p' := fun K H gd lv N r k => by
  rw [Sem.onRaise_eq_wrap, Sem.wrap_wrap]
  exact h _ _ _ _ _ _ k
theorem Fwd.tryCatch {x : Sem α} {a : α} {f : Value → Sem α} (h : Fwd w c q n x s p a s' p') : Fwd w c q n (x.tryCatch f) s p a s' p' := fun K H gd lv N r k => by
  rw [Sem.tryCatch_eq_wrap, Sem.wrap_wrap]
  exact h _ _ _ _ _ _ k
theorem Fwd.cast {x y : Sem α} {a : α} (h : Fwd w c q n x s p a s' p') (e : y = x) : Fwd w c q n y s p a s' p' := e ▸ h
theorem Fwd.steps {x : Sem α} {a : α} (h : Fwd w c q n x s p a s' p') (e : m = n) : Fwd w c q m x s p a s' p' := e ▸ h

theorem Fwd.rule {tag : String} : Fwd w c q 1 (PySem.rule tag) s p () s p := fun K H gd lv N r k => by
  rw [Nat.add_comm]; exact top_step rfl rfl rfl k
theorem Fwd.standAt {p1 : Pos} : Fwd w c q 1 (PySem.standAt p1) s p () s p1 := fun K H gd lv N r k => by
  rw [Nat.add_comm]; exact top_step rfl rfl rfl k
theorem Fwd.fresh : Fwd w c q 1 PySem.fresh s p s.toks { s with toks := s.toks + 1 } p := fun K H gd lv N r k => by
  rw [Nat.add_comm]; exact top_step rfl rfl rfl k
theorem Fwd.alloc {o : Obj} : Fwd w c q 1 (PySem.alloc o) s p s.heap.objs.size { s with heap := s.heap.push o } p := fun K H gd lv N r k => by
  rw [Nat.add_comm]; exact top_step rfl rfl rfl k
theorem Fwd.loadPart {a : Addr} {part : Option Value} {o : Obj} (h : s.heap.get? a = some o) : Fwd w c q 1 (PySem.loadPart a part) s p o s p := fun K H gd lv N r k => by
  rw [Nat.add_comm]
  refine top_step rfl rfl ?_ k
  obtain ⟨heap, gens, drawn, toks, os⟩ := s
  show (match heap.get? a with | some o => _ | none => _) = _
  rw [show heap.get? a = some o from h]
  rfl
theorem Fwd.load {a : Addr} {o : Obj} (h : s.heap.get? a = some o) : Fwd w c q 1 (PySem.load a) s p o s p := Fwd.loadPart (part := none) h
theorem Fwd.updatePart {a : Addr} {part : Option Value} {f : Obj → Obj} {o : Obj} (h : s.heap.get? a = some o) (ha : 11 ≤ a) : Fwd w c q 1 (PySem.updatePart a part f) s p () { s with heap := s.heap.update a f } p := fun K H gd lv N r k => by
  rw [Nat.add_comm]
  refine top_step rfl ?_ ?_ k
  · show (true && (Nat.ble 11 a || a == mainNs || a == cStatics || (some (Value.ref 6) : Option Value) == some (Value.ref a))) = true
    rw [Nat.ble_eq_true_of_le ha]; rfl
  · obtain ⟨heap, gens, drawn, toks, os⟩ := s
    show (if (heap.get? a).isSome then _ else _) = _
    rw [show heap.get? a = some o from h]
    rfl
theorem Fwd.mkInt {i : Int} : Fwd w c q 1 (PySem.mkInt i) s p (.int i s.toks) { s with toks := s.toks + 1 } p := Fwd.bind (n := 1) (m := 0) .fresh .pure

theorem hash_raw (w : World) (c : Code) (q : Pos) (i : Int) (t : Tok) (s : Shared) (p : Pos) (K : Int → Sem Fin) (H : Value → Sem Fin) (gd : Bool → Bool) (lv : List Value → List Value) (N : Nat) :
    topRun treeTable PySem.Challenge.pw_rw0125_01 w 11 (some (.ref 6)) (N + 5) s ⟨(pyHash (.int i t)).wrap K H gd lv, c, p, [topFrame q]⟩ =
      topRun treeTable PySem.Challenge.pw_rw0125_01 w 11 (some (.ref 6)) N { s with toks := s.toks + 1 } ⟨(pyHashByItsType.reduced (rawHash i)).wrap K H gd lv, c, p, [topFrame q]⟩ :=
  byRow2 "special-get-raises" (P := fun w => topRun treeTable PySem.Challenge.pw_rw0125_01 w 11 (some (.ref 6)) (N + 5) s ⟨(pyHash (.int i t)).wrap K H gd lv, c, p, [topFrame q]⟩ =
      topRun treeTable PySem.Challenge.pw_rw0125_01 w 11 (some (.ref 6)) N { s with toks := s.toks + 1 } ⟨(pyHashByItsType.reduced (rawHash i)).wrap K H gd lv, c, p, [topFrame q]⟩) (fun w => by kernel_rfl) (fun w => by kernel_rfl) w
theorem reduced_eq (i : Int) : pyHashByItsType.reduced (rawHash i) = (Pure.pure (hashInt i) : Sem Int) := by
  have hr := rawHash_range i
  unfold pyHashByItsType.reduced
  rw [if_pos (by simp only [Bool.and_eq_true, decide_eq_true_eq]; exact hr)]
  rfl
theorem Fwd.hash {i : Int} {t : Tok} : Fwd w c q 5 (pyHash (.int i t)) s p (hashInt i) { s with toks := s.toks + 1 } p := fun K H gd lv N r k => by
  rw [Nat.add_comm, hash_raw, reduced_eq]
  exact k
end
end
-- part H2
section
open PySem PySem.W PyProof.Rows PySem.Calls

noncomputable abbrev dO (es : Array DictEntry) (n : Nat) : Obj := { cls := .type "dict", data := .dict es n }
theorem upd_new (h : Heap) (o : Obj) (f : Obj → Obj) : (h.push o).update h.objs.size f = h.push (f o) := by
  obtain ⟨objs, life⟩ := h
  simp only [Heap.update, Heap.push, Heap.mk.injEq, and_true]
  apply Array.ext_getElem?
  intro i
  simp only [Array.getElem?_modify, Array.getElem?_push]
  by_cases h1 : objs.size = i
  · subst h1; simp
  · simp [h1, Ne.symm h1]
noncomputable def pushAll : Heap → List Obj → Heap
  | h, [] => h
  | h, o :: l => pushAll (h.push o) l
theorem pushAll_snoc (o : Obj) : ∀ (l : List Obj) (h : Heap), pushAll h (l ++ [o]) = (pushAll h l).push o
  | [], h => rfl
  | x :: l, h => pushAll_snoc o l (h.push x)
theorem pushAll_size : ∀ (l : List Obj) (h : Heap), (pushAll h l).objs.size = h.objs.size + l.length
  | [], h => rfl
  | x :: l, h => by
    rw [pushAll, pushAll_size l (h.push x), List.length_cons]
    obtain ⟨objs, life⟩ := h
    simp only [Heap.push, Array.size_push]
    omega
theorem pushAll_get {a : Addr} {o : Obj} : ∀ (l : List Obj) (h : Heap), h.get? a = some o → (pushAll h l).get? a = some o
  | [], h, e => e
  | x :: l, h, e => pushAll_get l (h.push x) (Heap.get?_push_of_some x e)
theorem pushAll_upd {a : Addr} (f : Obj → Obj) : ∀ (l : List Obj) (h : Heap), a < h.objs.size → (pushAll h l).update a f = pushAll (h.update a f) l
  | [], h, e => rfl
  | x :: l, h, e => by
    have : a < (h.push x).objs.size := by
      obtain ⟨objs, life⟩ := h
      simp only [Heap.push, Array.size_push] at *
      exact Nat.lt_succ_of_lt e
    rw [pushAll, pushAll_upd f l (h.push x) this, Heap.update_push h a f x (Nat.ne_of_lt e)]
    rfl

section
variable {w : World} {c : Code} {q : Pos} {α β : Type} {n m : Nat} {s s' s'' : Shared} {p p' p'' : Pos}

theorem Fwd.entries {d : Addr} {part : Option Value} {es : Array DictEntry} {k : Nat} (e : s.heap.get? d = some (dO es k)) : Fwd w c q 1 (dictEntries d part) s p es s p :=
  Fwd.bind (n := 1) (m := 0) (Fwd.loadPart e) .pure
theorem Fwd.epoch {d : Addr} {part : Option Value} {es : Array DictEntry} {k : Nat} (e : s.heap.get? d = some (dO es k)) : Fwd w c q 1 (dictEpoch d part) s p k s p :=
  Fwd.bind (n := 1) (m := 0) (Fwd.loadPart e) .pure
theorem places_none {es : Array DictEntry} {h : Int} (no : ∀ x ∈ es, x.hash ≠ h) : placesWithHash es.size (fun i => es[i]?.map (·.hash)) h = [] := by
  unfold placesWithHash
  rw [List.filter_eq_nil_iff]
  intro i hi
  have hi : i < es.size := List.mem_range.mp hi
  simp only [Array.getElem?_eq_getElem hi, Option.map_some, beq_iff_eq, Option.some.injEq]
  exact no _ (Array.getElem_mem hi)
theorem Fwd.find {d : Addr} {es : Array DictEntry} {j : Nat} {k h : Int} {t : Tok} (e : s.heap.get? d = some (dO es j)) (no : ∀ x ∈ es, x.hash ≠ h) : Fwd w c q 1 (dictFind d (.int k t) h) s p none s p := by
  unfold dictFind
  refine Fwd.holding (Fwd.bind (n := 1) (m := 0) (Fwd.entries e) ?_)
  dsimp only
  rw [places_none no]
  exact Fwd.pure
theorem Fwd.pushKey {d : Addr} {part : Option Value} {es : Array DictEntry} {j : Nat} {x : DictEntry} {h' : Heap} (e : s.heap.get? d = some (dO es j)) (hd : 11 ≤ d) (hh : s.heap.update d (Obj.mapDictKeys (·.push x)) = h')
    (e' : h'.get? d = some (dO (es.push x) (j + 1))) (hs : es.size < sizeLine) : Fwd w c q 3 (updateDictKeys d (·.push x) part) s p () { s with heap := h' } p := by
  subst hh
  unfold updateDictKeys
  refine Fwd.bind (n := 1) (m := 2) (Fwd.loadPart e) ?_
  refine Fwd.bind (n := 1) (m := 1) (Fwd.updatePart e hd) ?_
  unfold lookBehind
  refine Fwd.bind (n := 1) (m := 0) (Fwd.loadPart e') ?_
  have : (Data.dict (es.push x) (j + 1)).pastItsLine = none := by
    show (if (es.push x).size > sizeLine + 1 then some "dict:memory" else none) = none
    rw [if_neg (by rw [Array.size_push]; omega)]
  show Fwd w c q 0 (match (Data.dict (es.push x) (j + 1)).pastItsLine with | some what => (unsupported what : Sem Unit) | _ => Pure.pure ()) _ _ _ _ _
  rw [this]
  exact Fwd.pure
theorem Fwd.dictSet {d : Addr} {es : Array DictEntry} {j : Nat} {k : Int} {t : Tok} {v : Value} {h' : Heap} (e : s.heap.get? d = some (dO es j)) (hd : 11 ≤ d) (no : ∀ x ∈ es, x.hash ≠ hashInt k)
    (hh : s.heap.update d (Obj.mapDictKeys (·.push ⟨hashInt k, .int k t, v⟩)) = h') (e' : h'.get? d = some (dO (es.push ⟨hashInt k, .int k t, v⟩) (j + 1))) (hs : es.size < sizeLine) :
    Fwd w c q 10 (PySem.dictSet d (.int k t) v) s p () { s with heap := h', toks := s.toks + 1 } p := by
  unfold PySem.dictSet
  refine Fwd.holding (Fwd.bind (n := 5) (m := 5) .hash ?_)
  unfold dictSetHashed
  refine Fwd.holding (Fwd.bind (n := 1) (m := 4) (Fwd.find e no) ?_)
  exact Fwd.bind (n := 1) (m := 3) .rule (Fwd.pushKey e hd hh e' hs)
theorem Fwd.dictPut {d : Addr} {es : Array DictEntry} {j : Nat} {k h : Int} {t : Tok} {v : Value} {h' : Heap} (e : s.heap.get? d = some (dO es j)) (hd : 11 ≤ d) (no : ∀ x ∈ es, x.hash ≠ h)
    (hh : s.heap.update d (Obj.mapDictKeys (·.push ⟨h, .int k t, v⟩)) = h') (e' : h'.get? d = some (dO (es.push ⟨h, .int k t, v⟩) (j + 1))) (hs : es.size < sizeLine) :
    Fwd w c q 4 (PySem.dictPut d h (.int k t) v) s p () { s with heap := h' } p := by
  unfold PySem.dictPut
  refine Fwd.bind (n := 1) (m := 3) (Fwd.find e no) ?_
  exact Fwd.pushKey e hd hh e' hs

/-- loops -/
inductive LoopF (w : World) (c : Code) (q : Pos) {γ σ : Type} (f : γ → σ → Sem (ForInStep σ)) : Nat → List γ → σ → Shared → Pos → σ → Shared → Pos → Prop
  | nil {b s p} : LoopF w c q f 0 [] b s p b s p
  | cons {n m : Nat} {x : γ} {l : List γ} {b b1 b2 : σ} {s s1 s2 : Shared} {p p1 p2 : Pos} : Fwd w c q n (f x b) s p (.yield b1) s1 p1 → LoopF w c q f m l b1 s1 p1 b2 s2 p2 → LoopF w c q f (n + m) (x :: l) b s p b2 s2 p2
theorem LoopF.run {γ σ : Type} {f : γ → σ → Sem (ForInStep σ)} {l : List γ} {b b' : σ} (h : LoopF w c q f n l b s p b' s' p') : Fwd w c q n (forIn l b f) s p b' s' p' := by
  induction h with
  | nil => exact Fwd.pure
  | cons h _ ih =>
    rw [List.forIn_cons]
    exact Fwd.bind h ih
theorem LoopF.app {γ σ : Type} {f : γ → σ → Sem (ForInStep σ)} {l l' : List γ} {b b' b'' : σ} (h : LoopF w c q f n l b s p b' s' p') (h' : LoopF w c q f m l' b' s' p' b'' s'' p'') : LoopF w c q f (n + m) (l ++ l') b s p b'' s'' p'' := by
  induction h with
  | nil => rw [Nat.zero_add]; exact h'
  | cons h _ ih => rw [Nat.add_assoc]; exact .cons h (ih h')
end
end
-- part H3
section
open PySem PySem.W PyProof.Rows PySem.Calls

noncomputable abbrev dL (L : List DictEntry) : Obj := dO L.toArray L.length
theorem dL_push (L : List DictEntry) (e : DictEntry) : Obj.mapDictKeys (·.push e) (dL L) = dL (L ++ [e]) := by
  show dO (L.toArray.push e) (L.length + 1) = _
  rw [List.push_toArray]
  simp [dL]
noncomputable def kvOf (pos : Pos) (y : Int × Str) : Sem Value × Sem Value := (mkInt y.1, do let x ← mkText y.2; standAt pos; pure x)
noncomputable def hs (l : List (Int × Str)) : List Int := l.map fun y => hashInt y.1
noncomputable def ent (tk : Nat) (y : Int × Str) : DictEntry := ⟨hashInt y.1, .int y.1 tk, .str y.2 (tk + 1)⟩
noncomputable def ents (by_ : Nat) : Nat → List (Int × Str) → List DictEntry
  | _, [] => []
  | tk, y :: l => ent tk y :: ents by_ (tk + by_) l
theorem ents_hash (b : Nat) : ∀ (l : List (Int × Str)) (tk : Nat), (ents b tk l).map (·.hash) = hs l
  | [], _ => rfl
  | y :: l, tk => by simp only [ents, List.map_cons, hs, ent]; exact congrArg _ (ents_hash b l (tk + b))
theorem ents_len (b : Nat) : ∀ (l : List (Int × Str)) (tk : Nat), (ents b tk l).length = l.length
  | [], _ => rfl
  | y :: l, tk => by simp only [ents, List.length_cons, ents_len b l]
theorem ents_key (b : Nat) : ∀ (l : List (Int × Str)) (tk : Nat), ∀ e ∈ ents b tk l, ∃ k t, e.key = .int k t
  | [], _, e, h => nomatch h
  | y :: l, tk, e, h => by
    rcases List.mem_cons.mp h with rfl | h
    · exact ⟨_, _, rfl⟩
    · exact ents_key b l _ e h
theorem nodup_ne {L : List DictEntry} {k : Int} {r : List Int} (h : (L.map (·.hash) ++ k :: r).Nodup) : ∀ x ∈ L.toArray, x.hash ≠ k := fun x hx q => by
  have hx : x ∈ L := by simpa using hx
  have := (List.nodup_append.mp h).2.2 x.hash (List.mem_map_of_mem hx) k List.mem_cons_self
  exact this q
theorem nodup_shift {L : List Int} {k : Int} {r : List Int} (h : (L ++ k :: r).Nodup) : ((L ++ [k]) ++ r).Nodup := by
  rwa [List.append_assoc, List.singleton_append]

section
variable {w : World} {c : Code} {q : Pos} {α β : Type} {n m : Nat} {s s' s'' : Shared} {p p' p'' : Pos}

theorem Fwd.mkText {x : Str} : Fwd w c q 1 (PySem.mkText x) s p (.str x s.toks) { s with toks := s.toks + 1 } p := Fwd.bind (n := 1) (m := 0) .fresh .pure
theorem Fwd.kvV {pos : Pos} {y : Int × Str} : Fwd w c q 2 (kvOf pos y).2 s p (.str y.2 s.toks) { s with toks := s.toks + 1 } pos :=
  Fwd.bind (n := 1) (m := 1) .mkText (Fwd.bind (n := 1) (m := 0) .standAt .pure)

noncomputable def subF (d : Addr) : Sem Value × Sem Value → PUnit → Sem (ForInStep PUnit) := fun x sIn =>
  match x with
  | (k, v) => do
    let kv ← k
    let vv ← holding [kv] v
    holding [kv, vv] (dictSet d kv vv)
    pure (ForInStep.yield PUnit.unit)
theorem sub_loop (h : Heap) (pos : Pos) (h11 : 11 ≤ h.objs.size) : ∀ (l : List (Int × Str)) (L : List DictEntry) (s : Shared), s.heap = h.push (dL L) → (L.map (·.hash) ++ hs l).Nodup → L.length + l.length < sizeLine →
    LoopF w c q (subF h.objs.size) (13 * l.length) (l.map (kvOf pos)) () s pos () { s with heap := h.push (dL (L ++ ents 3 s.toks l)), toks := s.toks + 3 * l.length } pos
  | [], L, s, hh, nd, hl => by
    obtain ⟨heap, gens, drawn, toks, os⟩ := s
    have hh : heap = _ := hh
    subst hh
    simp only [ents, List.append_nil, List.length_nil, Nat.mul_zero, Nat.add_zero]
    exact .nil
  | y :: l, L, s, hh, nd, hl => by
    obtain ⟨heap, gens, drawn, toks, os⟩ := s
    have hh : heap = _ := hh
    subst hh
    simp only [List.length_cons] at hl
    have g : (h.push (dL L)).get? h.objs.size = some (dO L.toArray L.length) := Heap.get?_push_size h rfl
    have u : (h.push (dL L)).update h.objs.size (Obj.mapDictKeys (·.push (ent toks y))) = h.push (dL (L ++ [ent toks y])) := by
      rw [upd_new, dL_push]
    have g' : (h.push (dL (L ++ [ent toks y]))).get? h.objs.size = some (dO (L.toArray.push (ent toks y)) (L.length + 1)) := by
      rw [Heap.get?_push_size h rfl]
      show some (dL _) = _
      rw [← dL_push]
      rfl
    have one : Fwd w c q 13 (subF h.objs.size (kvOf pos y) ()) ⟨h.push (dL L), gens, drawn, toks, os⟩ pos (.yield ()) ⟨h.push (dL (L ++ [ent toks y])), gens, drawn, toks + 3, os⟩ pos := by
      refine Fwd.bind (n := 1) (m := 12) .mkInt ?_
      refine Fwd.bind (n := 2) (m := 10) (Fwd.holding .kvV) ?_
      refine Fwd.bind (n := 10) (m := 0) (Fwd.holding (Fwd.dictSet (h' := h.push (dL (L ++ [ent toks y]))) g h11 (nodup_ne nd) u g' ?_)) ?_
      · rw [List.size_toArray]; omega
      · exact .pure
    have rest := sub_loop h pos h11 l (L ++ [ent toks y]) ⟨h.push (dL (L ++ [ent toks y])), gens, drawn, toks + 3, os⟩ rfl (by
      rw [List.map_append]
      exact nodup_shift nd) (by rw [List.length_append]; simp only [List.length_cons, List.length_nil]; omega)
    have := LoopF.cons one rest
    rw [List.length_cons, show 13 * (l.length + 1) = 13 + 13 * l.length by omega, show toks + 3 * (l.length + 1) = toks + 3 + 3 * l.length by omega]
    simpa only [ents, List.append_assoc, List.singleton_append, List.map_cons] using this
theorem subLong {pos : Pos} {l : List (Int × Str)} (hl : 15 < l.length) (h11 : 11 ≤ s.heap.objs.size) (nd : (hs l).Nodup) (hl' : l.length < sizeLine) :
    Fwd w c q (13 * l.length + 2) (subDict (l.map (kvOf pos))) s pos s.heap.objs.size { s with heap := s.heap.push (dL (ents 3 s.toks l)), toks := s.toks + 3 * l.length } pos := by
  unfold subDict
  refine Fwd.steps (n := 1 + (1 + 13 * l.length)) ?_ (by omega)
  refine Fwd.bind .alloc ?_
  refine Fwd.bind (m := 0) (a := ()) (Fwd.holding ?_) .pure
  rw [if_neg (by rw [List.length_map]; omega)]
  refine Fwd.bind .rule ?_
  refine Fwd.bind (m := 0) (a := ()) (LoopF.run (sub_loop s.heap pos h11 l [] _ rfl (by simpa using nd) (by simpa using hl'))) .pure

/-! the short road -/
noncomputable def pairsV : Nat → List (Int × Str) → List (Value × Value)
  | _, [] => []
  | tk, y :: l => (.int y.1 tk, .str y.2 (tk + 1)) :: pairsV (tk + 2) l
theorem evalPairs_run {pos : Pos} : ∀ (l : List (Int × Str)) (s : Shared), Fwd w c q (3 * l.length) (evalPairs (l.map (kvOf pos))) s pos (pairsV s.toks l) { s with toks := s.toks + 2 * l.length } pos
  | [], s => by
    obtain ⟨heap, gens, drawn, toks, os⟩ := s
    exact Fwd.pure
  | y :: l, s => by
    obtain ⟨heap, gens, drawn, toks, os⟩ := s
    rw [List.length_cons, show 3 * (l.length + 1) = 1 + (2 + (3 * l.length + 0)) by omega, show (⟨heap, gens, drawn, toks, os⟩ : Shared).toks + 2 * (l.length + 1) = toks + 1 + 1 + 2 * l.length by show toks + 2 * (l.length + 1) = _; omega]
    refine Fwd.bind .mkInt ?_
    refine Fwd.bind (Fwd.holding .kvV) ?_
    refine Fwd.bind (Fwd.holding (evalPairs_run l _)) ?_
    exact .pure
noncomputable def subG (d : Addr) : Value × Value → PUnit → Sem (ForInStep PUnit) := fun x sIn =>
  match x with
  | (k, v) => do
    dictSet d k v
    pure (ForInStep.yield PUnit.unit)
theorem put_loop (h : Heap) (pos : Pos) (h11 : 11 ≤ h.objs.size) : ∀ (l : List (Int × Str)) (tk : Nat) (L : List DictEntry) (s : Shared), s.heap = h.push (dL L) → (L.map (·.hash) ++ hs l).Nodup → L.length + l.length < sizeLine →
    LoopF w c q (subG h.objs.size) (10 * l.length) (pairsV tk l) () s pos () { s with heap := h.push (dL (L ++ ents 2 tk l)), toks := s.toks + l.length } pos
  | [], tk, L, s, hh, nd, hl => by
    obtain ⟨heap, gens, drawn, toks, os⟩ := s
    have hh : heap = _ := hh
    subst hh
    simp only [ents, pairsV, List.append_nil, List.length_nil, Nat.mul_zero, Nat.add_zero]
    exact .nil
  | y :: l, tk, L, s, hh, nd, hl => by
    obtain ⟨heap, gens, drawn, toks, os⟩ := s
    have hh : heap = _ := hh
    subst hh
    simp only [List.length_cons] at hl
    have g : (h.push (dL L)).get? h.objs.size = some (dO L.toArray L.length) := Heap.get?_push_size h rfl
    have u : (h.push (dL L)).update h.objs.size (Obj.mapDictKeys (·.push (ent tk y))) = h.push (dL (L ++ [ent tk y])) := by
      rw [upd_new, dL_push]
    have g' : (h.push (dL (L ++ [ent tk y]))).get? h.objs.size = some (dO (L.toArray.push (ent tk y)) (L.length + 1)) := by
      rw [Heap.get?_push_size h rfl]
      show some (dL _) = _
      rw [← dL_push]
      rfl
    have one : Fwd w c q 10 (subG h.objs.size (.int y.1 tk, .str y.2 (tk + 1)) ()) ⟨h.push (dL L), gens, drawn, toks, os⟩ pos (.yield ()) ⟨h.push (dL (L ++ [ent tk y])), gens, drawn, toks + 1, os⟩ pos := by
      refine Fwd.bind (n := 10) (m := 0) (Fwd.dictSet (h' := h.push (dL (L ++ [ent tk y]))) g h11 (nodup_ne nd) u g' ?_) ?_
      · rw [List.size_toArray]; omega
      · exact .pure
    have rest := put_loop h pos h11 l (tk + 2) (L ++ [ent tk y]) ⟨h.push (dL (L ++ [ent tk y])), gens, drawn, toks + 1, os⟩ rfl (by
      rw [List.map_append]
      exact nodup_shift nd) (by rw [List.length_append]; simp only [List.length_cons, List.length_nil]; omega)
    have := LoopF.cons one rest
    rw [List.length_cons, show 10 * (l.length + 1) = 10 + 10 * l.length by omega, show toks + (l.length + 1) = toks + 1 + l.length by omega]
    simpa only [ents, pairsV, List.append_assoc, List.singleton_append] using this
theorem subShort {pos : Pos} {l : List (Int × Str)} (hl : l.length ≤ 15) (h11 : 11 ≤ s.heap.objs.size) (nd : (hs l).Nodup) :
    Fwd w c q (13 * l.length + 1) (subDict (l.map (kvOf pos))) s pos s.heap.objs.size { s with heap := s.heap.push (dL (ents 2 s.toks l)), toks := s.toks + 3 * l.length } pos := by
  unfold subDict
  refine Fwd.steps (n := 1 + (3 * l.length + 10 * l.length)) ?_ (by omega)
  rw [show s.toks + 3 * l.length = s.toks + 2 * l.length + l.length by omega]
  refine Fwd.bind .alloc ?_
  refine Fwd.bind (m := 0) (a := ()) (Fwd.holding ?_) .pure
  rw [if_pos (by rw [List.length_map]; omega)]
  refine Fwd.bind (evalPairs_run l _) ?_
  refine Fwd.holding ?_
  exact Fwd.bind (m := 0) (a := ()) (LoopF.run (put_loop s.heap pos h11 l s.toks [] _ rfl (by simpa using nd) (by have : sizeLine = 2 ^ 24 := rfl; simp only [List.length_nil]; omega))) .pure

/-! merging -/
noncomputable def mergeF (d a : Addr) (epoch : Nat) (unique : Bool) : Nat → PUnit → Sem (ForInStep PUnit) := fun i sIn => do
  let doLift ← dictEntries a
  match doLift[i]? with
    | some e => do
      holding [DictEntry.key e, DictEntry.val e]
          (have doJp := fun (rIn : Unit) => dictPut d (DictEntry.hash e) (DictEntry.key e) (DictEntry.val e);
          if unique = true then do
            let doLift ← dictFind d (DictEntry.key e) (DictEntry.hash e)
            if Option.isSome doLift = true then do
                rule "dict.merge.duplicate-key"
                let doLift ← newExc (Value.type "KeyError") [DictEntry.key e]
                let rIn ← raiseNew doLift
                doJp rIn
              else doJp ()
          else doJp ())
      let doLift ← dictEpoch a
      if (doLift != epoch) = true then do
          unsupported "dict.changed-during-merge"
          pure (ForInStep.yield PUnit.unit)
        else pure (ForInStep.yield PUnit.unit)
    | x => do
      unsupported "dict.changed-during-merge"
      pure (ForInStep.yield PUnit.unit)
theorem merge_loop (h : Heap) (pos : Pos) (h11 : 11 ≤ h.objs.size) (subs : List Obj) (L : List DictEntry) (hk : ∀ e ∈ L, ∃ k t, e.key = .int k t) (gens : Array GenState) (drawn : Drawn) (toks : Nat) (os : OsState) :
    ∀ (R : List DictEntry) (i : Nat) (M : List DictEntry), L.drop i = R → (M.map (·.hash) ++ R.map (·.hash)).Nodup → M.length + R.length < sizeLine →
    LoopF w c q (mergeF h.objs.size (h.objs.size + 1 + subs.length) L.length false) (6 * R.length) (List.range' i R.length) () ⟨(pushAll (h.push (dL M)) subs).push (dL L), gens, drawn, toks, os⟩ pos () ⟨(pushAll (h.push (dL (M ++ R))) subs).push (dL L), gens, drawn, toks, os⟩ pos
  | [], i, M, hd, nd, hl => by
    rw [List.append_nil]
    exact .nil
  | e :: R, i, M, hd, nd, hl => by
    have hsz : ∀ M : List DictEntry, (pushAll (h.push (dL M)) subs).objs.size = h.objs.size + 1 + subs.length := fun M => by
      rw [pushAll_size]
      obtain ⟨objs, life⟩ := h
      simp only [Heap.push, Array.size_push]
    have gA : ∀ M : List DictEntry, ((pushAll (h.push (dL M)) subs).push (dL L)).get? (h.objs.size + 1 + subs.length) = some (dO L.toArray L.length) := fun M => by
      rw [← hsz M]; exact Heap.get?_push_size _ rfl
    have gD : ∀ M : List DictEntry, ((pushAll (h.push (dL M)) subs).push (dL L)).get? h.objs.size = some (dL M) := fun M =>
      Heap.get?_push_of_some _ (pushAll_get _ _ (Heap.get?_push_size h rfl))
    have hi : i < L.length := by
      have := congrArg List.length hd
      rw [List.length_drop, List.length_cons] at this
      omega
    have he : L[i]? = some e := by
      have := congrArg (·[0]?) hd
      simpa [List.getElem?_drop] using this
    have hR : L.drop (i + 1) = R := by
      have := congrArg List.tail hd
      simpa [List.tail_drop] using this
    obtain ⟨k, t, hkey⟩ := hk e (List.mem_of_getElem? he)
    simp only [List.length_cons] at hl
    obtain ⟨eh, ek, ev⟩ := e
    obtain rfl : ek = .int k t := hkey
    have u : ((pushAll (h.push (dL M)) subs).push (dL L)).update h.objs.size (Obj.mapDictKeys (·.push ⟨eh, .int k t, ev⟩)) = (pushAll (h.push (dL (M ++ [⟨eh, .int k t, ev⟩]))) subs).push (dL L) := by
      rw [Heap.update_push _ _ _ _ (by rw [hsz]; exact Nat.ne_of_lt (by omega)), pushAll_upd _ _ _ (by obtain ⟨objs, life⟩ := h; simp only [Heap.push, Array.size_push]; exact Nat.lt_succ_self _), upd_new, dL_push]
    have one : Fwd w c q 6 (mergeF h.objs.size (h.objs.size + 1 + subs.length) L.length false i ()) ⟨(pushAll (h.push (dL M)) subs).push (dL L), gens, drawn, toks, os⟩ pos (.yield ()) ⟨(pushAll (h.push (dL (M ++ [⟨eh, .int k t, ev⟩]))) subs).push (dL L), gens, drawn, toks, os⟩ pos := by
      refine Fwd.bind (n := 1) (m := 5) (Fwd.entries (gA M)) ?_
      rw [List.getElem?_toArray, he]
      refine Fwd.bind (n := 4) (m := 1) (a := ()) (s' := ⟨(pushAll (h.push (dL (M ++ [⟨eh, .int k t, ev⟩]))) subs).push (dL L), gens, drawn, toks, os⟩) (p' := pos) (Fwd.holding ?_) ?_
      · refine Fwd.dictPut (gD M) h11 (nodup_ne nd) u ?_ (by rw [List.size_toArray]; omega)
        rw [gD, ← dL_push]
        rfl
      · refine Fwd.bind (n := 1) (m := 0) (Fwd.epoch (gA _)) ?_
        rw [if_neg (by simp)]
        exact .pure
    have rest := merge_loop h pos h11 subs L hk gens drawn toks os R (i + 1) (M ++ [⟨eh, .int k t, ev⟩]) hR (by rw [List.map_append]; exact nodup_shift nd) (by rw [List.length_append]; simp only [List.length_cons, List.length_nil]; omega)
    have := LoopF.cons one rest
    rw [List.length_cons, show 6 * (R.length + 1) = 6 + 6 * R.length by omega, List.range'_succ]
    simpa only [List.append_assoc, List.singleton_append] using this

theorem dict_sub_dict : isSubtype (.type "dict") (.type "dict") = (pure true : Sem Bool) := by kernel_rfl
theorem dict_iter : typeLookup (.type "dict") "__iter__" = (pure (some (.builtin "dict.__iter__")) : Sem (Option Value)) := by kernel_rfl
theorem mergeRun (h : Heap) (pos : Pos) (h11 : 11 ≤ h.objs.size) (subs : List Obj) (M L : List DictEntry) (hk : ∀ e ∈ L, ∃ k t, e.key = .int k t) (gens : Array GenState) (drawn : Drawn) (toks : Nat) (os : OsState)
    (hM : M ≠ []) (nd : (M.map (·.hash) ++ L.map (·.hash)).Nodup) (hl : M.length + L.length < sizeLine) :
    Fwd w c q (6 * L.length + 5) (mergeMapping h.objs.size (.ref (h.objs.size + 1 + subs.length)) false) ⟨(pushAll (h.push (dL M)) subs).push (dL L), gens, drawn, toks, os⟩ pos () ⟨(pushAll (h.push (dL (M ++ L))) subs).push (dL L), gens, drawn, toks, os⟩ pos := by
  have hsz : (pushAll (h.push (dL M)) subs).objs.size = h.objs.size + 1 + subs.length := by
    rw [pushAll_size]
    obtain ⟨objs, life⟩ := h
    simp only [Heap.push, Array.size_push]
  have gA : ((pushAll (h.push (dL M)) subs).push (dL L)).get? (h.objs.size + 1 + subs.length) = some (dO L.toArray L.length) := by
    rw [← hsz]; exact Heap.get?_push_size _ rfl
  have gD : ((pushAll (h.push (dL M)) subs).push (dL L)).get? h.objs.size = some (dL M) := Heap.get?_push_of_some _ (pushAll_get _ _ (Heap.get?_push_size h rfl))
  unfold mergeMapping
  have iter : Fwd w c q 1 (specialOf (.ref (h.objs.size + 1 + subs.length)) "__iter__") ⟨(pushAll (h.push (dL M)) subs).push (dL L), gens, drawn, toks, os⟩ pos (some (.builtin "dict.__iter__")) ⟨(pushAll (h.push (dL M)) subs).push (dL L), gens, drawn, toks, os⟩ pos := by
    refine Fwd.bind (n := 1) (m := 0) (Fwd.bind (n := 1) (m := 0) (Fwd.loadPart gA) .pure) ?_
    rw [show (dO L.toArray L.length).cls = .type "dict" from rfl, dict_iter]
    exact .pure
  have inst : Fwd w c q 1 (isInstance (.ref (h.objs.size + 1 + subs.length)) (.type "dict")) ⟨(pushAll (h.push (dL M)) subs).push (dL L), gens, drawn, toks, os⟩ pos true ⟨(pushAll (h.push (dL M)) subs).push (dL L), gens, drawn, toks, os⟩ pos := by
    refine Fwd.bind (n := 1) (m := 0) (Fwd.bind (n := 1) (m := 0) (Fwd.loadPart gA) .pure) ?_
    rw [show (dO L.toArray L.length).cls = .type "dict" from rfl, dict_sub_dict]
    exact .pure
  refine Fwd.steps (n := 1 + (1 + (0 + (1 + (1 + (1 + 6 * L.length)))))) ?_ (by omega)
  refine Fwd.bind inst ?_
  rw [if_pos rfl]
  refine Fwd.bind iter ?_
  rw [show ((some (.builtin "dict.__iter__") : Option Value) == some (.builtin "dict.__iter__")) = true from by decide +kernel]
  refine Fwd.bind .pure ?_
  show Fwd w c q _ (if (h.objs.size + 1 + subs.length == sysModules) = true then _ else _) _ _ _ _ _
  have hs9 : (h.objs.size + 1 + subs.length == sysModules) = false := beq_eq_false_iff_ne.mpr (show h.objs.size + 1 + subs.length ≠ 1 by omega)
  rw [if_neg (by rw [hs9]; exact Bool.false_ne_true)]
  refine Fwd.bind (Fwd.entries gD) ?_
  rw [if_neg (by cases M with | nil => exact absurd rfl hM | cons => simp)]
  refine Fwd.bind (Fwd.entries gA) ?_
  refine Fwd.bind (Fwd.epoch gA) ?_
  refine Fwd.bind (m := 0) (a := ()) (LoopF.run ?_) .pure
  have := merge_loop (w := w) (c := c) (q := q) h pos h11 subs L hk gens drawn toks os L 0 M rfl nd hl
  rw [List.size_toArray, List.range_eq_range']
  exact this
end
end
-- part H4
section
open PySem PySem.W PyProof.Rows PySem.Calls

theorem ents_app (b : Nat) : ∀ (l l' : List (Int × Str)) (tk : Nat), ents b tk (l ++ l') = ents b tk l ++ ents b (tk + b * l.length) l'
  | [], l', tk => rfl
  | y :: l, l', tk => by
    rw [List.cons_append, ents, ents, ents_app b l l', List.length_cons, show tk + b + b * l.length = tk + b * (l.length + 1) by rw [Nat.mul_add, Nat.mul_one]; omega]
    rfl
noncomputable def items (pos : Pos) (l : List (Int × Str)) : List (Option (Sem Value) × Sem Value) := (l.map (kvOf pos)).map fun x => (some x.1, x.2)
noncomputable def subsOf : Nat → List (List (Int × Str)) → List Obj
  | _, [] => []
  | tk, l :: r => dL (ents 3 tk l) :: subsOf (tk + 51) r
noncomputable def flushD (run : List (Sem Value × Sem Value)) (main : Option Addr) : Sem (Option Addr) :=
  if List.isEmpty run = true then pure main
  else
    match main with
    | none => do
      let doLift ← subDict run
      pure (some doLift)
    | some d => do
      let sub ← holding [Value.ref d] (subDict run)
      Sem.onRaise (holding [Value.ref d, Value.ref sub] (mergeMapping d (Value.ref sub) false)) fun x => do
          let _ ← holding [Value.ref d, x] (runValue (Code.builtin "proto.let_go" { }))
          pure ()
      pure (some d)
noncomputable abbrev DispF := Option (Sem Value) × Sem Value → Option Addr × List (Sem Value × Sem Value) → Sem (ForInStep (Option Addr × List (Sem Value × Sem Value)))
structure IsDisp (f : DispF) : Prop where
  more : ∀ k v main run, (run ++ [(k, v)]).length ≠ 17 → f (some k, v) (main, run) = pure (.yield (main, run ++ [(k, v)]))
  full : ∀ k v main run, (run ++ [(k, v)]).length = 17 → f (some k, v) (main, run) = flushD (run ++ [(k, v)]) main >>= fun m => pure (.yield (m, []))

section
variable {w : World} {c : Code} {q : Pos} {α β : Type} {n m : Nat} {s s' s'' : Shared} {p p' p'' : Pos}

theorem disp_collect {f : DispF} (F : IsDisp f) {pos : Pos} {main : Option Addr} : ∀ (l : List (Int × Str)) (run : List (Sem Value × Sem Value)), run.length + l.length ≤ 16 →
    LoopF w c q f 0 (items pos l) (main, run) s p (main, run ++ l.map (kvOf pos)) s p
  | [], run, h => by rw [List.map_nil, List.append_nil]; exact .nil
  | y :: l, run, h => by
    rw [List.length_cons] at h
    refine LoopF.cons (n := 0) (m := 0) (b1 := (main, run ++ [kvOf pos y])) (s1 := s) (p1 := p) ?_ ?_
    · rw [F.more _ _ _ _ (by rw [List.length_append]; simp only [List.length_cons, List.length_nil]; omega)]
      exact .pure
    · have := disp_collect F (pos := pos) (main := main) l (run ++ [kvOf pos y]) (by rw [List.length_append]; simp only [List.length_cons, List.length_nil]; omega)
      rwa [List.append_assoc, List.singleton_append] at this
theorem disp_chunk {f : DispF} (F : IsDisp f) {pos : Pos} {main main' : Option Addr} {l : List (Int × Str)} (hl : l.length = 17) (h : Fwd w c q n (flushD (l.map (kvOf pos)) main) s p main' s' p') :
    LoopF w c q f n (items pos l) (main, []) s p (main', []) s' p' := by
  obtain ⟨a, y, rfl⟩ : ∃ a y, l = a ++ [y] := ⟨l.dropLast, l.getLast (by intro e; rw [e] at hl; cases hl), (List.dropLast_concat_getLast _).symm⟩
  rw [List.length_append] at hl
  simp only [List.length_cons, List.length_nil] at hl
  rw [show items pos (a ++ [y]) = items pos a ++ items pos [y] by simp [items], ← Nat.zero_add n]
  refine LoopF.app (disp_collect F a [] (by simp only [List.length_nil]; omega)) ?_
  refine LoopF.cons (n := n) (m := 0) (b1 := (main', [])) ?_ .nil
  rw [F.full _ _ _ _ (by rw [List.length_append, List.length_append, List.length_map]; simp only [List.length_cons, List.length_nil]; omega)]
  rw [List.map_append] at h
  exact Fwd.bind (m := 0) h .pure

theorem flush_more (h : Heap) (pos : Pos) (h11 : 11 ≤ h.objs.size) (subs : List Obj) (M : List DictEntry) (l : List (Int × Str)) (L : List DictEntry) (b : Nat) (gens : Array GenState) (drawn : Drawn) (toks : Nat) (os : OsState)
    (hM : M ≠ []) (hl0 : l ≠ []) (eL : L = ents b toks l) (nd : (M.map (·.hash) ++ hs l).Nodup) (hl : M.length + l.length < sizeLine)
    (sub : Fwd w c q n (subDict (l.map (kvOf pos))) ⟨pushAll (h.push (dL M)) subs, gens, drawn, toks, os⟩ pos (pushAll (h.push (dL M)) subs).objs.size ⟨(pushAll (h.push (dL M)) subs).push (dL L), gens, drawn, toks + 3 * l.length, os⟩ pos) :
    Fwd w c q (n + (6 * l.length + 5)) (flushD (l.map (kvOf pos)) (some h.objs.size)) ⟨pushAll (h.push (dL M)) subs, gens, drawn, toks, os⟩ pos (some h.objs.size)
      ⟨pushAll (h.push (dL (M ++ L))) (subs ++ [dL L]), gens, drawn, toks + 3 * l.length, os⟩ pos := by
  have hsz : (pushAll (h.push (dL M)) subs).objs.size = h.objs.size + 1 + subs.length := by
    rw [pushAll_size]
    obtain ⟨objs, life⟩ := h
    simp only [Heap.push, Array.size_push]
  subst eL
  unfold flushD
  rw [if_neg (by cases l with | nil => exact absurd rfl hl0 | cons => simp)]
  dsimp only
  refine Fwd.bind (Fwd.holding sub) ?_
  rw [hsz, pushAll_snoc]
  refine Fwd.bind (m := 0) (a := ()) (Fwd.onRaise (Fwd.holding ?_)) .pure
  have := mergeRun (w := w) (c := c) (q := q) h pos h11 subs M (ents b toks l) (ents_key b l toks) gens drawn (toks + 3 * l.length) os hM (by rw [ents_hash]; exact nd) (by rw [ents_len]; exact hl)
  rwa [ents_len] at this
theorem disp_chunks {f : DispF} (F : IsDisp f) (h : Heap) (pos : Pos) (h11 : 11 ≤ h.objs.size) (gens : Array GenState) (drawn : Drawn) (os : OsState) :
    ∀ (cs : List (List (Int × Str))) (subs : List Obj) (M : List DictEntry) (toks : Nat), (∀ l ∈ cs, l.length = 17) → M ≠ [] → (M.map (·.hash) ++ hs cs.flatten).Nodup → M.length + cs.flatten.length < sizeLine →
    LoopF w c q f (330 * cs.length) (items pos cs.flatten) (some h.objs.size, []) ⟨pushAll (h.push (dL M)) subs, gens, drawn, toks, os⟩ pos (some h.objs.size, [])
      ⟨pushAll (h.push (dL (M ++ ents 3 toks cs.flatten))) (subs ++ subsOf toks cs), gens, drawn, toks + 51 * cs.length, os⟩ pos
  | [], subs, M, toks, h17, hM, nd, hl => by
    simp only [List.flatten_nil, ents, subsOf, List.append_nil, List.length_nil, Nat.mul_zero, Nat.add_zero]
    exact .nil
  | l :: cs, subs, M, toks, h17, hM, nd, hl => by
    have hl17 := h17 l List.mem_cons_self
    rw [List.flatten_cons, List.length_append] at hl
    have nd' : (M.map (·.hash) ++ (hs l ++ hs cs.flatten)).Nodup := by
      rw [List.flatten_cons] at nd
      rwa [show hs (l ++ cs.flatten) = hs l ++ hs cs.flatten from List.map_append] at nd
    have nd1 : (M.map (·.hash) ++ hs l).Nodup := (List.nodup_append.mp (by rw [← List.append_assoc] at nd'; exact nd')).1
    have ndl : (hs l).Nodup := (List.nodup_append.mp nd1).2.1
    have hsz : (pushAll (h.push (dL M)) subs).objs.size = h.objs.size + 1 + subs.length := by
      rw [pushAll_size]
      obtain ⟨objs, life⟩ := h
      simp only [Heap.push, Array.size_push]
    have sub := subLong (w := w) (c := c) (q := q) (s := ⟨pushAll (h.push (dL M)) subs, gens, drawn, toks, os⟩) (pos := pos) (l := l) (by omega) (by rw [hsz]; exact Nat.le_trans h11 (by omega)) ndl (by omega)
    have one := disp_chunk F (pos := pos) hl17 (flush_more h pos h11 subs M l _ 3 gens drawn toks os hM (by rintro rfl; cases hl17) rfl nd1 (by omega) sub)
    rw [hl17] at one
    have rest := disp_chunks F h pos h11 gens drawn os cs (subs ++ [dL (ents 3 toks l)]) (M ++ ents 3 toks l) (toks + 3 * 17) (fun l h => h17 l (List.mem_cons_of_mem _ h)) (by intro e; exact hM (List.append_eq_nil_iff.mp e).1)
      (by rw [List.map_append, ents_hash, List.append_assoc]; exact nd') (by rw [List.length_append, ents_len]; omega)
    have := LoopF.app one rest
    rw [List.flatten_cons, show items pos (l ++ cs.flatten) = items pos l ++ items pos cs.flatten by simp [items], List.length_cons, ents_app, hl17, subsOf, ← List.append_assoc, show 330 * (cs.length + 1) = 13 * 17 + 2 + (6 * 17 + 5) + 330 * cs.length by omega,
      show toks + 51 * (cs.length + 1) = toks + 3 * 17 + 51 * cs.length by omega]
    rw [List.append_assoc subs, List.singleton_append] at this
    exact this
theorem disp_all {f : DispF} (F : IsDisp f) (h : Heap) (pos : Pos) (h11 : 11 ≤ h.objs.size) (gens : Array GenState) (drawn : Drawn) (os : OsState) (toks : Nat) (l1 : List (Int × Str)) (cs : List (List (Int × Str))) (l2 : List (Int × Str))
    (h1 : l1.length = 17) (h17 : ∀ l ∈ cs, l.length = 17) (h2 : l2.length ≤ 15) (nd : (hs (l1 ++ (cs.flatten ++ l2))).Nodup) (hl : l1.length + cs.flatten.length + l2.length < sizeLine) :
    LoopF w c q f (223 + 330 * cs.length) (items pos (l1 ++ (cs.flatten ++ l2))) (none, []) ⟨h, gens, drawn, toks, os⟩ pos (some h.objs.size, l2.map (kvOf pos))
      ⟨pushAll (h.push (dL (ents 3 toks (l1 ++ cs.flatten)))) (subsOf (toks + 51) cs), gens, drawn, toks + 51 + 51 * cs.length, os⟩ pos := by
  have nd' : (hs l1 ++ (hs cs.flatten ++ hs l2)).Nodup := by
    rwa [show hs (l1 ++ (cs.flatten ++ l2)) = hs l1 ++ (hs cs.flatten ++ hs l2) by simp [hs]] at nd
  have nd2 : (hs l1 ++ hs cs.flatten).Nodup := by
    rw [← List.append_assoc] at nd'
    exact (List.nodup_append.mp nd').1
  have nd1 : (hs l1).Nodup := (List.nodup_append.mp nd2).1
  rw [show items pos (l1 ++ (cs.flatten ++ l2)) = items pos l1 ++ (items pos cs.flatten ++ items pos l2) by simp [items]]
  have first : Fwd w c q 223 (flushD (l1.map (kvOf pos)) none) ⟨h, gens, drawn, toks, os⟩ pos (some h.objs.size) ⟨h.push (dL (ents 3 toks l1)), gens, drawn, toks + 51, os⟩ pos := by
    unfold flushD
    rw [if_neg (by cases l1 with | nil => cases h1 | cons => simp)]
    have := subLong (w := w) (c := c) (q := q) (s := ⟨h, gens, drawn, toks, os⟩) (pos := pos) (l := l1) (by omega) h11 nd1 (by omega)
    rw [h1] at this
    exact Fwd.bind (n := 223) (m := 0) this .pure
  refine LoopF.app (disp_chunk F h1 first) ?_
  rw [← Nat.add_zero (330 * cs.length)]
  refine LoopF.app (b' := (some h.objs.size, [])) (s' := ⟨pushAll (h.push (dL (ents 3 toks (l1 ++ cs.flatten)))) (subsOf (toks + 51) cs), gens, drawn, toks + 51 + 51 * cs.length, os⟩) (p' := pos) ?_ ?_
  · have := disp_chunks (w := w) (c := c) (q := q) F h pos h11 gens drawn os cs [] (ents 3 toks l1) (toks + 51) h17 (by cases l1 with | nil => cases h1 | cons => simp [ents]) (by rw [ents_hash]; exact nd2) (by rw [ents_len]; omega)
    rw [ents_app, h1]
    exact this
  · exact disp_collect F l2 [] (by simp only [List.length_nil]; omega)
theorem dispRun (h : Heap) (pos : Pos) (h11 : 11 ≤ h.objs.size) (gens : Array GenState) (drawn : Drawn) (os : OsState) (toks : Nat) (l1 : List (Int × Str)) (cs : List (List (Int × Str))) (l2 : List (Int × Str))
    (h1 : l1.length = 17) (h17 : ∀ l ∈ cs, l.length = 17) (h2 : l2.length ≤ 15) (h20 : l2 ≠ []) (nd : (hs (l1 ++ (cs.flatten ++ l2))).Nodup) (hl : l1.length + cs.flatten.length + l2.length < sizeLine) :
    Fwd w c q (223 + 330 * cs.length + (19 * l2.length + 6)) (dictDisplay (items pos (l1 ++ (cs.flatten ++ l2)))) ⟨h, gens, drawn, toks, os⟩ pos (.ref h.objs.size)
      ⟨pushAll (h.push (dL (ents 3 toks (l1 ++ cs.flatten) ++ ents 2 (toks + 51 + 51 * cs.length) l2))) (subsOf (toks + 51) cs ++ [dL (ents 2 (toks + 51 + 51 * cs.length) l2)]), gens, drawn, toks + 51 + 51 * cs.length + 3 * l2.length, os⟩ pos := by
  have nd' : (hs (l1 ++ cs.flatten) ++ hs l2).Nodup := by
    rwa [show hs (l1 ++ (cs.flatten ++ l2)) = hs (l1 ++ cs.flatten) ++ hs l2 by simp [hs]] at nd
  unfold dictDisplay
  refine Fwd.bind (LoopF.run (disp_all ⟨fun k v main run hn => ?_, fun k v main run hn => ?_⟩ h pos h11 gens drawn os toks l1 cs l2 h1 h17 h2 nd hl)) ?_
  · show (if (List.length (run ++ [(k, v)]) == 17) = true then _ else _) = _
    rw [if_neg (by simpa using hn)]
  · show (if (List.length (run ++ [(k, v)]) == 17) = true then _ else _) = _
    rw [if_pos (by simpa using hn)]
    rfl
  · have hsz : (pushAll (h.push (dL (ents 3 toks (l1 ++ cs.flatten)))) (subsOf (toks + 51) cs)).objs.size = h.objs.size + 1 + (subsOf (toks + 51) cs).length := by
      rw [pushAll_size]
      obtain ⟨objs, life⟩ := h
      simp only [Heap.push, Array.size_push]
    have sub := subShort (w := w) (c := c) (q := q) (s := ⟨pushAll (h.push (dL (ents 3 toks (l1 ++ cs.flatten)))) (subsOf (toks + 51) cs), gens, drawn, toks + 51 + 51 * cs.length, os⟩) (pos := pos) (l := l2) h2 (by rw [hsz]; exact Nat.le_trans h11 (by omega))
      (List.nodup_append.mp nd').2.1
    have fl := flush_more h pos h11 (subsOf (toks + 51) cs) (ents 3 toks (l1 ++ cs.flatten)) l2 _ 2 gens drawn (toks + 51 + 51 * cs.length) os (by cases l1 with | nil => cases h1 | cons => simp [ents]) h20 rfl (by rw [ents_hash]; exact nd')
      (by rw [ents_len, List.length_append]; omega) sub
    refine Fwd.steps (n := (13 * l2.length + 1 + (6 * l2.length + 5)) + 0) ?_ (by omega)
    exact Fwd.bind fl .pure
end
end
-- part K
section
open PySem PySem.W PyProof.Rows PySem.Calls

noncomputable section

noncomputable def topS (k : Nat) : Stmt := PW.main.body.getD k (.Pass ⟨0, 0, 0, 0⟩)
noncomputable def fnSc : Stmt → Scope
  | .FunctionDef (scope := s) .. => s
  | _ => default
noncomputable def fnPa : Stmt → Arguments
  | .FunctionDef (args := s) .. => s
  | _ => default
noncomputable def fnBody : Stmt → List Stmt
  | .FunctionDef (body := b) .. => b
  | .ClassDef (body := b) .. => b
  | _ => []
/-- the k-th def of a class body -/
noncomputable def inS (s : Stmt) (k : Nat) : Stmt := (fnBody s).getD k (.Pass ⟨0, 0, 0, 0⟩)
noncomputable def env0 : Env := { scope := PW.main.scope, locals := mainNs, globals := mainNs, cells := [], code := .ref 13, frame := some 14 }
noncomputable def kvOne : Option Expr × Expr → Int × Str
  | (some (.Constant (.int k) _ _), .Constant (.str x) _ _) => (k, x)
  | _ => (0, default)
noncomputable def kvAll : Stmt → List (Int × Str)
  | .Assign _ (.Dict ks vs _) _ => (ks.zip vs).map kvOne
  | _ => []
noncomputable def kvs : List (Int × Str) := kvAll (topS 11)
noncomputable def kv1 : List (Int × Str) := kvs.take 17
noncomputable def kvC (l : List (Int × Str)) : Nat → List (List (Int × Str))
  | 0 => []
  | n + 1 => l.take 17 :: kvC (l.drop 17) n
noncomputable def kvm : List (List (Int × Str)) := kvC (kvs.drop 17) 37
noncomputable def kv2 : List (Int × Str) := kvs.drop 646
noncomputable def pD (P : Params) : Obj := dL (ents 3 421 (kv1 ++ kvm.flatten) ++ ents 2 2359 kv2)
noncomputable def pSs : List Obj := subsOf 472 kvm ++ [dL (ents 2 2359 kv2)]
noncomputable def pS (j : Nat) (P : Params) : Obj := pSs.getD j default

noncomputable def p11 (P : Params) : Obj := (Obj.mk (Value.type "tuple") none (Data.seq (List.toArray []) 0) (List.toArray []))
noncomputable def p12 (P : Params) : Obj := (Obj.mk Value.none none (Data.fields (List.toArray [])) (List.toArray []))
noncomputable def p13 (P : Params) : Obj := (Obj.mk (Value.type "code") none (Data.fields (List.toArray [(Value.str (Str.ofString "<module>") 182), (Value.str (Str.ofString "<module>") 183), (Value.str (Str.ofString "/claim/cut.py") 184), (Value.int 1 0), (Value.int 0 0), (Value.int 0 0), (Value.int 0 0), (Value.int 0 0), (Value.ref 11), (Value.bool false), (Value.int 181 0), (Value.ref 12), Value.none, Value.none, Value.none, Value.none, (Value.int 185 0), (Value.int 1 0), (Value.str (Str.ofString "/claim/cut.py") 186)])) (List.toArray []))
noncomputable def p14 (P : Params) : Obj := (Obj.mk (Value.type "frame") none Data.plain (List.toArray [(some (Value.ref 13)), (some (Value.ref 3)), (some (Value.ref 3)), none, (some (Value.str (Str.ofString "__main__") 164)), none, (some (Value.ref 0))]))
noncomputable def t0 (P : Params) : BT := (.node (W.boot_o_0 P) (.node (W.boot_o_1 P) (.node (W.boot_o_3 P) (.node (W.boot_o_7 P) .nil .nil) (.node (p11 P) .nil .nil)) (.node (W.boot_o_5 P) (.node (W.boot_o_9 P) .nil .nil) (.node (p13 P) .nil .nil))) (.node (W.boot_o_2 P) (.node (W.boot_o_4 P) (.node (W.boot_o_8 P) .nil .nil) (.node (p12 P) .nil .nil)) (.node (W.boot_o_6 P) (.node (W.boot_o_10 P) .nil .nil) (.node (p14 P) .nil .nil))))
noncomputable def p3at2 (P : Params) : Obj := (Obj.mk (Value.type "dict") none (Data.dict (List.toArray [(DictEntry.mk (PyData.keyHash P (Str.ofString "__name__")) (Value.str (Str.ofString "__name__") 165) (Value.str (Str.ofString "cpy313.tabnanny") 194)), (DictEntry.mk (PyData.keyHash P (Str.ofString "__doc__")) (Value.str (Str.ofString "__doc__") 166) Value.none), (DictEntry.mk (PyData.keyHash P (Str.ofString "__package__")) (Value.str (Str.ofString "__package__") 167) Value.none), (DictEntry.mk (PyData.keyHash P (Str.ofString "__loader__")) (Value.str (Str.ofString "__loader__") 168) (Value.builtin "__main__.__loader__#opaque")), (DictEntry.mk (PyData.keyHash P (Str.ofString "__spec__")) (Value.str (Str.ofString "__spec__") 169) Value.none), (DictEntry.mk (PyData.keyHash P (Str.ofString "__annotations__")) (Value.str (Str.ofString "__annotations__") 170) (Value.ref 6)), (DictEntry.mk (PyData.keyHash P (Str.ofString "__builtins__")) (Value.str (Str.ofString "__builtins__") 171) (Value.ref 4)), (DictEntry.mk (PyData.keyHash P (Str.ofString "__file__")) (Value.str (Str.ofString "__file__") 173) (Value.str (Str.ofString "/claim/cut.py") 172)), (DictEntry.mk (PyData.keyHash P (Str.ofString "__cached__")) (Value.str (Str.ofString "__cached__") 174) Value.none), (DictEntry.mk (PyData.keyHash P (Str.ofString "_wall")) (Value.str (Str.ofString "_wall") 193) (Value.ref 21))]) 10) (List.toArray []))
noncomputable def p12at2 (P : Params) : Obj := (Obj.mk Value.none none (Data.fields (List.toArray [(Value.int 1 0), (Value.int 0 0), (Value.ref 20)])) (List.toArray []))
noncomputable def p15 (P : Params) : Obj := (Obj.mk (Value.type "tuple") none (Data.seq (List.toArray []) 0) (List.toArray []))
noncomputable def p16 (P : Params) : Obj := (Obj.mk Value.none none (Data.fields (List.toArray [])) (List.toArray []))
noncomputable def p17 (P : Params) : Obj := (Obj.mk (Value.type "tuple") none (Data.seq (List.toArray [(Value.str (Str.ofString "k") 190)]) 0) (List.toArray []))
noncomputable def p18 (P : Params) : Obj := (Obj.mk (Value.type "tuple") none (Data.seq (List.toArray []) 0) (List.toArray []))
noncomputable def p19 (P : Params) : Obj := (Obj.mk Value.none none (Data.func (FuncData.mk (Str.ofString "_wall") (Str.ofString "_wall") (fnPa (topS 0)) (FuncBody.stmts (fnBody (topS 0))) (fnSc (topS 0)) 0 [] Value.none Value.none Value.none Value.none none Value.none Value.none 0)) (List.toArray []))
noncomputable def p20 (P : Params) : Obj := (Obj.mk (Value.type "code") none (Data.fields (List.toArray [(Value.str (Str.ofString "_wall") 187), (Value.str (Str.ofString "_wall") 188), (Value.str (Str.ofString "/claim/cut.py") 189), (Value.int 1 0), (Value.int 1 0), (Value.int 0 0), (Value.int 0 0), (Value.int 3 0), (Value.ref 15), (Value.bool true), (Value.int 181 0), (Value.ref 16), Value.none, (Value.ref 17), (Value.ref 18), (Value.ref 19), (Value.int 191 0), (Value.int 1 0), (Value.str (Str.ofString "/claim/cut.py") 192)])) (List.toArray []))
noncomputable def p21 (P : Params) : Obj := (Obj.mk (Value.type "function") none (Data.func (FuncData.mk (Str.ofString "_wall") (Str.ofString "_wall") (fnPa (topS 0)) (FuncBody.stmts (fnBody (topS 0))) (fnSc (topS 0)) 3 [] Value.none Value.none Value.none (Value.str (Str.ofString "__main__") 164) none (Value.ref 20) Value.none 0)) (List.toArray []))
noncomputable def t2 (P : Params) : BT := (.node (W.boot_o_0 P) (.node (W.boot_o_1 P) (.node (p3at2 P) (.node (W.boot_o_7 P) (.node (p15 P) .nil .nil) .nil) (.node (p11 P) (.node (p19 P) .nil .nil) .nil)) (.node (W.boot_o_5 P) (.node (W.boot_o_9 P) (.node (p17 P) .nil .nil) .nil) (.node (p13 P) (.node (p21 P) .nil .nil) .nil))) (.node (W.boot_o_2 P) (.node (W.boot_o_4 P) (.node (W.boot_o_8 P) (.node (p16 P) .nil .nil) .nil) (.node (p12at2 P) (.node (p20 P) .nil .nil) .nil)) (.node (W.boot_o_6 P) (.node (W.boot_o_10 P) (.node (p18 P) .nil .nil) .nil) (.node (p14 P) .nil .nil))))
noncomputable def p3at3 (P : Params) : Obj := (Obj.mk (Value.type "dict") none (Data.dict (List.toArray [(DictEntry.mk (PyData.keyHash P (Str.ofString "__name__")) (Value.str (Str.ofString "__name__") 165) (Value.str (Str.ofString "cpy313.tabnanny") 194)), (DictEntry.mk (PyData.keyHash P (Str.ofString "__doc__")) (Value.str (Str.ofString "__doc__") 166) Value.none), (DictEntry.mk (PyData.keyHash P (Str.ofString "__package__")) (Value.str (Str.ofString "__package__") 167) Value.none), (DictEntry.mk (PyData.keyHash P (Str.ofString "__loader__")) (Value.str (Str.ofString "__loader__") 168) (Value.builtin "__main__.__loader__#opaque")), (DictEntry.mk (PyData.keyHash P (Str.ofString "__spec__")) (Value.str (Str.ofString "__spec__") 169) Value.none), (DictEntry.mk (PyData.keyHash P (Str.ofString "__annotations__")) (Value.str (Str.ofString "__annotations__") 170) (Value.ref 6)), (DictEntry.mk (PyData.keyHash P (Str.ofString "__builtins__")) (Value.str (Str.ofString "__builtins__") 171) (Value.ref 4)), (DictEntry.mk (PyData.keyHash P (Str.ofString "__file__")) (Value.str (Str.ofString "__file__") 173) (Value.str (Str.ofString "/claim/cut.py") 172)), (DictEntry.mk (PyData.keyHash P (Str.ofString "__cached__")) (Value.str (Str.ofString "__cached__") 174) Value.none), (DictEntry.mk (PyData.keyHash P (Str.ofString "_wall")) (Value.str (Str.ofString "_wall") 193) (Value.ref 21)), (DictEntry.mk (PyData.keyHash P (Str.ofString "Whitespace")) (Value.str (Str.ofString "Whitespace") 295) (Value.ref 83))]) 11) (List.toArray []))
noncomputable def p12at3 (P : Params) : Obj := (Obj.mk Value.none none (Data.fields (List.toArray [(Value.int 1 0), (Value.int 0 0), (Value.ref 20), (Value.int 5 0), (Value.int 0 0), (Value.ref 27)])) (List.toArray []))
noncomputable def p22 (P : Params) : Obj := (Obj.mk (Value.type "tuple") none (Data.seq (List.toArray []) 0) (List.toArray []))
noncomputable def p23 (P : Params) : Obj := (Obj.mk (Value.type "builtin_function_or_method") none (Data.fields (List.toArray [(Value.builtin "type.__prepare__"), (Value.type "type")])) (List.toArray []))
noncomputable def p24 (P : Params) : Obj := (Obj.mk (Value.type "dict") none (Data.dict (List.toArray [(DictEntry.mk (PyData.keyHash P (Str.ofString "__module__")) (Value.str (Str.ofString "__module__") 203) (Value.str (Str.ofString "cpy313.tabnanny") 194)), (DictEntry.mk (PyData.keyHash P (Str.ofString "__qualname__")) (Value.str (Str.ofString "__qualname__") 205) (Value.str (Str.ofString "Whitespace") 204)), (DictEntry.mk (PyData.keyHash P (Str.ofString "__firstlineno__")) (Value.str (Str.ofString "__firstlineno__") 207) (Value.int 5 206)), (DictEntry.mk (PyData.keyHash P (Str.ofString "S")) (Value.str (Str.ofString "S") 211) (Value.str (Str.ofString " ") 209)), (DictEntry.mk (PyData.keyHash P (Str.ofString "T")) (Value.str (Str.ofString "T") 212) (Value.str (Str.ofString "\t") 210)), (DictEntry.mk (PyData.keyHash P (Str.ofString "__init__")) (Value.str (Str.ofString "__init__") 227) (Value.ref 38)), (DictEntry.mk (PyData.keyHash P (Str.ofString "longest_run_of_spaces")) (Value.str (Str.ofString "longest_run_of_spaces") 236) (Value.ref 45)), (DictEntry.mk (PyData.keyHash P (Str.ofString "indent_level")) (Value.str (Str.ofString "indent_level") 248) (Value.ref 52)), (DictEntry.mk (PyData.keyHash P (Str.ofString "equal")) (Value.str (Str.ofString "equal") 256) (Value.ref 59)), (DictEntry.mk (PyData.keyHash P (Str.ofString "not_equal_witness")) (Value.str (Str.ofString "not_equal_witness") 264) (Value.ref 66)), (DictEntry.mk (PyData.keyHash P (Str.ofString "less")) (Value.str (Str.ofString "less") 274) (Value.ref 73)), (DictEntry.mk (PyData.keyHash P (Str.ofString "not_less_witness")) (Value.str (Str.ofString "not_less_witness") 282) (Value.ref 80)), (DictEntry.mk (PyData.keyHash P (Str.ofString "__static_attributes__")) (Value.str (Str.ofString "__static_attributes__") 288) (Value.ref 81))]) 13) (List.toArray []))
noncomputable def p25 (P : Params) : Obj := (Obj.mk (Value.type "tuple") none (Data.seq (List.toArray []) 0) (List.toArray []))
noncomputable def p26 (P : Params) : Obj := (Obj.mk Value.none none (Data.fields (List.toArray [(Value.int 8 0), (Value.int 4 0), (Value.ref 37), (Value.int 31 0), (Value.int 4 0), (Value.ref 44), (Value.int 35 0), (Value.int 4 0), (Value.ref 51), (Value.int 42 0), (Value.int 4 0), (Value.ref 58), (Value.int 45 0), (Value.int 4 0), (Value.ref 65), (Value.int 48 0), (Value.int 4 0), (Value.ref 72), (Value.int 59 0), (Value.int 4 0), (Value.ref 79)])) (List.toArray []))
noncomputable def p27 (P : Params) : Obj := (Obj.mk (Value.type "code") none (Data.fields (List.toArray [(Value.str (Str.ofString "Whitespace") 198), (Value.str (Str.ofString "Whitespace") 199), (Value.str (Str.ofString "/claim/cut.py") 200), (Value.int 5 0), (Value.int 0 0), (Value.int 0 0), (Value.int 0 0), (Value.int 0 0), (Value.ref 25), (Value.bool false), (Value.int 181 0), (Value.ref 26), Value.none, Value.none, Value.none, Value.none, (Value.int 201 0), (Value.int 5 0), (Value.str (Str.ofString "/claim/cut.py") 202)])) (List.toArray []))
noncomputable def p28 (P : Params) : Obj := (Obj.mk (Value.type "frame") none Data.plain (List.toArray [(some (Value.ref 27)), (some (Value.ref 3)), (some (Value.ref 24)), none, (some (Value.str (Str.ofString "cpy313.tabnanny") 194)), none, (some (Value.ref 0))]))
noncomputable def p29 (P : Params) : Obj := (Obj.mk (Value.type "str_ascii_iterator") none (Data.fields (List.toArray [Value.none, (Value.int 2 0)])) (List.toArray []))
noncomputable def p30 (P : Params) : Obj := (Obj.mk (Value.type "tuple") none (Data.seq (List.toArray []) 0) (List.toArray []))
noncomputable def p31 (P : Params) : Obj := (Obj.mk (Value.type "StopIteration") none (Data.fields (List.toArray [(Value.ref 30), Value.none, Value.none, Value.none, (Value.bool false), Value.none])) (List.toArray []))
noncomputable def p32 (P : Params) : Obj := (Obj.mk (Value.type "tuple") none (Data.seq (List.toArray []) 0) (List.toArray []))
noncomputable def p33 (P : Params) : Obj := (Obj.mk Value.none none (Data.fields (List.toArray [])) (List.toArray []))
noncomputable def p34 (P : Params) : Obj := (Obj.mk (Value.type "tuple") none (Data.seq (List.toArray [(Value.str (Str.ofString "self") 216), (Value.str (Str.ofString "ws") 217), (Value.str (Str.ofString "S") 218), (Value.str (Str.ofString "T") 219), (Value.str (Str.ofString "count") 220), (Value.str (Str.ofString "b") 221), (Value.str (Str.ofString "n") 222), (Value.str (Str.ofString "nt") 223), (Value.str (Str.ofString "ch") 224)]) 0) (List.toArray []))
noncomputable def p35 (P : Params) : Obj := (Obj.mk (Value.type "tuple") none (Data.seq (List.toArray []) 0) (List.toArray []))
noncomputable def p36 (P : Params) : Obj := (Obj.mk Value.none none (Data.func (FuncData.mk (Str.ofString "__init__") (Str.ofString "Whitespace.__init__") (fnPa (inS (topS 2) 1)) (FuncBody.stmts (fnBody (inS (topS 2) 1))) (fnSc (inS (topS 2) 1)) 0 [] Value.none Value.none Value.none Value.none none Value.none Value.none 0)) (List.toArray []))
noncomputable def p37 (P : Params) : Obj := (Obj.mk (Value.type "code") none (Data.fields (List.toArray [(Value.str (Str.ofString "__init__") 213), (Value.str (Str.ofString "Whitespace.__init__") 214), (Value.str (Str.ofString "/claim/cut.py") 215), (Value.int 8 0), (Value.int 2 0), (Value.int 0 0), (Value.int 0 0), (Value.int 3 0), (Value.ref 32), (Value.bool true), (Value.int 181 0), (Value.ref 33), Value.none, (Value.ref 34), (Value.ref 35), (Value.ref 36), (Value.int 225 0), (Value.int 8 0), (Value.str (Str.ofString "/claim/cut.py") 226)])) (List.toArray []))
noncomputable def p38 (P : Params) : Obj := (Obj.mk (Value.type "function") none (Data.func (FuncData.mk (Str.ofString "__init__") (Str.ofString "Whitespace.__init__") (fnPa (inS (topS 2) 1)) (FuncBody.stmts (fnBody (inS (topS 2) 1))) (fnSc (inS (topS 2) 1)) 3 [] Value.none Value.none Value.none (Value.str (Str.ofString "cpy313.tabnanny") 194) none (Value.ref 37) Value.none 0)) (List.toArray []))
noncomputable def p39 (P : Params) : Obj := (Obj.mk (Value.type "tuple") none (Data.seq (List.toArray []) 0) (List.toArray []))
noncomputable def p40 (P : Params) : Obj := (Obj.mk Value.none none (Data.fields (List.toArray [])) (List.toArray []))
noncomputable def p41 (P : Params) : Obj := (Obj.mk (Value.type "tuple") none (Data.seq (List.toArray [(Value.str (Str.ofString "self") 231), (Value.str (Str.ofString "count") 232), (Value.str (Str.ofString "trailing") 233)]) 0) (List.toArray []))
noncomputable def p42 (P : Params) : Obj := (Obj.mk (Value.type "tuple") none (Data.seq (List.toArray []) 0) (List.toArray []))
noncomputable def p43 (P : Params) : Obj := (Obj.mk Value.none none (Data.func (FuncData.mk (Str.ofString "longest_run_of_spaces") (Str.ofString "Whitespace.longest_run_of_spaces") (fnPa (inS (topS 2) 2)) (FuncBody.stmts (fnBody (inS (topS 2) 2))) (fnSc (inS (topS 2) 2)) 0 [] Value.none Value.none Value.none Value.none none Value.none Value.none 0)) (List.toArray []))
noncomputable def p44 (P : Params) : Obj := (Obj.mk (Value.type "code") none (Data.fields (List.toArray [(Value.str (Str.ofString "longest_run_of_spaces") 228), (Value.str (Str.ofString "Whitespace.longest_run_of_spaces") 229), (Value.str (Str.ofString "/claim/cut.py") 230), (Value.int 31 0), (Value.int 1 0), (Value.int 0 0), (Value.int 0 0), (Value.int 3 0), (Value.ref 39), (Value.bool true), (Value.int 181 0), (Value.ref 40), Value.none, (Value.ref 41), (Value.ref 42), (Value.ref 43), (Value.int 234 0), (Value.int 31 0), (Value.str (Str.ofString "/claim/cut.py") 235)])) (List.toArray []))
noncomputable def p45 (P : Params) : Obj := (Obj.mk (Value.type "function") none (Data.func (FuncData.mk (Str.ofString "longest_run_of_spaces") (Str.ofString "Whitespace.longest_run_of_spaces") (fnPa (inS (topS 2) 2)) (FuncBody.stmts (fnBody (inS (topS 2) 2))) (fnSc (inS (topS 2) 2)) 3 [] Value.none Value.none Value.none (Value.str (Str.ofString "cpy313.tabnanny") 194) none (Value.ref 44) Value.none 0)) (List.toArray []))
noncomputable def p46 (P : Params) : Obj := (Obj.mk (Value.type "tuple") none (Data.seq (List.toArray []) 0) (List.toArray []))
noncomputable def p47 (P : Params) : Obj := (Obj.mk Value.none none (Data.fields (List.toArray [])) (List.toArray []))
noncomputable def p48 (P : Params) : Obj := (Obj.mk (Value.type "tuple") none (Data.seq (List.toArray [(Value.str (Str.ofString "self") 240), (Value.str (Str.ofString "tabsize") 241), (Value.str (Str.ofString "count") 242), (Value.str (Str.ofString "trailing") 243), (Value.str (Str.ofString "il") 244), (Value.str (Str.ofString "i") 245)]) 0) (List.toArray []))
noncomputable def p49 (P : Params) : Obj := (Obj.mk (Value.type "tuple") none (Data.seq (List.toArray []) 0) (List.toArray []))
noncomputable def p50 (P : Params) : Obj := (Obj.mk Value.none none (Data.func (FuncData.mk (Str.ofString "indent_level") (Str.ofString "Whitespace.indent_level") (fnPa (inS (topS 2) 3)) (FuncBody.stmts (fnBody (inS (topS 2) 3))) (fnSc (inS (topS 2) 3)) 0 [] Value.none Value.none Value.none Value.none none Value.none Value.none 0)) (List.toArray []))
noncomputable def p51 (P : Params) : Obj := (Obj.mk (Value.type "code") none (Data.fields (List.toArray [(Value.str (Str.ofString "indent_level") 237), (Value.str (Str.ofString "Whitespace.indent_level") 238), (Value.str (Str.ofString "/claim/cut.py") 239), (Value.int 35 0), (Value.int 2 0), (Value.int 0 0), (Value.int 0 0), (Value.int 3 0), (Value.ref 46), (Value.bool true), (Value.int 181 0), (Value.ref 47), Value.none, (Value.ref 48), (Value.ref 49), (Value.ref 50), (Value.int 246 0), (Value.int 35 0), (Value.str (Str.ofString "/claim/cut.py") 247)])) (List.toArray []))
noncomputable def p52 (P : Params) : Obj := (Obj.mk (Value.type "function") none (Data.func (FuncData.mk (Str.ofString "indent_level") (Str.ofString "Whitespace.indent_level") (fnPa (inS (topS 2) 3)) (FuncBody.stmts (fnBody (inS (topS 2) 3))) (fnSc (inS (topS 2) 3)) 3 [] Value.none Value.none Value.none (Value.str (Str.ofString "cpy313.tabnanny") 194) none (Value.ref 51) Value.none 0)) (List.toArray []))
noncomputable def p53 (P : Params) : Obj := (Obj.mk (Value.type "tuple") none (Data.seq (List.toArray []) 0) (List.toArray []))
noncomputable def p54 (P : Params) : Obj := (Obj.mk Value.none none (Data.fields (List.toArray [])) (List.toArray []))
noncomputable def p55 (P : Params) : Obj := (Obj.mk (Value.type "tuple") none (Data.seq (List.toArray [(Value.str (Str.ofString "self") 252), (Value.str (Str.ofString "other") 253)]) 0) (List.toArray []))
noncomputable def p56 (P : Params) : Obj := (Obj.mk (Value.type "tuple") none (Data.seq (List.toArray []) 0) (List.toArray []))
noncomputable def p57 (P : Params) : Obj := (Obj.mk Value.none none (Data.func (FuncData.mk (Str.ofString "equal") (Str.ofString "Whitespace.equal") (fnPa (inS (topS 2) 4)) (FuncBody.stmts (fnBody (inS (topS 2) 4))) (fnSc (inS (topS 2) 4)) 0 [] Value.none Value.none Value.none Value.none none Value.none Value.none 0)) (List.toArray []))
noncomputable def p58 (P : Params) : Obj := (Obj.mk (Value.type "code") none (Data.fields (List.toArray [(Value.str (Str.ofString "equal") 249), (Value.str (Str.ofString "Whitespace.equal") 250), (Value.str (Str.ofString "/claim/cut.py") 251), (Value.int 42 0), (Value.int 2 0), (Value.int 0 0), (Value.int 0 0), (Value.int 3 0), (Value.ref 53), (Value.bool true), (Value.int 181 0), (Value.ref 54), Value.none, (Value.ref 55), (Value.ref 56), (Value.ref 57), (Value.int 254 0), (Value.int 42 0), (Value.str (Str.ofString "/claim/cut.py") 255)])) (List.toArray []))
noncomputable def p59 (P : Params) : Obj := (Obj.mk (Value.type "function") none (Data.func (FuncData.mk (Str.ofString "equal") (Str.ofString "Whitespace.equal") (fnPa (inS (topS 2) 4)) (FuncBody.stmts (fnBody (inS (topS 2) 4))) (fnSc (inS (topS 2) 4)) 3 [] Value.none Value.none Value.none (Value.str (Str.ofString "cpy313.tabnanny") 194) none (Value.ref 58) Value.none 0)) (List.toArray []))
noncomputable def p60 (P : Params) : Obj := (Obj.mk (Value.type "tuple") none (Data.seq (List.toArray []) 0) (List.toArray []))
noncomputable def p61 (P : Params) : Obj := (Obj.mk Value.none none (Data.fields (List.toArray [])) (List.toArray []))
noncomputable def p62 (P : Params) : Obj := (Obj.mk (Value.type "tuple") none (Data.seq (List.toArray [(Value.str (Str.ofString "self") 260), (Value.str (Str.ofString "other") 261)]) 0) (List.toArray []))
noncomputable def p63 (P : Params) : Obj := (Obj.mk (Value.type "tuple") none (Data.seq (List.toArray []) 0) (List.toArray []))
noncomputable def p64 (P : Params) : Obj := (Obj.mk Value.none none (Data.func (FuncData.mk (Str.ofString "not_equal_witness") (Str.ofString "Whitespace.not_equal_witness") (fnPa (inS (topS 2) 5)) (FuncBody.stmts (fnBody (inS (topS 2) 5))) (fnSc (inS (topS 2) 5)) 0 [] Value.none Value.none Value.none Value.none none Value.none Value.none 0)) (List.toArray []))
noncomputable def p65 (P : Params) : Obj := (Obj.mk (Value.type "code") none (Data.fields (List.toArray [(Value.str (Str.ofString "not_equal_witness") 257), (Value.str (Str.ofString "Whitespace.not_equal_witness") 258), (Value.str (Str.ofString "/claim/cut.py") 259), (Value.int 45 0), (Value.int 2 0), (Value.int 0 0), (Value.int 0 0), (Value.int 3 0), (Value.ref 60), (Value.bool true), (Value.int 181 0), (Value.ref 61), Value.none, (Value.ref 62), (Value.ref 63), (Value.ref 64), (Value.int 262 0), (Value.int 45 0), (Value.str (Str.ofString "/claim/cut.py") 263)])) (List.toArray []))
noncomputable def p66 (P : Params) : Obj := (Obj.mk (Value.type "function") none (Data.func (FuncData.mk (Str.ofString "not_equal_witness") (Str.ofString "Whitespace.not_equal_witness") (fnPa (inS (topS 2) 5)) (FuncBody.stmts (fnBody (inS (topS 2) 5))) (fnSc (inS (topS 2) 5)) 3 [] Value.none Value.none Value.none (Value.str (Str.ofString "cpy313.tabnanny") 194) none (Value.ref 65) Value.none 0)) (List.toArray []))
noncomputable def p67 (P : Params) : Obj := (Obj.mk (Value.type "tuple") none (Data.seq (List.toArray []) 0) (List.toArray []))
noncomputable def p68 (P : Params) : Obj := (Obj.mk Value.none none (Data.fields (List.toArray [])) (List.toArray []))
noncomputable def p69 (P : Params) : Obj := (Obj.mk (Value.type "tuple") none (Data.seq (List.toArray [(Value.str (Str.ofString "self") 268), (Value.str (Str.ofString "other") 269), (Value.str (Str.ofString "n") 270), (Value.str (Str.ofString "ts") 271)]) 0) (List.toArray []))
noncomputable def p70 (P : Params) : Obj := (Obj.mk (Value.type "tuple") none (Data.seq (List.toArray []) 0) (List.toArray []))
noncomputable def p71 (P : Params) : Obj := (Obj.mk Value.none none (Data.func (FuncData.mk (Str.ofString "less") (Str.ofString "Whitespace.less") (fnPa (inS (topS 2) 6)) (FuncBody.stmts (fnBody (inS (topS 2) 6))) (fnSc (inS (topS 2) 6)) 0 [] Value.none Value.none Value.none Value.none none Value.none Value.none 0)) (List.toArray []))
noncomputable def p72 (P : Params) : Obj := (Obj.mk (Value.type "code") none (Data.fields (List.toArray [(Value.str (Str.ofString "less") 265), (Value.str (Str.ofString "Whitespace.less") 266), (Value.str (Str.ofString "/claim/cut.py") 267), (Value.int 48 0), (Value.int 2 0), (Value.int 0 0), (Value.int 0 0), (Value.int 3 0), (Value.ref 67), (Value.bool true), (Value.int 181 0), (Value.ref 68), Value.none, (Value.ref 69), (Value.ref 70), (Value.ref 71), (Value.int 272 0), (Value.int 48 0), (Value.str (Str.ofString "/claim/cut.py") 273)])) (List.toArray []))
noncomputable def p73 (P : Params) : Obj := (Obj.mk (Value.type "function") none (Data.func (FuncData.mk (Str.ofString "less") (Str.ofString "Whitespace.less") (fnPa (inS (topS 2) 6)) (FuncBody.stmts (fnBody (inS (topS 2) 6))) (fnSc (inS (topS 2) 6)) 3 [] Value.none Value.none Value.none (Value.str (Str.ofString "cpy313.tabnanny") 194) none (Value.ref 72) Value.none 0)) (List.toArray []))
noncomputable def p74 (P : Params) : Obj := (Obj.mk (Value.type "tuple") none (Data.seq (List.toArray []) 0) (List.toArray []))
noncomputable def p75 (P : Params) : Obj := (Obj.mk Value.none none (Data.fields (List.toArray [])) (List.toArray []))
noncomputable def p76 (P : Params) : Obj := (Obj.mk (Value.type "tuple") none (Data.seq (List.toArray [(Value.str (Str.ofString "self") 278), (Value.str (Str.ofString "other") 279)]) 0) (List.toArray []))
noncomputable def p77 (P : Params) : Obj := (Obj.mk (Value.type "tuple") none (Data.seq (List.toArray []) 0) (List.toArray []))
noncomputable def p78 (P : Params) : Obj := (Obj.mk Value.none none (Data.func (FuncData.mk (Str.ofString "not_less_witness") (Str.ofString "Whitespace.not_less_witness") (fnPa (inS (topS 2) 7)) (FuncBody.stmts (fnBody (inS (topS 2) 7))) (fnSc (inS (topS 2) 7)) 0 [] Value.none Value.none Value.none Value.none none Value.none Value.none 0)) (List.toArray []))
noncomputable def p79 (P : Params) : Obj := (Obj.mk (Value.type "code") none (Data.fields (List.toArray [(Value.str (Str.ofString "not_less_witness") 275), (Value.str (Str.ofString "Whitespace.not_less_witness") 276), (Value.str (Str.ofString "/claim/cut.py") 277), (Value.int 59 0), (Value.int 2 0), (Value.int 0 0), (Value.int 0 0), (Value.int 3 0), (Value.ref 74), (Value.bool true), (Value.int 181 0), (Value.ref 75), Value.none, (Value.ref 76), (Value.ref 77), (Value.ref 78), (Value.int 280 0), (Value.int 59 0), (Value.str (Str.ofString "/claim/cut.py") 281)])) (List.toArray []))
noncomputable def p80 (P : Params) : Obj := (Obj.mk (Value.type "function") none (Data.func (FuncData.mk (Str.ofString "not_less_witness") (Str.ofString "Whitespace.not_less_witness") (fnPa (inS (topS 2) 7)) (FuncBody.stmts (fnBody (inS (topS 2) 7))) (fnSc (inS (topS 2) 7)) 3 [] Value.none Value.none Value.none (Value.str (Str.ofString "cpy313.tabnanny") 194) none (Value.ref 79) Value.none 0)) (List.toArray []))
noncomputable def p81 (P : Params) : Obj := (Obj.mk (Value.type "tuple") none (Data.seq (List.toArray [(Value.str (Str.ofString "is_simple") 283), (Value.str (Str.ofString "n") 284), (Value.str (Str.ofString "norm") 285), (Value.str (Str.ofString "nt") 286), (Value.str (Str.ofString "raw") 287)]) 0) (List.toArray []))
noncomputable def p82 (P : Params) : Obj := (Obj.mk (Value.type "dict") none (Data.dict (List.toArray [(DictEntry.mk (PyData.keyHash P (Str.ofString "__module__")) (Value.str (Str.ofString "__module__") 203) (Value.str (Str.ofString "cpy313.tabnanny") 194)), (DictEntry.mk (PyData.keyHash P (Str.ofString "__firstlineno__")) (Value.str (Str.ofString "__firstlineno__") 207) (Value.int 5 206)), (DictEntry.mk (PyData.keyHash P (Str.ofString "S")) (Value.str (Str.ofString "S") 211) (Value.str (Str.ofString " ") 209)), (DictEntry.mk (PyData.keyHash P (Str.ofString "T")) (Value.str (Str.ofString "T") 212) (Value.str (Str.ofString "\t") 210)), (DictEntry.mk (PyData.keyHash P (Str.ofString "__init__")) (Value.str (Str.ofString "__init__") 227) (Value.ref 38)), (DictEntry.mk (PyData.keyHash P (Str.ofString "longest_run_of_spaces")) (Value.str (Str.ofString "longest_run_of_spaces") 236) (Value.ref 45)), (DictEntry.mk (PyData.keyHash P (Str.ofString "indent_level")) (Value.str (Str.ofString "indent_level") 248) (Value.ref 52)), (DictEntry.mk (PyData.keyHash P (Str.ofString "equal")) (Value.str (Str.ofString "equal") 256) (Value.ref 59)), (DictEntry.mk (PyData.keyHash P (Str.ofString "not_equal_witness")) (Value.str (Str.ofString "not_equal_witness") 264) (Value.ref 66)), (DictEntry.mk (PyData.keyHash P (Str.ofString "less")) (Value.str (Str.ofString "less") 274) (Value.ref 73)), (DictEntry.mk (PyData.keyHash P (Str.ofString "not_less_witness")) (Value.str (Str.ofString "not_less_witness") 282) (Value.ref 80)), (DictEntry.mk (PyData.keyHash P (Str.ofString "__static_attributes__")) (Value.str (Str.ofString "__static_attributes__") 288) (Value.ref 81)), (DictEntry.mk (PyData.keyHash P (Str.ofString "__dict__")) (Value.str (Str.ofString "__dict__") 290) (Value.ref 84)), (DictEntry.mk (PyData.keyHash P (Str.ofString "__weakref__")) (Value.str (Str.ofString "__weakref__") 292) (Value.ref 85)), (DictEntry.mk (PyData.keyHash P (Str.ofString "__doc__")) (Value.str (Str.ofString "__doc__") 293) Value.none)]) 4) (List.toArray []))
noncomputable def p83 (P : Params) : Obj := (Obj.mk (Value.type "type") none (Data.cls (ClassData.mk (Str.ofString "Whitespace") [(Value.type "object")] [(Value.ref 83), (Value.type "object")] 82 (Str.ofString "Whitespace") true [] [] false none false)) (List.toArray [none, none, (some (Value.str (Str.ofString "Whitespace") 196)), (some (Value.str (Str.ofString "Whitespace") 204)), (some (Value.builtin "object.__new__")), (some (Value.bool true))]))
noncomputable def p84 (P : Params) : Obj := (Obj.mk (Value.type "getset_descriptor") none (Data.fields (List.toArray [(Value.str (Str.ofString "__dict__") 289), (Value.ref 83), (Value.builtin "function.__dict__"), (Value.builtin "function.__dict__#set")])) (List.toArray []))
noncomputable def p85 (P : Params) : Obj := (Obj.mk (Value.type "getset_descriptor") none (Data.fields (List.toArray [(Value.str (Str.ofString "__weakref__") 291), (Value.ref 83), (Value.builtin "ExceptionGroup.__weakref__"), Value.none])) (List.toArray []))
noncomputable def p86 (P : Params) : Obj := (Obj.mk (Value.type "super") none (Data.fields (List.toArray [(Value.ref 83), (Value.ref 83), (Value.ref 83)])) (List.toArray []))
noncomputable def p87 (P : Params) : Obj := (Obj.mk (Value.type "builtin_function_or_method") none (Data.fields (List.toArray [(Value.builtin "object.__init_subclass__"), (Value.ref 83)])) (List.toArray []))
noncomputable def t3 (P : Params) : BT := (.node (W.boot_o_0 P) (.node (W.boot_o_1 P) (.node (p3at3 P) (.node (W.boot_o_7 P) (.node (p15 P) (.node (p31 P) (.node (p63 P) .nil .nil) .nil) (.node (p47 P) (.node (p79 P) .nil .nil) .nil)) (.node (p23 P) (.node (p39 P) (.node (p71 P) .nil .nil) .nil) (.node (p55 P) (.node (p87 P) .nil .nil) .nil))) (.node (p11 P) (.node (p19 P) (.node (p35 P) (.node (p67 P) .nil .nil) .nil) (.node (p51 P) (.node (p83 P) .nil .nil) .nil)) (.node (p27 P) (.node (p43 P) (.node (p75 P) .nil .nil) .nil) (.node (p59 P) .nil .nil)))) (.node (W.boot_o_5 P) (.node (W.boot_o_9 P) (.node (p17 P) (.node (p33 P) (.node (p65 P) .nil .nil) .nil) (.node (p49 P) (.node (p81 P) .nil .nil) .nil)) (.node (p25 P) (.node (p41 P) (.node (p73 P) .nil .nil) .nil) (.node (p57 P) .nil .nil))) (.node (p13 P) (.node (p21 P) (.node (p37 P) (.node (p69 P) .nil .nil) .nil) (.node (p53 P) (.node (p85 P) .nil .nil) .nil)) (.node (p29 P) (.node (p45 P) (.node (p77 P) .nil .nil) .nil) (.node (p61 P) .nil .nil))))) (.node (W.boot_o_2 P) (.node (W.boot_o_4 P) (.node (W.boot_o_8 P) (.node (p16 P) (.node (p32 P) (.node (p64 P) .nil .nil) .nil) (.node (p48 P) (.node (p80 P) .nil .nil) .nil)) (.node (p24 P) (.node (p40 P) (.node (p72 P) .nil .nil) .nil) (.node (p56 P) .nil .nil))) (.node (p12at3 P) (.node (p20 P) (.node (p36 P) (.node (p68 P) .nil .nil) .nil) (.node (p52 P) (.node (p84 P) .nil .nil) .nil)) (.node (p28 P) (.node (p44 P) (.node (p76 P) .nil .nil) .nil) (.node (p60 P) .nil .nil)))) (.node (W.boot_o_6 P) (.node (W.boot_o_10 P) (.node (p18 P) (.node (p34 P) (.node (p66 P) .nil .nil) .nil) (.node (p50 P) (.node (p82 P) .nil .nil) .nil)) (.node (p26 P) (.node (p42 P) (.node (p74 P) .nil .nil) .nil) (.node (p58 P) .nil .nil))) (.node (p14 P) (.node (p22 P) (.node (p38 P) (.node (p70 P) .nil .nil) .nil) (.node (p54 P) (.node (p86 P) .nil .nil) .nil)) (.node (p30 P) (.node (p46 P) (.node (p78 P) .nil .nil) .nil) (.node (p62 P) .nil .nil))))))
noncomputable def p3at9 (P : Params) : Obj := (Obj.mk (Value.type "dict") none (Data.dict (List.toArray [(DictEntry.mk (PyData.keyHash P (Str.ofString "__name__")) (Value.str (Str.ofString "__name__") 165) (Value.str (Str.ofString "cpy313.stringprep") 352)), (DictEntry.mk (PyData.keyHash P (Str.ofString "__doc__")) (Value.str (Str.ofString "__doc__") 166) Value.none), (DictEntry.mk (PyData.keyHash P (Str.ofString "__package__")) (Value.str (Str.ofString "__package__") 167) Value.none), (DictEntry.mk (PyData.keyHash P (Str.ofString "__loader__")) (Value.str (Str.ofString "__loader__") 168) (Value.builtin "__main__.__loader__#opaque")), (DictEntry.mk (PyData.keyHash P (Str.ofString "__spec__")) (Value.str (Str.ofString "__spec__") 169) Value.none), (DictEntry.mk (PyData.keyHash P (Str.ofString "__annotations__")) (Value.str (Str.ofString "__annotations__") 170) (Value.ref 6)), (DictEntry.mk (PyData.keyHash P (Str.ofString "__builtins__")) (Value.str (Str.ofString "__builtins__") 171) (Value.ref 4)), (DictEntry.mk (PyData.keyHash P (Str.ofString "__file__")) (Value.str (Str.ofString "__file__") 173) (Value.str (Str.ofString "/claim/cut.py") 172)), (DictEntry.mk (PyData.keyHash P (Str.ofString "__cached__")) (Value.str (Str.ofString "__cached__") 174) Value.none), (DictEntry.mk (PyData.keyHash P (Str.ofString "_wall")) (Value.str (Str.ofString "_wall") 193) (Value.ref 21)), (DictEntry.mk (PyData.keyHash P (Str.ofString "Whitespace")) (Value.str (Str.ofString "Whitespace") 295) (Value.ref 83)), (DictEntry.mk (PyData.keyHash P (Str.ofString "insort_right")) (Value.str (Str.ofString "insort_right") 310) (Value.ref 96)), (DictEntry.mk (PyData.keyHash P (Str.ofString "bisect_right")) (Value.str (Str.ofString "bisect_right") 324) (Value.ref 105)), (DictEntry.mk (PyData.keyHash P (Str.ofString "insort_left")) (Value.str (Str.ofString "insort_left") 337) (Value.ref 114)), (DictEntry.mk (PyData.keyHash P (Str.ofString "bisect_left")) (Value.str (Str.ofString "bisect_left") 351) (Value.ref 123))]) 15) (List.toArray []))
noncomputable def p12at9 (P : Params) : Obj := (Obj.mk Value.none none (Data.fields (List.toArray [(Value.int 1 0), (Value.int 0 0), (Value.ref 20), (Value.int 5 0), (Value.int 0 0), (Value.ref 27), (Value.int 62 0), (Value.int 0 0), (Value.ref 95), (Value.int 68 0), (Value.int 0 0), (Value.ref 104), (Value.int 88 0), (Value.int 0 0), (Value.ref 113), (Value.int 94 0), (Value.int 0 0), (Value.ref 122)])) (List.toArray []))
noncomputable def p88 (P : Params) : Obj := (Obj.mk (Value.type "tuple") none (Data.seq (List.toArray [(Value.int 0 298), Value.none]) 0) (List.toArray []))
noncomputable def p89 (P : Params) : Obj := (Obj.mk (Value.type "dict") none (Data.dict (List.toArray [(DictEntry.mk (PyData.keyHash P (Str.ofString "key")) (Value.str (Str.ofString "key") 299) Value.none)]) 1) (List.toArray []))
noncomputable def p90 (P : Params) : Obj := (Obj.mk (Value.type "tuple") none (Data.seq (List.toArray []) 0) (List.toArray []))
noncomputable def p91 (P : Params) : Obj := (Obj.mk Value.none none (Data.fields (List.toArray [])) (List.toArray []))
noncomputable def p92 (P : Params) : Obj := (Obj.mk (Value.type "tuple") none (Data.seq (List.toArray [(Value.str (Str.ofString "a") 303), (Value.str (Str.ofString "x") 304), (Value.str (Str.ofString "lo") 305), (Value.str (Str.ofString "hi") 306), (Value.str (Str.ofString "key") 307)]) 0) (List.toArray []))
noncomputable def p93 (P : Params) : Obj := (Obj.mk (Value.type "tuple") none (Data.seq (List.toArray []) 0) (List.toArray []))
noncomputable def p94 (P : Params) : Obj := (Obj.mk Value.none none (Data.func (FuncData.mk (Str.ofString "insort_right") (Str.ofString "insort_right") (fnPa (topS 4)) (FuncBody.stmts (fnBody (topS 4))) (fnSc (topS 4)) 0 [] Value.none Value.none Value.none Value.none none Value.none Value.none 0)) (List.toArray []))
noncomputable def p95 (P : Params) : Obj := (Obj.mk (Value.type "code") none (Data.fields (List.toArray [(Value.str (Str.ofString "insort_right") 300), (Value.str (Str.ofString "insort_right") 301), (Value.str (Str.ofString "/claim/cut.py") 302), (Value.int 62 0), (Value.int 4 0), (Value.int 0 0), (Value.int 1 0), (Value.int 3 0), (Value.ref 90), (Value.bool true), (Value.int 181 0), (Value.ref 91), Value.none, (Value.ref 92), (Value.ref 93), (Value.ref 94), (Value.int 308 0), (Value.int 62 0), (Value.str (Str.ofString "/claim/cut.py") 309)])) (List.toArray []))
noncomputable def p96 (P : Params) : Obj := (Obj.mk (Value.type "function") none (Data.func (FuncData.mk (Str.ofString "insort_right") (Str.ofString "insort_right") (fnPa (topS 4)) (FuncBody.stmts (fnBody (topS 4))) (fnSc (topS 4)) 3 [] (Value.ref 88) (Value.ref 89) Value.none (Value.str (Str.ofString "cpy313.bisect") 296) none (Value.ref 95) Value.none 0)) (List.toArray []))
noncomputable def p97 (P : Params) : Obj := (Obj.mk (Value.type "tuple") none (Data.seq (List.toArray [(Value.int 0 311), Value.none]) 0) (List.toArray []))
noncomputable def p98 (P : Params) : Obj := (Obj.mk (Value.type "dict") none (Data.dict (List.toArray [(DictEntry.mk (PyData.keyHash P (Str.ofString "key")) (Value.str (Str.ofString "key") 312) Value.none)]) 1) (List.toArray []))
noncomputable def p99 (P : Params) : Obj := (Obj.mk (Value.type "tuple") none (Data.seq (List.toArray []) 0) (List.toArray []))
noncomputable def p100 (P : Params) : Obj := (Obj.mk Value.none none (Data.fields (List.toArray [])) (List.toArray []))
noncomputable def p101 (P : Params) : Obj := (Obj.mk (Value.type "tuple") none (Data.seq (List.toArray [(Value.str (Str.ofString "a") 316), (Value.str (Str.ofString "x") 317), (Value.str (Str.ofString "lo") 318), (Value.str (Str.ofString "hi") 319), (Value.str (Str.ofString "key") 320), (Value.str (Str.ofString "mid") 321)]) 0) (List.toArray []))
noncomputable def p102 (P : Params) : Obj := (Obj.mk (Value.type "tuple") none (Data.seq (List.toArray []) 0) (List.toArray []))
noncomputable def p103 (P : Params) : Obj := (Obj.mk Value.none none (Data.func (FuncData.mk (Str.ofString "bisect_right") (Str.ofString "bisect_right") (fnPa (topS 5)) (FuncBody.stmts (fnBody (topS 5))) (fnSc (topS 5)) 0 [] Value.none Value.none Value.none Value.none none Value.none Value.none 0)) (List.toArray []))
noncomputable def p104 (P : Params) : Obj := (Obj.mk (Value.type "code") none (Data.fields (List.toArray [(Value.str (Str.ofString "bisect_right") 313), (Value.str (Str.ofString "bisect_right") 314), (Value.str (Str.ofString "/claim/cut.py") 315), (Value.int 68 0), (Value.int 4 0), (Value.int 0 0), (Value.int 1 0), (Value.int 3 0), (Value.ref 99), (Value.bool true), (Value.int 181 0), (Value.ref 100), Value.none, (Value.ref 101), (Value.ref 102), (Value.ref 103), (Value.int 322 0), (Value.int 68 0), (Value.str (Str.ofString "/claim/cut.py") 323)])) (List.toArray []))
noncomputable def p105 (P : Params) : Obj := (Obj.mk (Value.type "function") none (Data.func (FuncData.mk (Str.ofString "bisect_right") (Str.ofString "bisect_right") (fnPa (topS 5)) (FuncBody.stmts (fnBody (topS 5))) (fnSc (topS 5)) 3 [] (Value.ref 97) (Value.ref 98) Value.none (Value.str (Str.ofString "cpy313.bisect") 296) none (Value.ref 104) Value.none 0)) (List.toArray []))
noncomputable def p106 (P : Params) : Obj := (Obj.mk (Value.type "tuple") none (Data.seq (List.toArray [(Value.int 0 325), Value.none]) 0) (List.toArray []))
noncomputable def p107 (P : Params) : Obj := (Obj.mk (Value.type "dict") none (Data.dict (List.toArray [(DictEntry.mk (PyData.keyHash P (Str.ofString "key")) (Value.str (Str.ofString "key") 326) Value.none)]) 1) (List.toArray []))
noncomputable def p108 (P : Params) : Obj := (Obj.mk (Value.type "tuple") none (Data.seq (List.toArray []) 0) (List.toArray []))
noncomputable def p109 (P : Params) : Obj := (Obj.mk Value.none none (Data.fields (List.toArray [])) (List.toArray []))
noncomputable def p110 (P : Params) : Obj := (Obj.mk (Value.type "tuple") none (Data.seq (List.toArray [(Value.str (Str.ofString "a") 330), (Value.str (Str.ofString "x") 331), (Value.str (Str.ofString "lo") 332), (Value.str (Str.ofString "hi") 333), (Value.str (Str.ofString "key") 334)]) 0) (List.toArray []))
noncomputable def p111 (P : Params) : Obj := (Obj.mk (Value.type "tuple") none (Data.seq (List.toArray []) 0) (List.toArray []))
noncomputable def p112 (P : Params) : Obj := (Obj.mk Value.none none (Data.func (FuncData.mk (Str.ofString "insort_left") (Str.ofString "insort_left") (fnPa (topS 6)) (FuncBody.stmts (fnBody (topS 6))) (fnSc (topS 6)) 0 [] Value.none Value.none Value.none Value.none none Value.none Value.none 0)) (List.toArray []))
noncomputable def p113 (P : Params) : Obj := (Obj.mk (Value.type "code") none (Data.fields (List.toArray [(Value.str (Str.ofString "insort_left") 327), (Value.str (Str.ofString "insort_left") 328), (Value.str (Str.ofString "/claim/cut.py") 329), (Value.int 88 0), (Value.int 4 0), (Value.int 0 0), (Value.int 1 0), (Value.int 3 0), (Value.ref 108), (Value.bool true), (Value.int 181 0), (Value.ref 109), Value.none, (Value.ref 110), (Value.ref 111), (Value.ref 112), (Value.int 335 0), (Value.int 88 0), (Value.str (Str.ofString "/claim/cut.py") 336)])) (List.toArray []))
noncomputable def p114 (P : Params) : Obj := (Obj.mk (Value.type "function") none (Data.func (FuncData.mk (Str.ofString "insort_left") (Str.ofString "insort_left") (fnPa (topS 6)) (FuncBody.stmts (fnBody (topS 6))) (fnSc (topS 6)) 3 [] (Value.ref 106) (Value.ref 107) Value.none (Value.str (Str.ofString "cpy313.bisect") 296) none (Value.ref 113) Value.none 0)) (List.toArray []))
noncomputable def p115 (P : Params) : Obj := (Obj.mk (Value.type "tuple") none (Data.seq (List.toArray [(Value.int 0 338), Value.none]) 0) (List.toArray []))
noncomputable def p116 (P : Params) : Obj := (Obj.mk (Value.type "dict") none (Data.dict (List.toArray [(DictEntry.mk (PyData.keyHash P (Str.ofString "key")) (Value.str (Str.ofString "key") 339) Value.none)]) 1) (List.toArray []))
noncomputable def p117 (P : Params) : Obj := (Obj.mk (Value.type "tuple") none (Data.seq (List.toArray []) 0) (List.toArray []))
noncomputable def p118 (P : Params) : Obj := (Obj.mk Value.none none (Data.fields (List.toArray [])) (List.toArray []))
noncomputable def p119 (P : Params) : Obj := (Obj.mk (Value.type "tuple") none (Data.seq (List.toArray [(Value.str (Str.ofString "a") 343), (Value.str (Str.ofString "x") 344), (Value.str (Str.ofString "lo") 345), (Value.str (Str.ofString "hi") 346), (Value.str (Str.ofString "key") 347), (Value.str (Str.ofString "mid") 348)]) 0) (List.toArray []))
noncomputable def p120 (P : Params) : Obj := (Obj.mk (Value.type "tuple") none (Data.seq (List.toArray []) 0) (List.toArray []))
noncomputable def p121 (P : Params) : Obj := (Obj.mk Value.none none (Data.func (FuncData.mk (Str.ofString "bisect_left") (Str.ofString "bisect_left") (fnPa (topS 7)) (FuncBody.stmts (fnBody (topS 7))) (fnSc (topS 7)) 0 [] Value.none Value.none Value.none Value.none none Value.none Value.none 0)) (List.toArray []))
noncomputable def p122 (P : Params) : Obj := (Obj.mk (Value.type "code") none (Data.fields (List.toArray [(Value.str (Str.ofString "bisect_left") 340), (Value.str (Str.ofString "bisect_left") 341), (Value.str (Str.ofString "/claim/cut.py") 342), (Value.int 94 0), (Value.int 4 0), (Value.int 0 0), (Value.int 1 0), (Value.int 3 0), (Value.ref 117), (Value.bool true), (Value.int 181 0), (Value.ref 118), Value.none, (Value.ref 119), (Value.ref 120), (Value.ref 121), (Value.int 349 0), (Value.int 94 0), (Value.str (Str.ofString "/claim/cut.py") 350)])) (List.toArray []))
noncomputable def p123 (P : Params) : Obj := (Obj.mk (Value.type "function") none (Data.func (FuncData.mk (Str.ofString "bisect_left") (Str.ofString "bisect_left") (fnPa (topS 7)) (FuncBody.stmts (fnBody (topS 7))) (fnSc (topS 7)) 3 [] (Value.ref 115) (Value.ref 116) Value.none (Value.str (Str.ofString "cpy313.bisect") 296) none (Value.ref 122) Value.none 0)) (List.toArray []))
noncomputable def t9 (P : Params) : BT := (.node (W.boot_o_0 P) (.node (W.boot_o_1 P) (.node (p3at9 P) (.node (W.boot_o_7 P) (.node (p15 P) (.node (p31 P) (.node (p63 P) .nil .nil) (.node (p95 P) .nil .nil)) (.node (p47 P) (.node (p79 P) .nil .nil) (.node (p111 P) .nil .nil))) (.node (p23 P) (.node (p39 P) (.node (p71 P) .nil .nil) (.node (p103 P) .nil .nil)) (.node (p55 P) (.node (p87 P) .nil .nil) (.node (p119 P) .nil .nil)))) (.node (p11 P) (.node (p19 P) (.node (p35 P) (.node (p67 P) .nil .nil) (.node (p99 P) .nil .nil)) (.node (p51 P) (.node (p83 P) .nil .nil) (.node (p115 P) .nil .nil))) (.node (p27 P) (.node (p43 P) (.node (p75 P) .nil .nil) (.node (p107 P) .nil .nil)) (.node (p59 P) (.node (p91 P) .nil .nil) (.node (p123 P) .nil .nil))))) (.node (W.boot_o_5 P) (.node (W.boot_o_9 P) (.node (p17 P) (.node (p33 P) (.node (p65 P) .nil .nil) (.node (p97 P) .nil .nil)) (.node (p49 P) (.node (p81 P) .nil .nil) (.node (p113 P) .nil .nil))) (.node (p25 P) (.node (p41 P) (.node (p73 P) .nil .nil) (.node (p105 P) .nil .nil)) (.node (p57 P) (.node (p89 P) .nil .nil) (.node (p121 P) .nil .nil)))) (.node (p13 P) (.node (p21 P) (.node (p37 P) (.node (p69 P) .nil .nil) (.node (p101 P) .nil .nil)) (.node (p53 P) (.node (p85 P) .nil .nil) (.node (p117 P) .nil .nil))) (.node (p29 P) (.node (p45 P) (.node (p77 P) .nil .nil) (.node (p109 P) .nil .nil)) (.node (p61 P) (.node (p93 P) .nil .nil) .nil))))) (.node (W.boot_o_2 P) (.node (W.boot_o_4 P) (.node (W.boot_o_8 P) (.node (p16 P) (.node (p32 P) (.node (p64 P) .nil .nil) (.node (p96 P) .nil .nil)) (.node (p48 P) (.node (p80 P) .nil .nil) (.node (p112 P) .nil .nil))) (.node (p24 P) (.node (p40 P) (.node (p72 P) .nil .nil) (.node (p104 P) .nil .nil)) (.node (p56 P) (.node (p88 P) .nil .nil) (.node (p120 P) .nil .nil)))) (.node (p12at9 P) (.node (p20 P) (.node (p36 P) (.node (p68 P) .nil .nil) (.node (p100 P) .nil .nil)) (.node (p52 P) (.node (p84 P) .nil .nil) (.node (p116 P) .nil .nil))) (.node (p28 P) (.node (p44 P) (.node (p76 P) .nil .nil) (.node (p108 P) .nil .nil)) (.node (p60 P) (.node (p92 P) .nil .nil) .nil)))) (.node (W.boot_o_6 P) (.node (W.boot_o_10 P) (.node (p18 P) (.node (p34 P) (.node (p66 P) .nil .nil) (.node (p98 P) .nil .nil)) (.node (p50 P) (.node (p82 P) .nil .nil) (.node (p114 P) .nil .nil))) (.node (p26 P) (.node (p42 P) (.node (p74 P) .nil .nil) (.node (p106 P) .nil .nil)) (.node (p58 P) (.node (p90 P) .nil .nil) (.node (p122 P) .nil .nil)))) (.node (p14 P) (.node (p22 P) (.node (p38 P) (.node (p70 P) .nil .nil) (.node (p102 P) .nil .nil)) (.node (p54 P) (.node (p86 P) .nil .nil) (.node (p118 P) .nil .nil))) (.node (p30 P) (.node (p46 P) (.node (p78 P) .nil .nil) (.node (p110 P) .nil .nil)) (.node (p62 P) (.node (p94 P) .nil .nil) .nil))))))
noncomputable def p3at10 (P : Params) : Obj := (Obj.mk (Value.type "dict") none (Data.dict (List.toArray [(DictEntry.mk (PyData.keyHash P (Str.ofString "__name__")) (Value.str (Str.ofString "__name__") 165) (Value.str (Str.ofString "cpy313.stringprep") 352)), (DictEntry.mk (PyData.keyHash P (Str.ofString "__doc__")) (Value.str (Str.ofString "__doc__") 166) Value.none), (DictEntry.mk (PyData.keyHash P (Str.ofString "__package__")) (Value.str (Str.ofString "__package__") 167) Value.none), (DictEntry.mk (PyData.keyHash P (Str.ofString "__loader__")) (Value.str (Str.ofString "__loader__") 168) (Value.builtin "__main__.__loader__#opaque")), (DictEntry.mk (PyData.keyHash P (Str.ofString "__spec__")) (Value.str (Str.ofString "__spec__") 169) Value.none), (DictEntry.mk (PyData.keyHash P (Str.ofString "__annotations__")) (Value.str (Str.ofString "__annotations__") 170) (Value.ref 6)), (DictEntry.mk (PyData.keyHash P (Str.ofString "__builtins__")) (Value.str (Str.ofString "__builtins__") 171) (Value.ref 4)), (DictEntry.mk (PyData.keyHash P (Str.ofString "__file__")) (Value.str (Str.ofString "__file__") 173) (Value.str (Str.ofString "/claim/cut.py") 172)), (DictEntry.mk (PyData.keyHash P (Str.ofString "__cached__")) (Value.str (Str.ofString "__cached__") 174) Value.none), (DictEntry.mk (PyData.keyHash P (Str.ofString "_wall")) (Value.str (Str.ofString "_wall") 193) (Value.ref 21)), (DictEntry.mk (PyData.keyHash P (Str.ofString "Whitespace")) (Value.str (Str.ofString "Whitespace") 295) (Value.ref 83)), (DictEntry.mk (PyData.keyHash P (Str.ofString "insort_right")) (Value.str (Str.ofString "insort_right") 310) (Value.ref 96)), (DictEntry.mk (PyData.keyHash P (Str.ofString "bisect_right")) (Value.str (Str.ofString "bisect_right") 324) (Value.ref 105)), (DictEntry.mk (PyData.keyHash P (Str.ofString "insort_left")) (Value.str (Str.ofString "insort_left") 337) (Value.ref 114)), (DictEntry.mk (PyData.keyHash P (Str.ofString "bisect_left")) (Value.str (Str.ofString "bisect_left") 351) (Value.ref 123)), (DictEntry.mk (PyData.keyHash P (Str.ofString "b1_set")) (Value.str (Str.ofString "b1_set") 413) (Value.ref 131))]) 16) (List.toArray []))
noncomputable def p124 (P : Params) : Obj := (Obj.mk (Value.type "list") none (Data.seq (List.toArray [(Value.int 173 354), (Value.int 847 355), (Value.int 6150 356), (Value.int 6155 357), (Value.int 6156 358), (Value.int 6157 359), (Value.int 8203 360), (Value.int 8204 361), (Value.int 8205 362), (Value.int 8288 363), (Value.int 65279 364)]) 0) (List.toArray []))
noncomputable def p125 (P : Params) : Obj := (Obj.mk (Value.type "range") none (Data.fields (List.toArray [(Value.int 65024 365), (Value.int 65040 366), (Value.int 1 367)])) (List.toArray []))
noncomputable def p126 (P : Params) : Obj := (Obj.mk (Value.type "list") none (Data.seq (List.toArray [(Value.int 65024 370), (Value.int 65025 371), (Value.int 65026 372), (Value.int 65027 373), (Value.int 65028 374), (Value.int 65029 375), (Value.int 65030 376), (Value.int 65031 377), (Value.int 65032 378), (Value.int 65033 379), (Value.int 65034 380), (Value.int 65035 381), (Value.int 65036 382), (Value.int 65037 383), (Value.int 65038 384), (Value.int 65039 385)]) 18) (List.toArray []))
noncomputable def p127 (P : Params) : Obj := (Obj.mk (Value.type "range_iterator") none (Data.fields (List.toArray [(Value.int 65040 0), (Value.int 0 0), (Value.int 1 0)])) (List.toArray []))
noncomputable def p128 (P : Params) : Obj := (Obj.mk (Value.type "tuple") none (Data.seq (List.toArray []) 0) (List.toArray []))
noncomputable def p129 (P : Params) : Obj := (Obj.mk (Value.type "StopIteration") none (Data.fields (List.toArray [(Value.ref 128), Value.none, Value.none, Value.none, (Value.bool false), Value.none])) (List.toArray []))
noncomputable def p130 (P : Params) : Obj := (Obj.mk (Value.type "list") none (Data.seq (List.toArray [(Value.int 173 354), (Value.int 847 355), (Value.int 6150 356), (Value.int 6155 357), (Value.int 6156 358), (Value.int 6157 359), (Value.int 8203 360), (Value.int 8204 361), (Value.int 8205 362), (Value.int 8288 363), (Value.int 65279 364), (Value.int 65024 370), (Value.int 65025 371), (Value.int 65026 372), (Value.int 65027 373), (Value.int 65028 374), (Value.int 65029 375), (Value.int 65030 376), (Value.int 65031 377), (Value.int 65032 378), (Value.int 65033 379), (Value.int 65034 380), (Value.int 65035 381), (Value.int 65036 382), (Value.int 65037 383), (Value.int 65038 384), (Value.int 65039 385)]) 0) (List.toArray []))
noncomputable def p131 (P : Params) : Obj := (Obj.mk (Value.type "set") none (Data.set (List.toArray [(65024, (Value.int 65024 370)), (65025, (Value.int 65025 371)), (65026, (Value.int 65026 372)), (65027, (Value.int 65027 373)), (65028, (Value.int 65028 374)), (65029, (Value.int 65029 375)), (6150, (Value.int 6150 356)), (65030, (Value.int 65030 376)), (65031, (Value.int 65031 377)), (65032, (Value.int 65032 378)), (65033, (Value.int 65033 379)), (6155, (Value.int 6155 357)), (6156, (Value.int 6156 358)), (6157, (Value.int 6157 359)), (8203, (Value.int 8203 360)), (8204, (Value.int 8204 361)), (8205, (Value.int 8205 362)), (65034, (Value.int 65034 380)), (65035, (Value.int 65035 381)), (65036, (Value.int 65036 382)), (65037, (Value.int 65037 383)), (65038, (Value.int 65038 384)), (65039, (Value.int 65039 385)), (173, (Value.int 173 354)), (847, (Value.int 847 355)), (8288, (Value.int 8288 363)), (65279, (Value.int 65279 364))]) 29 (SetTable.mk 127 (List.toArray [0, 1, 2, 3, 4, 5, 6, 7, 8, 9, 10, 11, 12, 13, 14, 15, 16, 17, 18, 19, 20, 21, 22, 45, 79, 96, 127]) (List.toArray []) 0 (Bool.not (Params.followText P "set-order")) 2 true)) (List.toArray []))
noncomputable def p132 (P : Params) : Obj := (Obj.mk (Value.type "list_iterator") none (Data.fields (List.toArray [Value.none, (Value.int 27 0)])) (List.toArray []))
noncomputable def p133 (P : Params) : Obj := (Obj.mk (Value.type "tuple") none (Data.seq (List.toArray []) 0) (List.toArray []))
noncomputable def p134 (P : Params) : Obj := (Obj.mk (Value.type "StopIteration") none (Data.fields (List.toArray [(Value.ref 133), Value.none, Value.none, Value.none, (Value.bool false), Value.none])) (List.toArray []))
noncomputable def t10 (P : Params) : BT := (.node (W.boot_o_0 P) (.node (W.boot_o_1 P) (.node (p3at10 P) (.node (W.boot_o_7 P) (.node (p15 P) (.node (p31 P) (.node (p63 P) (.node (p127 P) .nil .nil) .nil) (.node (p95 P) .nil .nil)) (.node (p47 P) (.node (p79 P) .nil .nil) (.node (p111 P) .nil .nil))) (.node (p23 P) (.node (p39 P) (.node (p71 P) .nil .nil) (.node (p103 P) .nil .nil)) (.node (p55 P) (.node (p87 P) .nil .nil) (.node (p119 P) .nil .nil)))) (.node (p11 P) (.node (p19 P) (.node (p35 P) (.node (p67 P) (.node (p131 P) .nil .nil) .nil) (.node (p99 P) .nil .nil)) (.node (p51 P) (.node (p83 P) .nil .nil) (.node (p115 P) .nil .nil))) (.node (p27 P) (.node (p43 P) (.node (p75 P) .nil .nil) (.node (p107 P) .nil .nil)) (.node (p59 P) (.node (p91 P) .nil .nil) (.node (p123 P) .nil .nil))))) (.node (W.boot_o_5 P) (.node (W.boot_o_9 P) (.node (p17 P) (.node (p33 P) (.node (p65 P) (.node (p129 P) .nil .nil) .nil) (.node (p97 P) .nil .nil)) (.node (p49 P) (.node (p81 P) .nil .nil) (.node (p113 P) .nil .nil))) (.node (p25 P) (.node (p41 P) (.node (p73 P) .nil .nil) (.node (p105 P) .nil .nil)) (.node (p57 P) (.node (p89 P) .nil .nil) (.node (p121 P) .nil .nil)))) (.node (p13 P) (.node (p21 P) (.node (p37 P) (.node (p69 P) (.node (p133 P) .nil .nil) .nil) (.node (p101 P) .nil .nil)) (.node (p53 P) (.node (p85 P) .nil .nil) (.node (p117 P) .nil .nil))) (.node (p29 P) (.node (p45 P) (.node (p77 P) .nil .nil) (.node (p109 P) .nil .nil)) (.node (p61 P) (.node (p93 P) .nil .nil) (.node (p125 P) .nil .nil)))))) (.node (W.boot_o_2 P) (.node (W.boot_o_4 P) (.node (W.boot_o_8 P) (.node (p16 P) (.node (p32 P) (.node (p64 P) (.node (p128 P) .nil .nil) .nil) (.node (p96 P) .nil .nil)) (.node (p48 P) (.node (p80 P) .nil .nil) (.node (p112 P) .nil .nil))) (.node (p24 P) (.node (p40 P) (.node (p72 P) .nil .nil) (.node (p104 P) .nil .nil)) (.node (p56 P) (.node (p88 P) .nil .nil) (.node (p120 P) .nil .nil)))) (.node (p12at9 P) (.node (p20 P) (.node (p36 P) (.node (p68 P) (.node (p132 P) .nil .nil) .nil) (.node (p100 P) .nil .nil)) (.node (p52 P) (.node (p84 P) .nil .nil) (.node (p116 P) .nil .nil))) (.node (p28 P) (.node (p44 P) (.node (p76 P) .nil .nil) (.node (p108 P) .nil .nil)) (.node (p60 P) (.node (p92 P) .nil .nil) (.node (p124 P) .nil .nil))))) (.node (W.boot_o_6 P) (.node (W.boot_o_10 P) (.node (p18 P) (.node (p34 P) (.node (p66 P) (.node (p130 P) .nil .nil) .nil) (.node (p98 P) .nil .nil)) (.node (p50 P) (.node (p82 P) .nil .nil) (.node (p114 P) .nil .nil))) (.node (p26 P) (.node (p42 P) (.node (p74 P) .nil .nil) (.node (p106 P) .nil .nil)) (.node (p58 P) (.node (p90 P) .nil .nil) (.node (p122 P) .nil .nil)))) (.node (p14 P) (.node (p22 P) (.node (p38 P) (.node (p70 P) (.node (p134 P) .nil .nil) .nil) (.node (p102 P) .nil .nil)) (.node (p54 P) (.node (p86 P) .nil .nil) (.node (p118 P) .nil .nil))) (.node (p30 P) (.node (p46 P) (.node (p78 P) .nil .nil) (.node (p110 P) .nil .nil)) (.node (p62 P) (.node (p94 P) .nil .nil) (.node (p126 P) .nil .nil)))))))
noncomputable def p3at11 (P : Params) : Obj := (Obj.mk (Value.type "dict") none (Data.dict (List.toArray [(DictEntry.mk (PyData.keyHash P (Str.ofString "__name__")) (Value.str (Str.ofString "__name__") 165) (Value.str (Str.ofString "cpy313.stringprep") 352)), (DictEntry.mk (PyData.keyHash P (Str.ofString "__doc__")) (Value.str (Str.ofString "__doc__") 166) Value.none), (DictEntry.mk (PyData.keyHash P (Str.ofString "__package__")) (Value.str (Str.ofString "__package__") 167) Value.none), (DictEntry.mk (PyData.keyHash P (Str.ofString "__loader__")) (Value.str (Str.ofString "__loader__") 168) (Value.builtin "__main__.__loader__#opaque")), (DictEntry.mk (PyData.keyHash P (Str.ofString "__spec__")) (Value.str (Str.ofString "__spec__") 169) Value.none), (DictEntry.mk (PyData.keyHash P (Str.ofString "__annotations__")) (Value.str (Str.ofString "__annotations__") 170) (Value.ref 6)), (DictEntry.mk (PyData.keyHash P (Str.ofString "__builtins__")) (Value.str (Str.ofString "__builtins__") 171) (Value.ref 4)), (DictEntry.mk (PyData.keyHash P (Str.ofString "__file__")) (Value.str (Str.ofString "__file__") 173) (Value.str (Str.ofString "/claim/cut.py") 172)), (DictEntry.mk (PyData.keyHash P (Str.ofString "__cached__")) (Value.str (Str.ofString "__cached__") 174) Value.none), (DictEntry.mk (PyData.keyHash P (Str.ofString "_wall")) (Value.str (Str.ofString "_wall") 193) (Value.ref 21)), (DictEntry.mk (PyData.keyHash P (Str.ofString "Whitespace")) (Value.str (Str.ofString "Whitespace") 295) (Value.ref 83)), (DictEntry.mk (PyData.keyHash P (Str.ofString "insort_right")) (Value.str (Str.ofString "insort_right") 310) (Value.ref 96)), (DictEntry.mk (PyData.keyHash P (Str.ofString "bisect_right")) (Value.str (Str.ofString "bisect_right") 324) (Value.ref 105)), (DictEntry.mk (PyData.keyHash P (Str.ofString "insort_left")) (Value.str (Str.ofString "insort_left") 337) (Value.ref 114)), (DictEntry.mk (PyData.keyHash P (Str.ofString "bisect_left")) (Value.str (Str.ofString "bisect_left") 351) (Value.ref 123)), (DictEntry.mk (PyData.keyHash P (Str.ofString "b1_set")) (Value.str (Str.ofString "b1_set") 413) (Value.ref 131)), (DictEntry.mk (PyData.keyHash P (Str.ofString "in_table_b1")) (Value.str (Str.ofString "in_table_b1") 420) (Value.ref 141))]) 17) (List.toArray []))
noncomputable def p12at11 (P : Params) : Obj := (Obj.mk Value.none none (Data.fields (List.toArray [(Value.int 1 0), (Value.int 0 0), (Value.ref 20), (Value.int 5 0), (Value.int 0 0), (Value.ref 27), (Value.int 62 0), (Value.int 0 0), (Value.ref 95), (Value.int 68 0), (Value.int 0 0), (Value.ref 104), (Value.int 88 0), (Value.int 0 0), (Value.ref 113), (Value.int 94 0), (Value.int 0 0), (Value.ref 122), (Value.int 116 0), (Value.int 0 0), (Value.ref 140)])) (List.toArray []))
noncomputable def p135 (P : Params) : Obj := (Obj.mk (Value.type "tuple") none (Data.seq (List.toArray []) 0) (List.toArray []))
noncomputable def p136 (P : Params) : Obj := (Obj.mk Value.none none (Data.fields (List.toArray [])) (List.toArray []))
noncomputable def p137 (P : Params) : Obj := (Obj.mk (Value.type "tuple") none (Data.seq (List.toArray [(Value.str (Str.ofString "code") 417)]) 0) (List.toArray []))
noncomputable def p138 (P : Params) : Obj := (Obj.mk (Value.type "tuple") none (Data.seq (List.toArray []) 0) (List.toArray []))
noncomputable def p139 (P : Params) : Obj := (Obj.mk Value.none none (Data.func (FuncData.mk (Str.ofString "in_table_b1") (Str.ofString "in_table_b1") (fnPa (topS 10)) (FuncBody.stmts (fnBody (topS 10))) (fnSc (topS 10)) 0 [] Value.none Value.none Value.none Value.none none Value.none Value.none 0)) (List.toArray []))
noncomputable def p140 (P : Params) : Obj := (Obj.mk (Value.type "code") none (Data.fields (List.toArray [(Value.str (Str.ofString "in_table_b1") 414), (Value.str (Str.ofString "in_table_b1") 415), (Value.str (Str.ofString "/claim/cut.py") 416), (Value.int 116 0), (Value.int 1 0), (Value.int 0 0), (Value.int 0 0), (Value.int 3 0), (Value.ref 135), (Value.bool true), (Value.int 181 0), (Value.ref 136), Value.none, (Value.ref 137), (Value.ref 138), (Value.ref 139), (Value.int 418 0), (Value.int 116 0), (Value.str (Str.ofString "/claim/cut.py") 419)])) (List.toArray []))
noncomputable def p141 (P : Params) : Obj := (Obj.mk (Value.type "function") none (Data.func (FuncData.mk (Str.ofString "in_table_b1") (Str.ofString "in_table_b1") (fnPa (topS 10)) (FuncBody.stmts (fnBody (topS 10))) (fnSc (topS 10)) 3 [] Value.none Value.none Value.none (Value.str (Str.ofString "cpy313.stringprep") 352) none (Value.ref 140) Value.none 0)) (List.toArray []))
noncomputable def t11 (P : Params) : BT := (.node (W.boot_o_0 P) (.node (W.boot_o_1 P) (.node (p3at11 P) (.node (W.boot_o_7 P) (.node (p15 P) (.node (p31 P) (.node (p63 P) (.node (p127 P) .nil .nil) .nil) (.node (p95 P) .nil .nil)) (.node (p47 P) (.node (p79 P) .nil .nil) (.node (p111 P) .nil .nil))) (.node (p23 P) (.node (p39 P) (.node (p71 P) (.node (p135 P) .nil .nil) .nil) (.node (p103 P) .nil .nil)) (.node (p55 P) (.node (p87 P) .nil .nil) (.node (p119 P) .nil .nil)))) (.node (p11 P) (.node (p19 P) (.node (p35 P) (.node (p67 P) (.node (p131 P) .nil .nil) .nil) (.node (p99 P) .nil .nil)) (.node (p51 P) (.node (p83 P) .nil .nil) (.node (p115 P) .nil .nil))) (.node (p27 P) (.node (p43 P) (.node (p75 P) (.node (p139 P) .nil .nil) .nil) (.node (p107 P) .nil .nil)) (.node (p59 P) (.node (p91 P) .nil .nil) (.node (p123 P) .nil .nil))))) (.node (W.boot_o_5 P) (.node (W.boot_o_9 P) (.node (p17 P) (.node (p33 P) (.node (p65 P) (.node (p129 P) .nil .nil) .nil) (.node (p97 P) .nil .nil)) (.node (p49 P) (.node (p81 P) .nil .nil) (.node (p113 P) .nil .nil))) (.node (p25 P) (.node (p41 P) (.node (p73 P) (.node (p137 P) .nil .nil) .nil) (.node (p105 P) .nil .nil)) (.node (p57 P) (.node (p89 P) .nil .nil) (.node (p121 P) .nil .nil)))) (.node (p13 P) (.node (p21 P) (.node (p37 P) (.node (p69 P) (.node (p133 P) .nil .nil) .nil) (.node (p101 P) .nil .nil)) (.node (p53 P) (.node (p85 P) .nil .nil) (.node (p117 P) .nil .nil))) (.node (p29 P) (.node (p45 P) (.node (p77 P) (.node (p141 P) .nil .nil) .nil) (.node (p109 P) .nil .nil)) (.node (p61 P) (.node (p93 P) .nil .nil) (.node (p125 P) .nil .nil)))))) (.node (W.boot_o_2 P) (.node (W.boot_o_4 P) (.node (W.boot_o_8 P) (.node (p16 P) (.node (p32 P) (.node (p64 P) (.node (p128 P) .nil .nil) .nil) (.node (p96 P) .nil .nil)) (.node (p48 P) (.node (p80 P) .nil .nil) (.node (p112 P) .nil .nil))) (.node (p24 P) (.node (p40 P) (.node (p72 P) (.node (p136 P) .nil .nil) .nil) (.node (p104 P) .nil .nil)) (.node (p56 P) (.node (p88 P) .nil .nil) (.node (p120 P) .nil .nil)))) (.node (p12at11 P) (.node (p20 P) (.node (p36 P) (.node (p68 P) (.node (p132 P) .nil .nil) .nil) (.node (p100 P) .nil .nil)) (.node (p52 P) (.node (p84 P) .nil .nil) (.node (p116 P) .nil .nil))) (.node (p28 P) (.node (p44 P) (.node (p76 P) (.node (p140 P) .nil .nil) .nil) (.node (p108 P) .nil .nil)) (.node (p60 P) (.node (p92 P) .nil .nil) (.node (p124 P) .nil .nil))))) (.node (W.boot_o_6 P) (.node (W.boot_o_10 P) (.node (p18 P) (.node (p34 P) (.node (p66 P) (.node (p130 P) .nil .nil) .nil) (.node (p98 P) .nil .nil)) (.node (p50 P) (.node (p82 P) .nil .nil) (.node (p114 P) .nil .nil))) (.node (p26 P) (.node (p42 P) (.node (p74 P) (.node (p138 P) .nil .nil) .nil) (.node (p106 P) .nil .nil)) (.node (p58 P) (.node (p90 P) .nil .nil) (.node (p122 P) .nil .nil)))) (.node (p14 P) (.node (p22 P) (.node (p38 P) (.node (p70 P) (.node (p134 P) .nil .nil) .nil) (.node (p102 P) .nil .nil)) (.node (p54 P) (.node (p86 P) .nil .nil) (.node (p118 P) .nil .nil))) (.node (p30 P) (.node (p46 P) (.node (p78 P) .nil .nil) (.node (p110 P) .nil .nil)) (.node (p62 P) (.node (p94 P) .nil .nil) (.node (p126 P) .nil .nil)))))))
noncomputable def p3at12 (P : Params) : Obj := (Obj.mk (Value.type "dict") none (Data.dict (List.toArray [(DictEntry.mk (PyData.keyHash P (Str.ofString "__name__")) (Value.str (Str.ofString "__name__") 165) (Value.str (Str.ofString "cpy313.stringprep") 352)), (DictEntry.mk (PyData.keyHash P (Str.ofString "__doc__")) (Value.str (Str.ofString "__doc__") 166) Value.none), (DictEntry.mk (PyData.keyHash P (Str.ofString "__package__")) (Value.str (Str.ofString "__package__") 167) Value.none), (DictEntry.mk (PyData.keyHash P (Str.ofString "__loader__")) (Value.str (Str.ofString "__loader__") 168) (Value.builtin "__main__.__loader__#opaque")), (DictEntry.mk (PyData.keyHash P (Str.ofString "__spec__")) (Value.str (Str.ofString "__spec__") 169) Value.none), (DictEntry.mk (PyData.keyHash P (Str.ofString "__annotations__")) (Value.str (Str.ofString "__annotations__") 170) (Value.ref 6)), (DictEntry.mk (PyData.keyHash P (Str.ofString "__builtins__")) (Value.str (Str.ofString "__builtins__") 171) (Value.ref 4)), (DictEntry.mk (PyData.keyHash P (Str.ofString "__file__")) (Value.str (Str.ofString "__file__") 173) (Value.str (Str.ofString "/claim/cut.py") 172)), (DictEntry.mk (PyData.keyHash P (Str.ofString "__cached__")) (Value.str (Str.ofString "__cached__") 174) Value.none), (DictEntry.mk (PyData.keyHash P (Str.ofString "_wall")) (Value.str (Str.ofString "_wall") 193) (Value.ref 21)), (DictEntry.mk (PyData.keyHash P (Str.ofString "Whitespace")) (Value.str (Str.ofString "Whitespace") 295) (Value.ref 83)), (DictEntry.mk (PyData.keyHash P (Str.ofString "insort_right")) (Value.str (Str.ofString "insort_right") 310) (Value.ref 96)), (DictEntry.mk (PyData.keyHash P (Str.ofString "bisect_right")) (Value.str (Str.ofString "bisect_right") 324) (Value.ref 105)), (DictEntry.mk (PyData.keyHash P (Str.ofString "insort_left")) (Value.str (Str.ofString "insort_left") 337) (Value.ref 114)), (DictEntry.mk (PyData.keyHash P (Str.ofString "bisect_left")) (Value.str (Str.ofString "bisect_left") 351) (Value.ref 123)), (DictEntry.mk (PyData.keyHash P (Str.ofString "b1_set")) (Value.str (Str.ofString "b1_set") 413) (Value.ref 131)), (DictEntry.mk (PyData.keyHash P (Str.ofString "in_table_b1")) (Value.str (Str.ofString "in_table_b1") 420) (Value.ref 141)), (DictEntry.mk (PyData.keyHash P (Str.ofString "b3_exceptions")) (Value.str (Str.ofString "b3_exceptions") 2371) (Value.ref 142))]) 18) (List.toArray []))
noncomputable def t12 (P : Params) : BT := (.node (W.boot_o_0 P) (.node (W.boot_o_1 P) (.node (p3at12 P) (.node (W.boot_o_7 P) (.node (p15 P) (.node (p31 P) (.node (p63 P) (.node (p127 P) .nil .nil) .nil) (.node (p95 P) (.node (pS 16 P) .nil .nil) .nil)) (.node (p47 P) (.node (p79 P) (.node (pS 0 P) .nil .nil) .nil) (.node (p111 P) (.node (pS 32 P) .nil .nil) .nil))) (.node (p23 P) (.node (p39 P) (.node (p71 P) (.node (p135 P) .nil .nil) .nil) (.node (p103 P) (.node (pS 24 P) .nil .nil) .nil)) (.node (p55 P) (.node (p87 P) (.node (pS 8 P) .nil .nil) .nil) (.node (p119 P) .nil .nil)))) (.node (p11 P) (.node (p19 P) (.node (p35 P) (.node (p67 P) (.node (p131 P) .nil .nil) .nil) (.node (p99 P) (.node (pS 20 P) .nil .nil) .nil)) (.node (p51 P) (.node (p83 P) (.node (pS 4 P) .nil .nil) .nil) (.node (p115 P) (.node (pS 36 P) .nil .nil) .nil))) (.node (p27 P) (.node (p43 P) (.node (p75 P) (.node (p139 P) .nil .nil) .nil) (.node (p107 P) (.node (pS 28 P) .nil .nil) .nil)) (.node (p59 P) (.node (p91 P) (.node (pS 12 P) .nil .nil) .nil) (.node (p123 P) .nil .nil))))) (.node (W.boot_o_5 P) (.node (W.boot_o_9 P) (.node (p17 P) (.node (p33 P) (.node (p65 P) (.node (p129 P) .nil .nil) .nil) (.node (p97 P) (.node (pS 18 P) .nil .nil) .nil)) (.node (p49 P) (.node (p81 P) (.node (pS 2 P) .nil .nil) .nil) (.node (p113 P) (.node (pS 34 P) .nil .nil) .nil))) (.node (p25 P) (.node (p41 P) (.node (p73 P) (.node (p137 P) .nil .nil) .nil) (.node (p105 P) (.node (pS 26 P) .nil .nil) .nil)) (.node (p57 P) (.node (p89 P) (.node (pS 10 P) .nil .nil) .nil) (.node (p121 P) .nil .nil)))) (.node (p13 P) (.node (p21 P) (.node (p37 P) (.node (p69 P) (.node (p133 P) .nil .nil) .nil) (.node (p101 P) (.node (pS 22 P) .nil .nil) .nil)) (.node (p53 P) (.node (p85 P) (.node (pS 6 P) .nil .nil) .nil) (.node (p117 P) .nil .nil))) (.node (p29 P) (.node (p45 P) (.node (p77 P) (.node (p141 P) .nil .nil) .nil) (.node (p109 P) (.node (pS 30 P) .nil .nil) .nil)) (.node (p61 P) (.node (p93 P) (.node (pS 14 P) .nil .nil) .nil) (.node (p125 P) .nil .nil)))))) (.node (W.boot_o_2 P) (.node (W.boot_o_4 P) (.node (W.boot_o_8 P) (.node (p16 P) (.node (p32 P) (.node (p64 P) (.node (p128 P) .nil .nil) .nil) (.node (p96 P) (.node (pS 17 P) .nil .nil) .nil)) (.node (p48 P) (.node (p80 P) (.node (pS 1 P) .nil .nil) .nil) (.node (p112 P) (.node (pS 33 P) .nil .nil) .nil))) (.node (p24 P) (.node (p40 P) (.node (p72 P) (.node (p136 P) .nil .nil) .nil) (.node (p104 P) (.node (pS 25 P) .nil .nil) .nil)) (.node (p56 P) (.node (p88 P) (.node (pS 9 P) .nil .nil) .nil) (.node (p120 P) .nil .nil)))) (.node (p12at11 P) (.node (p20 P) (.node (p36 P) (.node (p68 P) (.node (p132 P) .nil .nil) .nil) (.node (p100 P) (.node (pS 21 P) .nil .nil) .nil)) (.node (p52 P) (.node (p84 P) (.node (pS 5 P) .nil .nil) .nil) (.node (p116 P) (.node (pS 37 P) .nil .nil) .nil))) (.node (p28 P) (.node (p44 P) (.node (p76 P) (.node (p140 P) .nil .nil) .nil) (.node (p108 P) (.node (pS 29 P) .nil .nil) .nil)) (.node (p60 P) (.node (p92 P) (.node (pS 13 P) .nil .nil) .nil) (.node (p124 P) .nil .nil))))) (.node (W.boot_o_6 P) (.node (W.boot_o_10 P) (.node (p18 P) (.node (p34 P) (.node (p66 P) (.node (p130 P) .nil .nil) .nil) (.node (p98 P) (.node (pS 19 P) .nil .nil) .nil)) (.node (p50 P) (.node (p82 P) (.node (pS 3 P) .nil .nil) .nil) (.node (p114 P) (.node (pS 35 P) .nil .nil) .nil))) (.node (p26 P) (.node (p42 P) (.node (p74 P) (.node (p138 P) .nil .nil) .nil) (.node (p106 P) (.node (pS 27 P) .nil .nil) .nil)) (.node (p58 P) (.node (p90 P) (.node (pS 11 P) .nil .nil) .nil) (.node (p122 P) .nil .nil)))) (.node (p14 P) (.node (p22 P) (.node (p38 P) (.node (p70 P) (.node (p134 P) .nil .nil) .nil) (.node (p102 P) (.node (pS 23 P) .nil .nil) .nil)) (.node (p54 P) (.node (p86 P) (.node (pS 7 P) .nil .nil) .nil) (.node (p118 P) .nil .nil))) (.node (p30 P) (.node (p46 P) (.node (p78 P) (.node (pD P) .nil .nil) .nil) (.node (p110 P) (.node (pS 31 P) .nil .nil) .nil)) (.node (p62 P) (.node (p94 P) (.node (pS 15 P) .nil .nil) .nil) (.node (p126 P) .nil .nil)))))))
noncomputable def p3at21 (P : Params) : Obj := (Obj.mk (Value.type "dict") none (Data.dict (List.toArray [(DictEntry.mk (PyData.keyHash P (Str.ofString "__name__")) (Value.str (Str.ofString "__name__") 165) (Value.str (Str.ofString "law_rw0125_01") 2380)), (DictEntry.mk (PyData.keyHash P (Str.ofString "__doc__")) (Value.str (Str.ofString "__doc__") 166) Value.none), (DictEntry.mk (PyData.keyHash P (Str.ofString "__package__")) (Value.str (Str.ofString "__package__") 167) Value.none), (DictEntry.mk (PyData.keyHash P (Str.ofString "__loader__")) (Value.str (Str.ofString "__loader__") 168) (Value.builtin "__main__.__loader__#opaque")), (DictEntry.mk (PyData.keyHash P (Str.ofString "__spec__")) (Value.str (Str.ofString "__spec__") 169) Value.none), (DictEntry.mk (PyData.keyHash P (Str.ofString "__annotations__")) (Value.str (Str.ofString "__annotations__") 170) (Value.ref 6)), (DictEntry.mk (PyData.keyHash P (Str.ofString "__builtins__")) (Value.str (Str.ofString "__builtins__") 171) (Value.ref 4)), (DictEntry.mk (PyData.keyHash P (Str.ofString "__file__")) (Value.str (Str.ofString "__file__") 173) (Value.str (Str.ofString "/claim/cut.py") 172)), (DictEntry.mk (PyData.keyHash P (Str.ofString "__cached__")) (Value.str (Str.ofString "__cached__") 174) Value.none), (DictEntry.mk (PyData.keyHash P (Str.ofString "_wall")) (Value.str (Str.ofString "_wall") 193) (Value.ref 21)), (DictEntry.mk (PyData.keyHash P (Str.ofString "Whitespace")) (Value.str (Str.ofString "Whitespace") 295) (Value.ref 83)), (DictEntry.mk (PyData.keyHash P (Str.ofString "insort_right")) (Value.str (Str.ofString "insort_right") 310) (Value.ref 96)), (DictEntry.mk (PyData.keyHash P (Str.ofString "bisect_right")) (Value.str (Str.ofString "bisect_right") 324) (Value.ref 105)), (DictEntry.mk (PyData.keyHash P (Str.ofString "insort_left")) (Value.str (Str.ofString "insort_left") 337) (Value.ref 114)), (DictEntry.mk (PyData.keyHash P (Str.ofString "bisect_left")) (Value.str (Str.ofString "bisect_left") 351) (Value.ref 123)), (DictEntry.mk (PyData.keyHash P (Str.ofString "b1_set")) (Value.str (Str.ofString "b1_set") 413) (Value.ref 131)), (DictEntry.mk (PyData.keyHash P (Str.ofString "in_table_b1")) (Value.str (Str.ofString "in_table_b1") 420) (Value.ref 141)), (DictEntry.mk (PyData.keyHash P (Str.ofString "b3_exceptions")) (Value.str (Str.ofString "b3_exceptions") 2371) (Value.ref 142)), (DictEntry.mk (PyData.keyHash P (Str.ofString "map_table_b3")) (Value.str (Str.ofString "map_table_b3") 2379) (Value.ref 187)), (DictEntry.mk (PyData.keyHash P (Str.ofString "_law_typed")) (Value.str (Str.ofString "_law_typed") 2387) (Value.ref 192)), (DictEntry.mk (PyData.keyHash P (Str.ofString "_law_prepared")) (Value.str (Str.ofString "_law_prepared") 2393) (Value.ref 197)), (DictEntry.mk (PyData.keyHash P (Str.ofString "_law_piles")) (Value.str (Str.ofString "_law_piles") 2399) (Value.ref 202)), (DictEntry.mk (PyData.keyHash P (Str.ofString "_law_column")) (Value.str (Str.ofString "_law_column") 2409) (Value.ref 209)), (DictEntry.mk (PyData.keyHash P (Str.ofString "_law_above")) (Value.str (Str.ofString "_law_above") 2415) (Value.ref 214)), (DictEntry.mk (PyData.keyHash P (Str.ofString "_law_asked")) (Value.str (Str.ofString "_law_asked") 2421) (Value.ref 219)), (DictEntry.mk (PyData.keyHash P (Str.ofString "law")) (Value.str (Str.ofString "law") 2427) (Value.ref 224))]) 26) (List.toArray []))
noncomputable def p12at21 (P : Params) : Obj := (Obj.mk Value.none none (Data.fields (List.toArray [(Value.int 1 0), (Value.int 0 0), (Value.ref 20), (Value.int 5 0), (Value.int 0 0), (Value.ref 27), (Value.int 62 0), (Value.int 0 0), (Value.ref 95), (Value.int 68 0), (Value.int 0 0), (Value.ref 104), (Value.int 88 0), (Value.int 0 0), (Value.ref 113), (Value.int 94 0), (Value.int 0 0), (Value.ref 122), (Value.int 116 0), (Value.int 0 0), (Value.ref 140), (Value.int 119 0), (Value.int 0 0), (Value.ref 186), (Value.int 125 0), (Value.int 0 0), (Value.ref 191), (Value.int 137 0), (Value.int 0 0), (Value.ref 196), (Value.int 141 0), (Value.int 0 0), (Value.ref 201), (Value.int 152 0), (Value.int 0 0), (Value.ref 208), (Value.int 157 0), (Value.int 0 0), (Value.ref 213), (Value.int 163 0), (Value.int 0 0), (Value.ref 218), (Value.int 185 0), (Value.int 0 0), (Value.ref 223)])) (List.toArray []))
noncomputable def p181 (P : Params) : Obj := (Obj.mk (Value.type "tuple") none (Data.seq (List.toArray []) 0) (List.toArray []))
noncomputable def p182 (P : Params) : Obj := (Obj.mk Value.none none (Data.fields (List.toArray [])) (List.toArray []))
noncomputable def p183 (P : Params) : Obj := (Obj.mk (Value.type "tuple") none (Data.seq (List.toArray [(Value.str (Str.ofString "code") 2375), (Value.str (Str.ofString "r") 2376)]) 0) (List.toArray []))
noncomputable def p184 (P : Params) : Obj := (Obj.mk (Value.type "tuple") none (Data.seq (List.toArray []) 0) (List.toArray []))
noncomputable def p185 (P : Params) : Obj := (Obj.mk Value.none none (Data.func (FuncData.mk (Str.ofString "map_table_b3") (Str.ofString "map_table_b3") (fnPa (topS 12)) (FuncBody.stmts (fnBody (topS 12))) (fnSc (topS 12)) 0 [] Value.none Value.none Value.none Value.none none Value.none Value.none 0)) (List.toArray []))
noncomputable def p186 (P : Params) : Obj := (Obj.mk (Value.type "code") none (Data.fields (List.toArray [(Value.str (Str.ofString "map_table_b3") 2372), (Value.str (Str.ofString "map_table_b3") 2373), (Value.str (Str.ofString "/claim/cut.py") 2374), (Value.int 119 0), (Value.int 1 0), (Value.int 0 0), (Value.int 0 0), (Value.int 3 0), (Value.ref 181), (Value.bool true), (Value.int 181 0), (Value.ref 182), Value.none, (Value.ref 183), (Value.ref 184), (Value.ref 185), (Value.int 2377 0), (Value.int 119 0), (Value.str (Str.ofString "/claim/cut.py") 2378)])) (List.toArray []))
noncomputable def p187 (P : Params) : Obj := (Obj.mk (Value.type "function") none (Data.func (FuncData.mk (Str.ofString "map_table_b3") (Str.ofString "map_table_b3") (fnPa (topS 12)) (FuncBody.stmts (fnBody (topS 12))) (fnSc (topS 12)) 3 [] Value.none Value.none Value.none (Value.str (Str.ofString "cpy313.stringprep") 352) none (Value.ref 186) Value.none 0)) (List.toArray []))
noncomputable def p188 (P : Params) : Obj := (Obj.mk (Value.type "tuple") none (Data.seq (List.toArray []) 0) (List.toArray []))
noncomputable def p189 (P : Params) : Obj := (Obj.mk Value.none none (Data.fields (List.toArray [])) (List.toArray []))
noncomputable def p190 (P : Params) : Obj := (Obj.mk Value.none none (Data.func (FuncData.mk (Str.ofString "_law_typed") (Str.ofString "_law_typed") (fnPa (topS 14)) (FuncBody.stmts (fnBody (topS 14))) (fnSc (topS 14)) 0 [] Value.none Value.none Value.none Value.none none Value.none Value.none 0)) (List.toArray []))
noncomputable def p191 (P : Params) : Obj := (Obj.mk (Value.type "code") none (Data.fields (List.toArray [(Value.str (Str.ofString "_law_typed") 2382), (Value.str (Str.ofString "_law_typed") 2383), (Value.str (Str.ofString "/claim/cut.py") 2384), (Value.int 125 0), (Value.int 2 0), (Value.int 0 0), (Value.int 0 0), (Value.int 3 0), (Value.ref 188), (Value.bool true), (Value.int 181 0), (Value.ref 189), Value.none, Value.none, Value.none, (Value.ref 190), (Value.int 2385 0), (Value.int 125 0), (Value.str (Str.ofString "/claim/cut.py") 2386)])) (List.toArray []))
noncomputable def p192 (P : Params) : Obj := (Obj.mk (Value.type "function") none (Data.func (FuncData.mk (Str.ofString "_law_typed") (Str.ofString "_law_typed") (fnPa (topS 14)) (FuncBody.stmts (fnBody (topS 14))) (fnSc (topS 14)) 3 [] Value.none Value.none Value.none (Value.str (Str.ofString "law_rw0125_01") 2380) none (Value.ref 191) Value.none 0)) (List.toArray []))
noncomputable def p193 (P : Params) : Obj := (Obj.mk (Value.type "tuple") none (Data.seq (List.toArray []) 0) (List.toArray []))
noncomputable def p194 (P : Params) : Obj := (Obj.mk Value.none none (Data.fields (List.toArray [])) (List.toArray []))
noncomputable def p195 (P : Params) : Obj := (Obj.mk Value.none none (Data.func (FuncData.mk (Str.ofString "_law_prepared") (Str.ofString "_law_prepared") (fnPa (topS 15)) (FuncBody.stmts (fnBody (topS 15))) (fnSc (topS 15)) 0 [] Value.none Value.none Value.none Value.none none Value.none Value.none 0)) (List.toArray []))
noncomputable def p196 (P : Params) : Obj := (Obj.mk (Value.type "code") none (Data.fields (List.toArray [(Value.str (Str.ofString "_law_prepared") 2388), (Value.str (Str.ofString "_law_prepared") 2389), (Value.str (Str.ofString "/claim/cut.py") 2390), (Value.int 137 0), (Value.int 1 0), (Value.int 0 0), (Value.int 0 0), (Value.int 3 0), (Value.ref 193), (Value.bool true), (Value.int 181 0), (Value.ref 194), Value.none, Value.none, Value.none, (Value.ref 195), (Value.int 2391 0), (Value.int 137 0), (Value.str (Str.ofString "/claim/cut.py") 2392)])) (List.toArray []))
noncomputable def p197 (P : Params) : Obj := (Obj.mk (Value.type "function") none (Data.func (FuncData.mk (Str.ofString "_law_prepared") (Str.ofString "_law_prepared") (fnPa (topS 15)) (FuncBody.stmts (fnBody (topS 15))) (fnSc (topS 15)) 3 [] Value.none Value.none Value.none (Value.str (Str.ofString "law_rw0125_01") 2380) none (Value.ref 196) Value.none 0)) (List.toArray []))
noncomputable def p198 (P : Params) : Obj := (Obj.mk (Value.type "tuple") none (Data.seq (List.toArray []) 0) (List.toArray []))
noncomputable def p199 (P : Params) : Obj := (Obj.mk Value.none none (Data.fields (List.toArray [])) (List.toArray []))
noncomputable def p200 (P : Params) : Obj := (Obj.mk Value.none none (Data.func (FuncData.mk (Str.ofString "_law_piles") (Str.ofString "_law_piles") (fnPa (topS 16)) (FuncBody.stmts (fnBody (topS 16))) (fnSc (topS 16)) 0 [] Value.none Value.none Value.none Value.none none Value.none Value.none 0)) (List.toArray []))
noncomputable def p201 (P : Params) : Obj := (Obj.mk (Value.type "code") none (Data.fields (List.toArray [(Value.str (Str.ofString "_law_piles") 2394), (Value.str (Str.ofString "_law_piles") 2395), (Value.str (Str.ofString "/claim/cut.py") 2396), (Value.int 141 0), (Value.int 1 0), (Value.int 0 0), (Value.int 0 0), (Value.int 3 0), (Value.ref 198), (Value.bool true), (Value.int 181 0), (Value.ref 199), Value.none, Value.none, Value.none, (Value.ref 200), (Value.int 2397 0), (Value.int 141 0), (Value.str (Str.ofString "/claim/cut.py") 2398)])) (List.toArray []))
noncomputable def p202 (P : Params) : Obj := (Obj.mk (Value.type "function") none (Data.func (FuncData.mk (Str.ofString "_law_piles") (Str.ofString "_law_piles") (fnPa (topS 16)) (FuncBody.stmts (fnBody (topS 16))) (fnSc (topS 16)) 3 [] Value.none Value.none Value.none (Value.str (Str.ofString "law_rw0125_01") 2380) none (Value.ref 201) Value.none 0)) (List.toArray []))
noncomputable def p203 (P : Params) : Obj := (Obj.mk (Value.type "tuple") none (Data.seq (List.toArray []) 0) (List.toArray []))
noncomputable def p204 (P : Params) : Obj := (Obj.mk Value.none none (Data.fields (List.toArray [])) (List.toArray []))
noncomputable def p205 (P : Params) : Obj := (Obj.mk (Value.type "tuple") none (Data.seq (List.toArray [(Value.str (Str.ofString "lead") 2403), (Value.str (Str.ofString "size") 2404), (Value.str (Str.ofString "column") 2405), (Value.str (Str.ofString "sign") 2406)]) 0) (List.toArray []))
noncomputable def p206 (P : Params) : Obj := (Obj.mk (Value.type "tuple") none (Data.seq (List.toArray []) 0) (List.toArray []))
noncomputable def p207 (P : Params) : Obj := (Obj.mk Value.none none (Data.func (FuncData.mk (Str.ofString "_law_column") (Str.ofString "_law_column") (fnPa (topS 17)) (FuncBody.stmts (fnBody (topS 17))) (fnSc (topS 17)) 0 [] Value.none Value.none Value.none Value.none none Value.none Value.none 0)) (List.toArray []))
noncomputable def p208 (P : Params) : Obj := (Obj.mk (Value.type "code") none (Data.fields (List.toArray [(Value.str (Str.ofString "_law_column") 2400), (Value.str (Str.ofString "_law_column") 2401), (Value.str (Str.ofString "/claim/cut.py") 2402), (Value.int 152 0), (Value.int 2 0), (Value.int 0 0), (Value.int 0 0), (Value.int 3 0), (Value.ref 203), (Value.bool true), (Value.int 181 0), (Value.ref 204), Value.none, (Value.ref 205), (Value.ref 206), (Value.ref 207), (Value.int 2407 0), (Value.int 152 0), (Value.str (Str.ofString "/claim/cut.py") 2408)])) (List.toArray []))
noncomputable def p209 (P : Params) : Obj := (Obj.mk (Value.type "function") none (Data.func (FuncData.mk (Str.ofString "_law_column") (Str.ofString "_law_column") (fnPa (topS 17)) (FuncBody.stmts (fnBody (topS 17))) (fnSc (topS 17)) 3 [] Value.none Value.none Value.none (Value.str (Str.ofString "law_rw0125_01") 2380) none (Value.ref 208) Value.none 0)) (List.toArray []))
noncomputable def p210 (P : Params) : Obj := (Obj.mk (Value.type "tuple") none (Data.seq (List.toArray []) 0) (List.toArray []))
noncomputable def p211 (P : Params) : Obj := (Obj.mk Value.none none (Data.fields (List.toArray [])) (List.toArray []))
noncomputable def p212 (P : Params) : Obj := (Obj.mk Value.none none (Data.func (FuncData.mk (Str.ofString "_law_above") (Str.ofString "_law_above") (fnPa (topS 18)) (FuncBody.stmts (fnBody (topS 18))) (fnSc (topS 18)) 0 [] Value.none Value.none Value.none Value.none none Value.none Value.none 0)) (List.toArray []))
noncomputable def p213 (P : Params) : Obj := (Obj.mk (Value.type "code") none (Data.fields (List.toArray [(Value.str (Str.ofString "_law_above") 2410), (Value.str (Str.ofString "_law_above") 2411), (Value.str (Str.ofString "/claim/cut.py") 2412), (Value.int 157 0), (Value.int 1 0), (Value.int 0 0), (Value.int 0 0), (Value.int 3 0), (Value.ref 210), (Value.bool true), (Value.int 181 0), (Value.ref 211), Value.none, Value.none, Value.none, (Value.ref 212), (Value.int 2413 0), (Value.int 157 0), (Value.str (Str.ofString "/claim/cut.py") 2414)])) (List.toArray []))
noncomputable def p214 (P : Params) : Obj := (Obj.mk (Value.type "function") none (Data.func (FuncData.mk (Str.ofString "_law_above") (Str.ofString "_law_above") (fnPa (topS 18)) (FuncBody.stmts (fnBody (topS 18))) (fnSc (topS 18)) 3 [] Value.none Value.none Value.none (Value.str (Str.ofString "law_rw0125_01") 2380) none (Value.ref 213) Value.none 0)) (List.toArray []))
noncomputable def p215 (P : Params) : Obj := (Obj.mk (Value.type "tuple") none (Data.seq (List.toArray []) 0) (List.toArray []))
noncomputable def p216 (P : Params) : Obj := (Obj.mk Value.none none (Data.fields (List.toArray [])) (List.toArray []))
noncomputable def p217 (P : Params) : Obj := (Obj.mk Value.none none (Data.func (FuncData.mk (Str.ofString "_law_asked") (Str.ofString "_law_asked") (fnPa (topS 19)) (FuncBody.stmts (fnBody (topS 19))) (fnSc (topS 19)) 0 [] Value.none Value.none Value.none Value.none none Value.none Value.none 0)) (List.toArray []))
noncomputable def p218 (P : Params) : Obj := (Obj.mk (Value.type "code") none (Data.fields (List.toArray [(Value.str (Str.ofString "_law_asked") 2416), (Value.str (Str.ofString "_law_asked") 2417), (Value.str (Str.ofString "/claim/cut.py") 2418), (Value.int 163 0), (Value.int 4 0), (Value.int 0 0), (Value.int 0 0), (Value.int 3 0), (Value.ref 215), (Value.bool true), (Value.int 181 0), (Value.ref 216), Value.none, Value.none, Value.none, (Value.ref 217), (Value.int 2419 0), (Value.int 163 0), (Value.str (Str.ofString "/claim/cut.py") 2420)])) (List.toArray []))
noncomputable def p219 (P : Params) : Obj := (Obj.mk (Value.type "function") none (Data.func (FuncData.mk (Str.ofString "_law_asked") (Str.ofString "_law_asked") (fnPa (topS 19)) (FuncBody.stmts (fnBody (topS 19))) (fnSc (topS 19)) 3 [] Value.none Value.none Value.none (Value.str (Str.ofString "law_rw0125_01") 2380) none (Value.ref 218) Value.none 0)) (List.toArray []))
noncomputable def p220 (P : Params) : Obj := (Obj.mk (Value.type "tuple") none (Data.seq (List.toArray []) 0) (List.toArray []))
noncomputable def p221 (P : Params) : Obj := (Obj.mk Value.none none (Data.fields (List.toArray [])) (List.toArray []))
noncomputable def p222 (P : Params) : Obj := (Obj.mk Value.none none (Data.func (FuncData.mk (Str.ofString "law") (Str.ofString "law") (fnPa (topS 20)) (FuncBody.stmts (fnBody (topS 20))) (fnSc (topS 20)) 0 [] Value.none Value.none Value.none Value.none none Value.none Value.none 0)) (List.toArray []))
noncomputable def p223 (P : Params) : Obj := (Obj.mk (Value.type "code") none (Data.fields (List.toArray [(Value.str (Str.ofString "law") 2422), (Value.str (Str.ofString "law") 2423), (Value.str (Str.ofString "/claim/cut.py") 2424), (Value.int 185 0), (Value.int 1 0), (Value.int 0 0), (Value.int 0 0), (Value.int 3 0), (Value.ref 220), (Value.bool true), (Value.int 181 0), (Value.ref 221), Value.none, Value.none, Value.none, (Value.ref 222), (Value.int 2425 0), (Value.int 185 0), (Value.str (Str.ofString "/claim/cut.py") 2426)])) (List.toArray []))
noncomputable def p224 (P : Params) : Obj := (Obj.mk (Value.type "function") none (Data.func (FuncData.mk (Str.ofString "law") (Str.ofString "law") (fnPa (topS 20)) (FuncBody.stmts (fnBody (topS 20))) (fnSc (topS 20)) 3 [] Value.none Value.none Value.none (Value.str (Str.ofString "law_rw0125_01") 2380) none (Value.ref 223) Value.none 0)) (List.toArray []))
noncomputable def t21 (P : Params) : BT := (.node (W.boot_o_0 P) (.node (W.boot_o_1 P) (.node (p3at21 P) (.node (W.boot_o_7 P) (.node (p15 P) (.node (p31 P) (.node (p63 P) (.node (p127 P) .nil .nil) (.node (p191 P) .nil .nil)) (.node (p95 P) (.node (pS 16 P) .nil .nil) (.node (p223 P) .nil .nil))) (.node (p47 P) (.node (p79 P) (.node (pS 0 P) .nil .nil) (.node (p207 P) .nil .nil)) (.node (p111 P) (.node (pS 32 P) .nil .nil) .nil))) (.node (p23 P) (.node (p39 P) (.node (p71 P) (.node (p135 P) .nil .nil) (.node (p199 P) .nil .nil)) (.node (p103 P) (.node (pS 24 P) .nil .nil) .nil)) (.node (p55 P) (.node (p87 P) (.node (pS 8 P) .nil .nil) (.node (p215 P) .nil .nil)) (.node (p119 P) (.node (p183 P) .nil .nil) .nil)))) (.node (p11 P) (.node (p19 P) (.node (p35 P) (.node (p67 P) (.node (p131 P) .nil .nil) (.node (p195 P) .nil .nil)) (.node (p99 P) (.node (pS 20 P) .nil .nil) .nil)) (.node (p51 P) (.node (p83 P) (.node (pS 4 P) .nil .nil) (.node (p211 P) .nil .nil)) (.node (p115 P) (.node (pS 36 P) .nil .nil) .nil))) (.node (p27 P) (.node (p43 P) (.node (p75 P) (.node (p139 P) .nil .nil) (.node (p203 P) .nil .nil)) (.node (p107 P) (.node (pS 28 P) .nil .nil) .nil)) (.node (p59 P) (.node (p91 P) (.node (pS 12 P) .nil .nil) (.node (p219 P) .nil .nil)) (.node (p123 P) (.node (p187 P) .nil .nil) .nil))))) (.node (W.boot_o_5 P) (.node (W.boot_o_9 P) (.node (p17 P) (.node (p33 P) (.node (p65 P) (.node (p129 P) .nil .nil) (.node (p193 P) .nil .nil)) (.node (p97 P) (.node (pS 18 P) .nil .nil) .nil)) (.node (p49 P) (.node (p81 P) (.node (pS 2 P) .nil .nil) (.node (p209 P) .nil .nil)) (.node (p113 P) (.node (pS 34 P) .nil .nil) .nil))) (.node (p25 P) (.node (p41 P) (.node (p73 P) (.node (p137 P) .nil .nil) (.node (p201 P) .nil .nil)) (.node (p105 P) (.node (pS 26 P) .nil .nil) .nil)) (.node (p57 P) (.node (p89 P) (.node (pS 10 P) .nil .nil) (.node (p217 P) .nil .nil)) (.node (p121 P) (.node (p185 P) .nil .nil) .nil)))) (.node (p13 P) (.node (p21 P) (.node (p37 P) (.node (p69 P) (.node (p133 P) .nil .nil) (.node (p197 P) .nil .nil)) (.node (p101 P) (.node (pS 22 P) .nil .nil) .nil)) (.node (p53 P) (.node (p85 P) (.node (pS 6 P) .nil .nil) (.node (p213 P) .nil .nil)) (.node (p117 P) (.node (p181 P) .nil .nil) .nil))) (.node (p29 P) (.node (p45 P) (.node (p77 P) (.node (p141 P) .nil .nil) (.node (p205 P) .nil .nil)) (.node (p109 P) (.node (pS 30 P) .nil .nil) .nil)) (.node (p61 P) (.node (p93 P) (.node (pS 14 P) .nil .nil) (.node (p221 P) .nil .nil)) (.node (p125 P) (.node (p189 P) .nil .nil) .nil)))))) (.node (W.boot_o_2 P) (.node (W.boot_o_4 P) (.node (W.boot_o_8 P) (.node (p16 P) (.node (p32 P) (.node (p64 P) (.node (p128 P) .nil .nil) (.node (p192 P) .nil .nil)) (.node (p96 P) (.node (pS 17 P) .nil .nil) (.node (p224 P) .nil .nil))) (.node (p48 P) (.node (p80 P) (.node (pS 1 P) .nil .nil) (.node (p208 P) .nil .nil)) (.node (p112 P) (.node (pS 33 P) .nil .nil) .nil))) (.node (p24 P) (.node (p40 P) (.node (p72 P) (.node (p136 P) .nil .nil) (.node (p200 P) .nil .nil)) (.node (p104 P) (.node (pS 25 P) .nil .nil) .nil)) (.node (p56 P) (.node (p88 P) (.node (pS 9 P) .nil .nil) (.node (p216 P) .nil .nil)) (.node (p120 P) (.node (p184 P) .nil .nil) .nil)))) (.node (p12at21 P) (.node (p20 P) (.node (p36 P) (.node (p68 P) (.node (p132 P) .nil .nil) (.node (p196 P) .nil .nil)) (.node (p100 P) (.node (pS 21 P) .nil .nil) .nil)) (.node (p52 P) (.node (p84 P) (.node (pS 5 P) .nil .nil) (.node (p212 P) .nil .nil)) (.node (p116 P) (.node (pS 37 P) .nil .nil) .nil))) (.node (p28 P) (.node (p44 P) (.node (p76 P) (.node (p140 P) .nil .nil) (.node (p204 P) .nil .nil)) (.node (p108 P) (.node (pS 29 P) .nil .nil) .nil)) (.node (p60 P) (.node (p92 P) (.node (pS 13 P) .nil .nil) (.node (p220 P) .nil .nil)) (.node (p124 P) (.node (p188 P) .nil .nil) .nil))))) (.node (W.boot_o_6 P) (.node (W.boot_o_10 P) (.node (p18 P) (.node (p34 P) (.node (p66 P) (.node (p130 P) .nil .nil) (.node (p194 P) .nil .nil)) (.node (p98 P) (.node (pS 19 P) .nil .nil) .nil)) (.node (p50 P) (.node (p82 P) (.node (pS 3 P) .nil .nil) (.node (p210 P) .nil .nil)) (.node (p114 P) (.node (pS 35 P) .nil .nil) .nil))) (.node (p26 P) (.node (p42 P) (.node (p74 P) (.node (p138 P) .nil .nil) (.node (p202 P) .nil .nil)) (.node (p106 P) (.node (pS 27 P) .nil .nil) .nil)) (.node (p58 P) (.node (p90 P) (.node (pS 11 P) .nil .nil) (.node (p218 P) .nil .nil)) (.node (p122 P) (.node (p186 P) .nil .nil) .nil)))) (.node (p14 P) (.node (p22 P) (.node (p38 P) (.node (p70 P) (.node (p134 P) .nil .nil) (.node (p198 P) .nil .nil)) (.node (p102 P) (.node (pS 23 P) .nil .nil) .nil)) (.node (p54 P) (.node (p86 P) (.node (pS 7 P) .nil .nil) (.node (p214 P) .nil .nil)) (.node (p118 P) (.node (p182 P) .nil .nil) .nil))) (.node (p30 P) (.node (p46 P) (.node (p78 P) (.node (pD P) .nil .nil) (.node (p206 P) .nil .nil)) (.node (p110 P) (.node (pS 31 P) .nil .nil) .nil)) (.node (p62 P) (.node (p94 P) (.node (pS 15 P) .nil .nil) (.node (p222 P) .nil .nil)) (.node (p126 P) (.node (p190 P) .nil .nil) .nil)))))))
noncomputable def KF (P : Params) : Frag := [(2, W.boot_o_2 P), (3, p3at21 P), (6, W.boot_o_6 P), (15, p15 P), (17, p17 P), (18, p18 P), (20, p20 P), (21, p21 P), (32, p32 P), (34, p34 P), (35, p35 P), (37, p37 P), (38, p38 P), (39, p39 P), (41, p41 P), (42, p42 P), (44, p44 P), (45, p45 P), (46, p46 P), (48, p48 P), (49, p49 P), (51, p51 P), (52, p52 P), (53, p53 P), (55, p55 P), (56, p56 P), (58, p58 P), (59, p59 P), (60, p60 P), (62, p62 P), (63, p63 P), (65, p65 P), (66, p66 P), (67, p67 P), (69, p69 P), (70, p70 P), (72, p72 P), (73, p73 P), (74, p74 P), (76, p76 P), (77, p77 P), (79, p79 P), (80, p80 P), (81, p81 P), (82, p82 P), (83, p83 P), (84, p84 P), (85, p85 P), (88, p88 P), (89, p89 P), (90, p90 P), (92, p92 P), (93, p93 P), (95, p95 P), (96, p96 P), (97, p97 P), (98, p98 P), (99, p99 P), (101, p101 P), (102, p102 P), (104, p104 P), (105, p105 P), (106, p106 P), (107, p107 P), (108, p108 P), (110, p110 P), (111, p111 P), (113, p113 P), (114, p114 P), (115, p115 P), (116, p116 P), (117, p117 P), (119, p119 P), (120, p120 P), (122, p122 P), (123, p123 P), (131, p131 P), (135, p135 P), (137, p137 P), (138, p138 P), (140, p140 P), (141, p141 P), (142, pD P), (181, p181 P), (183, p183 P), (184, p184 P), (186, p186 P), (187, p187 P), (188, p188 P), (191, p191 P), (192, p192 P), (193, p193 P), (196, p196 P), (197, p197 P), (198, p198 P), (201, p201 P), (202, p202 P), (203, p203 P), (205, p205 P), (206, p206 P), (208, p208 P), (209, p209 P), (210, p210 P), (213, p213 P), (214, p214 P), (215, p215 P), (218, p218 P), (219, p219 P), (220, p220 P), (223, p223 P), (224, p224 P)]
end
end
-- part H5
section
open PySem PySem.W PyProof.Rows PySem.Calls

noncomputable abbrev bB : List Stmt := behindTheImports PW
noncomputable abbrev cB : Code := .body bB env0
noncomputable abbrev q0 : Pos := ⟨0, 0, 0, 0⟩
noncomputable def st0 (w : World) (os : OsState) : SharedT := ⟨t0 w.params, 15, {}, ⟨[]⟩, {}, 187, os⟩
noncomputable def st2 (w : World) (os : OsState) : SharedT := ⟨t2 w.params, 22, {}, ⟨[]⟩, {}, 196, os⟩
noncomputable def st3 (w : World) (os : OsState) : SharedT := ⟨t3 w.params, 88, {}, ⟨[]⟩, {}, 296, os⟩
noncomputable def st9 (w : World) (os : OsState) : SharedT := ⟨t9 w.params, 124, {}, ⟨[]⟩, {}, 354, os⟩
noncomputable def l2 : List Stmt := [topS 0, topS 1]
noncomputable def l3 : List Stmt := [topS 2]
noncomputable def l9 : List Stmt := [topS 3, topS 4, topS 5, topS 6, topS 7, topS 8]
noncomputable def st10 (w : World) (os : OsState) : SharedT := ⟨t10 w.params, 135, {}, ⟨[]⟩, {}, 414, os⟩
noncomputable def st11 (w : World) (os : OsState) : SharedT := ⟨t11 w.params, 142, {}, ⟨[]⟩, {}, 421, os⟩
noncomputable def st12 (w : World) (os : OsState) : SharedT := ⟨t12 w.params, 181, {}, ⟨[]⟩, {}, 2372, os⟩
noncomputable def st21 (w : World) (os : OsState) : SharedT := ⟨t21 w.params, 225, {}, ⟨[]⟩, {}, 2428, os⟩
noncomputable def l10 : List Stmt := [topS 9]
noncomputable def l11 : List Stmt := [topS 10]
noncomputable def l21 : List Stmt := [topS 12, topS 13, topS 14, topS 15, topS 16, topS 17, topS 18, topS 19, topS 20]
theorem seg_tw {w : World} {n : Nat} {s : SharedT} {t : Thread} {r : Option (Flow × SharedT × Code × Pos)} (h : PySem.W.Fast.tw10110043849684766642 PySem.W.Fast.tw14364793385576792824 PW w 11 (some (.ref 6)) 1 n s t = r) :
    segRunT treeTable PW w 11 (some (.ref 6)) 1 n s t = r := by
  rw [PySem.W.Fast.te10110043849684766642, PySem.W.Fast.te14364793385576792824]
  exact h
theorem run2_eq (w : World) (os : OsState) : segRunT treeTable PW w 11 (some (.ref 6)) 1 39 (st0 w os) (piecesOf l2 env0 cB q0 [topFrame q0]) = some (.next, st2 w os, cB, ⟨4, 0, 4, 8⟩) := seg_tw (by kernel_rfl)
noncomputable abbrev Run3 (w : World) (os : OsState) : Prop := segRunT treeTable PW w 11 (some (.ref 6)) 1 493 (st2 w os) (piecesOf l3 env0 cB ⟨4, 0, 4, 8⟩ [topFrame q0]) = some (.next, st3 w os, cB, ⟨5, 0, 60, 16⟩)
theorem run3_eq (w : World) (os : OsState) : Run3 w os := byRow2 "special-get-raises" (P := fun w => Run3 w os) (fun w => seg_tw (by kernel_rfl)) (fun w => seg_tw (by kernel_rfl)) w
theorem run9_eq (w : World) (os : OsState) : segRunT treeTable PW w 11 (some (.ref 6)) 1 181 (st3 w os) (piecesOf l9 env0 cB ⟨5, 0, 60, 16⟩ [topFrame q0]) = some (.next, st9 w os, cB, ⟨114, 0, 114, 8⟩) := seg_tw (by kernel_rfl)
theorem run11_eq (w : World) (os : OsState) : segRunT treeTable PW w 11 (some (.ref 6)) 1 30 (st10 w os) (piecesOf l11 env0 cB ⟨115, 0, 115, 6⟩ [topFrame q0]) = some (.next, st11 w os, cB, ⟨116, 0, 117, 30⟩) := seg_tw (by kernel_rfl)
theorem run21_eq (w : World) (os : OsState) : segRunT treeTable PW w 11 (some (.ref 6)) 1 228 (st12 w os) (piecesOf l21 env0 cB ⟨118, 0, 118, 13⟩ [topFrame q0]) = some (.next, st21 w os, cB, ⟨185, 0, 207, 67⟩) := seg_tw (by kernel_rfl)
noncomputable abbrev Run10 (w : World) (os : OsState) : Prop := segRunT treeTable PW w 11 (some (.ref 6)) 1 999 (st9 w os) (piecesOf l10 env0 cB ⟨114, 0, 114, 8⟩ [topFrame q0]) = some (.next, st10 w os, cB, ⟨115, 0, 115, 6⟩)
theorem run10_ff (w : World) (os : OsState) : Run10 ((w.withFollow "set-order" false).withFollow "special-get-raises" false) os := seg_tw (by kernel_rfl)
theorem run10_tf (w : World) (os : OsState) : Run10 ((w.withFollow "set-order" true).withFollow "special-get-raises" false) os := seg_tw (by kernel_rfl)
theorem run10_ft (w : World) (os : OsState) : Run10 ((w.withFollow "set-order" false).withFollow "special-get-raises" true) os := seg_tw (by kernel_rfl)
theorem run10_tt (w : World) (os : OsState) : Run10 ((w.withFollow "set-order" true).withFollow "special-get-raises" true) os := seg_tw (by kernel_rfl)
theorem run10_eq (w : World) (os : OsState) : Run10 w os :=
  byRow2 "special-get-raises" (P := fun w => Run10 w os)
    (byRow2 "set-order" (P := fun w => Run10 (w.withFollow "special-get-raises" false) os) (fun w => run10_ff w os) (fun w => run10_tf w os))
    (byRow2 "set-order" (P := fun w => Run10 (w.withFollow "special-get-raises" true) os) (fun w => run10_ft w os) (fun w => run10_tt w os)) w
end
-- part H6
section
open PySem PySem.W PyProof.Rows PySem.Calls

noncomputable def stPos : Stmt → Pos
  | .Assign _ _ p => p
  | _ => default
noncomputable def dictE : Stmt → Expr
  | .Assign _ e _ => e
  | _ => default
noncomputable def tgts : Stmt → List Expr
  | .Assign t _ _ => t
  | _ => default
noncomputable def dPos : Pos := match dictE (topS 11) with
  | .Dict _ _ p => p
  | _ => default
noncomputable def dKs : List (Option Expr) := match dictE (topS 11) with
  | .Dict ks _ _ => ks
  | _ => []
noncomputable def dVs : List Expr := match dictE (topS 11) with
  | .Dict _ vs _ => vs
  | _ => []
noncomputable def tail11 (v : Value) : Sem Flow := do assignStores env0 v (← swappedStores (tgts (topS 11)) (dictE (topS 11)) env0) ((assignEach (tgts (topS 11)) env0).map (·.2))
theorem exec11 : exec (topS 11) env0 = (standAt (stPos (topS 11)) >>= fun _ => eval (dictE (topS 11)) env0 >>= fun v => tail11 v) := by kernel_rfl
theorem eval11 : eval (dictE (topS 11)) env0 = (standAt dPos >>= fun _ => dictDisplay ((evalEachOpt dKs env0).zip ((evalEach dVs env0).map fun v => do let x ← v; standAt dPos; pure x))) := by kernel_rfl
theorem items11 : (evalEachOpt dKs env0).zip ((evalEach dVs env0).map fun v => do let x ← v; standAt dPos; pure x) = items dPos (kv1 ++ (kvm.flatten ++ kv2)) := by kernel_rfl
noncomputable def upB : Int → List Int → Bool
  | _, [] => true
  | a, b :: l => decide (a < b) && upB b l
theorem up_lt : ∀ (l : List Int) (a : Int), upB a l = true → ∀ b ∈ l, a < b
  | x :: l, a, h, b, hb => by
    unfold upB at h
    obtain ⟨h1, h2⟩ := Bool.and_eq_true_iff.mp h
    have h1 := of_decide_eq_true h1
    rcases List.mem_cons.mp hb with rfl | hb
    · exact h1
    · exact Int.lt_trans h1 (up_lt l x h2 b hb)
theorem up_nodup : ∀ (l : List Int) (a : Int), upB a l = true → l.Nodup
  | [], a, h => List.nodup_nil
  | x :: l, a, h => by
    unfold upB at h
    obtain ⟨h1, h2⟩ := Bool.and_eq_true_iff.mp h
    exact List.nodup_cons.mpr ⟨fun m => Int.lt_irrefl x (up_lt l x h2 x m), up_nodup l x h2⟩
theorem kv_up : upB (-1) (hs (kv1 ++ (kvm.flatten ++ kv2))) = true := by kernel_rfl
theorem kv1_len : kv1.length = 17 := by kernel_rfl
theorem kvm_len : kvm.length = 37 := by kernel_rfl
theorem kvm_17 : (kvm.all fun l => l.length == 17) = true := by kernel_rfl
theorem kv2_len : kv2.length = 4 := by kernel_rfl
theorem kvf_len : kvm.flatten.length = 629 := by kernel_rfl
noncomputable def heap12 (w : World) : Heap := pushAll ((absHeap (t11 w.params) 142 {}).push (dL (ents 3 421 (kv1 ++ kvm.flatten) ++ ents 2 (421 + 51 + 51 * kvm.length) kv2))) (subsOf (421 + 51) kvm ++ [dL (ents 2 (421 + 51 + 51 * kvm.length) kv2)])
theorem disp11 (w : World) (os : OsState) : Fwd w cB q0 (223 + 330 * kvm.length + (19 * kv2.length + 6)) (dictDisplay (items dPos (kv1 ++ (kvm.flatten ++ kv2)))) (st11 w os).abs dPos (.ref 142)
    ⟨heap12 w, ⟨[]⟩, {}, 421 + 51 + 51 * kvm.length + 3 * kv2.length, os⟩ dPos := by
  have hz : (absHeap (t11 w.params) 142 {}).objs.size = 142 := absHeap_size _ _ _
  have := dispRun (w := w) (c := cB) (q := q0) (absHeap (t11 w.params) 142 {}) dPos (by rw [hz]; omega) ⟨[]⟩ {} os 421 kv1 kvm kv2 kv1_len (fun l hl => by simpa using List.all_eq_true.mp kvm_17 l hl) (by rw [kv2_len]; omega) (by intro e; have := kv2_len; rw [e] at this; cases this)
    (up_nodup _ _ kv_up) (by rw [kv1_len, kvf_len, kv2_len]; decide)
  rw [hz] at this
  exact this
theorem tail_raw (w : World) (os : OsState) (K : Flow → Sem Fin) (H : Value → Sem Fin) (gd : Bool → Bool) (lv : List Value → List Value) (N : Nat) :
    topRun treeTable PySem.Challenge.pw_rw0125_01 w 11 (some (.ref 6)) (N + 7) ⟨heap12 w, ⟨[]⟩, {}, 421 + 51 + 51 * kvm.length + 3 * kv2.length, os⟩ ⟨(tail11 (.ref 142)).wrap K H gd lv, cB, dPos, [topFrame q0]⟩ =
      topRun treeTable PySem.Challenge.pw_rw0125_01 w 11 (some (.ref 6)) N (st12 w os).abs ⟨K .next, cB, ⟨118, 0, 118, 13⟩, [topFrame q0]⟩ := by kernel_rfl
theorem stmt11 (w : World) (os : OsState) : Fwd w cB q0 (1 + (1 + (223 + 330 * kvm.length + (19 * kv2.length + 6)) + 7)) (exec (topS 11) env0) (st11 w os).abs ⟨116, 0, 117, 30⟩ .next (st12 w os).abs ⟨118, 0, 118, 13⟩ := by
  rw [exec11, eval11, items11]
  refine Fwd.bind .standAt ?_
  refine Fwd.bind (Fwd.bind .standAt (disp11 w os)) ?_
  intro K H gd lv N r k
  rw [Nat.add_comm, tail_raw]
  exact k
end
-- part H7
section
open PySem PySem.W PyProof.Rows PySem.Calls

noncomputable abbrev TR (w : World) (N : Nat) (s : Shared) (t : Thread) : Option Shared := topRun treeTable PySem.Challenge.pw_rw0125_01 w 11 (some (.ref 6)) N s t
noncomputable abbrev rst (rest : List Stmt) (p : Pos) : Thread := restOf rest env0 cB p [topFrame q0]
theorem Fwd.stmt {w : World} {n N : Nat} {st : Stmt} {s s' r : Shared} {p p' : Pos} {rest : List Stmt} (h : Fwd w cB q0 n (exec st env0) s p .next s' p') (k : TR w N s' (rst rest p') = some r) : TR w (n + N) s (rst (st :: rest) p) = some r := by
  show topRun _ _ _ _ _ _ _ (restOf (st :: rest) _ _ _ _) = _
  unfold restOf
  rw [execs_cons_wrap]
  exact h _ _ _ _ _ _ k
theorem fin_run (w : World) (os : OsState) : TR w 2 (st21 w os).abs (rst [] ⟨185, 0, 207, 67⟩) = some (st21 w os).abs := by kernel_rfl
theorem run_l21 (w : World) (os : OsState) : TR w (228 + 2) (st12 w os).abs (rst (l21 ++ []) ⟨118, 0, 118, 13⟩) = some (st21 w os).abs :=
  piece_app (segRun_of (run21_eq w os)) (fin_run w os)
noncomputable def n11 : Nat := 1 + (1 + (223 + 330 * kvm.length + (19 * kv2.length + 6)) + 7)
theorem run_l12 (w : World) (os : OsState) : TR w (n11 + (228 + 2)) (st11 w os).abs (rst (topS 11 :: (l21 ++ [])) ⟨116, 0, 117, 30⟩) = some (st21 w os).abs :=
  Fwd.stmt (stmt11 w os) (run_l21 w os)
theorem run_l11 (w : World) (os : OsState) : TR w (30 + (n11 + (228 + 2))) (st10 w os).abs (rst (l11 ++ (topS 11 :: (l21 ++ []))) ⟨115, 0, 115, 6⟩) = some (st21 w os).abs :=
  piece_app (segRun_of (run11_eq w os)) (run_l12 w os)
theorem run_l10 (w : World) (os : OsState) : TR w (999 + (30 + (n11 + (228 + 2)))) (st9 w os).abs (rst (l10 ++ (l11 ++ (topS 11 :: (l21 ++ [])))) ⟨114, 0, 114, 8⟩) = some (st21 w os).abs :=
  piece_app (segRun_of (run10_eq w os)) (run_l11 w os)
theorem run_l9 (w : World) (os : OsState) : TR w (181 + (999 + (30 + (n11 + (228 + 2))))) (st3 w os).abs (rst (l9 ++ (l10 ++ (l11 ++ (topS 11 :: (l21 ++ []))))) ⟨5, 0, 60, 16⟩) = some (st21 w os).abs :=
  piece_app (segRun_of (run9_eq w os)) (run_l10 w os)
theorem run_l3 (w : World) (os : OsState) : TR w (493 + (181 + (999 + (30 + (n11 + (228 + 2)))))) (st2 w os).abs (rst (l3 ++ (l9 ++ (l10 ++ (l11 ++ (topS 11 :: (l21 ++ [])))))) ⟨4, 0, 4, 8⟩) = some (st21 w os).abs :=
  piece_app (segRun_of (run3_eq w os)) (run_l9 w os)
noncomputable def nAll : Nat := 39 + (493 + (181 + (999 + (30 + (n11 + (228 + 2))))))
theorem run_l2 (w : World) (os : OsState) : TR w nAll (st0 w os).abs (rst (l2 ++ (l3 ++ (l9 ++ (l10 ++ (l11 ++ (topS 11 :: (l21 ++ []))))))) q0) = some (st21 w os).abs :=
  piece_app (segRun_of (run2_eq w os)) (run_l3 w os)
theorem body_is : bB = l2 ++ (l3 ++ (l9 ++ (l10 ++ (l11 ++ (topS 11 :: (l21 ++ [])))))) := by kernel_rfl
theorem run_body (w : World) (os : OsState) : TR w nAll (st0 w os).abs (rst bB q0) = some (st21 w os).abs := by
  have := run_l2 w os
  rw [← body_is] at this
  exact this
theorem block_run (w : World) (os : OsState) : segRun treeTable PySem.Challenge.pw_rw0125_01 w 11 (some (.ref 6)) 1 1 (st0 w os).abs (blockOf bB env0 cB q0 [topFrame q0]) = some (.next, (st0 w os).abs, cB, q0) := by kernel_rfl
theorem pre_run (w : World) (os : OsState) : topGo treeTable PySem.Challenge.pw_rw0125_01 w 11 (some (.ref 6)) 12 ⟨boot_heap w.params, ⟨[]⟩, boot_drawn, boot_toks, os⟩ (topStub PySem.Challenge.pw_rw0125_01) = some ((st0 w os).abs, ⟨denote treeTable cB, cB, q0, [topFrame q0]⟩) := by kernel_rfl
theorem run_all (w : World) (os : OsState) : TR w (12 + (1 + nAll)) ⟨boot_heap w.params, ⟨[]⟩, boot_drawn, boot_toks, os⟩ (topStub PW) = some (st21 w os).abs :=
  go_top (pre_run w os) (piece_block (block_run w os) (run_body w os))
theorem nAll_le : Nat.ble (12 + (1 + nAll)) 29102 = true := by kernel_rfl
theorem open_it : ∀ w : World, (fencedOpening treeTable PySem.Challenge.pw_rw0125_01 w 29102).map (fun s => (s.heap, s.gens, s.drawn, s.toks)) = some (boot_heap w.params, ⟨[]⟩, boot_drawn, boot_toks) :=
  boot_open (by kernel_rfl) rfl (fun s => by kernel_rfl)
theorem size_it (w : World) : ((boot_heap w.params).isNs mainGlobals && (⟨[]⟩ : Array GenState).size == 0, (boot_heap w.params).objs.size, (boot_heap w.params).nsMap mainGlobals "__annotations__") = (true, 11, some (.ref 6)) := by kernel_rfl
end
-- part H8
section
open PySem PySem.W PyProof.Rows PySem.Calls

noncomputable def view : Program := { PW with main := { PW.main with body := [topS 20] } }
noncomputable def lawLoose : List Str := ["Whitespace", "insort_right", "bisect_right", "insort_left", "bisect_left", "b1_set", "in_table_b1", "b3_exceptions", "map_table_b3", "_law_typed", "_law_prepared", "_law_piles", "_law_column", "_law_above", "_law_asked", "_wall"]
noncomputable abbrev rowL : RowW := OpenRow.toRowW PySem.Challenge.rw_rw0125_01.row
noncomputable def lawXt (s : Shared) : Bool := xlAt view [] s && recOk (RowW.records rowL) s
noncomputable def sEnd (w : World) (os : OsState) : Shared := ⟨absHeap (t21 w.params) 225 {}, ⟨[]⟩, {}, 2428, os⟩
noncomputable def mods : List Str := importedModules PW.main.body
noncomputable def kAs : List Addr := [2, 3, 6, 15, 17, 18, 20, 21, 32, 34, 35, 37, 38, 39, 41, 42, 44, 45, 46, 48, 49, 51, 52, 53, 55, 56, 58, 59, 60, 62, 63, 65, 66, 67, 69, 70, 72, 73, 74, 76, 77, 79, 80, 81, 82, 83, 84, 85, 88, 89, 90, 92, 93, 95, 96, 97, 98, 99, 101, 102, 104, 105, 106, 107, 108, 110, 111, 113, 114, 115, 116, 117, 119, 120, 122, 123, 131, 135, 137, 138, 140, 141, 142, 181, 183, 184, 186, 187, 188, 191, 192, 193, 196, 197, 198, 201, 202, 203, 205, 206, 208, 209, 210, 213, 214, 215, 218, 219, 220, 223, 224]
theorem kAs_is : ∀ P, kAs = (KF P).map (·.1) := fun P => by kernel_rfl
theorem look0 (w : World) (os : OsState) : (staticsOk mods (boot_heap w.params) (absHeap (t21 w.params) 225 {}) && namesBound PW (absHeap (t21 w.params) 225 {}) && gensDone (sEnd w os) && laidKept (boot_heap w.params) (absHeap (t21 w.params) 225 {})) = true := by kernel_rfl
theorem look1 (w : World) (os : OsState) : seen ((recsOf view).map (·.name)) (ownsOf view) [] { sEnd w os with gens := #[] } = expectedOf view := by kernel_rfl
theorem look2 (w : World) (os : OsState) : (sEnd w os).heap.bltView = bltViewBooted := by kernel_rfl
theorem look3 (w : World) (os : OsState) : ((sEnd w os).heap.keysOk (looseW view lawLoose) ((recsOf view).map (·.name)) ((litsOf view).map (·.1)) ((clssOf view (looseW view lawLoose)).map (·.name)) && (sEnd w os).heap.accountedOkI mods && (sEnd w os).heap.isNs mainGlobals && (sEnd w os).heap.isNs builtinsNs && tablesOk view (sEnd w os).heap && lawXt (sEnd w os) && (if true then (sEnd w os).gens.size == 0 else !leftWithCleanup (sEnd w os).gens)) = true := by kernel_rfl
theorem look4 (w : World) (os : OsState) : tabsOk view (sEnd w os) = true := by kernel_rfl
theorem look4b (w : World) (os : OsState) : pinSeenD view (drecsOf view) (sEnd w os) = pinGoodD (drecsOf view) := by kernel_rfl
theorem look5 (w : World) (os : OsState) : plainSeenE view (looseW view lawLoose) (sEnd w os) = plainGoodE view (looseW view lawLoose) := by kernel_rfl
theorem look6 (w : World) (os : OsState) : plainSeenD view lawLoose (sEnd w os) = plainGoodD view lawLoose := by kernel_rfl
theorem look7 (w : World) (os : OsState) : wideSeen view (sEnd w os) = wideGood view := by kernel_rfl
theorem look8 (w : World) (os : OsState) : clsSeenW view lawLoose (sEnd w os) = clsGoodW view lawLoose := by kernel_rfl
theorem look9 (w : World) (os : OsState) : (kAs.map (sEnd w os).heap.get?, [216].map (sEnd w os).heap.get?) = ((KF w.params).map (fun p => some p.2), [216].map fun _ => some (tabObj #[])) := by kernel_rfl
theorem seen_good (w : World) (os : OsState) : openSeen view lawLoose mods lawXt true (sEnd w os) = openGood view lawLoose := by
  unfold openSeen openGood
  exact Prod.ext (look1 w os) (Prod.ext (look2 w os) (Prod.ext (look3 w os) (Prod.ext (look4 w os) (Prod.ext (look4b w os) (Prod.ext (look5 w os) (Prod.ext (look6 w os) (Prod.ext (look7 w os) (look8 w os))))))))
noncomputable abbrev hookL : Hook := kmHook KF kAs kAs_is [216]
theorem left_all : LeftO PySem.Challenge.pw_rw0125_01 view lawLoose lawXt (Hook.obs hookL) (Hook.val hookL) 29102 :=
  LeftO.of_pieces (H₀ := boot_heap) (H₁ := fun P => absHeap (t21 P) 225 {}) (gs₀ := ⟨[]⟩) (gs₁ := ⟨[]⟩) (d₀ := boot_drawn) (d₁ := {}) (k₀ := boot_toks) (k₁ := 2428) (m₀ := 11) (ann := some (.ref 6)) (M := 12 + (1 + nAll))
    open_it size_it run_all nAll_le fun w => funext fun os => Prod.ext (look0 w os) (Prod.ext (seen_good w os) (look9 w os))
end
-- part A2
section
open PySem PySem.W PyProof.Rows

noncomputable def bigL : Nat := 100000
theorem bigL_le : bigL ≤ sizeLine := by decide

/-- the operators on data -/
noncomputable def binI : Operator → Int → Int → Option D
  | .Add, a, b => some (.int (a + b))
  | .Sub, a, b => some (.int (a - b))
  | .Mult, a, b => if a.natAbs < 2 ^ 60 then some (.int (a * b)) else none
  | .FloorDiv, a, b => if b.natAbs = 0 ∨ 1073741824 ≤ b.natAbs then none else some (.int (a.fdiv b))
  | .Mod, a, b => if b.natAbs = 0 then none else some (.int (a.fmod b))
  | .Pow, a, b => if a.natAbs < 16 ∧ 0 ≤ b ∧ b ≤ 64 then some (.int (a ^ b.toNat)) else none
  | _, _, _ => none
noncomputable def binS (x y : Str) : Operator → Option D
  | .Add => if x.length + y.length ≤ bigL then some (.str (x ++ y)) else none
  | _ => none
noncomputable def binL (x y : List D) : Operator → Option D
  | .Add => if x.length + y.length ≤ bigL then some (.list (x ++ y)) else none
  | _ => none
noncomputable def binD (op : Operator) (x y : D) : Option D := match x with
  | .int a => (match y with | .int b => binI op a b | _ => none)
  | .str a => (match y with | .str b => binS a b op | _ => none)
  | .list a => (match y with | .list b => binL a b op | _ => none)
  | _ => none

section
variable {w : World} {A : Around} {hb h : Heap}

theorem has_list_push {hb h : Heap} {vs : List Value} {ds : List D} (x : Ext hb h) (al : HasL hb vs ds) :
    Has (frz hb h (h.push { cls := .type "list", data := .seq vs.toArray })) (.ref h.objs.size) (.list ds) :=
  .list (frz_push rfl) al.1 fun i v d a b => (al.2 i v d a b).mono (step_frz x (.push _)).fz
theorem has_tup_push {hb h : Heap} {vs : List Value} {ds : List D} (x : Ext hb h) (al : HasL hb vs ds) :
    Has (frz hb h (h.push { cls := .type "tuple", data := .seq vs.toArray })) (.ref h.objs.size) (.tup ds) :=
  .tup (frz_push rfl) al.1 fun i v d a b => (al.2 i v d a b).mono (step_frz x (.push _)).fz

/-- a run that pushes one object and hands on its reference -/
theorem Tri.made {t : Sem Value} {o : Obj} {P : Value → Heap → Prop} (hx : Ext hb h) (p : P (.ref h.objs.size) (frz hb h (h.push o)))
    (x : ∀ (s : Shared) (Q : Value → Shared → Prop) (E : Value → Shared → Prop), s.heap = h → (∀ tk, Q (.ref h.objs.size) { s with heap := h.push o, toks := tk }) → wpAny (model PW w) A t Q E s) : Tri w A t hb h P :=
  fun s Q E e k => x s Q E e fun tk => by subst e; exact k _ _ _ tk (step_frz hx (.push o)) p

theorem Has.int_inv {h : Heap} {v : Value} {i : Int} (x : Has h v (.int i)) : ∃ t, v = .int i t := by cases x; exact ⟨_, rfl⟩
theorem Has.str_inv {h : Heap} {v : Value} {i : Str} (x : Has h v (.str i)) : ∃ t, v = .str i t := by cases x; exact ⟨_, rfl⟩
theorem Has.bool_inv {h : Heap} {v : Value} {i : Bool} (x : Has h v (.bool i)) : v = .bool i := by cases x; rfl
theorem Has.list_inv {h : Heap} {v : Value} {ds : List D} (x : Has h v (.list ds)) : ∃ a vs n, v = .ref a ∧ h.get? a = some { cls := .type "list", data := .seq vs.toArray n } ∧ HasL h vs ds := by
  cases x with | list e l al => exact ⟨_, _, _, rfl, e, l, al⟩
theorem Has.tup_inv {h : Heap} {v : Value} {ds : List D} (x : Has h v (.tup ds)) : ∃ a vs n, v = .ref a ∧ h.get? a = some { cls := .type "tuple", data := .seq vs.toArray n } ∧ HasL h vs ds := by
  cases x with | tup e l al => exact ⟨_, _, _, rfl, e, l, al⟩

theorem intMulOk_small {a b : Int} (h : a.natAbs < 2 ^ 60) : IntMulOk a b := by
  refine IntMulOk.of_left ?_
  unfold Builtin.Int.intBits
  split
  · omega
  · rename_i q
    have : a.natAbs ≠ 0 := by intro e; apply q; simp; omega
    have := (Nat.log2_lt this).mpr h
    omega
theorem intBits_small {a : Int} (h : a.natAbs < 16) : Builtin.Int.intBits a ≤ 4 := by
  unfold Builtin.Int.intBits
  split
  · omega
  · rename_i q
    have : a.natAbs ≠ 0 := by intro e; apply q; simp; omega
    have := (Nat.log2_lt (k := 4) this).mpr h
    omega
theorem HasL.append {h : Heap} : ∀ {vs : List Value} {ds : List D} {us : List Value} {es : List D}, HasL h vs ds → HasL h us es → HasL h (vs ++ us) (ds ++ es) := by
  intro vs ds us es a b
  refine ⟨by simp [a.1, b.1], fun i v d hv hd => ?_⟩
  by_cases q : i < vs.length
  · rw [List.getElem?_append_left q] at hv
    rw [List.getElem?_append_left (a.1 ▸ q)] at hd
    exact a.2 i v d hv hd
  · rw [List.getElem?_append_right (by omega)] at hv
    rw [List.getElem?_append_right (by have := a.1; omega)] at hd
    rw [a.1] at hv
    exact b.2 _ v d hv hd

theorem bin_int {op : Operator} {a b : Int} {t u : Tok} {d : D} (e : binI op a b = some d) (hx : Ext hb h) :
    Tri w A (binaryOp op (.int a t) (.int b u)) hb h fun v hb' => Has hb' v d := by
  unfold binI at e
  split at e
  · cases e
    intro s Q E e k; exact P.add_int (k _ hb s.heap _ (e ▸ .refl (e ▸ hx)) (.int _ _))
  · cases e
    intro s Q E e k; exact P.sub_int (k _ hb s.heap _ (e ▸ .refl (e ▸ hx)) (.int _ _))
  · split at e
    · rename_i q; cases e
      intro s Q E e k; exact P.mul_int (k _ hb s.heap _ (e ▸ .refl (e ▸ hx)) (.int _ _)) (intMulOk_small q)
    · cases e
  · split at e
    · cases e
    · rename_i q; cases e
      intro s Q E e k; exact floordiv_int (by omega) (k _ hb s.heap _ (e ▸ .refl (e ▸ hx)) (.int _ _)) (.inl (PyProof.noPylong_small (by omega)))
  · split at e
    · cases e
    · rename_i q; cases e
      intro s Q E e k; exact mod_int' (by omega) (k _ hb s.heap _ (e ▸ .refl (e ▸ hx)) (.int _ _))
  · split at e
    · rename_i q; cases e
      intro s Q E e k
      refine pow_int q.2.1 ?_ (k _ hb s.heap _ (e ▸ .refl (e ▸ hx)) (.int _ _))
      have h1 := intBits_small q.1
      have h2 : ((Builtin.Int.intBits a : Nat) : Int) * b ≤ 4 * 64 := Int.mul_le_mul (by omega) q.2.2 q.2.1 (by decide)
      have h3 : (4 * 64 : Int) ≤ 2 ^ 27 := by decide
      omega
    · cases e
  · cases e
theorem bin_ok {op : Operator} {a b : Value} {x y d : D} (e : binD op x y = some d) (hx : Ext hb h) (ha : Has hb a x) (hc : Has hb b y) :
    Tri w A (binaryOp op a b) hb h fun v hb' => Has hb' v d := by
  unfold binD at e
  split at e
  · split at e
    · obtain ⟨t, rfl⟩ := ha.int_inv; obtain ⟨u, rfl⟩ := hc.int_inv
      exact bin_int e hx
    · cases e
  · split at e
    · unfold binS at e
      split at e
      · split at e
        · rename_i q; cases e; obtain ⟨t, rfl⟩ := ha.str_inv; obtain ⟨u, rfl⟩ := hc.str_inv
          intro s Q E e k; exact PyProof.Rows.add_str (fun t' tk => k _ hb s.heap _ (e ▸ .refl (e ▸ hx)) (.str _ _)) (Nat.le_trans q bigL_le)
        · cases e
      · cases e
    · cases e
  · split at e
    · unfold binL at e
      split at e
      · split at e
        · rename_i q; cases e
          obtain ⟨a1, vs, n, rfl, e1, l1⟩ := ha.list_inv
          obtain ⟨a2, us, n2, rfl, e2, l2⟩ := hc.list_inv
          refine Tri.made (o := { cls := .type "list", data := .seq (vs ++ us).toArray }) hx (has_list_push hx (l1.append l2)) fun s Q E e k => ?_
          subst e
          refine P.add_list (hx _ _ e1) (hx _ _ e2) ?_ ?_
          · simpa using k _
          · have := l1.1; have := l2.1; simp only [List.size_toArray]; have := bigL_le; omega
        · cases e
      · cases e
    · cases e
  · cases e

/-- comparisons of flat data -/
noncomputable def cmpI : CmpOp → Int → Int → Option Bool
  | .Eq, a, b => some (a == b)
  | .NotEq, a, b => some (a != b)
  | .Lt, a, b => some (decide (a < b))
  | .LtE, a, b => some (decide (a ≤ b))
  | .Gt, a, b => some (decide (a > b))
  | .GtE, a, b => some (decide (a ≥ b))
  | _, _, _ => none
noncomputable def cmpS (x y : Str) : CmpOp → Option Bool
  | .Eq => some (x == y)
  | .NotEq => some (x != y)
  | _ => none
noncomputable def isNo : D → Option Bool
  | .none => some true
  | .int _ | .str _ | .list _ | .bool _ | .adr _ | .lam => some false
  | _ => none
noncomputable def isntNo : D → Option Bool
  | .none => some false
  | .int _ | .str _ | .list _ | .bool _ | .adr _ | .lam => some true
  | _ => none
noncomputable def cmpN (x : D) : CmpOp → Option Bool
  | .Is => isNo x
  | .IsNot => isntNo x
  | _ => none
noncomputable def cmpD (op : CmpOp) (x y : D) : Option Bool := match y with
  | .int b => (match x with | .int a => cmpI op a b | _ => none)
  | .str b => (match x with | .str a => cmpS a b op | _ => none)
  | .none => cmpN x op
  | _ => none
theorem cmp_int {op : CmpOp} {a b : Int} {t u : Tok} {r : Bool} (e : cmpI op a b = some r) (hx : Ext hb h) :
    Tri w A (compareOp op (.int a t) (.int b u)) hb h fun v _ => v = .bool r := by
  unfold cmpI at e
  split at e
  · cases e
    intro s Q E e k; exact P.eq_int (k _ hb s.heap s.toks (e ▸ .refl (e ▸ hx)) rfl)
  · cases e
    intro s Q E e k; exact P.ne_int (k _ hb s.heap s.toks (e ▸ .refl (e ▸ hx)) rfl)
  · cases e
    intro s Q E e k; exact P.lt_int (k _ hb s.heap s.toks (e ▸ .refl (e ▸ hx)) rfl)
  · cases e
    intro s Q E e k; exact P.le_int (k _ hb s.heap s.toks (e ▸ .refl (e ▸ hx)) rfl)
  · cases e
    intro s Q E e k; exact P.gt_int (k _ hb s.heap s.toks (e ▸ .refl (e ▸ hx)) rfl)
  · cases e
    intro s Q E e k; exact P.ge_int (k _ hb s.heap s.toks (e ▸ .refl (e ▸ hx)) rfl)
  · cases e
theorem no_is {h : Heap} {a : Value} {x : D} {r : Bool} (ha : Has h a x) (e : isNo x = some r) : (a == Value.none) = r := by
  cases ha <;> cases e <;> rfl
theorem no_isnt {h : Heap} {a : Value} {x : D} {r : Bool} (ha : Has h a x) (e : isntNo x = some r) : (!(a == Value.none)) = r := by
  cases ha <;> cases e <;> rfl
theorem cmp_ok {op : CmpOp} {a b : Value} {x y : D} {r : Bool} (e : cmpD op x y = some r) (hx : Ext hb h) (ha : Has hb a x) (hc : Has hb b y) :
    Tri w A (compareOp op a b) hb h fun v _ => v = .bool r := by
  unfold cmpD at e
  split at e
  · split at e
    · obtain ⟨t, rfl⟩ := ha.int_inv; obtain ⟨u, rfl⟩ := hc.int_inv
      exact cmp_int e hx
    · cases e
  · split at e
    · obtain ⟨t, rfl⟩ := ha.str_inv; obtain ⟨u, rfl⟩ := hc.str_inv
      unfold cmpS at e
      split at e
      · cases e
        intro s Q E e k; exact PyProof.Rows.eq_str (k _ hb s.heap s.toks (e ▸ .refl (e ▸ hx)) rfl)
      · cases e
        intro s Q E e k; exact PyProof.Rows.ne_str (k _ hb s.heap s.toks (e ▸ .refl (e ▸ hx)) rfl)
      · cases e
    · cases e
  · cases hc
    unfold cmpN at e
    split at e
    · intro s Q E e' k
      exact is_none (k _ hb s.heap s.toks (e' ▸ .refl (e' ▸ hx)) (congrArg Value.bool (no_is ha e)))
    · intro s Q E e' k
      exact isNot_none (k _ hb s.heap s.toks (e' ▸ .refl (e' ▸ hx)) (congrArg Value.bool (no_isnt ha e)))
    · cases e
  · cases e
theorem truthy_ok {b : Bool} (hx : Ext hb h) : Tri w A (truthy (.bool b)) hb h fun r _ => r = b :=
  fun s Q E e k => wpAny_truthy_bool (k b hb s.heap s.toks (e ▸ .refl (e ▸ hx)) rfl)
end
end
-- part A3
section
open PySem PySem.W PyProof.Rows PySem.Calls


/-- what the top left: written objects, names -/
structure Gd (w : World) (h : Heap) : Prop where
  k : (KF w.params).In h
  nolimit : h.NoLimit
  g : ∃ mg, h.Ns mainGlobals mg
  b : ∃ mb, h.Ns builtinsNs mb ∧ ∀ x : Str, x ≠ "__name__" → mb x = bootBuiltins x
  bm : ∃ o, h.get? 4 = some o ∧ o.cls = .type "module" ∧ o.dict = some builtinsNs ∧ o.data = .plain
theorem Gd.mono {w : World} {h h' : Heap} (x : Gd w h) (k : Ext h h') : Gd w h' :=
  ⟨x.k.keeps k, x.nolimit.keeps k, let ⟨m, a⟩ := x.g; ⟨m, a.keeps k⟩, let ⟨m, a, b⟩ := x.b; ⟨m, a.keeps k, b⟩, let ⟨o, a, b⟩ := x.bm; ⟨o, k _ _ a, b⟩⟩

/-- the name x of the block env reads as v -/
noncomputable def Rd (env : Env) (h : Heap) (x : Str) (v : Value) : Prop :=
  (env.kindOf x = some .local ∧ ∃ m, h.Ns env.locals m ∧ m x = some v) ∨
  ((env.kindOf x = some .cell ∨ env.kindOf x = some .free) ∧ ∃ c, env.cells.lookup x = some c ∧ h.IsCell c (some v))
theorem Rd.mono {env : Env} {h h' : Heap} {x : Str} {v : Value} (r : Rd env h x v) (k : Ext h h') : Rd env h' x v := by
  rcases r with ⟨a, m, n, e⟩ | ⟨a, c, l, n⟩
  · exact .inl ⟨a, m, n.keeps k, e⟩
  · exact .inr ⟨a, c, l, n.keeps k⟩

noncomputable abbrev Dm := List (Str × D)
/-- the one def in which lambdas stand -/
noncomputable def isAsked (sc : Scope) : Bool := sc.names.lookup ("common" : Str) == some .local
noncomputable def qualA : Str := "_law_asked.<locals>."
/-- env is an env of the block with scope sc -/
structure EnvOk (sc : Scope) (env : Env) : Prop where
  kind : env.scope.kind = .function
  glob : env.globals = mainGlobals
  blt : env.builtins = builtinsNs
  gk : ∀ x, sc.names.lookup x = some .globalImplicit → env.kindOf x = some .globalImplicit
  lk : ∀ x, sc.names.lookup x = some .local → env.kindOf x = some .local
  ck : ∀ x, sc.names.lookup x = some .cell → env.kindOf x = some .cell
  fk : ∀ x, sc.names.lookup x = some .free → env.kindOf x = some .cell ∨ env.kindOf x = some .free
  cd : ∀ x, sc.names.lookup x = some .cell ∨ sc.names.lookup x = some .free → ∃ c, env.cells.lookup x = some c
  inj : ∀ x y c, env.cells.lookup x = some c → env.cells.lookup y = some c → x = y
  asked : isAsked sc = true → env.code = .ref 218 ∧ env.qual = qualA
structure Rds (sc : Scope) (env : Env) (δ : Dm) (hb h : Heap) : Prop where
  ok : EnvOk sc env
  rd : ∀ x d, δ.lookup x = some d → ∃ v, Rd env h x v ∧ Has hb v d
  cl : ∀ x c, env.cells.lookup x = some c → h.get? c ≠ none
theorem Rds.mono {sc : Scope} {env : Env} {δ : Dm} {hb h hb' h' : Heap} (r : Rds sc env δ hb h) (k : Ext h h') (kb : Ext hb hb') : Rds sc env δ hb' h' :=
  ⟨r.ok, fun x d e => let ⟨v, a, b⟩ := r.rd x d e; ⟨v, a.mono k, b.mono kb⟩, fun x c e q => by
    cases e' : h.get? c with
    | none => exact r.cl x c e e'
    | some o => rw [k c o e'] at q; cases q⟩

structure Ctx (w : World) (sc : Scope) (env : Env) (δ : Dm) (hb h : Heap) : Prop where
  gd : Gd w hb
  sub : Ext hb h
  rds : Rds sc env δ hb h
theorem Ctx.step {w : World} {sc : Scope} {env : Env} {δ : Dm} {hb h hb' h' : Heap} (c : Ctx w sc env δ hb h) (s : Step hb h hb' h') : Ctx w sc env δ hb' h' :=
  ⟨c.gd.mono s.fz, s.inn, c.rds.mono s.ext s.fz⟩

/-- the room around a block -/
structure OkA (κ : Nat) (A : Around) : Prop where
  hd : A.handled = none
  dep : A.depth + κ < 900
  un : A.units + 8 * κ + 200 < cLine
theorem OkA.deeper {κ : Nat} {A : Around} (x : OkA (κ + 1) A) (env : Env) : OkA κ (A.deeper env) := by
  obtain ⟨a, b, c⟩ := x
  exact ⟨a, by show A.depth + 1 + κ < 900; omega, by show A.units + 3 + 8 * κ + 200 < cLine; omega⟩

noncomputable def plainName (x : Str) : Bool := x != ("__debug__" : Str) && x != ("__classdict__" : Str)

section
variable {w : World} {A : Around} {hb h : Heap} {sc : Scope} {env : Env} {δ : Dm}

theorem name_ok {x : Str} {pos : Pos} {d : D} (c : Ctx w sc env δ hb h) (p : plainName x = true) (e : δ.lookup x = some d) :
    Tri w A (eval (.Name x pos) env) hb h fun v hb' => Has hb' v d := by
  obtain ⟨v, r, hv⟩ := c.rds.rd x d e
  obtain ⟨p1, p2⟩ := Bool.and_eq_true_iff.mp p
  have p1' : (x == ("__debug__" : Str)) = false := by simpa [bne] using p1
  have p2' : (x == ("__classdict__" : Str)) = false := by simpa [bne] using p2
  intro s Q E e k
  subst e
  have q := k v hb s.heap s.toks (.refl c.sub) hv
  rcases r with ⟨a, m, n, e⟩ | ⟨a | a, cc, l, n⟩
  · exact wpAny_Name (wpAny_loadName_local c.rds.ok.kind a n e q) p1'
  · exact wpAny_Name (wpAny_loadName_cell c.rds.ok.kind a l n q) p1'
  · exact wpAny_Name (wpAny_loadName_free c.rds.ok.kind a l n q p2') p1'

theorem glob_ok {x : Str} {pos : Pos} {v : Value} (c : Ctx w sc env δ hb h) (p : plainName x = true) (g : sc.names.lookup x = some .globalImplicit)
    (e : nsIn (KF w.params) mainGlobals x = some (some v)) : Tri w A (eval (.Name x pos) env) hb h fun r _ => r = v := by
  obtain ⟨p1, p2⟩ := Bool.and_eq_true_iff.mp p
  have p1' : (x == ("__debug__" : Str)) = false := by simpa [bne] using p1
  obtain ⟨mg, hm⟩ := c.gd.g
  intro s Q E e' k
  subst e'
  exact Name_function_global c.rds.ok.kind (c.rds.ok.gk x g) (loadGlobal_global (by rw [c.rds.ok.glob]; exact hm.keeps c.sub) (mg_of c.gd.k hm e) (k v hb s.heap s.toks (.refl c.sub) rfl)) p1'
theorem blt_ok {x : Str} {pos : Pos} {v : Value} (c : Ctx w sc env δ hb h) (p : plainName x = true) (g : sc.names.lookup x = some .globalImplicit)
    (e : nsIn (KF w.params) mainGlobals x = some none) (hn : x ≠ "__name__") (ev : bootBuiltins x = some v) : Tri w A (eval (.Name x pos) env) hb h fun r _ => r = v := by
  obtain ⟨p1, p2⟩ := Bool.and_eq_true_iff.mp p
  have p1' : (x == ("__debug__" : Str)) = false := by simpa [bne] using p1
  obtain ⟨mg, hm⟩ := c.gd.g
  obtain ⟨mb, hB, eB⟩ := c.gd.b
  intro s Q E e' k
  subst e'
  exact Name_function_global c.rds.ok.kind (c.rds.ok.gk x g) (loadGlobal_builtin (by rw [c.rds.ok.glob]; exact hm.keeps c.sub) (mg_none_of c.gd.k hm e) (by rw [c.rds.ok.blt]; exact hB.keeps c.sub) ((eB x hn).trans ev) (k v hb s.heap s.toks (.refl c.sub) rfl)) p1'

/-! lists of expressions, calls -/
noncomputable def notStar : Expr → Bool
  | .Starred .. => false
  | _ => true
theorem starEach_cons {e : Expr} {r : List Expr} (x : notStar e = true) : starEach (e :: r) env = (false, eval e env) :: starEach r env := by
  cases e <;> first | rfl | cases x
theorem any_star {pos : Pos} : ∀ {es : List Expr}, es.all notStar = true → (backTo pos (starEach es env)).any (·.1) = false
  | [], _ => rfl
  | e :: r, x => by
    obtain ⟨a, b⟩ := Bool.and_eq_true_iff.mp (by simpa using x : (notStar e && r.all notStar) = true)
    rw [starEach_cons a]
    show (false || (backTo pos (starEach r env)).any (·.1)) = false
    rw [any_star b]; rfl

/-- e, run from any point of a block, gives d -/
structure Evs (w : World) (A : Around) (sc : Scope) (δ : Dm) (e : Expr) (d : D) : Prop where
  run : ∀ env hb h, Ctx w sc env δ hb h → Tri w A (eval e env) hb h fun v hb' => Has hb' v d
inductive EvsL (w : World) (A : Around) (sc : Scope) (δ : Dm) : List Expr → List D → Prop
  | nil : EvsL w A sc δ [] []
  | cons {e d es ds} : notStar e = true → Evs w A sc δ e d → EvsL w A sc δ es ds → EvsL w A sc δ (e :: es) (d :: ds)
theorem EvsL.stars {es : List Expr} {ds : List D} (x : EvsL w A sc δ es ds) : es.all notStar = true := by
  induction x with
  | nil => rfl
  | cons a _ _ ih => simp [a, ih]
theorem spliced_ok {pos : Pos} : ∀ {es : List Expr} {ds : List D} {hb h : Heap}, EvsL w A sc δ es ds → Ctx w sc env δ hb h →
    Tri w A (spliced (backTo pos (starEach es env))) hb h fun vs hb' => HasL hb' vs ds := by
  intro es ds hb h x
  induction x generalizing hb h with
  | nil => intro c; exact Tri.pure c.sub HasL.nil
  | cons a b _ ih =>
    intro c s Q E e k
    refine wpAny_items_cons ?_ (starEach_cons a)
    refine b.run env hb h c s _ E e fun v hb1 h1 tk st hv => ?_
    refine ih (c.step st) _ _ E rfl fun vs hb2 h2 tk2 st2 hvs => ?_
    exact k _ hb2 h2 tk2 (st.trans st2) (.cons (hv.mono st2.fz) hvs)
theorem evalArgs_ok {pos : Pos} {f : Value} {es : List Expr} {ds : List D} (x : EvsL w A sc δ es ds) (c : Ctx w sc env δ hb h) :
    Tri w A (evalArgs f true (backTo pos (starEach es env)) []) hb h fun a hb' => a.kw = [] ∧ HasL hb' a.pos ds := by
  intro s Q E e k
  cases x with
  | nil => exact PyProof.Rows.evalArgs_none (k _ hb s.heap s.toks (by subst e; exact .refl c.sub) ⟨rfl, .nil⟩)
  | cons a b d =>
    have := spliced_ok (pos := pos) (.cons a b d) c
    rw [starEach_cons a] at this ⊢
    exact Calls.evalArgs_plain (this s _ E e fun vs hb' h' tk st hv => k _ hb' h' tk st ⟨rfl, hv⟩)
end
end
-- part A4
section
open PySem PySem.W PyProof.Rows PySem.Calls

/-! built-in calls on data -/
noncomputable def callB (f : String) (ds : List D) : Option D :=
  if f = "len" then (match ds with | [.list l] => if l.length ≤ bigL then some (.int l.length) else none | [.tup l] => if l.length ≤ bigL then some (.int l.length) else none | _ => none)
  else if f = "ord" then (match ds with | [.str x] => if x.length = 1 then some (.int (x.cps.getD 0 0 : Nat)) else none | _ => none)
  else if f = "chr" then (match ds with | [.int i] => if 0 ≤ i ∧ i ≤ 1114111 then some (.str ⟨#[i.toNat]⟩) else none | _ => none)
  else if f = "isinstance" then (match ds with | [.bool _, .ty T] => if T = "bool" then some (.bool true) else none | _ => none)
  else if f = "max" then (match ds with | [.int a, .int b] => some (.int (if b > a then b else a)) | _ => none)
  else none

section
variable {w : World} {A : Around} {hb h : Heap} {sc : Scope} {env : Env} {δ : Dm}

theorem callB_ok {κ : Nat} {f : String} {vs : List Value} {ds : List D} {d : D} (hA : OkA κ A) (e : callB f ds = some d) (hx : Ext hb h) (hv : HasL hb vs ds) :
    Tri w A (call (.builtin f) vs []) hb h fun v hb' => Has hb' v d := by
  unfold callB at e
  split at e
  · rename_i q; subst q
    split at e
    · split at e
      · cases e
        rename_i l _ hl
        obtain ⟨n, a⟩ := hv
        match vs, n with
        | [v], _ =>
        obtain ⟨p, us, k, rfl, e1, l1⟩ := (a 0 v _ rfl rfl).list_inv
        intro s Q E e k
        subst e
        refine len_list (items := us.toArray) ⟨_, hx _ _ e1, rfl, _, rfl⟩ ?_ (k _ hb s.heap _ (.refl hx) ?_)
        · have := l1.1; simp only [List.size_toArray]; have : bigL = 100000 := rfl; omega
        · simp only [List.size_toArray]; rw [l1.1]; exact .int _ _
      · cases e
    · split at e
      · cases e
        rename_i l _ hl
        obtain ⟨n, a⟩ := hv
        match vs, n with
        | [v], _ =>
        obtain ⟨p, us, k, rfl, e1, l1⟩ := (a 0 v _ rfl rfl).tup_inv
        intro s Q E e k
        subst e
        refine len_tuple (items := us.toArray) ⟨_, hx _ _ e1, rfl, _, rfl⟩ ?_ (k _ hb s.heap _ (.refl hx) ?_)
        · have := l1.1; simp only [List.size_toArray]; have : bigL = 100000 := rfl; omega
        · simp only [List.size_toArray]; rw [l1.1]; exact .int _ _
      · cases e
    · cases e
  split at e
  · rename_i _ q; subst q
    split at e
    · split at e
      · cases e
        rename_i x hl
        obtain ⟨n, a⟩ := hv
        match vs, n with
        | [v], _ =>
        obtain ⟨t, rfl⟩ := (a 0 v _ rfl rfl).str_inv
        intro s Q E e k
        subst e
        exact ord_of_one hl (k _ hb s.heap _ (.refl hx) (.int _ _))
      · cases e
    · cases e
  split at e
  · rename_i _ _ q; subst q
    split at e
    · split at e
      · cases e
        rename_i x hl
        obtain ⟨n, a⟩ := hv
        match vs, n with
        | [v], _ =>
        obtain ⟨t, rfl⟩ := (a 0 v _ rfl rfl).int_inv
        intro s Q E e k
        subst e
        exact chr_of_range hl.1 hl.2 (k _ hb s.heap _ (.refl hx) (.str _ _))
      · cases e
    · cases e
  split at e
  · rename_i _ _ _ q; subst q
    split at e
    · split at e
      · rename_i q; subst q
        cases e
        obtain ⟨n, a⟩ := hv
        match vs, n with
        | [v, u], _ =>
        have h1 := (a 0 v _ rfl rfl).bool_inv
        subst h1
        cases a 1 u _ rfl rfl
        intro s Q E e k
        subst e
        exact PySem.IsiPair.bool_bool (k _ hb s.heap s.toks (.refl hx) (.bool _))
      · cases e
    · cases e
  split at e
  · rename_i _ _ _ _ q; subst q
    split at e
    · cases e
      rename_i x y
      obtain ⟨n, a⟩ := hv
      match vs, n with
      | [v, u], _ =>
      obtain ⟨t, rfl⟩ := (a 0 v _ rfl rfl).int_inv
      obtain ⟨t2, rfl⟩ := (a 1 u _ rfl rfl).int_inv
      intro s Q E e k
      subst e
      refine max_two_ints hA.hd fun h' tk hk => k _ (frz hb s.heap h') h' tk (step_frz hx hk) ?_
      split <;> exact .int _ _
    · cases e
  · cases e

/-! items and slices -/
noncomputable def itemD : D → D → Option D
  | .list l, .int k => if 0 ≤ k then (if k < bigL then l[k.toNat]? else none) else if -(l.length : Int) ≤ k ∧ l.length ≤ bigL then l[(k + l.length).toNat]? else none
  | .tup l, .int k => if 0 ≤ k ∧ k < bigL then l[k.toNat]? else none
  | .str x, .int k => if 0 ≤ k ∧ k < x.length ∧ x.length ≤ bigL then (x.cps[k.toNat]?).map fun c => .str ⟨#[c]⟩ else none
  | _, _ => none
theorem HasL.get {h : Heap} {vs : List Value} {ds : List D} (x : HasL h vs ds) {i : Nat} {d : D} (e : ds[i]? = some d) : ∃ v, vs[i]? = some v ∧ Has h v d := by
  have hi : i < vs.length := by rw [x.1]; exact (List.getElem?_eq_some_iff.mp e).1
  exact ⟨vs[i], List.getElem?_eq_getElem hi, x.2 i _ d (List.getElem?_eq_getElem hi) e⟩
theorem getItem_ok {o i : Value} {x y d : D} (e : itemD x y = some d) (hx : Ext hb h) (ho : Has hb o x) (hi : Has hb i y) :
    Tri w A (getItem o i) hb h fun v hb' => Has hb' v d := by
  unfold itemD at e
  split at e
  · obtain ⟨p, us, n, rfl, e1, l1⟩ := ho.list_inv
    obtain ⟨t, rfl⟩ := hi.int_inv
    rename_i l k
    intro s Q E es kk
    subst es
    have hl : s.heap.IsList p us.toArray := ⟨_, hx _ _ e1, rfl, _, rfl⟩
    have hbig : bigL = 100000 := rfl
    split at e
    · split at e
      · rename_i h0 h1
        obtain ⟨v, hv, hd⟩ := l1.get e
        exact wpAny_getItem_list hl h0 (by omega) (by simpa using hv) (kk _ hb s.heap s.toks (.refl hx) hd)
      · cases e
    · split at e
      · rename_i h0 h1
        obtain ⟨v, hv, hd⟩ := l1.get e
        have := l1.1
        exact wpAny_getItem_list_neg hl (by omega) (by simp only [List.size_toArray]; omega) (by omega) (by simp only [List.size_toArray]; rw [this]; simpa using hv) (kk _ hb s.heap s.toks (.refl hx) hd)
      · cases e
  · obtain ⟨p, us, n, rfl, e1, l1⟩ := ho.tup_inv
    obtain ⟨t, rfl⟩ := hi.int_inv
    rename_i l k
    intro s Q E es kk
    subst es
    have hbig : bigL = 100000 := rfl
    split at e
    · rename_i h0
      obtain ⟨v, hv, hd⟩ := l1.get e
      have hlt : k.toNat < us.length := (List.getElem?_eq_some_iff.mp hv).1
      refine getItem_tuple (items := us.toArray) (j := k.toNat) ⟨_, hx _ _ e1, rfl, _, rfl⟩ (by omega) (by omega) ?_ (by simpa using hv) (kk _ hb s.heap s.toks (.refl hx) hd)
      unfold seqIndex?
      have a1 : ¬ k < 0 := by omega
      simp [a1]; omega
    · cases e
  · obtain ⟨t, rfl⟩ := ho.str_inv
    obtain ⟨u, rfl⟩ := hi.int_inv
    rename_i x k
    split at e
    · rename_i h0
      obtain ⟨c, hc, rfl⟩ := Option.map_eq_some_iff.mp e
      intro s Q E es kk
      subst es
      have hbig : bigL = 100000 := rfl
      refine P.getItem_str ?_ ?_ (kk _ hb s.heap _ (.refl hx) (.str _ _))
      · have a1 : ¬ k < -(2 ^ 63 : Int) := by omega
        have a2 : ¬ k ≥ 2 ^ 63 := by omega
        rw [decide_eq_false a1, decide_eq_false a2]; rfl
      · have : seqIndex? k x.length = some k.toNat := by
          unfold seqIndex?
          have a1 : ¬ k < 0 := by omega
          simp [a1]; omega
        rw [this]; exact hc
    · cases e
  · cases e
theorem has_type {o : Value} {x y d : D} (e : itemD x y = some d) (ho : Has hb o x) (hx : Ext hb h) : ∃ T id, typeLookup (.type T) "__getitem__" = pure (some (.builtin id)) ∧ ∀ s : Shared, s.heap = h → s.TypeIs o T := by
  unfold itemD at e
  split at e
  · obtain ⟨p, us, n, rfl, e1, l1⟩ := ho.list_inv
    exact ⟨"list", _, slot_list_getitem.lookup, fun s es => ⟨_, by rw [es]; exact hx _ _ e1, rfl⟩⟩
  · obtain ⟨p, us, n, rfl, e1, l1⟩ := ho.tup_inv
    exact ⟨"tuple", _, slot_tuple_getitem.lookup, fun s es => ⟨_, by rw [es]; exact hx _ _ e1, rfl⟩⟩
  · obtain ⟨t, rfl⟩ := ho.str_inv
    exact ⟨"str", _, F.slot_str_getitem.lookup, fun s es => typeIs_str _ _ _⟩
  · cases e
noncomputable def notSlice : Expr → Bool
  | .Slice .. => false
  | _ => true
theorem subscripted_plain {e : Expr} (x : notSlice e = true) (o i : Value) : subscripted e false o i = operate [o, i] (getItem o i) := by
  cases e <;> first | rfl | cases x
theorem tail_ok {value slice : Expr} {o i : Value} {x y d : D} (ns : notSlice slice = true) (e : itemD x y = some d) (hx : Ext hb h) (ho : Has hb o x) (hi : Has hb i y) :
    Tri w A (subscriptTail value slice o i) hb h fun v hb' => Has hb' v d := by
  intro s Q E es k
  obtain ⟨T, id, l, hT⟩ := has_type e ho hx
  exact tail_any (hT s es) l (getItem_ok e hx ho hi s Q E es k) (subscripted_plain ns o i)

noncomputable def sliceL {α : Type} (l : List α) (lo hi st : Option Int) : List α :=
  (sliceRange (sliceBounds lo hi st l.length).1 (sliceBounds lo hi st l.length).2.1 (sliceBounds lo hi st l.length).2.2).filterMap (l[·]?)
theorem HasL.pick {h : Heap} {vs : List Value} {ds : List D} (x : HasL h vs ds) : ∀ R : List Nat, HasL h (R.filterMap (vs[·]?)) (R.filterMap (ds[·]?))
  | [] => .nil
  | i :: R => by
    by_cases hi : i < vs.length
    · have hd : i < ds.length := x.1 ▸ hi
      rw [List.filterMap_cons_some (b := vs[i]) (by exact List.getElem?_eq_getElem hi), List.filterMap_cons_some (b := ds[i]) (by exact List.getElem?_eq_getElem hd)]
      exact .cons (x.2 i _ _ (List.getElem?_eq_getElem hi) (List.getElem?_eq_getElem hd)) (HasL.pick x R)
    · have hd : ¬ i < ds.length := x.1 ▸ hi
      rw [List.filterMap_cons_none (by exact List.getElem?_eq_none (by omega)), List.filterMap_cons_none (by exact List.getElem?_eq_none (by omega))]
      exact HasL.pick x R
theorem isPart_val {v : Value} {p : Option Int} (x : IsPart v p) : ∃ l, v = partValue l ∧ l.map (·.1) = p := by
  cases x with
  | none => exact ⟨none, rfl, rfl⟩
  | int i t => exact ⟨some (i, t), rfl, rfl⟩

/-- methods of texts and lists -/
noncomputable def strsOf : List D → Option (List Str)
  | [] => some []
  | .str x :: r => (strsOf r).map (x :: ·)
  | _ => none
theorem strsOf_vals {h : Heap} : ∀ {ds : List D} {xs : List Str} {vs : List Value}, strsOf ds = some xs → HasL h vs ds → ∃ l : List (Str × Tok), vs = strValues l ∧ l.map (·.1) = xs
  | [], _, vs, e, hv => by
    cases e
    have : vs = [] := List.eq_nil_of_length_eq_zero hv.1
    exact ⟨[], this, rfl⟩
  | .str x :: r, xs, v :: vs, e, hv => by
    obtain ⟨ys, hy, rfl⟩ := Option.map_eq_some_iff.mp e
    obtain ⟨t, rfl⟩ := (hv.2 0 v _ rfl rfl).str_inv
    obtain ⟨l, rfl, hl⟩ := strsOf_vals (vs := vs) hy ⟨by simpa using hv.1, fun i v d a b => hv.2 (i + 1) v d a b⟩
    exact ⟨(x, t) :: l, rfl, by simp [hl]⟩
  | .str x :: r, xs, [], e, hv => by have := hv.1; simp at this
  | .none :: _, _, _, e, _ => by cases e
  | .bool _ :: _, _, _, e, _ => by cases e
  | .int _ :: _, _, _, e, _ => by cases e
  | .list _ :: _, _, _, e, _ => by cases e
  | .tup _ :: _, _, _, e, _ => by cases e
  | .ws .. :: _, _, _, e, _ => by cases e
  | .range .. :: _, _, _, e, _ => by cases e
  | .adr .. :: _, _, _, e, _ => by cases e
  | .ty .. :: _, _, _, e, _ => by cases e
  | .lam :: _, _, _, e, _ => by cases e
noncomputable def isStrIs (x : Str) : D → Bool
  | .str y => y == x
  | _ => false
noncomputable def methB (m : String) (o : D) (ds : List D) : Option D :=
  match o with
  | .str x =>
    if m = "lower" then (match ds with | [] => if Builtin.Str.tooLong (Txt.lower x).length then none else some (.str (Txt.lower x)) | _ => none)
    else if m = "join" then (match ds with | [.list l] => (strsOf l).bind fun xs => if JoinOk x xs then some (.str (Txt.join x xs)) else none | _ => none)
    else none
  | .list l =>
    if m = "count" then (match ds with | [.str x] => (strsOf l).bind fun xs => some (.int (xs.countP (· == x) : Nat)) | _ => none)
    else none
  | _ => none

theorem count_vals (x : Str) (t : Tok) : ∀ (l : List (Str × Tok)) , (strValues l).countP (isStrOf x) = (l.map (·.1)).countP (· == x)
  | [] => rfl
  | (y, u) :: l => by
    show ((Value.str y u) :: strValues l).countP _ = _
    rw [List.countP_cons, List.map_cons, List.countP_cons, count_vals x t l]
    rfl
theorem strsAre_vals : ∀ (l : List (Str × Tok)), StrsAre (strValues l) (l.map (·.1))
  | [] => .nil
  | (x, t) :: l => .cons x t (strsAre_vals l)
theorem HasL.one {h : Heap} {vs : List Value} {d : D} (x : HasL h vs [d]) : ∃ v, vs = [v] ∧ Has h v d := by
  obtain ⟨n, a⟩ := x
  match vs, n with
  | [v], _ => exact ⟨v, rfl, a 0 v d rfl rfl⟩
theorem HasL.none {h : Heap} {vs : List Value} (x : HasL h vs []) : vs = [] := List.eq_nil_of_length_eq_zero x.1

noncomputable def notCall : Expr → Bool
  | .Call .. => false
  | _ => true
theorem attrBase_plain {o : Expr} {n : Str} (x : notCall o = true) : attributeBase o n env (eval o env) = eval o env := by
  cases o <;> first | rfl | cases x

/-- the call of a method of a text or a list -/
theorem methB_ok {m : String} {pos : Pos} {ov : Value} {o : D} {es : List Expr} {ds : List D} {d : D} (c : Ctx w sc env δ hb h) (e : methB m o ds = some d) (ho : Has hb ov o) (x : EvsL w A sc δ es ds)
    (s : Shared) (Q : Value → Shared → Prop) (E : Value → Shared → Prop) (es' : s.heap = h)
    (k : ∀ r hb' h' tk, Step hb h hb' h' → Has hb' r d → Q r { s with heap := h', toks := tk }) : MethodOn PW w A (Str.ofString m) pos ov (backTo pos (starEach es env)) Q E s := by
  unfold methB at e
  split at e
  · rename_i x'
    obtain ⟨t, rfl⟩ := ho.str_inv
    split at e
    · rename_i q; subst q
      split at e
      · split at e
        · cases e
        · rename_i hl
          cases e
          refine ⟨"str", _, F.plainAttrs_str, F.slot_str_lower, F.type_str_lower, typeIs_str _ _ _, fun a e => (nomatch e), ?_⟩
          refine callWith_builtin (any_star x.stars) (evalArgs_ok x c s _ E es' fun a hb' h' tk st ha => ?_)
          obtain ⟨a1, a2⟩ := ha
          rw [a1, a2.none]
          exact SC.lower (by simpa using hl) (k _ hb' h' _ st (.str _ _))
      · cases e
    · split at e
      · rename_i q; subst q
        split at e
        · obtain ⟨xs, hxs, e⟩ := Option.bind_eq_some_iff.mp e
          split at e
          · rename_i hj
            cases e
            refine ⟨"str", _, F.plainAttrs_str, F.slot_str_join, F.type_str_join, typeIs_str _ _ _, fun a e => (nomatch e), ?_⟩
            refine callWith_builtin (any_star x.stars) (evalArgs_ok x c s _ E es' fun a hb' h' tk st ha => ?_)
            obtain ⟨a1, a2⟩ := ha
            obtain ⟨v, hv, hv2⟩ := a2.one
            obtain ⟨p, us, n, rfl, e1, l1⟩ := hv2.list_inv
            obtain ⟨l, rfl, hl⟩ := strsOf_vals hxs l1
            rw [a1, hv]
            exact SC.join (D := p) (l := l) ⟨_, st.inn _ _ e1, rfl, _, rfl⟩ hl hj fun t' k' => k _ hb' h' _ st (.str _ _)
          · cases e
        · cases e
      · cases e
  · rename_i l
    obtain ⟨p, us, n, rfl, e1, l1⟩ := ho.list_inv
    split at e
    · rename_i q; subst q
      split at e
      · obtain ⟨xs, hxs, e⟩ := Option.bind_eq_some_iff.mp e
        cases e
        obtain ⟨lt, rfl, hl⟩ := strsOf_vals hxs l1
        refine ⟨"list", _, F.plainAttrs_list, F.slot_list_count, F.type_list_count, ⟨_, by rw [es']; exact c.sub _ _ e1, rfl⟩, fun a e => ?_, ?_⟩
        · cases e; exact ⟨_, by rw [es']; exact c.sub _ _ e1, rfl⟩
        · cases x with
          | cons ns ev tl =>
            cases tl with
            | nil =>
              rw [starEach_cons ns]
              refine P.count_list ?_
              refine wpAny_mono (ev.run env hb h c s _ E es' fun v hb' h' tk st hv => ?_) (fun _ _ q => q) fun _ _ q => q
              obtain ⟨t, rfl⟩ := hv.str_inv
              refine ⟨_, n, isStrOf _, st.ext _ _ (c.sub _ _ e1), fun y hy => eq_isStrOf _ t (strsAre_vals lt) y (by simpa using hy), ?_⟩
              have := k (.int _ tk) hb' h' (tk + 1) st (.int _ _)
              rw [← hl, ← count_vals _ t] at this
              exact this
      · cases e
    · cases e
  · cases e
end
end
-- part A5
section
open PySem PySem.W PyProof.Rows PySem.Calls

/-! the state of a block: its own names, its own lists that change -/
noncomputable def Own (sc : Scope) (env : Env) (a : Addr) : Prop := a = env.locals ∨ ∃ x, sc.names.lookup x = some .cell ∧ env.cells.lookup x = some a
/-- what may change: a list of the block's own; the table of the codes that were made in a def's block -/
inductive Mo where
  | lst (ds : List D)
  | tab
  | ns (x : Addr) (es : List (Str × D))
/-- the entries of an object's dict -/
inductive Ents (hb : Heap) : List DictEntry → List (Str × D) → Prop
  | nil : Ents hb [] []
  | cons {h : Int} {x : Str} {t : Tok} {v : Value} {d : D} {en : List DictEntry} {es : List (Str × D)} : Has hb v d → Ents hb en es → Ents hb (⟨h, .str x t, v⟩ :: en) ((x, d) :: es)
theorem Ents.mono {hb hb' : Heap} {en : List DictEntry} {es : List (Str × D)} (x : Ents hb en es) (k : Ext hb hb') : Ents hb' en es := by
  induction x with
  | nil => exact .nil
  | cons a _ ih => exact .cons (a.mono k) ih
noncomputable abbrev Mu := List (Addr × Mo)
noncomputable def IsL' (hb h : Heap) (a : Addr) (ds : List D) : Prop := ∃ (vs : List Value) (n : Nat), h.get? a = some { cls := .type "list", data := .seq vs.toArray n } ∧ HasL hb vs ds
noncomputable def IsMo (hb h : Heap) (a : Addr) : Mo → Prop
  | .lst ds => IsL' hb h a ds
  | .tab => ∃ ps : Array Value, h.get? a = some (tabObj ps) ∧ TriplesOk ps.toList ∧ ∀ pos cv, codeAmong pos ps.toList = some cv → hb.CodeRec cv lamQ
  | .ns x es => hb.get? x = some (instObj 83 a) ∧ ∃ (en : List DictEntry) (n : Nat), h.get? a = some { cls := .type "dict", data := .dict en.toArray n } ∧ Ents hb en es
structure St (w : World) (sc : Scope) (env : Env) (h0 hb0 : Heap) (δ : Dm) (μ : Mu) (hb h : Heap) : Prop where
  step : Step hb0 h0 hb h
  gd : Gd w hb
  rds : Rds sc env δ hb h
  loc : ∃ m, h.Ns env.locals m
  cell : ∀ x c, sc.names.lookup x = some .cell → env.cells.lookup x = some c → ∃ v, h.IsCell c v
  own : ∀ a, Own sc env a → h0.get? a = none ∧ hb.get? a = none
  mu : ∀ a ds, (a, ds) ∈ μ → ¬ Own sc env a ∧ h0.get? a = none ∧ hb.get? a = none ∧ IsMo hb h a ds
  mud : μ.Pairwise fun x y => x.1 ≠ y.1

theorem Step.mut {hb0 h0 hb h h' : Heap} {M : Addr → Prop} (x : Step hb0 h0 hb h) (k : ∀ b o, ¬ M b → h.get? b = some o → h'.get? b = some o)
    (m : ∀ b, M b → h0.get? b = none ∧ hb.get? b = none) : Step hb0 h0 hb h' :=
  ⟨fun b o e => k b o (fun q => by rw [(m b q).1] at e; cases e) (x.ext b o e), x.fz, fun b o e => k b o (fun q => by rw [(m b q).2] at e; cases e) (x.inn b o e), x.new⟩

section
variable {w : World} {A : Around} {sc : Scope} {env : Env} {h0 hb0 hb h hb' h' : Heap} {δ : Dm} {μ : Mu}

theorem ns_cell {a : Addr} {m : Str → Option Value} {v : Option Value} (x : h.Ns a m) (y : h.IsCell a v) : False := by
  obtain ⟨o, es, ep, e, d, _⟩ := x
  obtain ⟨o', e', d'⟩ := y
  rw [e] at e'; cases e'; rw [d] at d'; cases d'
theorem ns_list {a : Addr} {m : Str → Option Value} {ds : List D} (x : h.Ns a m) (y : IsL' hb h a ds) : False := by
  obtain ⟨o, es, ep, e, d, _⟩ := x
  obtain ⟨vs, n, e', _⟩ := y
  rw [e] at e'; cases e'; cases d
theorem cell_list {a : Addr} {v : Option Value} {ds : List D} (x : h.IsCell a v) (y : IsL' hb h a ds) : False := by
  obtain ⟨o, e, d⟩ := x
  obtain ⟨vs, n, e', _⟩ := y
  rw [e] at e'; cases e'; cases d
theorem IsL'.mono {a : Addr} {ds : List D} (x : IsL' hb h a ds) (k : Ext hb hb') (e : ∀ o, h.get? a = some o → h'.get? a = some o) : IsL' hb' h' a ds :=
  let ⟨vs, n, g, l⟩ := x; ⟨vs, n, e _ g, l.mono k⟩
theorem IsL'.live {a : Addr} {ds : List D} (x : IsL' hb h a ds) : h.get? a ≠ none := by
  obtain ⟨vs, n, e, _⟩ := x; rw [e]; intro q; cases q
theorem cell_mo {a : Addr} {v : Option Value} {o : Mo} (x : h.IsCell a v) (y : IsMo hb h a o) : False := by
  cases o with
  | lst ds => exact cell_list x y
  | tab =>
    obtain ⟨o, e, d⟩ := x
    obtain ⟨ps, e', _⟩ := y
    rw [e] at e'; cases e'; cases d
  | ns x' es =>
    obtain ⟨o, e, d⟩ := x
    obtain ⟨_, en, n, e', _⟩ := y
    rw [e] at e'; cases e'; cases d
theorem IsMo.mono {a : Addr} {o : Mo} (x : IsMo hb h a o) (k : Ext hb hb') (e : ∀ o, h.get? a = some o → h'.get? a = some o) : IsMo hb' h' a o := by
  cases o with
  | lst ds => exact IsL'.mono x k e
  | tab =>
    obtain ⟨ps, g, t, c⟩ := x
    exact ⟨ps, e _ g, t, fun pos cv q => (c pos cv q).keeps k⟩
  | ns x' es =>
    obtain ⟨ex, en, n, g, t⟩ := x
    exact ⟨k _ _ ex, en, n, e _ g, t.mono k⟩
theorem IsMo.live {a : Addr} {o : Mo} (x : IsMo hb h a o) : h.get? a ≠ none := by
  cases o with
  | lst ds => exact IsL'.live x
  | tab => obtain ⟨ps, g, _⟩ := x; rw [g]; intro q; cases q
  | ns x' es => obtain ⟨_, en, n, g, _⟩ := x; rw [g]; intro q; cases q
theorem St.ctx (x : St w sc env h0 hb0 δ μ hb h) : Ctx w sc env δ hb h := ⟨x.gd, x.step.inn, x.rds⟩
theorem St.live (x : St w sc env h0 hb0 δ μ hb h) {a : Addr} (o : Own sc env a) : h.get? a ≠ none := by
  rcases o with rfl | ⟨n, p, q⟩
  · obtain ⟨m, _, _, _, e, _⟩ := x.loc; rw [e]; intro q; cases q
  · obtain ⟨v, o, e, _⟩ := x.cell n a p q; rw [e]; intro q; cases q
theorem Step.out (st : Step hb h hb' h') {a : Addr} (p : hb.get? a = none) (q : h.get? a ≠ none) : hb'.get? a = none := by
  cases e : hb'.get? a with
  | none => rfl
  | some o => rcases st.new a o e with r | r
              · rw [p] at r; cases r
              · exact absurd r q
theorem St.after (x : St w sc env h0 hb0 δ μ hb h) (st : Step hb h hb' h') : St w sc env h0 hb0 δ μ hb' h' :=
  ⟨x.step.trans st, x.gd.mono st.fz, x.rds.mono st.ext st.fz, let ⟨m, n⟩ := x.loc; ⟨m, n.keeps st.ext⟩, fun n c p q => let ⟨v, i⟩ := x.cell n c p q; ⟨v, i.keeps st.ext⟩,
    fun a o => ⟨(x.own a o).1, st.out (x.own a o).2 (x.live o)⟩,
    fun a ds m => let ⟨p, q, r, s⟩ := x.mu a ds m; ⟨p, q, st.out r s.live, s.mono st.fz fun o e => st.ext _ o e⟩, x.mud⟩

/-- the block's own name x takes the value v -/
theorem St.store {x : Str} {v : Value} {d : D} (f : St w sc env h0 hb0 δ μ hb h) (k : sc.names.lookup x = some .local ∨ sc.names.lookup x = some .cell) (hv : Has hb v d)
    (s : Shared) (Q : Unit → Shared → Prop) (E : Value → Shared → Prop) (es : s.heap = h)
    (q : ∀ h' tk, St w sc env h0 hb0 ((x, d) :: δ) μ hb h' → (∀ b o, ¬ Own sc env b → h.get? b = some o → h'.get? b = some o) → Q () { s with heap := h', toks := tk }) :
    wpAny (model PW w) A (storeName env x v) Q E s := by
  subst es
  obtain ⟨m, hm⟩ := f.loc
  -- what is the same for both kinds
  have fin : ∀ (h' : Heap) (a : Addr), Own sc env a → (∀ b o, b ≠ a → s.heap.get? b = some o → h'.get? b = some o) → (∃ m, h'.Ns env.locals m) →
      (∀ y c, sc.names.lookup y = some .cell → env.cells.lookup y = some c → ∃ v, h'.IsCell c v) → Rd env h' x v →
      (∀ y u, y ≠ x → Rd env s.heap y u → Rd env h' y u) → h'.get? a ≠ none → ∀ tk, Q () { s with heap := h', toks := tk } := by
    intro h' a ha keep hl hc hx hy hal tk
    refine q h' tk ?_ fun b o nb e => keep b o (fun q => nb (q ▸ ha)) e
    refine ⟨f.step.mut (M := fun b => b = a) (fun b o n e => keep b o n e) (fun b e => e ▸ f.own a ha), f.gd, ⟨f.rds.ok, ?_, ?_⟩, hl, hc, f.own, ?_, f.mud⟩
    · intro y d' e
      rw [List.lookup_cons] at e
      cases q : y == x with
      | true => rw [q] at e; cases e; rw [beq_iff_eq.mp q]; exact ⟨v, hx, hv⟩
      | false => rw [q] at e; obtain ⟨u, r, hu⟩ := f.rds.rd y d' e; exact ⟨u, hy y u (by simpa using q) r, hu⟩
    · intro y c e q
      by_cases z : c = a
      · exact hal (z ▸ q)
      · cases e' : s.heap.get? c with
        | none => exact f.rds.cl y c e e'
        | some o => rw [keep c o z e'] at q; cases q
    · intro b ds mem
      obtain ⟨p, q, r, t⟩ := f.mu b ds mem
      exact ⟨p, q, r, t.mono (.refl _) fun o e => keep b o (fun z => p (z ▸ ha)) e⟩
  rcases k with k | k
  · refine wpAny_storeName_local (f.rds.ok.lk x k) hm (fun h' hn' hs' => ?_) (by rw [f.rds.ok.kind]; rfl)
    refine fin h' env.locals (.inl rfl) (fun b o n e => hs'.extBut b o n e) ⟨_, hn'⟩ (fun y c p q => ?_) (.inl ⟨f.rds.ok.lk x k, _, hn', by simp⟩) (fun y u ne r => ?_) (by obtain ⟨_, _, _, e, _⟩ := hn'; rw [e]; intro q; cases q) _
    · obtain ⟨u, i⟩ := f.cell y c p q
      exact ⟨u, i.sameBut hs' fun z => ns_cell hm (z ▸ i)⟩
    · rcases r with ⟨a, m2, n2, e2⟩ | ⟨a, c, l, n2⟩
      · refine .inl ⟨a, _, hn', ?_⟩
        rw [if_neg ne, hm.agree n2, e2]
      · exact .inr ⟨a, c, l, n2.sameBut hs' fun z => ns_cell hm (z ▸ n2)⟩
  · obtain ⟨c, hc⟩ := f.rds.ok.cd x (.inl k)
    obtain ⟨v0, i0⟩ := f.cell x c k hc
    refine wpAny_storeName_cell f.rds.ok.kind (f.rds.ok.ck x k) hc i0 fun h' hc' hs' => ?_
    have nl : env.locals ≠ c := fun z => ns_cell hm (z ▸ i0)
    refine fin h' c (.inr ⟨x, k, hc⟩) (fun b o n e => hs'.extBut b o n e) ⟨_, hm.sameBut hs' nl⟩ (fun y c' p q => ?_) (.inr ⟨.inl (f.rds.ok.ck x k), c, hc, hc'⟩) (fun y u ne r => ?_) (by obtain ⟨_, e, _⟩ := hc'; rw [e]; intro q; cases q) _
    · by_cases z : c' = c
      · exact ⟨_, z ▸ hc'⟩
      · obtain ⟨u, i⟩ := f.cell y c' p q
        exact ⟨u, i.sameBut hs' z⟩
    · rcases r with ⟨a, m2, n2, e2⟩ | ⟨a, c', l, n2⟩
      · exact .inl ⟨a, m2, n2.sameBut hs' nl, e2⟩
      · exact .inr ⟨a, c', l, n2.sameBut hs' fun z => ne (f.rds.ok.inj _ _ _ (z ▸ l) hc)⟩

/-! targets -/
noncomputable def own2 (sc : Scope) (x : Str) : Prop := sc.names.lookup x = some .local ∨ sc.names.lookup x = some .cell
inductive Tgt (sc : Scope) : Expr → D → Dm → Prop
  | name {x : Str} {p : Pos} {d : D} : own2 sc x → Tgt sc (.Name x p) d [(x, d)]
  | pair {x y : Str} {p p2 p3 : Pos} {k : Nat} {a b : D} : own2 sc x → own2 sc y → Tgt sc (.Tuple [.Name x p, .Name y p2] k p3) (.tup [a, b]) [(y, b), (x, a)]
theorem assignEach_pair {x y : Str} {p p2 : Pos} : assignEach [.Name x p, .Name y p2] env = [(false, assign (.Name x p) env), (false, assign (.Name y p2) env)] := rfl
theorem HasL.two {vs : List Value} {a b : D} (x : HasL h vs [a, b]) : ∃ u v, vs = [u, v] ∧ Has h u a ∧ Has h v b := by
  obtain ⟨n, f⟩ := x
  match vs, n with
  | [u, v], _ => exact ⟨u, v, rfl, f 0 u a rfl rfl, f 1 v b rfl rfl⟩
theorem wpAny_assignInOrder_two {t1 t2 : Value → Sem Unit} {u v : Value} {s : Shared} {Q : Unit → Shared → Prop} {E : Value → Shared → Prop}
    (k : wpAny (model PW w) A (t1 u) (fun _ s1 => wpAny (model PW w) A (t2 v) (fun _ s2 => Q () s2) E s1) E s) : wpAny (model PW w) A (assignInOrder [t1, t2] [u, v]) Q E s := by
  show wpAny _ _ (holding [v] (t1 u) >>= fun _ => assignInOrder [t2] [v]) _ _ _
  refine wpAny_bind (wpAny_holding (wpAny_mono k (fun _ s1 k1 => ?_) fun _ _ e => e))
  show wpAny _ _ (holding [] (t2 v) >>= fun _ => assignInOrder [] []) _ _ _
  exact wpAny_bind (wpAny_holding (wpAny_mono k1 (fun _ s2 k2 => wpAny_pure k2) fun _ _ e => e))
theorem St.target {κ : Nat} {t : Expr} {v : Value} {d : D} {β : Dm} (hA : OkA κ A) (f : St w sc env h0 hb0 δ μ hb h) (g : Tgt sc t d β) (hv : Has hb v d)
    (s : Shared) (Q : Unit → Shared → Prop) (E : Value → Shared → Prop) (es : s.heap = h)
    (q : ∀ h' tk, St w sc env h0 hb0 (β ++ δ) μ hb h' → (∀ b o, ¬ Own sc env b → h.get? b = some o → h'.get? b = some o) → Q () { s with heap := h', toks := tk }) :
    wpAny (model PW w) A (assign t env v) Q E s := by
  cases g with
  | name k => exact wpAny_assign_Name (f.store k hv s Q E es q)
  | pair k1 k2 =>
    obtain ⟨a, vs, n, rfl, e1, l1⟩ := hv.tup_inv
    obtain ⟨u, v, rfl, hu, hv2⟩ := l1.two
    subst es
    refine wpAny_assign_Tuple hA.hd ⟨_, f.step.inn _ _ e1, rfl, _, rfl⟩ rfl rfl fun h1 he => ?_
    have x1 : Ext s.heap h1 := fun b o e => he b o (Nat.ne_of_lt (Heap.lt_size e)) e
    have f1 := f.after (⟨x1, .refl _, fun b o e => x1 b o (f.step.inn b o e), fun _ _ e => .inl e⟩ : Step hb s.heap hb h1)
    refine wpAny_assignInOrder_two ?_
    refine wpAny_assign_Name (f1.store k1 hu _ _ _ rfl fun h2 tk2 f2 n2 => ?_)
    refine wpAny_assign_Name (f2.store k2 hv2 _ _ _ rfl fun h3 tk3 f3 n3 => ?_)
    exact q h3 tk3 f3 fun b o n e => n3 b o n (n2 b o n (x1 b o e))
end
end
-- part A6
section
open PySem PySem.W PyProof.Rows PySem.Calls

/-! cells of a new block -/
theorem lookup_map {g : Str → NameKind → NameKind} : ∀ (names : List (Str × NameKind)) (x : Str), (names.map fun p => (p.1, g p.1 p.2)).lookup x = (names.lookup x).map (g x)
  | [], _ => rfl
  | (n, k) :: r, x => by
    rw [List.map_cons, List.lookup_cons, List.lookup_cons, lookup_map r x]
    cases q : x == n with
    | true => simp [beq_iff_eq.mp q]
    | false => rfl
theorem relabel_lookup (scope : Scope) (env : Env) (x : Str) : (relabel scope env).names.lookup x =
    (scope.names.lookup x).map fun k => if (k == .free && env.scope.kind == .function && env.kindOf x == some .cell) = true then .cell else k := by
  have : (relabel scope env).names = scope.names.map fun p => (p.1, (fun (n : Str) (k : NameKind) => if (k == NameKind.free && env.scope.kind == .function && env.kindOf n == some .cell) = true then NameKind.cell else k) p.1 p.2) := by
    show scope.names.map _ = _
    refine List.map_congr_left fun p _ => ?_
    obtain ⟨n, k⟩ := p
    show (if _ then _ else _) = _
    by_cases q : (k == NameKind.free && env.scope.kind == .function && env.kindOf n == some .cell) = true
    · rw [if_pos q]; simp only [q, if_true]
    · rw [if_neg q]; simp only [q]; rfl
  rw [this]
  exact lookup_map (g := fun n k => if (k == NameKind.free && env.scope.kind == .function && env.kindOf n == some .cell) = true then NameKind.cell else k) scope.names x

noncomputable def clos (env : Env) : List (Str × NameKind) → List (Str × Addr) → List (Str × Addr)
  | [], acc => acc
  | (n, k) :: r, acc => if k == .free then clos env r ((n, (env.cells.lookup n).getD 0) :: acc) else clos env r acc
theorem clos_ok {env : Env} (f : Str × NameKind → List (Str × Addr) → Sem (ForInStep (List (Str × Addr))))
    (hf : ∀ n k acc, f (n, k) acc = if k == .free then (do let a ← cellOf env n; pure (.yield ((n, a) :: acc))) else pure (.yield acc)) :
    ∀ (names : List (Str × NameKind)) (acc : List (Str × Addr)), (∀ p ∈ names, p.2 = .free → ∃ c, env.cells.lookup p.1 = some c) → forIn names acc f = pure (clos env names acc)
  | [], acc, _ => rfl
  | (n, k) :: r, acc, h => by
    rw [List.forIn_cons, hf]
    have hr : ∀ p ∈ r, p.2 = .free → ∃ c, env.cells.lookup p.1 = some c := fun p m => h p (List.mem_cons_of_mem _ m)
    unfold clos
    split
    · rename_i hk
      obtain ⟨c, hc⟩ := h (n, k) List.mem_cons_self (by simpa using hk)
      have : cellOf env n = pure c := by unfold cellOf; rw [hc]
      rw [this, hc]
      exact clos_ok f hf r _ hr
    · exact clos_ok f hf r _ hr
theorem closureFor_ok {scope : Scope} {env : Env} (h : ∀ p ∈ scope.names, p.2 = .free → ∃ c, env.cells.lookup p.1 = some c) : closureFor scope env = pure (clos env scope.names []) := by
  unfold closureFor
  show (forIn scope.names [] _ >>= fun r => pure r) = _
  rw [clos_ok (env := env) _ (fun n k acc => by cases hk : k == NameKind.free <;> simp [hk]) scope.names [] h]
  rfl
theorem clos_old {env : Env} : ∀ (names : List (Str × NameKind)) (acc : List (Str × Addr)) (x : Str) (c : Addr),
    (∀ p ∈ names, p.2 = .free → ∃ c, env.cells.lookup p.1 = some c) → (∀ y d, acc.lookup y = some d → env.cells.lookup y = some d) → (clos env names acc).lookup x = some c → env.cells.lookup x = some c
  | [], acc, x, c, _, h, e => h x c e
  | (n, k) :: r, acc, x, c, hf, h, e => by
    have hr : ∀ p ∈ r, p.2 = .free → ∃ c, env.cells.lookup p.1 = some c := fun p m => hf p (List.mem_cons_of_mem _ m)
    unfold clos at e
    split at e
    · rename_i hk
      obtain ⟨c', hc⟩ := hf (n, k) List.mem_cons_self (by simpa using hk)
      refine clos_old r _ x c hr (fun y d e => ?_) e
      rw [List.lookup_cons] at e
      cases q : y == n with
      | true => rw [q] at e; cases e; rw [beq_iff_eq.mp q]; simp only at hc; rw [hc]; rfl
      | false => rw [q] at e; exact h y d e
    · exact clos_old r acc x c hr h e
theorem clos_keep {env : Env} : ∀ (names : List (Str × NameKind)) (acc : List (Str × Addr)) (x : Str), (acc.lookup x).isSome = true → ((clos env names acc).lookup x).isSome = true
  | [], acc, x, h => h
  | (n, k) :: r, acc, x, h => by
    unfold clos
    split
    · refine clos_keep r _ x ?_
      rw [List.lookup_cons]
      cases x == n
      · exact h
      · rfl
    · exact clos_keep r acc x h
theorem clos_has {env : Env} : ∀ (names : List (Str × NameKind)) (acc : List (Str × Addr)) (x : Str), (x, NameKind.free) ∈ names → ((clos env names acc).lookup x).isSome = true
  | [], _, _, h => by cases h
  | (n, k) :: r, acc, x, h => by
    unfold clos
    rcases List.mem_cons.mp h with e | h
    · cases e
      rw [if_pos (show (NameKind.free == NameKind.free) = true from rfl)]
      refine clos_keep r _ _ ?_
      rw [List.lookup_cons]; simp
    · split <;> exact clos_has r _ x h

theorem cells_inj : ∀ (names : List (Str × NameKind)) (n : Nat) (acc : List (Str × Addr)), (∀ x c, acc.lookup x = some c → c < n) → (∀ x y c, acc.lookup x = some c → acc.lookup y = some c → x = y) →
    ∀ x y c, (cellsFrom n names acc).lookup x = some c → (cellsFrom n names acc).lookup y = some c → x = y
  | [], n, acc, _, hi => hi
  | (nm, k) :: r, n, acc, hl, hi => by
    unfold cellsFrom
    split
    · refine cells_inj r (n + 1) _ (fun x c e => ?_) (fun x y c e f => ?_)
      · rw [List.lookup_cons] at e
        cases q : x == nm with
        | true => rw [q] at e; cases e; exact Nat.lt_succ_self n
        | false => rw [q] at e; exact Nat.lt_succ_of_lt (hl x c e)
      · rw [List.lookup_cons] at e f
        cases q : x == nm with
        | true =>
          rw [q] at e; cases e
          cases q2 : y == nm with
          | true => rw [beq_iff_eq.mp q, beq_iff_eq.mp q2]
          | false => rw [q2] at f; exact absurd (hl y _ f) (Nat.lt_irrefl _)
        | false =>
          rw [q] at e
          cases q2 : y == nm with
          | true => rw [q2] at f; cases f; exact absurd (hl x _ e) (Nat.lt_irrefl _)
          | false => rw [q2] at f; exact hi x y c e f
    · exact cells_inj r n acc hl hi
/-- a name of the new block's cells: an own, empty one, or one of before -/
theorem cells_spec : ∀ (names : List (Str × NameKind)) (h : Heap) (acc : List (Str × Addr)) (x : Str) (c : Addr), (cellsFrom h.objs.size names acc).lookup x = some c →
    acc.lookup x = some c ∨ (h.objs.size ≤ c ∧ (pushCells h names).IsCell c none)
  | [], h, acc, x, c, e => .inl e
  | (nm, k) :: r, h, acc, x, c, e => by
    unfold cellsFrom at e
    unfold pushCells
    split at e
    · rename_i hk
      rw [if_pos hk]
      have hs : (h.push { cls := .type "cell", data := .cell none }).objs.size = h.objs.size + 1 := Heap.size_push ..
      rw [← hs] at e
      rcases cells_spec r _ _ x c e with q | ⟨q1, q2⟩
      · rw [List.lookup_cons] at q
        cases z : x == nm with
        | true => rw [z] at q; cases q; exact .inr ⟨Nat.le_refl _, _, pushCells_keeps r _ _ _ (Heap.get?_push_size _ rfl), rfl⟩
        | false => rw [z] at q; exact .inl q
      · exact .inr ⟨by omega, q2⟩
    · rename_i hk
      rw [if_neg hk]
      exact cells_spec r h acc x c e
theorem cells_keep : ∀ (names : List (Str × NameKind)) (n : Nat) (acc : List (Str × Addr)) (x : Str), (x, NameKind.cell) ∉ names → (cellsFrom n names acc).lookup x = acc.lookup x
  | [], _, _, _, _ => rfl
  | (nm, k) :: r, n, acc, x, h => by
    have hr : (x, NameKind.cell) ∉ r := fun q => h (List.mem_cons_of_mem _ q)
    unfold cellsFrom
    split
    · rename_i hk
      rw [cells_keep r _ _ x hr, List.lookup_cons]
      cases q : x == nm with
      | true =>
        refine absurd ?_ h
        have : k = .cell := by simpa using hk
        rw [this, beq_iff_eq.mp q]; exact List.mem_cons_self
      | false => rfl
    · exact cells_keep r n acc x hr
theorem cells_own : ∀ (names : List (Str × NameKind)) (h : Heap) (acc : List (Str × Addr)) (x : Str), (x, NameKind.cell) ∈ names →
    ∃ c, (cellsFrom h.objs.size names acc).lookup x = some c ∧ h.objs.size ≤ c ∧ (pushCells h names).IsCell c none
  | [], _, _, _, m => by cases m
  | (nm, k) :: r, h, acc, x, m => by
    unfold cellsFrom pushCells
    have hs : (h.push { cls := .type "cell", data := .cell none }).objs.size = h.objs.size + 1 := Heap.size_push ..
    by_cases hr : (x, NameKind.cell) ∈ r
    · split
      · obtain ⟨c, a, b, d⟩ := cells_own r (h.push { cls := .type "cell", data := .cell none }) ((nm, h.objs.size) :: acc) x hr
        rw [hs] at a b
        exact ⟨c, a, by omega, d⟩
      · exact cells_own r h acc x hr
    · rcases List.mem_cons.mp m with e | m
      · cases e
        rw [if_pos (show (NameKind.cell == NameKind.cell) = true from rfl), if_pos (show (NameKind.cell == NameKind.cell) = true from rfl), cells_keep r _ _ _ hr, List.lookup_cons]
        exact ⟨h.objs.size, by simp, Nat.le_refl _, _, pushCells_keeps r _ _ _ (Heap.get?_push_size _ rfl), rfl⟩
      · exact absurd m hr

/-! the block of a comprehension -/
/-- the scope of a comprehension stands in a block of the scope sc -/
structure In (sc scope : Scope) : Prop where
  kind : scope.kind = .function
  keys : ∀ p ∈ scope.names, scope.names.lookup p.1 = some p.2
  free : ∀ p ∈ scope.names, p.2 = .free → sc.names.lookup p.1 = some .cell ∨ sc.names.lookup p.1 = some .free
  no : isAsked scope = false
noncomputable def inB (sc scope : Scope) : Bool := decide (scope.kind = .function) && (scope.names.all fun p => scope.names.lookup p.1 == some p.2) &&
  (scope.names.all fun p => p.2 != .free || sc.names.lookup p.1 == some .cell || sc.names.lookup p.1 == some .free) && !isAsked scope
theorem In.of {sc scope : Scope} (h : inB sc scope = true) : In sc scope := by
  obtain ⟨h, n⟩ := Bool.and_eq_true_iff.mp h
  obtain ⟨h, c⟩ := Bool.and_eq_true_iff.mp h
  obtain ⟨a, b⟩ := Bool.and_eq_true_iff.mp h
  refine ⟨of_decide_eq_true a, fun p m => by simpa using List.all_eq_true.mp b p m, fun p m e => ?_, by simpa using n⟩
  have := List.all_eq_true.mp c p m
  simpa [e] using this
noncomputable def freeOf (scope : Scope) (δ : Dm) : Dm := δ.filter fun p => scope.names.lookup p.1 == some .free
theorem lookup_filter {p : Str → Bool} : ∀ (δ : Dm) (x : Str) (d : D), (δ.filter fun q => p q.1).lookup x = some d → δ.lookup x = some d ∧ p x = true
  | [], x, d, e => by cases e
  | (n, v) :: r, x, d, e => by
    rw [List.filter_cons] at e
    split at e
    · rename_i hp
      rw [List.lookup_cons] at e ⊢
      cases q : x == n with
      | true => rw [q] at e; exact ⟨e, by rw [beq_iff_eq.mp q]; exact hp⟩
      | false => rw [q] at e; exact lookup_filter r x d e
    · rename_i hp
      obtain ⟨a, b⟩ := lookup_filter r x d e
      rw [List.lookup_cons]
      cases q : x == n with
      | true => rw [beq_iff_eq.mp q] at b; exact absurd b hp
      | false => exact ⟨a, b⟩
theorem freeOf_look {scope : Scope} {δ : Dm} {x : Str} {d : D} (e : (freeOf scope δ).lookup x = some d) : δ.lookup x = some d ∧ scope.names.lookup x = some .free := by
  obtain ⟨a, b⟩ := lookup_filter (p := fun y => scope.names.lookup y == some NameKind.free) δ x d e
  exact ⟨a, by simpa using b⟩

theorem mem_of_look {names : List (Str × NameKind)} {x : Str} {k : NameKind} (e : names.lookup x = some k) : (x, k) ∈ names := mem_of_lookup e
theorem pushCells_size : ∀ (names : List (Str × NameKind)) (h : Heap), h.objs.size ≤ (pushCells h names).objs.size
  | [], h => Nat.le_refl _
  | (_, k) :: r, h => by
    unfold pushCells; split
    · have := pushCells_size r (h.push { cls := .type "cell", data := .cell none }); rw [Heap.size_push] at this; omega
    · exact pushCells_size r h

section
variable {w : World} {A : Around} {sc scope : Scope} {env : Env} {h0 hb0 hb h : Heap} {δ : Dm} {μ : Mu}

noncomputable def compEnv (scope : Scope) (env : Env) (L : Addr) : Env :=
  { scope := relabel scope env, locals := L, globals := env.globals, cells := cellsFrom (L + 1) scope.names (clos env scope.names []), qual := env.qual, func := none, code := env.code, frame := env.frame, builtins := env.builtins }

theorem compEnv_st {d0 : Obj} (hd : d0 = { cls := .type "dict", data := .dict #[] }) (i : In sc scope) (r : Rds sc env δ hb h) (g : Gd w hb) (st : Step hb0 h0 hb h)
    (mu : ∀ a ds, (a, ds) ∈ μ → h0.get? a = none ∧ hb.get? a = none ∧ IsMo hb h a ds) (mud : μ.Pairwise fun x y => x.1 ≠ y.1) :
    St w scope (compEnv scope env h.objs.size) h0 hb0 (freeOf scope δ) μ hb (pushCells (h.push d0) scope.names) := by
  have hfr : ∀ p ∈ scope.names, p.2 = .free → ∃ c, env.cells.lookup p.1 = some c := fun p m e => r.ok.cd p.1 (i.free p m e)
  have hcl : ∀ x c, (clos env scope.names []).lookup x = some c → env.cells.lookup x = some c := fun x c e => clos_old scope.names [] x c hfr (fun _ _ e => by cases e) e
  have hlt : ∀ x c, env.cells.lookup x = some c → c < h.objs.size := fun x c e => by
    cases q : h.get? c with
    | none => exact absurd q (r.cl x c e)
    | some o => exact Heap.lt_size q
  have sz : (h.push d0).objs.size = h.objs.size + 1 := Heap.size_push ..
  have up : Ext h (pushCells (h.push d0) scope.names) := fun b o e => pushCells_keeps _ _ b o (Heap.get?_push_of_some _ e)
  have nx : ∀ a, h.objs.size ≤ a → h.get? a = none := fun a ha => by
    cases q : h.get? a with
    | none => rfl
    | some o => exact absurd (Heap.lt_size q) (Nat.not_lt.mpr ha)
  have fr : ∀ a, h.objs.size ≤ a → h0.get? a = none ∧ hb.get? a = none := fun a ha => by
    refine ⟨?_, ?_⟩
    · cases q : h0.get? a with
      | none => rfl
      | some o => have := st.ext a o q; rw [nx a ha] at this; cases this
    · cases q : hb.get? a with
      | none => rfl
      | some o => have := st.inn a o q; rw [nx a ha] at this; cases this
  have hns : (pushCells (h.push d0) scope.names).Ns h.objs.size fun _ => none := by
    subst hd
    exact (Heap.Ns.new h (.type "dict")).keeps fun b o e => pushCells_keeps _ _ b o e
  have kk : ∀ x, (compEnv scope env h.objs.size).kindOf x = (scope.names.lookup x).map fun k => if (k == .free && env.scope.kind == .function && env.kindOf x == some .cell) = true then .cell else k :=
    fun x => relabel_lookup scope env x
  have notcell : ∀ x, scope.names.lookup x = some .free → (x, NameKind.cell) ∉ scope.names := fun x e m => by have := i.keys _ m; rw [e] at this; cases this
  have cs : ∀ x, scope.names.lookup x = some .free → ∃ c, (compEnv scope env h.objs.size).cells.lookup x = some c ∧ env.cells.lookup x = some c := fun x e => by
    have h1 := clos_has (env := env) scope.names [] x (mem_of_look e)
    obtain ⟨c, hc⟩ := Option.isSome_iff_exists.mp h1
    refine ⟨c, ?_, hcl x c hc⟩
    show (cellsFrom _ _ _).lookup x = _
    rw [cells_keep _ _ _ x (notcell x e)]; exact hc
  have own : ∀ x, scope.names.lookup x = some .cell → ∃ c, (compEnv scope env h.objs.size).cells.lookup x = some c ∧ h.objs.size + 1 ≤ c ∧ (pushCells (h.push d0) scope.names).IsCell c none := fun x e => by
    have := cells_own scope.names (h.push d0) (clos env scope.names []) x (mem_of_look e)
    rw [sz] at this; exact this
  have owns : ∀ a, Own scope (compEnv scope env h.objs.size) a → h.objs.size ≤ a := fun a o => by
    rcases o with rfl | ⟨x, p, q⟩
    · exact Nat.le_refl _
    · obtain ⟨c, e, l, _⟩ := own x p
      rw [e] at q; cases q; omega
  refine ⟨st.trans ⟨up, .refl _, fun b o e => up b o (st.inn b o e), fun _ _ e => .inl e⟩, g, ⟨⟨?_, r.ok.glob, r.ok.blt, ?_, ?_, ?_, ?_, ?_, ?_, fun q => absurd q (by rw [i.no]; decide)⟩, ?_, ?_⟩, ⟨_, hns⟩, ?_, fun a o => fr a (owns a o), ?_, mud⟩
  · exact i.kind
  · intro x e; rw [kk, e]; rfl
  · intro x e; rw [kk, e]; rfl
  · intro x e; rw [kk, e]; rfl
  · intro x e
    rw [kk, e, Option.map_some]
    by_cases q : (NameKind.free == .free && env.scope.kind == .function && env.kindOf x == some .cell) = true
    · rw [if_pos q]; exact .inl rfl
    · rw [if_neg q]; exact .inr rfl
  · intro x e
    rcases e with e | e
    · obtain ⟨c, q, _⟩ := own x e; exact ⟨c, q⟩
    · obtain ⟨c, q, _⟩ := cs x e; exact ⟨c, q⟩
  · exact cells_inj scope.names _ _ (fun x c e => Nat.lt_succ_of_lt (hlt x c (hcl x c e))) fun x y c e f => r.ok.inj x y c (hcl x c e) (hcl y c f)
  · intro x d e
    obtain ⟨e1, e2⟩ := freeOf_look e
    obtain ⟨v, rd, hv⟩ := r.rd x d e1
    refine ⟨v, ?_, hv⟩
    have ks := i.free _ (mem_of_look e2) rfl
    obtain ⟨c, c1, c2⟩ := cs x e2
    rcases rd with ⟨a, _⟩ | ⟨_, c', l, ic⟩
    · rcases ks with ks | ks
      · rw [r.ok.ck x ks] at a; cases a
      · rcases r.ok.fk x ks with q | q <;> rw [q] at a <;> cases a
    · rw [c2] at l; cases l
      refine .inr ⟨?_, c, c1, ic.keeps up⟩
      rw [kk, e2, Option.map_some]
      by_cases q : (NameKind.free == .free && env.scope.kind == .function && env.kindOf x == some .cell) = true
      · rw [if_pos q]; exact .inl rfl
      · rw [if_neg q]; exact .inr rfl
  · intro x c e
    rcases cells_spec scope.names (h.push d0) (clos env scope.names []) x c (by rw [sz]; exact e) with q | ⟨_, _, q, _⟩
    · have := r.cl x c (hcl x c q)
      cases z : h.get? c with
      | none => exact absurd z this
      | some o => rw [up c o z]; intro z; cases z
    · rw [q]; intro z; cases z
  · intro x c p q
    obtain ⟨c', e, _, ic⟩ := own x p
    rw [e] at q; cases q; exact ⟨_, ic⟩
  · intro a ds m
    obtain ⟨p, q, t⟩ := mu a ds m
    refine ⟨fun o => ?_, p, q, t.mono (.refl _) fun o e => up a o e⟩
    have := owns a o
    exact t.live (nx a this)

theorem newEnv_comp {Q : Env → Shared → Prop} {E : Value → Shared → Prop} {s : Shared} {qual : Str}
    (q : Q { scope := scope, locals := s.heap.objs.size, globals := env.globals, cells := cellsFrom (s.heap.objs.size + 1) scope.names (clos env scope.names []), qual := qual, func := none, code := env.code, frame := env.frame, builtins := env.builtins }
      { s with heap := pushCells (s.heap.push { cls := .type "dict", data := .dict #[] }) scope.names }) :
    wpAny (model PW w) A (newFunctionEnv scope env.globals (clos env scope.names []) [] qual none .none (some env)) Q E s := by
  simp only [newFunctionEnv, Option.isSome_some, if_true]
  refine wpAny_bind (wpAny_alloc ?_)
  refine wpAny_bind (wpAny_layCells _ (fun name kind cells => by cases hkc : kind == NameKind.cell <;> simp [hkc]) _ _ _ _ ?_)
  rw [show ({ s with heap := s.heap.push { cls := .type "dict", data := .dict #[] } } : Shared).heap.objs.size = s.heap.objs.size + 1 from Heap.size_push ..]
  exact wpAny_bind (wpAny_pure (wpAny_pure q))
end
end
-- part A7
section
open PySem PySem.W PyProof.Rows PySem.Calls

/-! iterators -/
structure IterT (w : World) (A : Around) (target : Expr) (it : Value) (mt : List Addr) (hb : Heap) (ds : List D) (S : Nat → Heap → Prop) : Prop where
  frame : ∀ i h h', S i h → (∀ b o, (hb.get? b ≠ none ∨ b ∈ mt) → h.get? b = some o → h'.get? b = some o) → S i h'
  live : ∀ i h, S i h → ∀ b ∈ mt, h.get? b ≠ none
  item : ∀ i d (s : Shared) (Q : Value → Shared → Prop) (E : Value → Shared → Prop), ds[i]? = some d → S i s.heap → Ext hb s.heap →
    (∀ v h' tk, S (i + 1) h' → (∀ b o, b ∉ mt → s.heap.get? b = some o → h'.get? b = some o) →
      (∀ hb', Ext hb hb' → (∀ b o, s.heap.get? b = none → h'.get? b = some o → hb'.get? b = some o) → Has hb' v d) → Q v { s with heap := h', toks := tk }) →
    wpAny (model PW w) A (pyNext it) (fun r s1 => match r with | none => False | some v => wpAny (model PW w) A (letOwnedTupleGo target it v) (fun _ s2 => Q v s2) E s1) E s
  done : ∀ (s : Shared) (Q : Option Value → Shared → Prop) (E : Value → Shared → Prop), S ds.length s.heap →
    (∀ h' tk, (∀ b o, b ∉ mt → s.heap.get? b = some o → h'.get? b = some o) → Q none { s with heap := h', toks := tk }) → wpAny (model PW w) A (pyNext it) Q E s
  self : ∀ i (s : Shared) (Q : Value → Shared → Prop) (E : Value → Shared → Prop), S i s.heap → Q it s → wpAny (model PW w) A (pyIter it) Q E s

/-- iter, looped over with such a target, hands out ds -/
noncomputable def Evi (w : World) (A : Around) (sc : Scope) (δ : Dm) (iter target : Expr) (ds : List D) : Prop :=
  ∀ env hb h, Ctx w sc env δ hb h → ∀ (s : Shared) (Q : Value → Shared → Prop) (E : Value → Shared → Prop), s.heap = h →
    (∀ it hb' h' tk mt S, IterT w A target it mt hb' ds S → S 0 h' → Step hb h hb' h' → (∀ b ∈ mt, h.get? b = none ∧ hb'.get? b = none) → Q it { s with heap := h', toks := tk }) →
    wpAny (model PW w) A (eval iter env) (fun x s1 => wpAny (model PW w) A (pyIter x) (fun it s2 => Q it s2) E s1) E s

structure Tru (w : World) (A : Around) (sc : Scope) (δ : Dm) (e : Expr) (b : Bool) : Prop where
  run : ∀ env hb h, Ctx w sc env δ hb h → Tri w A (isTrue e env (eval e env)) hb h fun r _ => r = b
inductive Tests (w : World) (A : Around) (sc : Scope) (δ : Dm) : List Expr → Bool → Prop
  | nil : Tests w A sc δ [] true
  | one {c b} : Tru w A sc δ c b → Tests w A sc δ [c] b

section
variable {w : World} {A : Around} {sc scope : Scope} {env cenv : Env} {h0 hb0 hb h hb' h' : Heap} {δ : Dm} {μ : Mu}

theorem tests_ok {ifs : List Expr} {b : Bool} (t : Tests w A sc δ ifs b) (c : Ctx w sc env δ hb h) :
    Tri w A (forIn ifs true fun c r => if r = true then do let ok ← isTrue c env (eval c env); pure (ForInStep.yield ok) else pure (ForInStep.yield r)) hb h fun r _ => r = b := by
  intro s Q E es k
  cases t with
  | nil => exact wpAny_tests_nil (k true hb s.heap s.toks (by subst es; exact .refl c.sub) rfl)
  | one t => exact wpAny_tests_one (t.run env hb h c s Q E es k)

theorem St.weak (f : St w sc env h0 hb0 δ μ hb h) {δ' : Dm} (k : ∀ x d, δ'.lookup x = some d → δ.lookup x = some d) : St w sc env h0 hb0 δ' μ hb h :=
  ⟨f.step, f.gd, ⟨f.rds.ok, fun x d e => f.rds.rd x d (k x d e), f.rds.cl⟩, f.loc, f.cell, f.own, f.mu, f.mud⟩
theorem Tgt.out {t : Expr} {d : D} {β : Dm} (g : Tgt sc t d β) {x : Str} (e : sc.names.lookup x = some .free) : (β ++ δ).lookup x = δ.lookup x := by
  have ne : ∀ y, own2 sc y → (x == y) = false := fun y o => by
    cases q : x == y with
    | false => rfl
    | true => rw [beq_iff_eq.mp q] at e; rcases o with o | o <;> rw [e] at o <;> cases o
  cases g with
  | name o => show List.lookup x (_ :: δ) = _; rw [List.lookup_cons, ne _ o]
  | pair o1 o2 => show List.lookup x (_ :: _ :: δ) = _; rw [List.lookup_cons, ne _ o2, List.lookup_cons, ne _ o1]

/-- a list of the block's own changes -/
noncomputable def setMu : Mu → Addr → Mo → Mu
  | [], _, _ => []
  | (b, e) :: r, a, ds => if b = a then (b, ds) :: r else (b, e) :: setMu r a ds
theorem setMu_mem : ∀ {μ : Mu} {a b : Addr} {ds e : Mo}, (μ.Pairwise fun x y => x.1 ≠ y.1) → (b, e) ∈ setMu μ a ds → (b = a ∧ e = ds ∧ ∃ e', (b, e') ∈ μ) ∨ (b ≠ a ∧ (b, e) ∈ μ)
  | [], _, _, _, _, _, m => by cases m
  | (c, u) :: r, a, b, ds, e, hp, m => by
    obtain ⟨h1, h2⟩ := List.pairwise_cons.mp hp
    unfold setMu at m
    split at m
    · rename_i q
      rcases List.mem_cons.mp m with z | m
      · cases z; exact .inl ⟨q, rfl, u, List.mem_cons_self⟩
      · exact .inr ⟨fun z => h1 _ m (q.trans z.symm), List.mem_cons_of_mem _ m⟩
    · rename_i q
      rcases List.mem_cons.mp m with z | m
      · cases z; exact .inr ⟨q, List.mem_cons_self⟩
      · rcases setMu_mem h2 m with ⟨x, y, e', z⟩ | ⟨x, z⟩
        · exact .inl ⟨x, y, e', List.mem_cons_of_mem _ z⟩
        · exact .inr ⟨x, List.mem_cons_of_mem _ z⟩
theorem setMu_keys : ∀ (μ : Mu) (a : Addr) (ds : Mo), (setMu μ a ds).map (·.1) = μ.map (·.1)
  | [], _, _ => rfl
  | (b, e) :: r, a, ds => by unfold setMu; split <;> simp [setMu_keys r a ds]
theorem St.change {a : Addr} {ds ds' : Mo} (f : St w sc env h0 hb0 δ μ hb h) (m : (a, ds) ∈ μ) (keep : ∀ b o, b ≠ a → h.get? b = some o → h'.get? b = some o) (new : IsMo hb h' a ds') :
    St w sc env h0 hb0 δ (setMu μ a ds') hb h' := by
  obtain ⟨no, p0, pb, il⟩ := f.mu a ds m
  have nl : ∀ c, h.get? c ≠ none → h'.get? c ≠ none := fun c q => by
    by_cases z : c = a
    · rw [z]; exact new.live
    · cases e : h.get? c with
      | none => exact absurd e q
      | some o => rw [keep c o z e]; intro z; cases z
  have kl : ∀ {m}, h.Ns env.locals m → h'.Ns env.locals m := fun {m} n => n.at fun o e => keep _ o (fun z => no (.inl z.symm)) e
  have kc : ∀ {c v}, h.IsCell c v → h'.IsCell c v := fun {c v} ⟨o, e, d⟩ => ⟨o, keep c o (fun z => cell_mo ⟨o, e, d⟩ (z ▸ il)) e, d⟩
  refine ⟨f.step.mut (M := fun b => b = a) (fun b o n e => keep b o n e) (fun b e => e ▸ ⟨p0, pb⟩), f.gd, ⟨f.rds.ok, fun x d e => ?_, fun x c e => nl c (f.rds.cl x c e)⟩,
    let ⟨m, n⟩ := f.loc; ⟨m, kl n⟩, fun x c p q => let ⟨v, i⟩ := f.cell x c p q; ⟨v, kc i⟩, f.own, fun b e mem => ?_, ?_⟩
  · obtain ⟨v, r, hv⟩ := f.rds.rd x d e
    refine ⟨v, ?_, hv⟩
    rcases r with ⟨k, m, n, e⟩ | ⟨k, c, l, n⟩
    · exact .inl ⟨k, m, kl n, e⟩
    · exact .inr ⟨k, c, l, kc n⟩
  · rcases setMu_mem f.mud mem with ⟨rfl, rfl, _⟩ | ⟨ne, mem⟩
    · exact ⟨no, p0, pb, new⟩
    · obtain ⟨x, y, z, t⟩ := f.mu b e mem
      exact ⟨x, y, z, t.mono (.refl _) fun o q => keep b o ne q⟩
  · have := f.mud
    have e1 : (setMu μ a ds').Pairwise (fun x y => x.1 ≠ y.1) ↔ ((setMu μ a ds').map (·.1)).Pairwise (· ≠ ·) := by rw [List.pairwise_map]
    have e2 : μ.Pairwise (fun x y => x.1 ≠ y.1) ↔ (μ.map (·.1)).Pairwise (· ≠ ·) := by rw [List.pairwise_map]
    rw [e1, setMu_keys, ← e2]; exact this

/-- what a comprehension does with the item d -/
noncomputable def Turn (w : World) (A : Around) (scope : Scope) (δ : Dm) (target : Expr) (ifs : List Expr) (elt : Expr) (d : D) (r : Option D) : Prop :=
  ∃ β, Tgt scope target d β ∧ ((Tests w A scope (β ++ δ) ifs false ∧ r = none) ∨ (Tests w A scope (β ++ δ) ifs true ∧ ∃ e, r = some e ∧ Evs w A scope (β ++ δ) elt e))

theorem take_filterMap {α β : Type} (g : α → Option β) (l : List α) (i : Nat) (v : α) (h : l[i]? = some v) : (l.take (i + 1)).filterMap g = (l.take i).filterMap g ++ (g v).toList := by
  rw [List.take_add_one, h, List.filterMap_append]
  cases hp : g v <;> simp [hp]

/-- the frozen part, with what is new in h' -/
noncomputable def frzN (hb h h' : Heap) : Heap := only h' fun b => (hb.get? b).isSome = true ∨ h.get? b = none
theorem frzN_new {b : Addr} {o : Obj} (e : h.get? b = none) (q : h'.get? b = some o) : (frzN hb h h').get? b = some o := by
  unfold frzN; rw [get_only, if_pos (.inr e)]; exact q
theorem frzN_old (k : Ext hb h') : Ext hb (frzN hb h h') := fun b o e => by
  unfold frzN; rw [get_only, if_pos (.inl (by rw [e]; rfl))]; exact k b o e
theorem frzN_sub : Ext (frzN hb h h') h' := fun b o e => by
  unfold frzN at e; rw [get_only] at e; split at e
  · exact e
  · cases e
theorem frzN_inv {b : Addr} {o : Obj} (k : Ext hb h') (e : (frzN hb h h').get? b = some o) : hb.get? b = some o ∨ h.get? b = none := by
  have e2 := e
  unfold frzN at e; rw [get_only] at e; split at e
  · rename_i q
    rcases q with q | q
    · obtain ⟨o', h'⟩ := Option.isSome_iff_exists.mp q
      have := k b o' h'
      rw [this] at e; cases e; exact .inl h'
    · exact .inr q
  · cases e

/-- after the iterator's step -/
theorem St.iter {mt : List Addr} (f : St w sc env h0 hb0 δ μ hb h) (keep : ∀ b o, b ∉ mt → h.get? b = some o → h'.get? b = some o) (m0 : ∀ b ∈ mt, h0.get? b = none ∧ hb.get? b = none ∧ ¬ Own sc env b ∧ ∀ ds, (b, ds) ∉ μ)
    (mc : ∀ x c, env.cells.lookup x = some c → c ∉ mt) : St w sc env h0 hb0 δ μ (frzN hb h h') h' := by
  have kb : Ext hb h' := fun b o e => keep b o (fun q => by rw [(m0 b q).2.1] at e; cases e) (f.step.inn b o e)
  have k0 : Ext h0 h' := fun b o e => keep b o (fun q => by rw [(m0 b q).1] at e; cases e) (f.step.ext b o e)
  have nw : ∀ b o, (frzN hb h h').get? b = some o → hb0.get? b = some o ∨ h0.get? b = none := fun b o e => by
    rcases frzN_inv kb e with q | q
    · exact f.step.new b o q
    · right
      cases e' : h0.get? b with
      | none => rfl
      | some o' => rw [f.step.ext b o' e'] at q; cases q
  have out : ∀ a, hb.get? a = none → h.get? a ≠ none → (frzN hb h h').get? a = none := fun a p q => by
    cases e : (frzN hb h h').get? a with
    | none => rfl
    | some o => rcases frzN_inv kb e with r | r
                · rw [p] at r; cases r
                · exact absurd r q
  have kl : ∀ {m}, h.Ns env.locals m → h'.Ns env.locals m := fun {m} n => n.at fun o e => keep _ o (fun z => (m0 _ z).2.2.1 (.inl rfl)) e
  have kc : ∀ {x c v}, env.cells.lookup x = some c → h.IsCell c v → h'.IsCell c v := fun {x c v} l ⟨o, e, d⟩ => ⟨o, keep c o (mc x c l) e, d⟩
  refine ⟨⟨k0, f.step.fz.trans (frzN_old kb), frzN_sub, nw⟩, f.gd.mono (frzN_old kb), ⟨f.rds.ok, fun x d e => ?_, fun x c e => ?_⟩, let ⟨m, n⟩ := f.loc; ⟨m, kl n⟩,
    fun x c p q => let ⟨v, i⟩ := f.cell x c p q; ⟨v, kc q i⟩, fun a o => ⟨(f.own a o).1, out a (f.own a o).2 (f.live o)⟩, fun a ds m => ?_, f.mud⟩
  · obtain ⟨v, r, hv⟩ := f.rds.rd x d e
    refine ⟨v, ?_, hv.mono (frzN_old kb)⟩
    rcases r with ⟨k, m, n, e⟩ | ⟨k, c, l, n⟩
    · exact .inl ⟨k, m, kl n, e⟩
    · exact .inr ⟨k, c, l, kc l n⟩
  · cases e' : h.get? c with
    | none => exact absurd e' (f.rds.cl x c e)
    | some o => rw [keep c o (mc x c e) e']; intro z; cases z
  · obtain ⟨p, q, r, t⟩ := f.mu a ds m
    exact ⟨p, q, out a r t.live, t.mono (frzN_old kb) fun o e => keep a o (fun z => (m0 a z).2.2.2 ds m) e⟩

theorem append_mu {κ : Nat} {D' : Addr} {acc : List D} {v : Value} {e : D} (hA : OkA κ A) (f : St w sc env h0 hb0 δ μ hb h) (m : (D', .lst acc) ∈ μ) (hv : Has hb v e) (hl : acc.length ≤ bigL) (s : Shared) (Q : Value → Shared → Prop) (E : Value → Shared → Prop) (es : s.heap = h)
    (q : ∀ h', St w sc env h0 hb0 δ (setMu μ D' (.lst (acc ++ [e]))) hb h' → (∀ b o, b ≠ D' → h.get? b = some o → h'.get? b = some o) → Q .none { s with heap := h' }) :
    wpAny (model PW w) A (call (.builtin "list.append") [.ref D', v]) Q E s := by
  subst es
  obtain ⟨no, p0, pb, vs, n, g, l⟩ := f.mu D' _ m
  refine wpAny_list_append_plain ⟨n, g⟩ (fun h' ⟨n', g'⟩ hs' => ?_) (by have := l.1; have := bigL_le; simp only [List.size_toArray]; omega)
  refine q h' (f.change m (fun b o ne e => hs'.extBut b o ne e) ⟨vs ++ [v], n', ?_, l.append (.cons hv .nil)⟩) fun b o ne e => hs'.extBut b o ne e
  rw [g']; simp
end
end
-- part A8
section
open PySem PySem.W PyProof.Rows PySem.Calls

section
variable {w : World} {A : Around} {sc scope : Scope} {env cenv : Env} {h0 hb0 hb h hb' h' : Heap} {δ : Dm} {μ : Mu}

theorem compLoop_ok {κ : Nat} (hA : OkA κ A) {elt target iter : Expr} {ifs : List Expr} {scope' : Scope} {pos : Pos} {it : Value} {D' : Addr} {mt : List Addr} {hbI : Heap} {ds : List D} {S : Nat → Heap → Prop}
    {gs : List (Option D)} (W : IterT w A target it mt hbI ds S) (ot : ∀ a, Own scope cenv a → a ∉ mt) (hD : D' ∉ mt) (hm0 : ∀ b ∈ mt, h0.get? b = none)
    (mc : ∀ x c, cenv.cells.lookup x = some c → c ∉ mt) (hf : ∀ x d, δ.lookup x = some d → scope.names.lookup x = some .free)
    (hn : gs.length = ds.length) (hg : ∀ (i : Nat) d r, ds[i]? = some d → gs[i]? = some r → Turn w A scope δ target ifs elt d r) (hl : ds.length ≤ bigL) {R : Result → Shared → Prop} (s : Shared)
    (f : St w scope cenv h0 hb0 δ [(D', .lst [])] hb s.heap) (hI : Ext hbI hb) (hS : S 0 s.heap) (hm : ∀ b ∈ mt, hb.get? b = none)
    (hR : ∀ hb' h' tk, St w scope cenv h0 hb0 δ [(D', .lst (gs.filterMap id))] hb' h' → R (.ok .next) { s with heap := h', toks := tk }) :
    codeAny (model PW w) A (.compLoop (.ListComp elt [⟨target, iter, ifs, 0⟩] scope' pos) 0 it (.ref D') cenv) R s := by
  refine codeAny_loop rfl (fun n s' => ∃ i hb' h' tk, s' = { s with heap := h', toks := tk } ∧ n = ds.length + 1 - i ∧ i ≤ ds.length ∧ St w scope cenv h0 hb0 δ [(D', .lst ((gs.take i).filterMap id))] hb' h' ∧ Ext hbI hb' ∧ S i h' ∧
      ∀ b ∈ mt, hb'.get? b = none) (fun n s' hI' => ?_) (ds.length + 1) ⟨0, hb, s.heap, s.toks, rfl, rfl, Nat.zero_le _, f, hI, hS, hm⟩
  obtain ⟨i, hb1, h1, tk1, rfl, rfl, hi, f1, hI1, hS1, hm1⟩ := hI'
  show wpAny _ A ((compTurn (.ListComp elt [⟨target, iter, ifs, 0⟩] scope' pos) 0 it (.ref D') cenv).onRaise (fun x => do noteFrame x cenv; theTreesLotGoes x)) _ _ _
  refine wpAny_noted ?_
  rw [compTurn_list]
  refine wpAny_bind (wpAny_standAt (wpAny_bind ?_))
  have keepS : ∀ {j : Nat} {ha hc : Heap}, S j ha → (∀ b o, (hbI.get? b ≠ none ∨ b ∈ mt) → ha.get? b = some o → hc.get? b = some o) → S j hc := fun a b => W.frame _ _ _ a b
  have offI : ∀ {b : Addr}, hb1.get? b = none → hbI.get? b = none := fun {b} q => by
    cases e : hbI.get? b with
    | none => rfl
    | some o => rw [hI1 b o e] at q; cases q
  have ownI : ∀ b, Own scope cenv b → hbI.get? b ≠ none → False := fun b o q => q (offI (f1.own b o).2)
  have dI : hbI.get? D' = none := offI (f1.mu D' _ List.mem_cons_self).2.2.1
  by_cases hlt : i < ds.length
  · have hd : ds[i]? = some ds[i] := List.getElem?_eq_getElem hlt
    generalize ds[i] = d at hd
    obtain ⟨r0, hr0⟩ : ∃ r, gs[i]? = some r := ⟨_, List.getElem?_eq_getElem (hn ▸ hlt)⟩
    refine wpAny_mono (W.item i d _ (fun v s2 => ∃ h2 tk2, s2 = { s with heap := h2, toks := tk2 } ∧ S (i + 1) h2 ∧ (∀ b o, b ∉ mt → h1.get? b = some o → h2.get? b = some o) ∧ ∀ hb', Ext hbI hb' → (∀ b o, h1.get? b = none → h2.get? b = some o → hb'.get? b = some o) → Has hb' v d) _ hd hS1 (fun b o e => f1.step.inn b o (hI1 b o e)) (fun v h2 tk2 a b c => ⟨h2, tk2, rfl, a, b, c⟩)) (fun r s1 k => ?_) fun _ _ e => e
    · cases r with
      | none => exact k.elim
      | some v =>
        refine wpAny_bind (wpAny_mono k (fun _ s2 k2 => ?_) fun _ _ e => e)
        obtain ⟨h2, tk2, rfl, hS2, keep, hv⟩ := k2
        have f2 := f1.iter keep (fun b q => ⟨hm0 b q, hm1 b q, fun o => ot b o q, fun ds' m => by
          have : b = D' := (Prod.mk.inj (List.mem_singleton.mp m)).1
          exact hD (this ▸ q)⟩) mc
        have hv2 : Has (frzN hb1 h1 h2) v d := hv _ (hI1.trans (frzN_old fun b o e => keep b o (fun q => by rw [hm1 b q] at e; cases e) (f1.step.inn b o e))) fun b o e q => frzN_new e q
        have hm2 : ∀ b ∈ mt, (frzN hb1 h1 h2).get? b = none := fun b q => by
          cases e : (frzN hb1 h1 h2).get? b with
          | none => rfl
          | some o =>
            rcases frzN_inv (fun b o e => keep b o (fun q => by rw [hm1 b q] at e; cases e) (f1.step.inn b o e)) e with r | r
            · rw [hm1 b q] at r; cases r
            · exact absurd r (W.live _ _ hS1 b q)
        have hI2 : Ext hbI (frzN hb1 h1 h2) := hI1.trans (frzN_old fun b o e => keep b o (fun q => by rw [hm1 b q] at e; cases e) (f1.step.inn b o e))
        obtain ⟨β, hβ, ht⟩ := hg i d r0 hd hr0
        refine wpAny_bind (f2.target hA hβ hv2 _ _ _ rfl fun h3 tk3 f3 n3 => ?_)
        have hS3 : S (i + 1) h3 := keepS hS2 fun b o q e => n3 b o (fun z => q.elim (fun q => ownI b z q) (ot b z)) e
        have back : ∀ {hb' h' : Heap} {μ : Mu}, St w scope cenv h0 hb0 (β ++ δ) μ hb' h' → St w scope cenv h0 hb0 δ μ hb' h' := fun q => q.weak fun x d' e => by rw [hβ.out (hf x d' e)]; exact e
        have mout : ∀ {ha hc hb' : Heap}, Step (frzN hb1 h1 h2) ha hb' hc → S (i + 1) ha → ∀ b ∈ mt, hb'.get? b = none := fun st sa b q => st.out (hm2 b q) (W.live _ _ sa b q)
        rcases ht with ⟨t, gn⟩ | ⟨t, e, ge, ev⟩
        · refine wpAny_bind (tests_ok t f3.ctx _ _ _ rfl fun r hb4 h4 tk4 st4 hr => ?_)
          subst hr
          simp only [Bool.false_eq_true, if_false]
          refine wpAny_pure ⟨rfl, ds.length + 1 - (i + 1), by omega, i + 1, hb4, h4, tk4, rfl, rfl, hlt, ?_, hI2.trans st4.fz, keepS hS3 fun b o _ e => st4.ext b o e, mout st4 hS3⟩
          rw [take_filterMap id _ i r0 hr0, gn]; simp only [id, Option.toList_none, List.append_nil]
          exact back (f3.after st4)
        · refine wpAny_bind (tests_ok t f3.ctx _ _ _ rfl fun r hb4 h4 tk4 st4 hr => ?_)
          subst hr
          simp only [if_true]
          have f4 := f3.after st4
          have hS4 : S (i + 1) h4 := keepS hS3 fun b o _ e => st4.ext b o e
          refine wpAny_bind (wpAny_bind (ev.run cenv _ _ f4.ctx _ _ _ rfl fun y hb5 h5 tk5 st5 hy => ?_))
          have f5 := f4.after st5
          have hS5 : S (i + 1) h5 := keepS hS4 fun b o _ e => st5.ext b o e
          have hlen : ((gs.take i).filterMap id).length ≤ bigL := Nat.le_trans (List.length_filterMap_le ..) (Nat.le_trans (List.length_take_le ..) (by omega))
          refine wpAny_bind (append_mu hA f5 List.mem_cons_self hy hlen _ _ _ rfl fun h6 f6 n6 => ?_)
          refine wpAny_pure (wpAny_pure ⟨rfl, ds.length + 1 - (i + 1), by omega, i + 1, hb5, h6, tk5, rfl, rfl, hlt, ?_, (hI2.trans st4.fz).trans st5.fz,
            keepS hS5 fun b o q e => n6 b o (fun z => q.elim (fun q => q (z ▸ dI)) (fun q => hD (z ▸ q))) e, mout (st4.trans st5) hS3⟩)
          rw [take_filterMap id _ i r0 hr0, ge]
          have := back f6
          simp only [setMu, if_true] at this
          exact this
  · have e : i = ds.length := by omega
    subst e
    refine W.done _ _ _ hS1 fun h2 tk2 keep => wpAny_pure ?_
    show R (.ok .next) _
    rw [← hn, List.take_length] at f1
    refine hR _ h2 tk2 (f1.iter keep (fun b q => ⟨hm0 b q, hm1 b q, fun o => ot b o q, fun ds' m => by
          have : b = D' := (Prod.mk.inj (List.mem_singleton.mp m)).1
          exact hD (this ▸ q)⟩) mc)
end
end
-- part A9
section
open PySem PySem.W PyProof.Rows PySem.Calls

section
variable {w : World} {A : Around} {sc scope : Scope} {env cenv : Env} {h0 hb0 hb h hb' h' : Heap} {δ : Dm} {μ : Mu}

/-- everything of hb, and the list a besides -/
noncomputable def frzA (hb h : Heap) (a : Addr) : Heap := only h fun b => (hb.get? b).isSome = true ∨ b = a
theorem frzA_at {a : Addr} {o : Obj} (e : h.get? a = some o) : (frzA hb h a).get? a = some o := by
  unfold frzA; rw [get_only, if_pos (.inr rfl)]; exact e
theorem frzA_old {a : Addr} (k : Ext hb h) : Ext hb (frzA hb h a) := fun b o e => by
  unfold frzA; rw [get_only, if_pos (.inl (by rw [e]; rfl))]; exact k b o e
theorem frzA_step {a : Addr} (st : Step hb0 h0 hb h) (e0 : h0.get? a = none) : Step hb0 h0 (frzA hb h a) h := by
  refine ⟨st.ext, st.fz.trans (frzA_old st.inn), fun b o e => ?_, fun b o e => ?_⟩
  · unfold frzA at e; rw [get_only] at e; split at e
    · exact e
    · cases e
  · unfold frzA at e; rw [get_only] at e; split at e
    · rename_i q
      rcases q with q | q
      · obtain ⟨o', h'⟩ := Option.isSome_iff_exists.mp q
        have := st.inn b o' h'
        rw [this] at e; cases e; exact st.new b _ h'
      · exact .inr (q ▸ e0)
    · cases e
theorem IsL'.has {a : Addr} {ds : List D} (x : IsL' hb h a ds) (k : Ext hb h) : Has (frzA hb h a) (.ref a) (.list ds) := by
  obtain ⟨vs, n, e, l⟩ := x
  exact .list (frzA_at e) l.1 (l.mono (frzA_old k)).2

theorem firstIter_one {elt target iter : Expr} {ifs : List Expr} {scope : Scope} {pos : Pos} : clausesOf (.ListComp elt [⟨target, iter, ifs, 0⟩] scope pos) = [⟨target, iter, ifs, 0⟩] := rfl

theorem comp_core {κ : Nat} (hA : OkA κ A) {elt target iter : Expr} {ifs : List Expr} {pos : Pos} {ds : List D} {gs : List (Option D)} (i : In sc scope) (hs : ∀ env x, foldedSetIterable iter env x = pure x)
    (hi : Evi w A sc δ iter target ds) (hn : gs.length = ds.length) (hg : ∀ (i : Nat) d r, ds[i]? = some d → gs[i]? = some r → Turn w A scope (freeOf scope δ) target ifs elt d r) (hl : ds.length ≤ bigL) (c : Ctx w sc env δ hb h) (use : Option (Value → Sem Unit)) (s : Shared) (Q : Value → Shared → Prop) (E : Value → Shared → Prop) (es : s.heap = h)
    (k : ∀ hb' h' tk D' C m, Step hb h hb' h' → Has hb' (.ref D') (.list (gs.filterMap id)) → h.get? C = none → hb'.get? C = none → h'.Ns C m → compPost (model PW w) A E use Q (.ref D') C (.ok .next) { s with heap := h', toks := tk }) :
    wpAny (model PW w) A (comprehension (.ListComp elt [⟨target, iter, ifs, 0⟩] scope pos) scope env (firstIterPos [⟨target, iter, ifs, 0⟩] pos) (newList []) (firstAsync [⟨target, iter, ifs, 0⟩]) (firstIter [⟨target, iter, ifs, 0⟩] env) use) Q E s := by
  subst es
  have hfr : ∀ p ∈ scope.names, p.2 = .free → ∃ c, env.cells.lookup p.1 = some c := fun p m e => c.rds.ok.cd p.1 (i.free p m e)
  refine wpAny_comprehension_free rfl (hs env) (closureFor_ok hfr) i.kind (fun p m e => e ▸ i.keys p m) ?_
  refine hi env hb s.heap c s _ _ rfl fun it hb2 h2 tk2 mt S W hS st hmt => ?_
  refine wpAny_newList (items := []) ?_
  have c2 := c.step st
  generalize hD' : h2.objs.size = D'
  have hx : Ext h2 (h2.push { cls := .type "list", data := .seq ([] : List Value).toArray }) := Ext.push _
  generalize hH3 : h2.push { cls := .type "list", data := .seq ([] : List Value).toArray } = H3 at hx
  have sz3 : H3.objs.size = D' + 1 := by rw [← hH3, Heap.size_push, hD']
  have st3 : Step hb2 h2 hb2 H3 := ⟨hx, .refl _, fun b o e => hx b o (st.inn b o e), fun _ _ e => .inl e⟩
  have dn : h2.get? D' = none := by rw [← hD']; exact size_none h2
  have db : hb2.get? D' = none := by
    cases e : hb2.get? D' with
    | none => rfl
    | some o => rw [st.inn _ o e] at dn; cases dn
  have gD : IsL' hb2 H3 D' [] := ⟨[], 0, by rw [← hH3, ← hD']; exact Heap.get?_push_size _ rfl, .nil⟩
  refine newEnv_comp ?_
  have d0 : s.heap.get? D' = none := by
    cases e : s.heap.get? D' with
    | none => rfl
    | some o => rw [st.ext _ o e] at dn; cases dn
  have sz2 : h2.objs.size + 1 = H3.objs.size := by omega
  have F := compEnv_st (h0 := s.heap) (hb0 := hb) (μ := [(D', .lst [])]) (d0 := { cls := .type "dict", data := .dict #[] }) rfl i (c2.step st3).rds (c2.step st3).gd (st.trans st3)
    (fun a ds m => by obtain ⟨rfl, rfl⟩ := Prod.mk.inj (List.mem_singleton.mp m); exact ⟨d0, db, gD⟩) (List.pairwise_singleton _ _)
  have hfr2 : ∀ p ∈ scope.names, p.2 = .free → ∃ c, env.cells.lookup p.1 = some c := hfr
  have mtlt : ∀ b ∈ mt, b < h2.objs.size := fun b q => by
    cases e : h2.get? b with
    | none => exact absurd e (W.live _ _ hS b q)
    | some o => exact Heap.lt_size e
  have hS4 : S 0 (pushCells (H3.push { cls := .type "dict", data := .dict #[] }) scope.names) := W.frame _ _ _ hS fun b o _ e => pushCells_keeps _ _ b o (Heap.get?_push_of_some _ (hx b o e))
  have owntop : ∀ a, Own scope (compEnv scope env H3.objs.size) a → a ∉ mt := fun a o q => by
    have : h2.objs.size ≤ a := by
      rcases o with rfl | ⟨x, p, q2⟩
      · show h2.objs.size ≤ H3.objs.size
        omega
      · obtain ⟨a', e, l, _⟩ := cells_own scope.names (H3.push { cls := .type "dict", data := .dict #[] }) (clos env scope.names []) x (mem_of_look p)
        rw [Heap.size_push] at e l
        have : (compEnv scope env H3.objs.size).cells.lookup x = some a' := e
        rw [this] at q2; cases q2
        exact Nat.le_trans (by omega) l
    exact Nat.lt_irrefl _ (Nat.lt_of_lt_of_le (mtlt a q) this)
  have mc : ∀ x a, (compEnv scope env H3.objs.size).cells.lookup x = some a → a ∉ mt := fun x a e q => by
    rcases cells_spec scope.names (H3.push { cls := .type "dict", data := .dict #[] }) (clos env scope.names []) x a (by rw [Heap.size_push]; exact e) with z | ⟨z, _⟩
    · have := clos_old scope.names [] x a hfr (fun _ _ e => by cases e) z
      exact c.rds.cl x a this (hmt a q).1
    · rw [Heap.size_push] at z; exact Nat.lt_irrefl _ (Nat.lt_of_lt_of_le (mtlt a q) (Nat.le_trans (by omega) z))
  have loop : ∀ tk4, codeAny (model PW w) A (.compLoop (.ListComp elt [⟨target, iter, ifs, 0⟩] scope pos) 0 it (.ref D') (compEnv scope env H3.objs.size))
      (compPost (model PW w) A E use Q (.ref D') H3.objs.size) { s with heap := pushCells (H3.push { cls := .type "dict", data := .dict #[] }) scope.names, toks := tk4 } := fun tk4 => by
    refine compLoop_ok hA W owntop (fun q => Nat.lt_irrefl _ (hD' ▸ mtlt _ q)) ?_ mc (fun x d e => (freeOf_look e).2) hn hg hl _ F (.refl _) hS4 (fun b q => (hmt b q).2) fun hb5 h5 tk5 f5 => ?_
    · exact fun b q => (hmt b q).1
    · obtain ⟨m, n⟩ := f5.loc
      obtain ⟨no, p0, pb, il⟩ := f5.mu D' _ List.mem_cons_self
      have cn := f5.own H3.objs.size (.inl rfl)
      refine k (frzA hb5 h5 D') h5 tk5 D' H3.objs.size m (frzA_step f5.step d0) (il.has f5.step.inn) cn.1 ?_ n
      unfold frzA; rw [get_only, if_neg]
      rintro (q | q)
      · rw [cn.2] at q; cases q
      · rw [sz3] at q; exact Nat.succ_ne_self D' q
  exact codeAny_compStart_list (loop _) (W.self 0 _ _ _ hS4 (loop _))

theorem Evs.listComp {κ : Nat} (hA : OkA κ A) {elt target iter : Expr} {ifs : List Expr} {pos : Pos} {ds : List D} {gs : List (Option D)} (i : In sc scope) (hs : ∀ env x, foldedSetIterable iter env x = pure x)
    (hi : Evi w A sc δ iter target ds) (hn : gs.length = ds.length) (hg : ∀ (i : Nat) d r, ds[i]? = some d → gs[i]? = some r → Turn w A scope (freeOf scope δ) target ifs elt d r) (hl : ds.length ≤ bigL) :
    Evs w A sc δ (.ListComp elt [⟨target, iter, ifs, 0⟩] scope pos) (.list (gs.filterMap id)) := by
  refine ⟨fun env hb h c s Q E es k => ?_⟩
  rw [eval_ListComp]
  refine comp_core hA i hs hi hn hg hl c none s Q E es fun hb' h' tk D' C m st hv c0 cb n => ⟨m, n, fun h6 hs6 => ?_⟩
  exact k _ hb' h6 tk (st.mut (M := fun b => b = C) (fun b o n e => hs6.extBut b o n e) fun b e => e ▸ ⟨c0, cb⟩) hv

/-- «y = [...]» on one row, y a local name -/
theorem St.assignComp {κ : Nat} (hA : OkA κ A) {elt target iter : Expr} {ifs : List Expr} {pos spos py : Pos} {y : Str} {ds : List D} {gs : List (Option D)} (f : St w sc env h0 hb0 δ μ hb h) (i : In sc scope) (hs : ∀ env x, foldedSetIterable iter env x = pure x)
    (hi : Evi w A sc δ iter target ds) (hn : gs.length = ds.length) (hg : ∀ (i : Nat) d r, ds[i]? = some d → gs[i]? = some r → Turn w A scope (freeOf scope δ) target ifs elt d r) (hl : ds.length ≤ bigL) (hy : sc.names.lookup y = some .local)
    (hline : (py.line == pos.line) = true) (hny : (scope.names.any fun p => p.1 == y && (p.2 == .local || p.2 == .cell)) = false) (s : Shared) (Q : Flow → Shared → Prop) (E : Value → Shared → Prop) (es : s.heap = h)
    (k : ∀ hb' h' tk, St w sc env h0 hb0 ((y, .list (gs.filterMap id)) :: δ) μ hb' h' → (∀ b o, ¬ Own sc env b → h.get? b = some o → h'.get? b = some o) → Ext hb hb' → (∀ b o, hb'.get? b = some o → hb.get? b = some o ∨ h.get? b = none) → Q .next { s with heap := h', toks := tk }) :
    wpAny (model PW w) A (exec (.Assign [.Name y py] (.ListComp elt [⟨target, iter, ifs, 0⟩] scope pos) spos) env) Q E s := by
  have hsw : swapsWith (.ListComp elt [⟨target, iter, ifs, 0⟩] scope pos) (some (.Name y py)) spos.line env = pure true := by
    show (pure (env.blockKind == .function && env.kindOf y == some .local && py.line == pos.line && !(scope.names.any fun (n, k) => n == y && (k == .local || k == .cell))) : Sem Bool) = pure true
    have e1 : env.blockKind = .function := by
      unfold Env.blockKind; rw [f.rds.ok.kind]; rfl
    rw [e1, f.rds.ok.lk y hy, hline]
    have : (scope.names.any fun (n, k) => n == y && (k == .local || k == .cell)) = false := hny
    rw [this]; rfl
  rw [exec_Assign_Name_used _ _ _ _ hsw]
  refine wpAny_bind (wpAny_standAt (wpAny_bind ?_))
  show wpAny _ A (do let _ ← comprehension (.ListComp elt [⟨target, iter, ifs, 0⟩] scope pos) scope env _ (newList []) (firstAsync [⟨target, iter, ifs, 0⟩]) (firstIter [⟨target, iter, ifs, 0⟩] env) (some (assign (.Name y py) env))) _ _ s
  refine wpAny_bind (wpAny_mono (comp_core hA i hs hi hn hg hl f.ctx (some (assign (.Name y py) env)) s (fun _ s' => Q .next s') E es fun hb' h' tk D' C m st hv c0 cb n => ?_) (fun _ s' hq => wpAny_pure (wpAny_pure hq)) fun _ _ e => e)
  show wpAny _ A (assign (.Name y py) env (.ref D')) _ _ _
  have f1 := f.after st
  have nC : ¬ Own sc env C := fun o => f.live o c0
  refine wpAny_assign_Name (f1.store (.inl hy) hv _ _ _ rfl fun h2 tk2 f2 n2 => ⟨m, n.at fun o e => n2 C o nC e, fun h3 hs3 => ?_⟩)
  have f3 := f2.iter (mt := [C]) (fun b o nb e => hs3.extBut b o (fun q => nb (by simp [q])) e) (fun b mb => ?_) (fun x c e mb => ?_)
  · have kx : Ext hb' h3 := fun b o e => hs3.extBut b o (fun q => by rw [q, cb] at e; cases e) (f2.step.inn b o e)
    have up : ∀ b o, ¬ Own sc env b → h.get? b = some o → h2.get? b = some o := fun b o nb e => n2 b o nb (st.ext b o e)
    refine k _ h3 tk2 f3 (fun b o nb e => hs3.extBut b o (fun q => by rw [q, c0] at e; cases e) (up b o nb e)) (st.fz.trans (frzN_old kx)) fun b o e => ?_
    rcases frzN_inv kx e with q | q
    · exact st.new b o q
    · by_cases z : Own sc env b
      · exact absurd q (f2.live z)
      · right
        cases e' : h.get? b with
        | none => rfl
        | some o' => rw [up b o' z e'] at q; cases q
  · obtain rfl := List.mem_singleton.mp mb
    refine ⟨?_, cb, nC, fun ds m => (f.mu _ ds m).2.2.2.live c0⟩
    cases e : h0.get? b with
    | none => rfl
    | some o => have := f.step.ext b o e; rw [c0] at this; cases this
  · obtain rfl := List.mem_singleton.mp mb
    exact f.rds.cl x _ e c0
end
end
-- part A10
section
open PySem PySem.W PyProof.Rows PySem.Calls

section
variable {w : World} {A : Around} {sc scope : Scope} {env cenv : Env} {h0 hb0 hb h hb' h' : Heap} {δ : Dm} {μ : Mu}

theorem IterT.ofWalks {x : Str} {p : Pos} {I : Addr} {fp wr : List Addr} {n : Nat} {P : Nat → Value → Prop} {S : Nat → Heap → Prop} {ds : List D} (W : Walks PW w A I fp wr n P S) (hn : n = ds.length) (hfp : ∀ b ∈ fp, hb.get? b ≠ none ∨ b ∈ wr)
    (hl : ∀ i h, S i h → ∀ b ∈ wr, h.get? b ≠ none) (hP : ∀ i v d, P i v → ds[i]? = some d → Has hb v d) : IterT w A (.Name x p) (.ref I) wr hb ds S where
  frame := fun i h h' st k => W.frame i h h' st fun b m o e => k b o (hfp b m) e
  live := hl
  item := fun i d s Q E hd st he k => by
    refine W.item i s _ E (by rw [hn]; exact (List.getElem?_eq_some_iff.mp hd).1) st fun v h' tk hp st' keep => ?_
    show wpAny _ _ (pure ()) _ _ _
    exact wpAny_pure (k v h' tk st' keep fun hb' x _ => (hP i v d hp hd).mono x)
  done := fun s Q E st k => W.done s Q E (hn ▸ st) k
  self := W.self

/-- an iterator that is one new object -/
theorem Step.fresh {o : Obj} (x : Ext hb h) : Step hb h hb (h.push o) := ⟨.push _, .refl _, fun b o e => Heap.get?_push_of_some _ (x b o e), fun _ _ e => .inl e⟩
theorem no_in (x : Ext hb h) : ∀ b ∈ [h.objs.size], h.get? b = none ∧ hb.get? b = none := fun b m => by
  obtain rfl := List.mem_singleton.mp m
  refine ⟨size_none h, ?_⟩
  cases e : hb.get? h.objs.size with
  | none => rfl
  | some o => have := x _ o e; rw [size_none] at this; cases this
theorem one_lt {o : Obj} : ∀ b ∈ [h.objs.size], b < (h.push o).objs.size := fun b m => by
  obtain rfl := List.mem_singleton.mp m
  rw [Heap.size_push]; exact Nat.lt_succ_self _

theorem Evi.list {κ : Nat} (hA : OkA κ A) {iter : Expr} {x : Str} {p : Pos} {ds : List D} (e : Evs w A sc δ iter (.list ds)) : Evi w A sc δ iter (.Name x p) ds := by
  intro env hb h c s Q E es k
  refine e.run env hb h c s _ E es fun v hb1 h1 tk st hv => ?_
  obtain ⟨a, vs, n, rfl, e1, l1⟩ := hv.list_inv
  have hx := st.inn
  have il : h1.IsList a vs.toArray := ⟨_, hx _ _ e1, rfl, _, rfl⟩
  refine wpAny_pyIter_list il ?_
  have lt : a < h1.objs.size := Heap.lt_size (hx _ _ e1)
  refine k _ hb1 _ _ [h1.objs.size] _ (IterT.ofWalks (Walks.list hA.hd h1.objs.size a (Nat.ne_of_lt lt) vs.toArray) (by simp [l1.1]) (fun b m => ?_) (fun i h st b m => ?_) fun i v d hp hd => l1.2 i v d (by simpa using hp) hd)
    ⟨⟨_, Heap.get?_push_size _ rfl, rfl, rfl⟩, il.push _⟩ (st.trans (Step.fresh hx)) fun b m => ?_
  · rcases List.mem_cons.mp m with rfl | m
    · exact .inr List.mem_cons_self
    · obtain rfl := List.mem_singleton.mp m
      exact .inl (by rw [e1]; intro q; cases q)
  · obtain rfl := List.mem_singleton.mp m
    obtain ⟨o, e, _⟩ := st.1; rw [e]; intro q; cases q
  · obtain ⟨a, b'⟩ := no_in hx b m
    refine ⟨?_, b'⟩
    cases e : h.get? b with
    | none => rfl
    | some o => rw [st.ext b o e] at a; cases a

noncomputable def signs (x : Str) : List D := x.cps.toList.map fun c => .str ⟨#[c]⟩
theorem Evi.str {κ : Nat} (hA : OkA κ A) {iter : Expr} {x : Str} {p : Pos} {t : Str} (e : Evs w A sc δ iter (.str t)) : Evi w A sc δ iter (.Name x p) (signs t) := by
  intro env hb h c s Q E es k
  refine e.run env hb h c s _ E es fun v hb1 h1 tk st hv => ?_
  obtain ⟨u, rfl⟩ := hv.str_inv
  have hx := st.inn
  have fin : ∀ (ty : String) (S : Nat → Heap → Prop), Walks PW w A h1.objs.size [h1.objs.size] [h1.objs.size] t.cps.size (SignAt t) S → (∀ i h, S i h → h.get? h1.objs.size ≠ none) →
      S 0 (h1.push { cls := .type ty, data := .fields #[.str t u, .int 0 0] }) → Q (.ref h1.objs.size) { s with heap := h1.push { cls := .type ty, data := .fields #[.str t u, .int 0 0] }, toks := tk } := by
    intro ty S W live hS
    refine k _ hb1 _ _ [h1.objs.size] S (IterT.ofWalks W (by simp [signs]) (fun b m => .inr m) (fun i h st b m => by obtain rfl := List.mem_singleton.mp m; exact live i h st) fun i v d hp hd => ?_) hS (st.trans (Step.fresh hx)) fun b m => ?_
    · obtain ⟨c, u', e1, rfl⟩ := hp
      rw [signs, List.getElem?_map] at hd
      have : t.cps.toList[i]? = some c := by simpa using e1
      rw [this] at hd; cases hd; exact .str _ _
    · obtain ⟨a, b'⟩ := no_in hx b m
      refine ⟨?_, b'⟩
      cases e : h.get? b with
      | none => rfl
      | some o => rw [st.ext b o e] at a; cases a
  cases ha : t.cps.all (· < 128)
  · exact wpAny_pyIter_wide ha (fin _ _ (Walks.strWide hA.hd _ t u) (fun i h ⟨o, e, _⟩ => by rw [e]; intro q; cases q) ⟨_, Heap.get?_push_size _ rfl, rfl, rfl⟩)
  · exact wpAny_pyIter_ascii ha (fin _ _ (Walks.strAscii hA.hd _ t u) (fun i h ⟨o, e, _⟩ => by rw [e]; intro q; cases q) ⟨_, Heap.get?_push_size _ rfl, rfl, rfl⟩)

noncomputable def rangeD (a b : Int) : List D := (List.range (b - a).toNat).map fun (i : Nat) => .int (a + i)
theorem Evi.range {κ : Nat} (hA : OkA κ A) {iter : Expr} {x : Str} {p : Pos} {a b : Int} (e : Evs w A sc δ iter (.range a b)) (ha : -1000000 ≤ a ∧ a ≤ 1000000) (hb' : -1000000 ≤ b ∧ b ≤ 1000000) : Evi w A sc δ iter (.Name x p) (rangeD a b) := by
  intro env hb h c s Q E es k
  refine e.run env hb h c s _ E es fun v hb1 h1 tk st hv => ?_
  cases hv with
  | range e1 =>
  rename_i pp t u v'
  have hx := st.inn
  have hr : IsRange h1 pp a b 1 t u v' := hx _ _ e1
  refine wpAny_pyIter_range hr (small_one (by omega) (by omega) (by omega) (by omega)) ?_
  have hsz : Builtin.Range.rangeSize a b 1 = ((b - a).toNat : Int) := by rw [rangeSize_one]; split <;> omega
  refine k _ hb1 _ _ [h1.objs.size] _ (IterT.ofWalks (Walks.range hA.hd h1.objs.size a 1 (b - a).toNat) (by simp [rangeD]) (fun b m => .inr m) (fun i h st b m => ?_) fun i v d hp hd => ?_)
    ?_ (st.trans (Step.fresh hx)) fun b m => ?_
  · obtain rfl := List.mem_singleton.mp m
    have : h.get? h1.objs.size = _ := st
    rw [this]; intro q; cases q
  · obtain ⟨t, rfl⟩ := hp
    rw [rangeD, List.getElem?_map] at hd
    obtain ⟨j, hj, rfl⟩ := Option.map_eq_some_iff.mp hd
    obtain ⟨q1, q2⟩ := List.getElem?_eq_some_iff.mp hj
    rw [List.getElem_range] at q2
    subst q2
    rw [Int.mul_one]; exact .int _ _
  · show IsRangeIter _ _ (a + ((0 : Nat) : Int) * 1) (((b - a).toNat : Int) - ((0 : Nat) : Int)) 1
    rw [show a + ((0 : Nat) : Int) * 1 = a by simp, show ((b - a).toNat : Int) - ((0 : Nat) : Int) = Builtin.Range.rangeSize a b 1 by rw [hsz]; simp]
    exact Heap.get?_push_size _ rfl
  · obtain ⟨a, b'⟩ := no_in hx b m
    refine ⟨?_, b'⟩
    cases e : h.get? b with
    | none => rfl
    | some o => rw [st.ext b o e] at a; cases a
end
end
-- part A11
section
open PySem PySem.W PyProof.Rows PySem.Calls

section
variable {w : World} {A : Around} {E : Value → Shared → Prop} {s : Shared}
noncomputable def SI (h : Heap) (i : Addr) (x : Str) (t : Tok) (k : Nat) : Prop := h.IsStrIter i "str_ascii_iterator" x t k ∨ h.IsStrIter i "str_iterator" x t k
theorem SI.extBut {h h' : Heap} {a b : Addr} {x : Str} {t : Tok} {i : Nat} (y : SI h a x t i) (hs : Heap.ExtBut b h h') (n : a ≠ b) : SI h' a x t i := y.imp (·.extBut hs n) (·.extBut hs n)
theorem SI.at {h h' : Heap} {a : Addr} {x : Str} {t : Tok} {i : Nat} (y : SI h a x t i) (e : ∀ o, h.get? a = some o → h'.get? a = some o) : SI h' a x t i := by
  rcases y with ⟨o, p, q⟩ | ⟨o, p, q⟩
  · exact .inl ⟨o, e o p, q⟩
  · exact .inr ⟨o, e o p, q⟩
theorem SI.lt {h : Heap} {a : Addr} {x : Str} {t : Tok} {i : Nat} (y : SI h a x t i) : a < h.objs.size := by
  rcases y with ⟨o, p, q⟩ | ⟨o, p, q⟩ <;> exact Heap.lt_size p

theorem nextOf_str_item {it : Addr} {x : Str} {t : Tok} {i c : Nat} {Q : Value → Shared → Prop} (hit : SI s.heap it x t i) (hx : x.cps[i]? = some c)
    (hQ : ∀ h' tk, SI h' it x t (i + 1) → Heap.SameBut it s.heap h' → Q (.str ⟨#[c]⟩ tk) { s with heap := h', toks := tk + 1 }) :
    wpAny (model PW w) A (Builtin.SmallTypes.nextOf (.ref it)) Q E s := by
  unfold Builtin.SmallTypes.nextOf
  rcases hit with hit | hit
  · obtain ⟨o, ho, hc, hd⟩ := id hit
    refine wpAny_bind (wpAny_callSpecial?_slot (name := Str.ofString "__next__") hit.typeIs F.slot_str_ascii_iterator_next
      (wpAny_call_entry F.slot_str_ascii_iterator_next hit.typeIs F.entry_str_ascii_iterator_next ?_ (F.args_str_ascii_iterator_next_1 _)))
    show wpAny _ _ (field (.ref it) 0 >>= _) _ _ s
    refine wpAny_bind (wpAny_field ho hd (x := .str x t) rfl ?_)
    show wpAny _ _ (field (.ref it) 1 >>= _) _ _ s
    refine wpAny_bind (wpAny_field ho hd (x := .int i 0) rfl ?_)
    simp only [Int.toNat_natCast, hx]
    refine wpAny_bind (wpAny_setField ho hd (by simp) (wpAny_bind (wpAny_mkStr (wpAny_pure ⟨_, rfl, wpAny_pure (hQ _ _ (.inl ?_) (Heap.SameBut.update ..))⟩) (by show 1 ≤ sizeLine; decide))))
    exact ⟨_, Heap.get?_update_self _ ho (Obj.isFreed_of_fields (Obj.data_mapFields hd _)), (Obj.cls_mapFields ..).trans hc, by
      rw [Obj.data_mapFields hd]; simp [rawInt]⟩
  · obtain ⟨o, ho, hc, hd⟩ := id hit
    refine wpAny_bind (wpAny_callSpecial?_slot (name := Str.ofString "__next__") hit.typeIs F.slot_str_iterator_next
      (wpAny_call_entry F.slot_str_iterator_next hit.typeIs F.entry_str_iterator_next ?_ (F.args_str_iterator_next_1 _)))
    show wpAny _ _ (field (.ref it) 0 >>= _) _ _ s
    refine wpAny_bind (wpAny_field ho hd (x := .str x t) rfl ?_)
    show wpAny _ _ (field (.ref it) 1 >>= _) _ _ s
    refine wpAny_bind (wpAny_field ho hd (x := .int i 0) rfl ?_)
    simp only [Int.toNat_natCast, hx]
    refine wpAny_bind (wpAny_setField ho hd (by simp) (wpAny_bind (wpAny_mkStr (wpAny_pure ⟨_, rfl, wpAny_pure (hQ _ _ (.inr ?_) (Heap.SameBut.update ..))⟩) (by show 1 ≤ sizeLine; decide))))
    exact ⟨_, Heap.get?_update_self _ ho (Obj.isFreed_of_fields (Obj.data_mapFields hd _)), (Obj.cls_mapFields ..).trans hc, by
      rw [Obj.data_mapFields hd]; simp [rawInt]⟩

theorem nextOf_str_end {it : Addr} {x : Str} {t : Tok} {i : Nat} {Q : Value → Shared → Prop} (hh : A.handled = none) (hit : SI s.heap it x t i) (hx : x.cps[i]? = none)
    (hE : ∀ h' e, Heap.ExtBut it s.heap h' → (∃ o, h'.get? e = some o ∧ o.cls = .type "StopIteration") → E (.ref e) { s with heap := h' }) :
    wpAny (model PW w) A (Builtin.SmallTypes.nextOf (.ref it)) Q E s := by
  unfold Builtin.SmallTypes.nextOf
  rcases hit with hit | hit
  · obtain ⟨o, ho, hc, hd⟩ := id hit
    refine wpAny_bind (wpAny_callSpecial?_slot (name := Str.ofString "__next__") hit.typeIs F.slot_str_ascii_iterator_next
      (wpAny_call_entry F.slot_str_ascii_iterator_next hit.typeIs F.entry_str_ascii_iterator_next ?_ (F.args_str_ascii_iterator_next_1 _)))
    show wpAny _ _ (field (.ref it) 0 >>= _) _ _ s
    refine wpAny_bind (wpAny_field ho hd (x := .str x t) rfl ?_)
    show wpAny _ _ (field (.ref it) 1 >>= _) _ _ s
    refine wpAny_bind (wpAny_field ho hd (x := .int i 0) rfl ?_)
    simp only [Int.toNat_natCast, hx]
    refine wpAny_bind (wpAny_rule (wpAny_bind (wpAny_setField ho hd (by simp) (wpAny_bind (wpAny_letGo ?_)))))
    show wpAny _ _ (newExc (.type "StopIteration") [] >>= _) _ _ _
    refine wpAny_bind ?_
    simp only [newExc, newTuple]
    refine wpAny_bind (wpAny_newObj_type ?_ (by size_fits))
    refine wpAny_bind (m := firstArgMember _ _) (wpAny_of_eq (a := Value.none) (by first | rfl | (simp only [firstArgMember]; rfl)) ?_)
    refine wpAny_newObj_type ?_ (by size_fits)
    simp only [raiseNew]
    refine wpAny_bind (wpAny_handled ?_)
    first | rw [show A.in1.handled = none from hh] | rw [hh]
    refine wpAny_bind (wpAny_pure (wpAny_throw ?_))
    exact hE _ _ (((Heap.SameBut.update ..).extBut.push _).push _) ⟨_, Heap.get?_push_size _ rfl, rfl⟩
  · obtain ⟨o, ho, hc, hd⟩ := id hit
    refine wpAny_bind (wpAny_callSpecial?_slot (name := Str.ofString "__next__") hit.typeIs F.slot_str_iterator_next
      (wpAny_call_entry F.slot_str_iterator_next hit.typeIs F.entry_str_iterator_next ?_ (F.args_str_iterator_next_1 _)))
    show wpAny _ _ (field (.ref it) 0 >>= _) _ _ s
    refine wpAny_bind (wpAny_field ho hd (x := .str x t) rfl ?_)
    show wpAny _ _ (field (.ref it) 1 >>= _) _ _ s
    refine wpAny_bind (wpAny_field ho hd (x := .int i 0) rfl ?_)
    simp only [Int.toNat_natCast, hx]
    refine wpAny_bind (wpAny_rule (wpAny_bind (wpAny_setField ho hd (by simp) (wpAny_bind (wpAny_letGo ?_)))))
    show wpAny _ _ (newExc (.type "StopIteration") [] >>= _) _ _ _
    refine wpAny_bind ?_
    simp only [newExc, newTuple]
    refine wpAny_bind (wpAny_newObj_type ?_ (by size_fits))
    refine wpAny_bind (m := firstArgMember _ _) (wpAny_of_eq (a := Value.none) (by first | rfl | (simp only [firstArgMember]; rfl)) ?_)
    refine wpAny_newObj_type ?_ (by size_fits)
    simp only [raiseNew]
    refine wpAny_bind (wpAny_handled ?_)
    first | rw [show A.in1.handled = none from hh] | rw [hh]
    refine wpAny_bind (wpAny_pure (wpAny_throw ?_))
    exact hE _ _ (((Heap.SameBut.update ..).extBut.push _).push _) ⟨_, Heap.get?_push_size _ rfl, rfl⟩

/-- the parts of a zip over a text and a list -/
structure ZP (z TI TO i1 i2 l2 : Addr) : Prop where
  TIz : TI ≠ z
  TOz : TO ≠ z
  i1z : i1 ≠ z
  i2z : i2 ≠ z
  TITO : TI ≠ TO
  TIi1 : TI ≠ i1
  TIi2 : TI ≠ i2
  TOi1 : TO ≠ i1
  TOi2 : TO ≠ i2
  i12 : i1 ≠ i2
  l2z : l2 ≠ z
  l2TO : l2 ≠ TO
  l2i1 : l2 ≠ i1
  l2i2 : l2 ≠ i2
structure ZS (h : Heap) (z TI TO i1 i2 l2 : Addr) (f0 : Value) (x : Str) (t : Tok) (k : Nat) (ys : Array Value) : Prop where
  z : IsZip h z TI TO f0
  ti : IsPair h TI (.ref i1) (.ref i2)
  to : ∃ a b, IsPair h TO a b
  a1 : SI h i1 x t k
  a2 : h.IsListIter i2 l2 k
  l : h.IsList l2 ys

variable {z TI TO i1 i2 l2 : Addr} {x : Str} {t : Tok} {k : Nat} {ys : Array Value}
theorem zip_item {c : Nat} {y : Value} {Q : Value → Shared → Prop} (ap : ZP z TI TO i1 i2 l2) (st : ZS s.heap z TI TO i1 i2 l2 .none x t k ys) (hx : x.cps[k]? = some c) (hy : ys[k]? = some y)
    (hQ : ∀ h' T u tk, s.heap.get? T = none → h'.get? T = some { cls := .type "tuple", data := .seq #[.str ⟨#[c]⟩ u, y] } → T ≠ z → T ≠ TO → T ≠ i1 → T ≠ i2 → ZS h' z TI TO i1 i2 l2 (rawInt T) x t (k + 1) ys →
      (∀ c o, c ≠ z → c ≠ TO → c ≠ i1 → c ≠ i2 → s.heap.get? c = some o → h'.get? c = some o) → Q (.ref T) { s with heap := h', toks := tk }) :
    wpAny (model PW w) A (Builtin.«zip.__next__» ⟨[.ref z], []⟩) (fun fin s' => ∃ v, fin = .done (.ret v) ∧ Q v s') E s := by
  obtain ⟨hz, hTI, ⟨a, b, hTO⟩, h1, h2, hl2⟩ := st
  show wpAny _ _ (field (.ref z) 2 >>= _) _ _ _
  refine wpAny_bind (wpAny_field hz rfl (x := .bool false) rfl ?_)
  show wpAny _ _ (field (.ref z) 3 >>= _) _ _ _
  refine wpAny_bind (wpAny_field hz rfl (x := .ref TI) rfl ?_)
  refine wpAny_bind (wpAny_seqItems hTI rfl ?_)
  show wpAny _ _ (Builtin.SmallTypes.ownedTupleIsFree (.ref z) >>= _) _ _ _
  refine wpAny_bind ?_
  unfold Builtin.SmallTypes.ownedTupleIsFree
  refine wpAny_bind (wpAny_field hz rfl (x := .none) rfl (wpAny_pure ?_))
  simp only [if_true]
  refine wpAny_bind (wpAny_rule ?_)
  refine wpAny_bind (wpAny_field hz rfl (x := .ref TO) rfl ?_)
  refine wpAny_bind (wpAny_setField_rec hz (by simp) fun h₁ hz₁ hs₁ => ?_)
  replace hz₁ : IsZip h₁ z TI TO .ellipsis := hz₁
  refine wpAny_bind ?_
  simp only [List.zipIdx_cons, List.zipIdx_nil, List.forIn_cons, List.forIn_nil]
  refine wpAny_bind (wpAny_bind (wpAny_onRaise ?_))
  show wpAny _ _ (Builtin.SmallTypes.nextOf (.ref i1) >>= _) _ _ _
  refine wpAny_bind (nextOf_str_item (h1.extBut hs₁.extBut ap.i1z) hx fun h₂ u h1₂ hs₂ => wpAny_pure ?_)
  have hTO₂ : IsPair h₂ TO a b := hs₂.extBut _ _ ap.TOi1 (hs₁.extBut _ _ ap.TOz hTO)
  refine wpAny_bind (wpAny_seqItems hTO₂ rfl ?_)
  refine wpAny_bind (wpAny_updateSeq_pair hTO₂ fun h₃ hTO₃ hs₃ => ?_)
  replace hTO₃ : IsPair h₃ TO (.str ⟨#[c]⟩ u) b := hTO₃
  refine wpAny_bind (wpAny_letGo (wpAny_pure ?_))
  refine wpAny_bind (wpAny_bind (wpAny_onRaise ?_))
  show wpAny _ _ (Builtin.SmallTypes.nextOf (.ref i2) >>= _) _ _ _
  refine wpAny_bind (wpAny_nextOf_list_item (((h2.extBut hs₁.extBut ap.i2z).extBut hs₂.extBut ap.i12.symm).extBut hs₃.extBut ap.TOi2.symm)
    (((hl2.extBut hs₁.extBut ap.l2z).extBut hs₂.extBut ap.l2i1).extBut hs₃.extBut ap.l2TO) hy fun h₄ h2₄ hs₄ => wpAny_pure ?_)
  have hTO₄ : IsPair h₄ TO (.str ⟨#[c]⟩ u) b := hs₄.extBut _ _ ap.TOi2 hTO₃
  refine wpAny_bind (wpAny_seqItems hTO₄ rfl ?_)
  refine wpAny_bind (wpAny_updateSeq_pair hTO₄ fun h₅ hTO₅ hs₅ => ?_)
  replace hTO₅ : IsPair h₅ TO (.str ⟨#[c]⟩ u) y := hTO₅
  refine wpAny_bind (wpAny_letGo (wpAny_pure (wpAny_pure ?_)))
  refine wpAny_bind (wpAny_seqItems hTO₅ rfl ?_)
  refine wpAny_bind (wpAny_newTuple ?_)
  have hsz : h₅.objs.size = s.heap.objs.size := by rw [hs₅.1, hs₄.1, hs₃.1, hs₂.1, hs₁.1]
  have hz₅ : IsZip h₅ z TI TO .ellipsis := hs₅.extBut _ _ ap.TOz.symm (hs₄.extBut _ _ ap.i2z.symm (hs₃.extBut _ _ ap.TOz.symm (hs₂.extBut _ _ ap.i1z.symm hz₁)))
  have hk₅ : ∀ c o, c ≠ z → c ≠ TO → c ≠ i1 → c ≠ i2 → s.heap.get? c = some o → h₅.get? c = some o := fun c o c1 c2 c3 c4 e =>
    hs₅.extBut _ _ c2 (hs₄.extBut _ _ c4 (hs₃.extBut _ _ c2 (hs₂.extBut _ _ c3 (hs₁.extBut _ _ c1 e))))
  have h1₅ : SI h₅ i1 x t (k + 1) := ((h1₂.extBut hs₃.extBut ap.TOi1.symm).extBut hs₄.extBut ap.i12).extBut hs₅.extBut ap.TOi1.symm
  have h2₅ : h₅.IsListIter i2 l2 (k + 1) := h2₄.extBut hs₅.extBut ap.TOi2.symm
  have hzlt : z < h₅.objs.size := Heap.lt_size hz₅
  have hTOlt : TO < h₅.objs.size := Heap.lt_size hTO₅
  have hi1lt : i1 < h₅.objs.size := h1₅.lt
  have hi2lt : i2 < h₅.objs.size := by obtain ⟨_, e, _⟩ := h2₅; exact Heap.lt_size e
  show wpAny _ _ (Builtin.SmallTypes.ownedTupleHandOut (.ref z) (.ref h₅.objs.size) >>= _) _ _ _
  refine wpAny_bind ?_
  unfold Builtin.SmallTypes.ownedTupleHandOut
  have hz₆ : IsZip (h₅.push { cls := .type "tuple", data := .seq #[.str ⟨#[c]⟩ u, y] }) z TI TO .ellipsis := Heap.get?_push_of_some _ hz₅
  refine wpAny_bind (wpAny_setField_rec hz₆ (by simp) fun h₇ hz₇ hs₇ => ?_)
  replace hz₇ : IsZip h₇ z TI TO (rawInt h₅.objs.size) := hz₇
  refine wpAny_setField_rec hz₇ (by simp) fun h₈ hz₈ hs₈ => ?_
  replace hz₈ : IsZip h₈ z TI TO (rawInt h₅.objs.size) := hz₈
  have up : ∀ c o, c ≠ z → h₅.get? c = some o → h₈.get? c = some o := fun c o c1 e => hs₈.extBut _ _ c1 (hs₇.extBut _ _ c1 (Heap.get?_push_of_some _ e))
  have hT₈ : h₈.get? h₅.objs.size = some { cls := .type "tuple", data := .seq #[.str ⟨#[c]⟩ u, y] } := hs₈.extBut _ _ (Nat.ne_of_gt hzlt) (hs₇.extBut _ _ (Nat.ne_of_gt hzlt) (Heap.get?_push_size _ rfl))
  refine wpAny_pure ⟨_, rfl, ?_⟩
  show Q (.ref h₅.objs.size) _
  refine hQ h₈ h₅.objs.size u _ (hsz ▸ size_none s.heap) hT₈ (Nat.ne_of_gt hzlt) (Nat.ne_of_gt hTOlt) (Nat.ne_of_gt hi1lt) (Nat.ne_of_gt hi2lt) ⟨hz₈, up _ _ ap.TIz (hk₅ _ _ ap.TIz ap.TITO ap.TIi1 ap.TIi2 hTI), ⟨_, _, up _ _ ap.TOz hTO₅⟩, h1₅.at fun o e => up _ o ap.i1z e, h2₅.at fun o e => up _ o ap.i2z e, ?_⟩
    fun c o c1 c2 c3 c4 e => up c o c1 (hk₅ c o c1 c2 c3 c4 e)
  exact hl2.at fun o e => up _ o ap.l2z (hk₅ _ o ap.l2z ap.l2TO ap.l2i1 ap.l2i2 e)

theorem zip_end {Q : Fin → Shared → Prop} (hh : A.handled = none) (ap : ZP z TI TO i1 i2 l2) (st : ZS s.heap z TI TO i1 i2 l2 .none x t k ys) (hx : x.cps[k]? = none)
    (hE : ∀ h' e, (∀ c o, c ≠ z → c ≠ TO → c ≠ i1 → c ≠ i2 → s.heap.get? c = some o → h'.get? c = some o) → (∃ o, h'.get? e = some o ∧ o.cls = .type "StopIteration") → E (.ref e) { s with heap := h' }) :
    wpAny (model PW w) A (Builtin.«zip.__next__» ⟨[.ref z], []⟩) Q E s := by
  obtain ⟨hz, hTI, ⟨a, b, hTO⟩, h1, h2, hl2⟩ := st
  show wpAny _ _ (field (.ref z) 2 >>= _) _ _ _
  refine wpAny_bind (wpAny_field hz rfl (x := .bool false) rfl ?_)
  show wpAny _ _ (field (.ref z) 3 >>= _) _ _ _
  refine wpAny_bind (wpAny_field hz rfl (x := .ref TI) rfl ?_)
  refine wpAny_bind (wpAny_seqItems hTI rfl ?_)
  show wpAny _ _ (Builtin.SmallTypes.ownedTupleIsFree (.ref z) >>= _) _ _ _
  refine wpAny_bind ?_
  unfold Builtin.SmallTypes.ownedTupleIsFree
  refine wpAny_bind (wpAny_field hz rfl (x := .none) rfl (wpAny_pure ?_))
  simp only [if_true]
  refine wpAny_bind (wpAny_rule ?_)
  refine wpAny_bind (wpAny_field hz rfl (x := .ref TO) rfl ?_)
  refine wpAny_bind (wpAny_setField_rec hz (by simp) fun h₁ hz₁ hs₁ => ?_)
  replace hz₁ : IsZip h₁ z TI TO .ellipsis := hz₁
  refine wpAny_bind ?_
  simp only [List.zipIdx_cons, List.zipIdx_nil, List.forIn_cons, List.forIn_nil]
  refine wpAny_bind (wpAny_bind (wpAny_onRaise ?_))
  show wpAny _ _ (Builtin.SmallTypes.nextOf (.ref i1) >>= _) _ _ _
  refine wpAny_bind (nextOf_str_end hh (h1.extBut hs₁.extBut ap.i1z) hx fun h₂ e hs₂ he => ?_)
  obtain ⟨oe, hoe, hce⟩ := he
  have hz₂ : IsZip h₂ z TI TO .ellipsis := hs₂ _ _ ap.i1z.symm hz₁
  have hez : e ≠ z := fun x => by subst x; rw [hz₂] at hoe; cases hoe; simp at hce
  refine wpAny_setField_rec hz₂ (by simp) fun h₃ _ hs₃ => hE h₃ e (fun c o c1 _ c3 _ x => hs₃.extBut _ _ c1 (hs₂ _ _ c3 (hs₁.extBut _ _ c1 x))) ⟨oe, hs₃.extBut _ _ hez hoe, hce⟩

/-- zip over a text and a list of the same length -/
theorem IterT.zipStr {κ : Nat} {hb : Heap} {vs : List Value} {ds : List D} {elts : List Expr} {k0 : Nat} {p : Pos} (hA : OkA κ A) (ap : ZP z TI TO i1 i2 l2) (hl : HasL hb vs ds) (hn : vs.length = x.cps.size)
    (hl2 : hb.get? l2 ≠ none) :
    IterT w A (.Tuple elts k0 p) (.ref z) [z, TI, TO, i1, i2] hb (List.zipWith (fun c d => .tup [.str ⟨#[c]⟩, d]) x.cps.toList ds) (fun i h => ZS h z TI TO i1 i2 l2 .none x t i vs.toArray) where
  frame := fun i h h' st k => by
    have kk : ∀ b ∈ [z, TI, TO, i1, i2, l2], ∀ o, h.get? b = some o → h'.get? b = some o := fun b m o e => k b o (by
      simp only [List.mem_cons, List.not_mem_nil, or_false] at m ⊢
      rcases m with rfl | rfl | rfl | rfl | rfl | rfl
      · exact .inr (.inl rfl)
      · exact .inr (.inr (.inl rfl))
      · exact .inr (.inr (.inr (.inl rfl)))
      · exact .inr (.inr (.inr (.inr (.inl rfl))))
      · exact .inr (.inr (.inr (.inr (.inr rfl))))
      · exact .inl hl2) e
    obtain ⟨a, b, ⟨u, v, c⟩, d, e, f⟩ := st
    exact ⟨kk z (by simp) _ a, kk TI (by simp) _ b, ⟨u, v, kk TO (by simp) _ c⟩, d.at (kk i1 (by simp)), e.at (kk i2 (by simp)), f.at (kk l2 (by simp))⟩
  live := fun i h st b m q => by
    obtain ⟨a, a', ⟨u, v, c⟩, d, e, f⟩ := st
    simp only [List.mem_cons, List.not_mem_nil, or_false] at m
    rcases m with rfl | rfl | rfl | rfl | rfl
    · rw [a] at q; cases q
    · rw [a'] at q; cases q
    · rw [c] at q; cases q
    · rcases d with ⟨_, d, _⟩ | ⟨_, d, _⟩ <;> rw [d] at q <;> cases q
    · obtain ⟨_, e, _⟩ := e; rw [e] at q; cases q
  item := fun i d s Q E hd st hb' kk => by
    rw [List.getElem?_zipWith] at hd
    cases hc : x.cps.toList[i]? with
    | none => rw [hc] at hd; cases hd
    | some c =>
    cases he : ds[i]? with
    | none => rw [hc, he] at hd; cases hd
    | some d' =>
    rw [hc, he] at hd; cases hd
    obtain ⟨y, hy, hyd⟩ := hl.get he
    have hT : s.TypeIs (.ref z) "zip" := ⟨_, st.z, rfl⟩
    unfold pyNext
    refine wpAny_bind (wpAny_attempt (wpAny_callSpecial?_slot (name := Str.ofString "__next__") hT F.slot_zip_next
      (wpAny_call_entry F.slot_zip_next hT F.entry_zip_next (zip_item ap st (by simpa using hc) (by simpa using hy) fun h' T u tk t0 tt t1 t2 t3 t4 st' keep => wpAny_pure ?_) (F.args_zip_next_1 _))))
    obtain ⟨hz, hTI, ⟨a, b, hTO⟩, h1, h2, hl2⟩ := st'
    refine wpAny_letOwnedTupleGo_zip hz fun h2' hz2 hs2 => kk _ h2' _ ⟨hz2, hs2.extBut _ _ ap.TIz hTI, ⟨a, b, hs2.extBut _ _ ap.TOz hTO⟩, h1.extBut hs2.extBut ap.i1z, h2.extBut hs2.extBut ap.i2z, hl2.extBut hs2.extBut ap.l2z⟩ (fun b o nb e => ?_) fun hb2 x1 x2 => ?_
    · simp only [List.mem_cons, List.not_mem_nil, or_false, not_or] at nb
      exact hs2.extBut _ _ nb.1 (keep b o nb.1 nb.2.2.1 nb.2.2.2.1 nb.2.2.2.2 e)
    · exact .tup (vs := [.str ⟨#[c]⟩ u, y]) (x2 T _ t0 (hs2.extBut _ _ t1 tt)) rfl (HasL.cons (.str _ _) (HasL.cons (hyd.mono x1) .nil)).2
  done := fun s Q E st kk => by
    have hT : s.TypeIs (.ref z) "zip" := ⟨_, st.z, rfl⟩
    have e : (List.zipWith (fun c d => D.tup [.str ⟨#[c]⟩, d]) x.cps.toList ds).length = x.cps.size := by
      rw [List.length_zipWith, ← hl.1, hn]; simp
    unfold pyNext
    refine wpAny_bind (wpAny_attempt (wpAny_callSpecial?_slot (name := Str.ofString "__next__") hT F.slot_zip_next
      (wpAny_call_entry F.slot_zip_next hT F.entry_zip_next (zip_end hA.hd ap st (by rw [e]; simp) fun h' e hk he => ?_) (F.args_zip_next_1 _))))
    obtain ⟨o, ho, hc⟩ := he
    refine wpAny_bind (wpAny_isInstance (T := "StopIteration") (b := true) ⟨o, ho, hc⟩ isSubtype_stop ?_)
    exact wpAny_pure (kk _ _ fun b o nb e => by
      simp only [List.mem_cons, List.not_mem_nil, or_false, not_or] at nb
      exact hk b o nb.1 nb.2.2.1 nb.2.2.2.1 nb.2.2.2.2 e)
  self := fun i s Q E st q => wpAny_pyIter_zip st.z q
end
end
-- part A12
section
open PySem PySem.W PyProof.Rows PySem.Calls

section
variable {w : World} {A : Around} {sc scope : Scope} {env cenv : Env} {h0 hb0 hb h hb' h' : Heap} {δ : Dm} {μ : Mu} {pos p : Pos}

theorem Evs.name {x : Str} {d : D} (hp : plainName x = true) (e : δ.lookup x = some d) : Evs w A sc δ (.Name x p) d := ⟨fun env hb h c => name_ok c hp e⟩
theorem Evs.int {i : Int} {k : Nat} : Evs w A sc δ (.Constant (.int i) k p) (.int i) := ⟨fun env hb h c s Q E es q =>
  wpAny_Constant_int (q _ hb s.heap _ (by subst es; exact .refl c.sub) (.int _ _))⟩
theorem Evs.str {x : Str} {k : Nat} : Evs w A sc δ (.Constant (.str x) k p) (.str x) := ⟨fun env hb h c s Q E es q =>
  wpAny_Constant_str (q _ hb s.heap _ (by subst es; exact .refl c.sub) (.str _ _))⟩
theorem Evs.bool {b : Bool} {k : Nat} : Evs w A sc δ (.Constant (.bool b) k p) (.bool b) := ⟨fun env hb h c s Q E es q =>
  wpAny_Constant_bool (q _ hb s.heap _ (by subst es; exact .refl c.sub) (.bool _))⟩
theorem Evs.none {k : Nat} : Evs w A sc δ (.Constant .none k p) .none := ⟨fun env hb h c s Q E es q =>
  wpAny_Constant_none (q _ hb s.heap _ (by subst es; exact .refl c.sub) .none)⟩
theorem Evs.bin {op : Operator} {l r : Expr} {x y d : D} (hl : Evs w A sc δ l x) (hr : Evs w A sc δ r y) (e : binD op x y = some d) : Evs w A sc δ (.BinOp l op r p) d :=
  ⟨fun env hb h c s Q E es q => wpAny_BinOp (hl.run env hb h c s _ E es fun a hb1 h1 tk st ha => hr.run env hb1 h1 (c.step st) _ _ E rfl fun b hb2 h2 tk2 st2 hb' =>
    bin_ok e st2.inn (ha.mono st2.fz) hb' _ _ E rfl fun v hb3 h3 tk3 st3 hv => q v hb3 h3 tk3 ((st.trans st2).trans st3) hv)⟩
theorem Evs.cmp {op : CmpOp} {l r : Expr} {x y : D} {b : Bool} (hl : Evs w A sc δ l x) (hr : Evs w A sc δ r y) (e : cmpD op x y = some b) (hm : behindInMarks op r = false) : Evs w A sc δ (.Compare l [op] [r] p) (.bool b) :=
  ⟨fun env hb h c s Q E es q => wpAny_Compare1 (hl.run env hb h c s _ E es fun a hb1 h1 tk st ha => hr.run env hb1 h1 (c.step st) _ _ E rfl fun b hb2 h2 tk2 st2 hb' =>
    cmp_ok e st2.inn (ha.mono st2.fz) hb' _ _ E rfl fun v hb3 h3 tk3 st3 hv => q v hb3 h3 tk3 ((st.trans st2).trans st3) (by rw [hv]; exact .bool _)) hm⟩
theorem Tru.cmp {op : CmpOp} {l r : Expr} {x y : D} {b : Bool} (hl : Evs w A sc δ l x) (hr : Evs w A sc δ r y) (e : cmpD op x y = some b) (hm : behindInMarks op r = false) : Tru w A sc δ (.Compare l [op] [r] p) b :=
  ⟨fun env hb h c s Q E es q => wpAny_isTrue_Compare1 (hl.run env hb h c s _ E es fun a hb1 h1 tk st ha => hr.run env hb1 h1 (c.step st) _ _ E rfl fun b hb2 h2 tk2 st2 hb' =>
    cmp_ok e st2.inn (ha.mono st2.fz) hb' _ _ E rfl fun v hb3 h3 tk3 st3 hv => by rw [hv]; exact truthy_ok st3.inn _ _ E rfl fun r hb4 h4 tk4 st4 hr => q r hb4 h4 tk4 (((st.trans st2).trans st3).trans st4) hr) hm⟩
/-- an expression whose truth is that of its value -/
theorem Tru.val {e : Expr} {b : Bool} (h1 : Evs w A sc δ e (.bool b)) (he : ∀ env whole, isTrue e env whole = (do let v ← whole; standAt e.pos; holding [v] (truthy v))) : Tru w A sc δ e b :=
  ⟨fun env hb h c s Q E es q => wpAny_isTrue_value (h1.run env hb h c s _ E es fun a hb1 h1 tk st ha => by
    rw [ha.bool_inv]; exact truthy_ok st.inn _ _ E rfl fun r hb4 h4 tk4 st4 hr => q r hb4 h4 tk4 (st.trans st4) hr) (he env _)⟩
theorem Tru.not {e : Expr} {b : Bool} (x : Tru w A sc δ e b) : Tru w A sc δ (.UnaryOp .Not e p) (!b) :=
  ⟨fun env hb h c s Q E es q => wpAny_isTrue_Not (x.run env hb h c s _ E es fun r hb1 h1 tk st hr => q _ hb1 h1 tk st (by rw [hr]))⟩
theorem Tru.and {x y : Expr} {a b : Bool} (h1 : Tru w A sc δ x a) (h2 : a = true → Tru w A sc δ y b) : Tru w A sc δ (.BoolOp .And [x, y] p) (a && b) :=
  ⟨fun env hb h c s Q E es q => wpAny_isTrue_BoolOp (wpAny_allTrue_And_cons (h1.run env hb h c s _ E es fun r hb1 h1' tk st hr => by
    subst hr
    cases r with
    | false => simp only [Bool.false_eq_true, if_false]; exact q _ hb1 h1' tk st rfl
    | true =>
      simp only [if_true]
      refine wpAny_allTrue_And_cons ((h2 rfl).run env hb1 h1' (c.step st) _ _ E rfl fun r hb2 h2' tk2 st2 hr => ?_)
      subst hr
      cases r with
      | false => simp only [Bool.false_eq_true, if_false]; exact q _ hb2 h2' tk2 (st.trans st2) rfl
      | true => simp only [if_true]; exact wpAny_allTrue_And_nil (q _ hb2 h2' tk2 (st.trans st2) rfl)))⟩
theorem Tru.or {x y : Expr} {a b : Bool} (h1 : Tru w A sc δ x a) (h2 : a = false → Tru w A sc δ y b) : Tru w A sc δ (.BoolOp .Or [x, y] p) (a || b) :=
  ⟨fun env hb h c s Q E es q => wpAny_isTrue_BoolOp (wpAny_allTrue_Or_cons (h1.run env hb h c s _ E es fun r hb1 h1' tk st hr => by
    subst hr
    cases r with
    | true => simp only [if_true]; exact q _ hb1 h1' tk st rfl
    | false =>
      simp only [Bool.false_eq_true, if_false]
      refine wpAny_allTrue_Or_cons ((h2 rfl).run env hb1 h1' (c.step st) _ _ E rfl fun r hb2 h2' tk2 st2 hr => ?_)
      subst hr
      cases r with
      | true => simp only [if_true]; exact q _ hb2 h2' tk2 (st.trans st2) rfl
      | false => simp only [Bool.false_eq_true, if_false]; exact wpAny_allTrue_Or_nil (q _ hb2 h2' tk2 (st.trans st2) rfl)))⟩
/-- «x and y» as a value, of two truths -/
theorem Evs.and {x y : Expr} {a b : Bool} (h1 : Evs w A sc δ x (.bool a)) (h2 : a = true → Evs w A sc δ y (.bool b)) : Evs w A sc δ (.BoolOp .And [x, y] p) (.bool (a && b)) :=
  ⟨fun env hb h c s Q E es q => by
    show wpAny _ _ (boolOp p .And [eval x env, eval y env]) _ _ _
    refine wpAny_bind (h1.run env hb h c s _ E es fun v hb1 h1' tk st hv => ?_)
    rw [hv.bool_inv]
    refine wpAny_bind (wpAny_standAt (wpAny_bind (wpAny_holding (truthy_ok st.inn _ _ E rfl fun r hb2 h2' tk2 st2 hr => ?_))))
    subst hr
    cases r with
    | false => exact wpAny_pure (q _ hb2 h2' tk2 (st.trans st2) (.bool _))
    | true =>
      show wpAny _ _ (eval y env) _ _ _
      exact (h2 rfl).run env hb2 h2' (c.step (st.trans st2)) _ _ E rfl fun v hb3 h3 tk3 st3 hv => q v hb3 h3 tk3 ((st.trans st2).trans st3) hv⟩
theorem Evs.ifexp {t x y : Expr} {b : Bool} {d : D} (ht : Tru w A sc δ t b) (h1 : b = true → Evs w A sc δ x d) (h2 : b = false → Evs w A sc δ y d) : Evs w A sc δ (.IfExp t x y p) d :=
  ⟨fun env hb h c s Q E es q => wpAny_IfExp (ht.run env hb h c s _ E es fun r hb1 h1' tk st hr => by
    subst hr
    cases r with
    | true => simp only [if_true]; exact (h1 rfl).run env hb1 h1' (c.step st) _ _ E rfl fun v hb2 h2 tk2 st2 hv => q v hb2 h2 tk2 (st.trans st2) hv
    | false => simp only [Bool.false_eq_true, if_false]; exact (h2 rfl).run env hb1 h1' (c.step st) _ _ E rfl fun v hb2 h2 tk2 st2 hv => q v hb2 h2 tk2 (st.trans st2) hv)⟩
theorem Evs.list {es : List Expr} {ds : List D} (x : EvsL w A sc δ es ds) (hl : ds.length ≤ bigL) : Evs w A sc δ (.List es p) (.list ds) :=
  ⟨fun env hb h c s Q E es q => wpAny_List (spliced_ok x c s _ E es fun vs hb1 h1 tk st hv => ⟨by have := hv.1; have := bigL_le; omega,
    q _ (frz hb1 h1 _) _ tk (st.trans (step_frz st.inn (.push _))) (has_list_push st.inn hv)⟩)⟩
theorem Evs.tuple {es : List Expr} {ds : List D} {k : Nat} (x : EvsL w A sc δ es ds) (hl : ds.length ≤ bigL) : Evs w A sc δ (.Tuple es k p) (.tup ds) :=
  ⟨fun env hb h c s Q E es q => wpAny_Tuple (spliced_ok x c s _ E es fun vs hb1 h1 tk st hv => ⟨by have := hv.1; have := bigL_le; omega,
    q _ (frz hb1 h1 _) _ tk (st.trans (step_frz st.inn (.push _))) (has_tup_push st.inn hv)⟩)⟩
theorem Evs.item {v i : Expr} {x y d : D} (hv : Evs w A sc δ v x) (hi : Evs w A sc δ i y) (ns : notSlice i = true) (e : itemD x y = some d) : Evs w A sc δ (.Subscript v i p) d :=
  ⟨fun env hb h c s Q E es q => by
    show wpAny _ _ (do let o ← eval v env; let j ← holding [o] (eval i env); standAt p; subscriptTail v i o j) _ _ _
    refine wpAny_bind (hv.run env hb h c s _ E es fun o hb1 h1 tk st ho => wpAny_bind (wpAny_holding (hi.run env hb1 h1 (c.step st) _ _ E rfl fun j hb2 h2 tk2 st2 hj => wpAny_bind (wpAny_standAt ?_))))
    exact tail_ok ns e st2.inn (ho.mono st2.fz) hj _ _ E rfl fun v hb3 h3 tk3 st3 hv => q v hb3 h3 tk3 ((st.trans st2).trans st3) hv⟩
end
end
-- part A13
section
open PySem PySem.W PyProof.Rows PySem.Calls

/-- the name x of a block with the scope sc is the built-in v -/
structure Blt (w : World) (sc : Scope) (x : Str) (v : Value) : Prop where
  pl : plainName x = true
  sc : sc.names.lookup x = some .globalImplicit
  no : nsIn (KF w.params) mainGlobals x = some none
  nn : x ≠ "__name__"
  ev : bootBuiltins x = some v
/-- the name x of a block with the scope sc is the top's v -/
structure Glb (w : World) (sc : Scope) (x : Str) (v : Value) : Prop where
  pl : plainName x = true
  sc : sc.names.lookup x = some .globalImplicit
  ev : nsIn (KF w.params) mainGlobals x = some (some v)

section
variable {w : World} {A : Around} {sc scope : Scope} {env cenv : Env} {h0 hb0 hb h hb' h' : Heap} {δ : Dm} {μ : Mu} {pos p : Pos}

theorem Blt.ok {x : Str} {v : Value} (b : Blt w sc x v) (c : Ctx w sc env δ hb h) : Tri w A (eval (.Name x p) env) hb h fun r _ => r = v := blt_ok c b.pl b.sc b.no b.nn b.ev
theorem Glb.ok {x : Str} {v : Value} (b : Glb w sc x v) (c : Ctx w sc env δ hb h) : Tri w A (eval (.Name x p) env) hb h fun r _ => r = v := glob_ok c b.pl b.sc b.ev
theorem Evs.glb {x : Str} {a : Addr} (b : Glb w sc x (.ref a)) : Evs w A sc δ (.Name x p) (.adr a) := ⟨fun env hb h c s Q E es q =>
  b.ok c s Q E es fun r hb' h' tk st hr => q r hb' h' tk st (by rw [hr]; exact .adr a)⟩

theorem Evs.callB {κ : Nat} {x : Str} {f : String} {es : List Expr} {ds : List D} {d : D} (hA : OkA κ A) (b : Blt w sc x (.builtin f)) (xs : EvsL w A sc δ es ds) (e : callB f ds = some d) : Evs w A sc δ (.Call (.Name x p) es [] pos) d :=
  ⟨fun env hb h c s Q E es' q => Call_Name rfl (b.ok c s _ E es' fun r hb1 h1 tk st hr => by
    subst hr
    refine callWith_builtin (any_star xs.stars) (evalArgs_ok xs (c.step st) _ _ E rfl fun a hb2 h2 tk2 st2 ha => ?_)
    rw [ha.1]
    exact callB_ok hA e st2.inn ha.2 _ _ E rfl fun v hb3 h3 tk3 st3 hv => q v hb3 h3 tk3 ((st.trans st2).trans st3) hv)⟩

theorem eval_meth {o : Expr} {name : Str} {apos pos : Pos} {args : List Expr} : eval (.Call (.Attribute o name apos) args [] pos) env = (do
    let ov ← attributeBase o name env (eval o env)
    standAt apos.atName
    methodCall o name apos pos env ov (args.length + 0) (backTo pos (starEach args env)) (backToKw pos (keywordEach [] env))) := rfl
theorem few_ok {es : List Expr} (x : es.all notStar = true) (hl : es.length < 30) : ((backTo pos (starEach es env)).all (fun x => !x.1) && (backToKw pos (keywordEach [] env)).all (fun x => x.1.isSome)
      && decide (es.length + ([] : List Keyword).length + (if ([] : List Keyword).isEmpty then 0 else 1) < 30)) = true := by
  have h1 : (backTo pos (starEach es env)).all (fun x => !x.1) = true := by
    have := any_star (env := env) (pos := pos) x
    rw [List.all_eq_true]
    intro y m
    cases q : y.1 with
    | false => rfl
    | true => exact absurd (List.any_eq_true.mpr ⟨y, m, q⟩) (by rw [this]; decide)
  rw [h1]
  have h2 : (backToKw pos (keywordEach [] env)).all (fun x => x.1.isSome) = true := rfl
  rw [h2]
  simpa using hl
theorem Evs.methB {m : String} {o : Expr} {es : List Expr} {x d : D} {ds : List D} {ap : Pos} (ho : Evs w A sc δ o x) (nc : notCall o = true) (xs : EvsL w A sc δ es ds) (e : methB m x ds = some d)
    (hl : es.length < 30) (hline : (ap.endLine == pos.line) = true) : Evs w A sc δ (.Call (.Attribute o (Str.ofString m) ap) es [] pos) d :=
  ⟨fun env hb h c s Q E es' q => wpAny_Call_method_late (attrBase_plain nc) (few_ok xs.stars hl) hline rfl (ho.run env hb h c s _ E es' fun ov hb1 h1 tk st hv =>
    methB_ok (c.step st) e hv xs _ Q E rfl fun r hb2 h2 tk2 st2 hr => q r hb2 h2 tk2 (st.trans st2) hr)⟩
theorem Evs.ty {x : Str} {T : String} (b : Blt w sc x (.type T)) : Evs w A sc δ (.Name x p) (.ty T) := ⟨fun env hb h c s Q E es q =>
  b.ok c s Q E es fun r hb' h' tk st hr => q r hb' h' tk st (by rw [hr]; exact .ty T)⟩

/-- range(n), range(a, b) -/
theorem Evs.range1 {x : Str} {e : Expr} {n : Int} (b : Blt w sc x (.type "range")) (he : Evs w A sc δ e (.int n)) (ns : notStar e = true) : Evs w A sc δ (.Call (.Name x p) [e] [] pos) (.range 0 n) :=
  ⟨fun env hb h c s Q E es' q => Call_Name rfl (b.ok c s _ E es' fun r hb1 h1 tk st hr => by
    subst hr
    have xs : EvsL w A sc δ [e] [.int n] := .cons ns he .nil
    refine PyProof.Rows.callWith_type (any_star xs.stars) (evalArgs_ok xs (c.step st) _ _ E rfl fun a hb2 h2 tk2 st2 ha => ?_)
    obtain ⟨v, hv, hv2⟩ := ha.2.one
    obtain ⟨t, rfl⟩ := hv2.int_inv
    rw [ha.1, hv]
    exact call_range_1 (q _ (frz hb2 h2 _) _ _ ((st.trans st2).trans (step_frz st2.inn (.push _))) (.range (frz_push rfl))))⟩
theorem Evs.range2 {x : Str} {e f : Expr} {m n : Int} (b : Blt w sc x (.type "range")) (he : Evs w A sc δ e (.int m)) (ns : notStar e = true) (hf : Evs w A sc δ f (.int n)) (nf : notStar f = true) : Evs w A sc δ (.Call (.Name x p) [e, f] [] pos) (.range m n) :=
  ⟨fun env hb h c s Q E es' q => Call_Name rfl (b.ok c s _ E es' fun r hb1 h1 tk st hr => by
    subst hr
    have xs : EvsL w A sc δ [e, f] [.int m, .int n] := .cons ns he (.cons nf hf .nil)
    refine PyProof.Rows.callWith_type (any_star xs.stars) (evalArgs_ok xs (c.step st) _ _ E rfl fun a hb2 h2 tk2 st2 ha => ?_)
    obtain ⟨u, v, hv, hu, hv2⟩ := ha.2.two
    obtain ⟨t, rfl⟩ := hu.int_inv
    obtain ⟨t2, rfl⟩ := hv2.int_inv
    rw [ha.1, hv]
    exact call_range_2 (q _ (frz hb2 h2 _) _ _ ((st.trans st2).trans (step_frz st2.inn (.push _))) (.range (frz_push rfl))))⟩
end
end
-- part A14
section
open PySem PySem.W PyProof.Rows PySem.Calls

/-- a part of a slice -/
inductive Prt (w : World) (A : Around) (sc : Scope) (δ : Dm) : Option Expr → Option Int → Prop
  | none : Prt w A sc δ .none .none
  | some {e : Expr} {i : Int} : Evs w A sc δ e (.int i) → Prt w A sc δ (.some e) (.some i)
noncomputable def sliceD (x : D) (lo hi st : Option Int) : Option D :=
  match x with
  | .list l => if l.length ≤ bigL ∧ st ≠ some 0 then some (.list (sliceL l lo hi st)) else none
  | .str y => if y.length ≤ bigL ∧ st = none then some (.str (Txt.slice y lo hi)) else none
  | _ => none

section
variable {w : World} {A : Around} {sc scope : Scope} {env cenv : Env} {h0 hb0 hb h hb' h' : Heap} {δ : Dm} {μ : Mu} {pos p : Pos}

theorem Prt.ok {e : Option Expr} {i : Option Int} (x : Prt w A sc δ e i) (c : Ctx w sc env δ hb h) : Tri w A (evalPart e env) hb h fun v _ => ∃ l : Option (Int × Tok), v = partValue l ∧ l.map (·.1) = i := by
  intro s Q E es q
  cases x with
  | none => exact wpAny_pure (q _ hb s.heap s.toks (by subst es; exact .refl c.sub) ⟨Option.none, rfl, rfl⟩)
  | some x =>
    exact x.run env hb h c s Q E es fun v hb1 h1 tk st hv => q v hb1 h1 tk st (by obtain ⟨t, rfl⟩ := hv.int_inv; exact ⟨Option.some (_, t), rfl, rfl⟩)
theorem slice_post {y : Str} {t : Tok} {l u : Option (Int × Tok)} {Q : Value → Shared → Prop} {s : Shared} (hl : y.length ≤ bigL) (q : ∀ t' k, Q (.str (Txt.slice y (l.map (·.1)) (u.map (·.1))) t') { s with toks := k }) :
    (sliceMade y t l u Option.none).post Q s := by
  have h1 := Nat.le_trans (Txt.slice_le y (l.map (·.1)) (u.map (·.1))) (Nat.le_trans hl bigL_le)
  unfold sliceMade slicePicked
  unfold Txt.slice at h1 q
  exact post_val_or_str ⟨h1, q⟩
theorem isPart_of {l : Option (Int × Tok)} : IsPart (partValue l) (l.map (·.1)) := by
  cases l with
  | none => exact .none
  | some q => exact .int _ _

theorem Evs.slice {v : Expr} {lower upper step : Option Expr} {lo hi st : Option Int} {x d : D} (hv : Evs w A sc δ v x) (hl : Prt w A sc δ lower lo) (hu : Prt w A sc δ upper hi) (hs : Prt w A sc δ step st) (e : sliceD x lo hi st = some d) :
    Evs w A sc δ (.Subscript v (.Slice lower upper step p) pos) d := by
  refine ⟨fun env hb h c s Q E es q => ?_⟩
  show wpAny _ _ (do let o ← eval v env; let j ← holding [o] (eval (.Slice lower upper step p) env); standAt pos; subscriptTail v (.Slice lower upper step p) o j) _ _ _
  refine wpAny_bind (hv.run env hb h c s _ E es fun o hb1 h1 tk st1 ho => wpAny_bind (wpAny_holding (wpAny_Slice ?_)))
  have c1 := c.step st1
  refine hl.ok c1 _ _ E rfl fun vl hb2 h2 tk2 st2 ⟨ll, el, ml⟩ => ?_
  refine hu.ok (c1.step st2) _ _ E rfl fun vu hb3 h3 tk3 st3 ⟨lu, eu, mu⟩ => ?_
  refine hs.ok ((c1.step st2).step st3) _ _ E rfl fun vs hb4 h4 tk4 st4 ⟨ls, es', ms⟩ => ?_
  subst el eu es' ml mu ms
  refine wpAny_bind (wpAny_standAt ?_)
  have so := ((st1.trans st2).trans st3).trans st4
  have ho4 := ((ho.mono st2.fz).mono st3.fz).mono st4.fz
  have sl := Step.fresh (o := { cls := .type "slice", data := .fields #[partValue ll, partValue lu, partValue ls] }) st4.inn
  unfold sliceD at e
  have sub : ∀ o j, ∃ ops, subscripted (.Slice lower upper step p) false o j = operate ops (getItem o j) := fun o j => by
    cases step with
    | none => exact ⟨_, rfl⟩
    | some z => exact ⟨_, rfl⟩
  split at e
  · split at e
    · rename_i l hh
      cases e
      obtain ⟨a, us, n, rfl, e1, l1⟩ := ho4.list_inv
      have il : h4.IsList a us.toArray := ⟨_, st4.inn _ _ e1, rfl, _, rfl⟩
      obtain ⟨ops, es⟩ := sub (.ref a) (.ref h4.objs.size)
      refine tail_any (il.push _).typeIs slot_list_getitem.lookup (wpAny_getItem_list_slice (il.push _) (Heap.IsSliceOf.new ..) isPart_of isPart_of isPart_of hh.2 ?_ (by have := l1.1; have := hh.1; have := bigL_le; simp only [List.size_toArray]; omega)) es
      refine q _ (frz hb4 (h4.push _) _) _ _ (so.trans (sl.trans (step_frz sl.inn (.push _)))) ?_
      have : slicePick us.toArray (ll.map (·.1)) (lu.map (·.1)) (ls.map (·.1)) = (sliceL us (ll.map (·.1)) (lu.map (·.1)) (ls.map (·.1))).toArray := by
        unfold slicePick sliceL
        simp
      rw [this]
      refine has_list_push sl.inn ?_
      have := l1.pick (sliceRange (sliceBounds (ll.map (·.1)) (lu.map (·.1)) (ls.map (·.1)) us.length).1 (sliceBounds (ll.map (·.1)) (lu.map (·.1)) (ls.map (·.1)) us.length).2.1 (sliceBounds (ll.map (·.1)) (lu.map (·.1)) (ls.map (·.1)) us.length).2.2)
      unfold sliceL
      rw [← l1.1]; exact this
    · cases e
  · split at e
    · rename_i y hh
      cases e
      obtain ⟨t, rfl⟩ := ho4.str_inv
      obtain ⟨ops, es⟩ := sub (.str y t) (.ref h4.objs.size)
      have : ls = Option.none := by
        cases ls with
        | none => rfl
        | some z => cases hh.2
      subst this
      refine tail_any (typeIs_str _ y t) F.slot_str_getitem.lookup (wpAny_getItem_str_slice (l := ll) (u := lu) (st := Option.none) ⟨_, Heap.get?_push_size _ rfl, rfl, rfl⟩ rfl ?_) es
      exact slice_post hh.1 fun t' k => q (.str (Txt.slice y (ll.map (·.1)) (lu.map (·.1))) t') hb4 _ k (so.trans sl) (.str _ _)
    · cases e
  · cases e
end
end
-- part A15
section
open PySem PySem.W PyProof.Rows PySem.Calls
open Sem (wp)

noncomputable abbrev zsO (x : Str) (t : Tok) : Obj := { cls := .type (if x.cps.all (· < 128) then "str_ascii_iterator" else "str_iterator"), data := .fields #[.str x t, .int 0 0] }
noncomputable abbrev zs1 (h : Heap) (x : Str) (t : Tok) : Heap := h.push (zsO x t)
noncomputable abbrev zs2 (h : Heap) (x : Str) (t : Tok) (l2 : Addr) : Heap := (zs1 h x t).push { cls := .type "list_iterator", data := .fields #[.ref l2, .int 0 0] }
noncomputable abbrev zs3 (h : Heap) (x : Str) (t : Tok) (l2 : Addr) : Heap := (zs2 h x t l2).push { cls := .type "tuple", data := .seq #[.ref h.objs.size, .ref (zs1 h x t).objs.size] }
noncomputable abbrev zs4 (h : Heap) (x : Str) (t : Tok) (l2 : Addr) : Heap := (zs3 h x t l2).push { cls := .type "tuple", data := .seq #[.none, .none] }
noncomputable abbrev zs5 (h : Heap) (x : Str) (t : Tok) (l2 : Addr) : Heap := (zs4 h x t l2).push { cls := .type "zip", data := .fields #[.none, .bool false, .bool false, .ref (zs2 h x t l2).objs.size, .ref (zs3 h x t l2).objs.size] }

theorem pyIter_strO {prog : Program} {w : World} {A : Around} {E : Value → Shared → Prop} {s : Shared} {x : Str} {t : Tok} {Q : Value → Shared → Prop} (k : Q (.ref s.heap.objs.size) { s with heap := s.heap.push (zsO x t) }) : wpAny (model prog w) A (pyIter (.str x t)) Q E s := by
  cases ha : x.cps.all (· < 128)
  · refine wpAny_pyIter_wide ha ?_
    have e : zsO x t = { cls := .type "str_iterator", data := .fields #[.str x t, .int 0 0] } := by unfold zsO; rw [ha]; rfl
    rw [← e]; exact k
  · refine wpAny_pyIter_ascii ha ?_
    have e : zsO x t = { cls := .type "str_ascii_iterator", data := .fields #[.str x t, .int 0 0] } := by unfold zsO; rw [ha]; rfl
    rw [← e]; exact k

theorem typeCall_zip (x : Str) (t : Tok) (b : Value) : checkTypeCall "zip" ⟨[.str x t, b], []⟩ = pure () := F.typeCall_zip_2 _ _
set_option maxHeartbeats 4000000 in
theorem meets_zipS (x : Str) (t : Tok) (l2 : Addr) (ys : Array Value) :
    Meets (Builtin.«zip.__new__» ⟨[.type "zip", .str x t, .ref l2], []⟩) (fun _ R s => s.heap.IsList l2 ys ∧
      R (.ok (.ret (.ref (zs4 s.heap x t l2).objs.size))) { s with heap := zs5 s.heap x t l2 }) :=
  .of_wp fun prog w A R s h => by
    obtain ⟨hp, g, d, tk, os⟩ := s; obtain ⟨hl2, h⟩ := h
    have hsub := sub_zip
    have hL2 : Heap.IsList (Shared.heap ⟨hp.push (zsO x t), g, d, tk, os⟩) l2 ys := Heap.IsList.push hl2 _
    have hp1 : ∀ (A : Around) (E : Value → Shared → Prop) (Q : Value → Shared → Prop), Q (.ref hp.objs.size) ⟨hp.push (zsO x t), g, d, tk, os⟩ → wpAny (model prog w) A (pyIter (.str x t)) Q E ⟨hp, g, d, tk, os⟩ := fun A E Q q => pyIter_strO q
    unfold zs5 zs4 zs3 zs2 zs1 at h
    dsimp only at h hL2
    generalize zsO x t = z at h hL2 hp1
    wp_walk using hp1, wpAny_pyIter_list hL2
    exact ⟨_, rfl, h⟩
end
-- part A16
section
open PySem PySem.W PyProof.Rows PySem.Calls
open Sem (wp)

section
variable {w : World} {A : Around} {sc scope : Scope} {env cenv : Env} {h0 hb0 hb h hb' h' : Heap} {δ : Dm} {μ : Mu} {pos p : Pos}

theorem zapart {n : Nat} {l2 : Addr} (h : l2 < n) : ZP (n + 4) (n + 2) (n + 3) n (n + 1) l2 := by
  have a : ∀ i j : Nat, i ≠ j → n + i ≠ n + j := fun i j h => by omega
  have b : ∀ i : Nat, l2 ≠ n + i := fun i => Nat.ne_of_lt (Nat.lt_of_lt_of_le h (Nat.le_add_right _ _))
  exact ⟨a 2 4 (by decide), a 3 4 (by decide), a 0 4 (by decide), a 1 4 (by decide), a 2 3 (by decide), a 2 0 (by decide), a 2 1 (by decide), a 3 0 (by decide), a 3 1 (by decide), a 0 1 (by decide), b 4, b 3, b 0, b 1⟩

theorem new_out {b : Addr} (st : Step hb h hb' h') (l : h'.objs.size ≤ b) : h.get? b = none ∧ hb'.get? b = none := by
  have n : h'.get? b = none := by
    cases q : h'.get? b with
    | none => rfl
    | some o => exact absurd (Heap.lt_size q) (Nat.not_lt.mpr l)
  refine ⟨?_, ?_⟩
  · cases q : h.get? b with
    | none => rfl
    | some o => rw [st.ext b o q] at n; cases n
  · cases q : hb'.get? b with
    | none => rfl
    | some o => rw [st.inn b o q] at n; cases n

theorem Evi.zipStr {κ : Nat} {x : Str} {e1 e2 : Expr} {elts : List Expr} {k0 : Nat} {p3 : Pos} {y : Str} {ds : List D} (hA : OkA κ A) (b : Blt w sc x (.type "zip")) (n1 : notStar e1 = true) (n2 : notStar e2 = true)
    (h1 : Evs w A sc δ e1 (.str y)) (h2 : Evs w A sc δ e2 (.list ds)) (hl : ds.length = y.length) :
    Evi w A sc δ (.Call (.Name x p) [e1, e2] [] pos) (.Tuple elts k0 p3) (List.zipWith (fun c d => .tup [.str ⟨#[c]⟩, d]) y.cps.toList ds) := by
  intro env hb h c s Q E es q
  refine Call_Name rfl (b.ok c s _ E es fun r hb1 h1' tk st hr => ?_)
  subst hr
  have xs : EvsL w A sc δ [e1, e2] [.str y, .list ds] := .cons n1 h1 (.cons n2 h2 .nil)
  refine PyProof.Rows.callWith_type (any_star xs.stars) (evalArgs_ok xs (c.step st) _ _ E rfl fun a hb2 h2 tk2 st2 ha => ?_)
  obtain ⟨u, v, hv, hu, hv2⟩ := ha.2.two
  obtain ⟨t, rfl⟩ := hu.str_inv
  obtain ⟨l2, vs, n, rfl, e2', l2l⟩ := hv2.list_inv
  rw [ha.1, hv]
  have il : h2.IsList l2 vs.toArray := ⟨_, st2.inn _ _ e2', rfl, _, rfl⟩
  have llt : l2 < h2.objs.size := Heap.lt_size (st2.inn _ _ e2')
  refine callType_new F.called_zip (by decide) (F.typeCall_zip_2 _ _) (F.newCall_zip_2 _ _) (fun obj => F.args_object_init_3 obj _ _) F.entry_zip_new
    (meets_zipS y t l2 vs.toArray) ⟨il, ?_⟩
  have z1 : (zs1 h2 y t).objs.size = h2.objs.size + 1 := Heap.size_push ..
  have z2 : (zs2 h2 y t l2).objs.size = h2.objs.size + 2 := by rw [Heap.size_push, z1]
  have z3 : (zs3 h2 y t l2).objs.size = h2.objs.size + 3 := by rw [Heap.size_push, z2]
  have z4 : (zs4 h2 y t l2).objs.size = h2.objs.size + 4 := by rw [Heap.size_push, z3]
  have z5 : (zs5 h2 y t l2).objs.size = h2.objs.size + 5 := by rw [Heap.size_push, z4]
  have g5 : (zs5 h2 y t l2).get? (zs4 h2 y t l2).objs.size = some _ := Heap.get?_push_size _ rfl
  have g4 : (zs5 h2 y t l2).get? (zs3 h2 y t l2).objs.size = some _ := Heap.get?_push_of_some _ (Heap.get?_push_size _ rfl)
  have g3 : (zs5 h2 y t l2).get? (zs2 h2 y t l2).objs.size = some _ := Heap.get?_push_of_some _ (Heap.get?_push_of_some _ (Heap.get?_push_size _ rfl))
  have g2 : (zs5 h2 y t l2).get? (zs1 h2 y t).objs.size = some _ := Heap.get?_push_of_some _ (Heap.get?_push_of_some _ (Heap.get?_push_of_some _ (Heap.get?_push_size _ rfl)))
  have g1 : (zs5 h2 y t l2).get? h2.objs.size = some (zsO y t) := Heap.get?_push_of_some _ (Heap.get?_push_of_some _ (Heap.get?_push_of_some _ (Heap.get?_push_of_some _ (Heap.get?_push_size _ rfl))))
  show _ ∧ _
  rw [z2, z3, z4] at g5
  rw [z1, z2] at g3
  rw [z3] at g4
  rw [z1] at g2
  rw [z4]
  refine ⟨⟨_, g5, rfl⟩, ?_⟩
  have up : Ext h2 (zs5 h2 y t l2) := fun b o e => Heap.get?_push_of_some _ (Heap.get?_push_of_some _ (Heap.get?_push_of_some _ (Heap.get?_push_of_some _ (Heap.get?_push_of_some _ e))))
  generalize zs5 h2 y t l2 = H at g5 g4 g3 g2 g1 z5 up
  have zs : ZS H (h2.objs.size + 4) (h2.objs.size + 2) (h2.objs.size + 3) h2.objs.size (h2.objs.size + 1) l2 .none y t 0 vs.toArray := by
    refine ⟨g5, g3, ⟨_, _, g4⟩, ?_, ⟨_, g2, rfl, rfl⟩, il.at fun o e => up _ o e⟩
    cases hc : y.cps.all (· < 128)
    · exact .inr ⟨_, g1, by show Value.type (if y.cps.all (· < 128) = true then _ else _) = _; rw [hc]; rfl, rfl⟩
    · exact .inl ⟨_, g1, by show Value.type (if y.cps.all (· < 128) = true then _ else _) = _; rw [hc]; rfl, rfl⟩
  refine wpAny_pyIter_zip zs.z ?_
  refine q _ hb2 H _ [h2.objs.size + 4, h2.objs.size + 2, h2.objs.size + 3, h2.objs.size, h2.objs.size + 1] _ (IterT.zipStr hA (zapart llt) l2l (l2l.1.trans hl) (by rw [e2']; intro q; cases q)) zs ((st.trans st2).trans ⟨up, .refl _, fun b o e => up b o (st2.inn b o e), fun _ _ e => .inl e⟩) ?_
  exact fun b m => new_out (st.trans st2) (by
      simp only [List.mem_cons, List.not_mem_nil, or_false] at m
      rcases m with rfl | rfl | rfl | rfl | rfl
      · exact Nat.le_add_right _ _
      · exact Nat.le_add_right _ _
      · exact Nat.le_add_right _ _
      · exact Nat.le_refl _
      · exact Nat.le_add_right _ _)

structure ZL (h : Heap) (z TI TO i1 i2 l1 l2 : Addr) (f0 : Value) (k : Nat) (xs ys : Array Value) : Prop where
  z : IsZip h z TI TO f0
  ti : IsPair h TI (.ref i1) (.ref i2)
  to : ∃ a b, IsPair h TO a b
  a1 : h.IsListIter i1 l1 k
  a2 : h.IsListIter i2 l2 k
  k : h.IsList l1 xs
  l : h.IsList l2 ys
theorem IterT.zipList {κ : Nat} {z TI TO i1 i2 l1 l2 : Addr} {vs us : List Value} {ds es : List D} {elts : List Expr} {k0 : Nat} {p : Pos} (hA : OkA κ A) (ap : ZipApart z TI TO i1 i2 l1 l2) (hv : HasL hb vs ds) (hu : HasL hb us es)
    (hl1 : hb.get? l1 ≠ none) (hl2 : hb.get? l2 ≠ none) :
    IterT w A (.Tuple elts k0 p) (.ref z) [z, TI, TO, i1, i2] hb (List.zipWith (fun c d => .tup [c, d]) ds es) (fun i h => ZL h z TI TO i1 i2 l1 l2 .none i vs.toArray us.toArray) where
  frame := fun i h h' st k => by
    have kk : ∀ b ∈ [z, TI, TO, i1, i2, l1, l2], ∀ o, h.get? b = some o → h'.get? b = some o := fun b m o e => k b o (by
      simp only [List.mem_cons, List.not_mem_nil, or_false] at m ⊢
      rcases m with rfl | rfl | rfl | rfl | rfl | rfl | rfl
      · exact .inr (.inl rfl)
      · exact .inr (.inr (.inl rfl))
      · exact .inr (.inr (.inr (.inl rfl)))
      · exact .inr (.inr (.inr (.inr (.inl rfl))))
      · exact .inr (.inr (.inr (.inr (.inr rfl))))
      · exact .inl hl1
      · exact .inl hl2) e
    obtain ⟨a, b, ⟨u, v, c⟩, d, e, f, g⟩ := st
    exact ⟨kk z (by simp) _ a, kk TI (by simp) _ b, ⟨u, v, kk TO (by simp) _ c⟩, d.at (kk i1 (by simp)), e.at (kk i2 (by simp)), f.at (kk l1 (by simp)), g.at (kk l2 (by simp))⟩
  live := fun i h st b m q => by
    obtain ⟨a, a', ⟨u, v, c⟩, d, e, f, g⟩ := st
    simp only [List.mem_cons, List.not_mem_nil, or_false] at m
    rcases m with rfl | rfl | rfl | rfl | rfl
    · rw [a] at q; cases q
    · rw [a'] at q; cases q
    · rw [c] at q; cases q
    · obtain ⟨_, d, _⟩ := d; rw [d] at q; cases q
    · obtain ⟨_, e, _⟩ := e; rw [e] at q; cases q
  item := fun i d s Q E hd st hb' kk => by
    rw [List.getElem?_zipWith] at hd
    cases hc : ds[i]? with
    | none => rw [hc] at hd; cases hd
    | some c =>
    cases he : es[i]? with
    | none => rw [hc, he] at hd; cases hd
    | some d' =>
    rw [hc, he] at hd; cases hd
    obtain ⟨x, hx, hxd⟩ := hv.get hc
    obtain ⟨y, hy, hyd⟩ := hu.get he
    obtain ⟨hz, hTI, ⟨a, b, hTO⟩, h1, h2, hl1, hl2⟩ := st
    refine wpAny_pyNext_zip_item ap hz hTI hTO h1 h2 hl1 hl2 (by simpa using hx) (by simpa using hy) fun h' a1 a2 a3 a4 a5 a6 hk => ?_
    have lt : ∀ {c o}, s.heap.get? c = some o → s.heap.objs.size ≠ c := fun e => Nat.ne_of_gt (Heap.lt_size e)
    have tz := lt hz
    refine wpAny_letOwnedTupleGo_zip a1 fun h2' hz2 hs2 => kk _ h2' _ ⟨hz2, hs2.extBut _ _ ap.TIz (hk _ _ ap.TIz ap.TITO ap.TIi1 ap.TIi2 hTI), ⟨_, _, hs2.extBut _ _ ap.TOz a2⟩, a3.extBut hs2.extBut ap.i1z, a4.extBut hs2.extBut ap.i2z,
      (hl1.at fun o e => hk _ o ap.l1z ap.l1TO ap.l1i1 ap.l1i2 e).extBut hs2.extBut ap.l1z, (hl2.at fun o e => hk _ o ap.l2z ap.l2TO ap.l2i1 ap.l2i2 e).extBut hs2.extBut ap.l2z⟩ (fun b o nb e => ?_) fun hb2 x1 x2 => ?_
    · simp only [List.mem_cons, List.not_mem_nil, or_false, not_or] at nb
      exact hs2.extBut _ _ nb.1 (hk b o nb.1 nb.2.2.1 nb.2.2.2.1 nb.2.2.2.2 e)
    · exact .tup (vs := [x, y]) (x2 _ _ (size_none _) (hs2.extBut _ _ tz a5)) rfl (HasL.cons (hxd.mono x1) (HasL.cons (hyd.mono x1) .nil)).2
  done := fun s Q E st kk => by
    obtain ⟨hz, hTI, ⟨a, b, hTO⟩, h1, h2, hl1, hl2⟩ := st
    have e : (List.zipWith (fun c d => D.tup [c, d]) ds es).length = min vs.length us.length := by
      rw [List.length_zipWith, ← hv.1, ← hu.1]
    rw [e] at h1 h2
    have hend : vs.toArray[min vs.length us.length]? = none ∨ us.toArray[min vs.length us.length]? = none := by
      rcases Nat.le_total vs.length us.length with h | h
      · exact .inl (by rw [Nat.min_eq_left h]; simp)
      · exact .inr (by rw [Nat.min_eq_right h]; simp)
    refine wpAny_pyNext_zip_end hA.hd ap hz hTI hTO h1 h2 hl1 hl2 hend fun h' hk => kk _ _ fun b o nb e => by
      simp only [List.mem_cons, List.not_mem_nil, or_false, not_or] at nb
      exact hk b o nb.1 nb.2.2.1 nb.2.2.2.1 nb.2.2.2.2 e
  self := fun i s Q E st q => wpAny_pyIter_zip st.z q

theorem zapart2 {n : Nat} {l1 l2 : Addr} (h1 : l1 < n) (h : l2 < n) : ZipApart (n + 4) (n + 2) (n + 3) n (n + 1) l1 l2 := by
  have a : ∀ i j : Nat, i ≠ j → n + i ≠ n + j := fun i j h => by omega
  have b : ∀ i : Nat, l2 ≠ n + i := fun i => Nat.ne_of_lt (Nat.lt_of_lt_of_le h (Nat.le_add_right _ _))
  have b1 : ∀ i : Nat, l1 ≠ n + i := fun i => Nat.ne_of_lt (Nat.lt_of_lt_of_le h1 (Nat.le_add_right _ _))
  exact ⟨a 2 4 (by decide), a 3 4 (by decide), a 0 4 (by decide), a 1 4 (by decide), a 2 3 (by decide), a 2 0 (by decide), a 2 1 (by decide), a 3 0 (by decide), a 3 1 (by decide), a 0 1 (by decide), b1 4, b1 3, b1 0, b1 1, b 4, b 3, b 0, b 1⟩

theorem Evi.zipList {κ : Nat} {x : Str} {e1 e2 : Expr} {elts : List Expr} {k0 : Nat} {p3 : Pos} {ds es : List D} (hA : OkA κ A) (b : Blt w sc x (.type "zip")) (n1 : notStar e1 = true) (n2 : notStar e2 = true)
    (h1 : Evs w A sc δ e1 (.list ds)) (h2 : Evs w A sc δ e2 (.list es)) :
    Evi w A sc δ (.Call (.Name x p) [e1, e2] [] pos) (.Tuple elts k0 p3) (List.zipWith (fun c d => .tup [c, d]) ds es) := by
  intro env hb h c s Q E es' q
  refine Call_Name rfl (b.ok c s _ E es' fun r hb1 h1' tk st hr => ?_)
  subst hr
  have xs : EvsL w A sc δ [e1, e2] [.list ds, .list es] := .cons n1 h1 (.cons n2 h2 .nil)
  refine PyProof.Rows.callWith_type (any_star xs.stars) (evalArgs_ok xs (c.step st) _ _ E rfl fun a hb2 h2 tk2 st2 ha => ?_)
  obtain ⟨u, v, hv, hu, hv2⟩ := ha.2.two
  obtain ⟨l1, vs, n', rfl, e1', l1l⟩ := hu.list_inv
  obtain ⟨l2, us, n, rfl, e2', l2l⟩ := hv2.list_inv
  rw [ha.1, hv]
  have il1 : h2.IsList l1 vs.toArray := ⟨_, st2.inn _ _ e1', rfl, _, rfl⟩
  have il2 : h2.IsList l2 us.toArray := ⟨_, st2.inn _ _ e2', rfl, _, rfl⟩
  have llt1 : l1 < h2.objs.size := Heap.lt_size (st2.inn _ _ e1')
  have llt : l2 < h2.objs.size := Heap.lt_size (st2.inn _ _ e2')
  refine call_zip_2 il1 il2 fun H g5 g3 g4 g1 g2 z5 up => ?_
  have zs : ZL H (h2.objs.size + 4) (h2.objs.size + 2) (h2.objs.size + 3) h2.objs.size (h2.objs.size + 1) l1 l2 .none 0 vs.toArray us.toArray :=
    ⟨g5, g3, ⟨_, _, g4⟩, g1, g2, il1.at fun o e => up _ o e, il2.at fun o e => up _ o e⟩
  refine wpAny_pyIter_zip zs.z ?_
  refine q _ hb2 H _ [h2.objs.size + 4, h2.objs.size + 2, h2.objs.size + 3, h2.objs.size, h2.objs.size + 1] _ (IterT.zipList hA (zapart2 llt1 llt) l1l l2l (by rw [e1']; intro q; cases q) (by rw [e2']; intro q; cases q)) zs ((st.trans st2).trans ⟨up, .refl _, fun b o e => up b o (st2.inn b o e), fun _ _ e => .inl e⟩) ?_
  exact fun b m => new_out (st.trans st2) (by
      simp only [List.mem_cons, List.not_mem_nil, or_false] at m
      rcases m with rfl | rfl | rfl | rfl | rfl
      · exact Nat.le_add_right _ _
      · exact Nat.le_add_right _ _
      · exact Nat.le_add_right _ _
      · exact Nat.le_refl _
      · exact Nat.le_add_right _ _)
end
end
-- part A17
section
open PySem PySem.W PyProof.Rows PySem.Calls

/-- the top's function at a, as the head left it -/
structure FnAt (w : World) (a : Addr) (fd : FuncData) : Prop where
  fn : ∃ o, (KF w.params).lookup a = some o ∧ o.data = .func fd
  code : ∃ c o vs t, fd.code = .ref c ∧ (KF w.params).lookup c = some o ∧ o.data = .fields vs ∧ vs[1]? = some (.str fd.qualname t)
  glob : fd.globals = mainGlobals
  blt : fd.builtins = builtinsNs
  clo : fd.closure = []
  co : fd.scope.isCoroutine = false
  gen : fd.scope.isGenerator = false
  kind : fd.scope.kind = .function
  keys : ∀ p ∈ fd.scope.names, fd.scope.names.lookup p.1 = some p.2
  nofree : ∀ p ∈ fd.scope.names, p.2 ≠ .free
  asked : isAsked fd.scope = true → fd.code = .ref 218 ∧ fd.qualname ++ ".<locals>." = qualA

/-- called with ds, the function at a gives d -/
noncomputable def Fn (w : World) (κ : Nat) (a : Addr) (ds : List D) (d : D) : Prop :=
  ∀ A hb h vs, OkA κ A → Gd w hb → Ext hb h → HasL hb vs ds → Tri w A (call (.ref a) vs []) hb h fun v hb' => Has hb' v d

section
variable {w : World} {A : Around} {sc scope : Scope} {env cenv : Env} {h0 hb0 hb h hb' h' : Heap} {δ δ' : Dm} {μ μ' : Mu} {pos p : Pos}

theorem bindL_out (k : Str → Option NameKind) : ∀ (bs : List (Str × Value)) (m : Str → Option Value) (y : Str), (∀ p ∈ bs, p.1 ≠ y) → bindL k bs m y = m y
  | [], m, y, _ => rfl
  | (n, v) :: r, m, y, h => by
    unfold bindL
    rw [bindL_out k r _ y fun p q => h p (List.mem_cons_of_mem _ q)]
    split
    · exact if_neg fun e => h (n, v) List.mem_cons_self e.symm
    · rfl
theorem bindC_out (k : Str → Option NameKind) : ∀ (bs : List (Str × Value)) (m : Str → Option Value) (y : Str), (∀ p ∈ bs, p.1 ≠ y) → bindC k bs m y = m y
  | [], m, y, _ => rfl
  | (n, v) :: r, m, y, h => by
    unfold bindC
    rw [bindC_out k r _ y fun p q => h p (List.mem_cons_of_mem _ q)]
    split
    · rfl
    · exact if_neg fun e => h (n, v) List.mem_cons_self e.symm
theorem bindL_in (k : Str → Option NameKind) : ∀ (bs : List (Str × Value)) (m : Str → Option Value) (y : Str) (v : Value), (bs.map (·.1)).Nodup → (y, v) ∈ bs → k y = some .local → bindL k bs m y = some v
  | [], _, _, _, _, h, _ => by cases h
  | (n, u) :: r, m, y, v, nd, h, hk => by
    rw [List.map_cons, List.nodup_cons] at nd
    unfold bindL
    rcases List.mem_cons.mp h with e | h
    · cases e
      rw [if_pos hk, bindL_out k r _ _ fun p q e => nd.1 (List.mem_map.mpr ⟨p, q, e⟩)]; exact if_pos rfl
    · exact bindL_in k r _ y v nd.2 h hk
theorem bindC_in (k : Str → Option NameKind) : ∀ (bs : List (Str × Value)) (m : Str → Option Value) (y : Str) (v : Value), (bs.map (·.1)).Nodup → (y, v) ∈ bs → k y ≠ some .local → bindC k bs m y = some v
  | [], _, _, _, _, h, _ => by cases h
  | (n, u) :: r, m, y, v, nd, h, hk => by
    rw [List.map_cons, List.nodup_cons] at nd
    unfold bindC
    rcases List.mem_cons.mp h with e | h
    · cases e
      rw [if_neg hk, bindC_out k r _ _ fun p q e => nd.1 (List.mem_map.mpr ⟨p, q, e⟩)]; exact if_pos rfl
    · exact bindC_in k r _ y v nd.2 h hk

theorem zip_look : ∀ (xs : List Str) (vs : List Value) (ds : List D) (x : Str) (d : D), HasL h vs ds → (xs.zip ds).lookup x = some d → ∃ v, (x, v) ∈ xs.zip vs ∧ Has h v d
  | [], _, _, _, _, _, e => by cases e
  | y :: xs, [], d' :: ds, x, d, hv, e => by have := hv.1; simp at this
  | y :: xs, v :: vs, [], x, d, hv, e => by cases e
  | y :: xs, [], [], x, d, hv, e => by cases e
  | y :: xs, v :: vs, d' :: ds, x, d, hv, e => by
    rw [List.zip_cons_cons, List.lookup_cons] at e
    cases q : x == y with
    | true => rw [q] at e; cases e; rw [beq_iff_eq.mp q]; exact ⟨v, List.mem_cons_self, hv.2 0 v _ rfl rfl⟩
    | false =>
      rw [q] at e
      obtain ⟨u, m, hu⟩ := zip_look xs vs ds x d ⟨by simpa using hv.1, fun i v d a b => hv.2 (i + 1) v d a b⟩ e
      exact ⟨u, List.mem_cons_of_mem _ m, hu⟩

/-- the state in which the body of a def begins -/
theorem St.start {fd : FuncData} {a : Addr} {xs : List Str} {vs : List Value} {ds : List D} {s s1 : Shared} (F : FnAt w a fd) (gd : Gd w hb) (hx : Ext hb s.heap) (hv : HasL hb vs ds) (hl : xs.length = vs.length) (nd : xs.Nodup)
    (ho : ∀ x ∈ xs, own2 fd.scope x)
    (x : InCallC s (callEnvC fd s.heap.objs.size a).locals (bindL (callEnvC fd s.heap.objs.size a).kindOf (xs.zip vs) fun _ => none) (callEnvC fd s.heap.objs.size a).cells
        (bindC (callEnvC fd s.heap.objs.size a).kindOf (xs.zip vs) fun _ => none) s1) :
    St w fd.scope (callEnvC fd s.heap.objs.size a) s.heap hb (xs.zip ds) [] hb s1.heap := by
  have kk : ∀ y, (callEnvC fd s.heap.objs.size a).kindOf y = fd.scope.names.lookup y := fun y => rfl
  have ndz : ((xs.zip vs).map (·.1)).Nodup := by
    rw [List.map_fst_zip (by omega)]; exact nd
  have nx : ∀ b, s.heap.objs.size ≤ b → s.heap.get? b = none ∧ hb.get? b = none := fun b hb' => new_out (Step.refl hx) hb'
  have cin : ∀ y, fd.scope.names.lookup y = some .cell → ∃ c, (callEnvC fd s.heap.objs.size a).cells.lookup y = some c := fun y e => by
    obtain ⟨c, e1, _⟩ := cells_own fd.scope.names (s.heap.push { cls := .type "frame", data := .dict #[] }) [] y (mem_of_look e)
    rw [Heap.size_push] at e1; exact ⟨c, e1⟩
  refine ⟨⟨x.toInCall.keep, .refl _, fun b o e => x.toInCall.keep b o (hx b o e), fun _ _ e => .inl e⟩, gd, ⟨⟨F.kind, F.glob, F.blt, fun y e => e, fun y e => e, fun y e => e, ?_, ?_, ?_, F.asked⟩, ?_, ?_⟩, ⟨_, x.toInCall.ns⟩, ?_, ?_, fun _ _ m => (by cases m), .nil⟩
  · intro y e; exact absurd rfl (F.nofree _ (mem_of_look e))
  · intro y e
    rcases e with e | e
    · exact cin y e
    · exact absurd rfl (F.nofree _ (mem_of_look e))
  · exact cells_inj fd.scope.names _ [] (fun x c e => by cases e) fun x y c e => by cases e
  · intro y d e
    obtain ⟨v, m, hvd⟩ := zip_look xs vs ds y d hv e
    refine ⟨v, ?_, hvd⟩
    have hm : y ∈ xs := (List.of_mem_zip m).1
    rcases ho y hm with k | k
    · exact .inl ⟨k, _, x.toInCall.ns, bindL_in _ _ _ _ _ ndz m k⟩
    · obtain ⟨c, hc⟩ := cin y k
      have := x.cell y c hc
      rw [bindC_in _ _ _ _ _ ndz m (by rw [kk, k]; decide)] at this
      exact .inr ⟨.inl k, c, hc, this⟩
  · intro y c e q
    obtain ⟨o, ho', _⟩ := x.cell y c e
    rw [ho'] at q; cases q
  · intro y c k e
    exact ⟨_, x.cell y c e⟩
  · intro b o
    rcases o with rfl | ⟨y, _, e⟩
    · exact nx _ (Nat.le_refl _)
    · exact nx _ (Nat.le_of_lt (x.above y b (mem_of_lookup e)))

theorem Fn.enter {κ : Nat} {fd : FuncData} {a : Addr} {xs : List Str} {vs : List Value} {ds : List D} {body : List Stmt} (F : FnAt w a fd) (hA : OkA (κ + 1) A) (gd : Gd w hb) (hx : Ext hb h) (hv : HasL hb vs ds) (hl : xs.length = vs.length) (nd : xs.Nodup)
    (ho : ∀ x ∈ xs, own2 fd.scope x) (hbind : bindArgs fd ⟨vs, []⟩ = pure (xs.zip vs)) (hbody : fd.body = .stmts body) (s : Shared) (Q : Value → Shared → Prop) (E : Value → Shared → Prop) (es : s.heap = h)
    (k : ∀ env h1 tk E', OkA κ (A.deeper env) → St w fd.scope env h hb (xs.zip ds) [] hb h1 → wpAny (model PW w) (A.deeper env) (execs body env) (fun f s' => Q (match f with | .ret v => v | _ => .none) s') E' { s with heap := h1, toks := tk }) :
    wpAny (model PW w) A (call (.ref a) vs []) Q E s := by
  subst es
  obtain ⟨o, ho1, ho2⟩ := F.fn
  obtain ⟨c, oc, vc, t, e1, e2, e3, e4⟩ := F.code
  have code : s.heap.CodeRec fd.code fd.qualname := ⟨c, oc, vc, t, e1, hx _ _ (gd.k _ _ e2), e3, e4⟩
  refine wpAny_call (codeAny_call_cells (by have := hA.dep; show A.depth < 1000; omega) (hx _ _ (gd.k _ _ ho1)) ho2 (gd.nolimit.keeps hx) code hbody hbind F.clo (fun x m => ?_) (fun s1 x => ?_) F.co F.gen F.kind)
  · rcases ho x.1 (List.of_mem_zip m).1 with k | k
    · exact .inl k
    · refine .inr ⟨k, ?_⟩
      obtain ⟨c, e1, _⟩ := cells_own fd.scope.names (s.heap.push { cls := .type "frame", data := .dict #[] }) [] x.1 (mem_of_look k)
      rw [Heap.size_push] at e1; rw [e1]; rfl
  · have S := St.start F gd hx hv hl nd ho x
    obtain ⟨h1, tk, rfl⟩ := x.toInCall.same
    exact k _ h1 tk _ (hA.deeper _) S
end
end
-- part A18
section
open PySem PySem.W PyProof.Rows PySem.Calls

/-- what a piece of a block may do -/
structure Go (sc : Scope) (env : Env) (μ : Mu) (hb h : Heap) (μ' : Mu) (hb' h' : Heap) : Prop where
  keep : ∀ b o, ¬ Own sc env b → (∀ ds, (b, ds) ∉ μ) → h.get? b = some o → h'.get? b = some o
  keys : ∀ a ds, (a, ds) ∈ μ' → (∃ e, (a, e) ∈ μ) ∨ h.get? a = none
  fz : Ext hb hb'
  new : ∀ b o, hb'.get? b = some o → hb.get? b = some o ∨ h.get? b = none ∨ ∃ ds, (b, ds) ∈ μ
  live : ∀ b, h.get? b ≠ none → h'.get? b ≠ none
theorem Go.refl {sc : Scope} {env : Env} {μ : Mu} {hb h : Heap} : Go sc env μ hb h μ hb h := ⟨fun _ _ _ _ e => e, fun a ds m => .inl ⟨ds, m⟩, .refl _, fun _ _ e => .inl e, fun _ e => e⟩
theorem Go.trans {sc : Scope} {env : Env} {μ μ1 μ2 : Mu} {hb h hb1 h1 hb2 h2 : Heap} (x : Go sc env μ hb h μ1 hb1 h1) (y : Go sc env μ1 hb1 h1 μ2 hb2 h2) : Go sc env μ hb h μ2 hb2 h2 := by
  have dead : ∀ a, h1.get? a = none → h.get? a = none := fun a e => by
    cases q : h.get? a with
    | none => rfl
    | some o => exact absurd e (x.live a (by rw [q]; intro z; cases z))
  refine ⟨fun b o n m e => y.keep b o n (fun ds q => ?_) (x.keep b o n m e), fun a ds m => ?_, x.fz.trans y.fz, fun b o e => ?_, fun b e => y.live b (x.live b e)⟩
  · rcases x.keys b ds q with ⟨e', z⟩ | z
    · exact m e' z
    · rw [z] at e; cases e
  · rcases y.keys a ds m with ⟨e', z⟩ | z
    · exact x.keys a e' z
    · exact .inr (dead a z)
  · rcases y.new b o e with z | z | ⟨ds, z⟩
    · exact x.new b o z
    · exact .inr (.inl (dead b z))
    · rcases x.keys b ds z with ⟨e', z⟩ | z
      · exact .inr (.inr ⟨e', z⟩)
      · exact .inr (.inl z)
theorem Go.step {sc : Scope} {env : Env} {μ : Mu} {hb h hb' h' : Heap} (st : Step hb h hb' h') : Go sc env μ hb h μ hb' h' :=
  ⟨fun b o _ _ e => st.ext b o e, fun a ds m => .inl ⟨ds, m⟩, st.fz, fun b o e => (st.new b o e).imp id .inl, fun b e => by
    cases q : h.get? b with
    | none => exact absurd q e
    | some o => rw [st.ext b o q]; intro z; cases z⟩

noncomputable abbrev Pm := Dm → Mu → Prop
structure RunOn (w : World) (A : Around) (sc : Scope) (δ : Dm) (μ : Mu) (t : Env → Sem Flow) (N B : Pm) (R : D → Prop) : Prop where
  go : ∀ env h0 hb0 hb h, St w sc env h0 hb0 δ μ hb h → ∀ (s : Shared) (Q : Flow → Shared → Prop) (E : Value → Shared → Prop), s.heap = h →
    (∀ δ' μ' hb' h' tk, N δ' μ' → Go sc env μ hb h μ' hb' h' → St w sc env h0 hb0 δ' μ' hb' h' → Q .next { s with heap := h', toks := tk }) →
    (∀ δ' μ' hb' h' tk, B δ' μ' → Go sc env μ hb h μ' hb' h' → St w sc env h0 hb0 δ' μ' hb' h' → Q .brk { s with heap := h', toks := tk }) →
    (∀ d v hb' h' tk, R d → Step hb0 h0 hb' h' → Has hb' v d → Q (.ret v) { s with heap := h', toks := tk }) → wpAny (model PW w) A (t env) Q E s
/-- the statements ss, from names δ and own lists μ: they fall through with N, break with B, return what R says -/
noncomputable abbrev Run (w : World) (A : Around) (sc : Scope) (δ : Dm) (μ : Mu) (ss : List Stmt) (N B : Pm) (R : D → Prop) : Prop := RunOn w A sc δ μ (execs ss) N B R
noncomputable abbrev Run1 (w : World) (A : Around) (sc : Scope) (δ : Dm) (μ : Mu) (s : Stmt) (N B : Pm) (R : D → Prop) : Prop := RunOn w A sc δ μ (exec s) N B R

section
variable {w : World} {A : Around} {sc scope : Scope} {env cenv : Env} {h0 hb0 hb h hb' h' : Heap} {δ δ' : Dm} {μ μ' : Mu} {pos p : Pos} {N B : Pm} {R : D → Prop}

theorem Run.nil (n : N δ μ) : Run w A sc δ μ [] N B R := ⟨fun env h0 hb0 hb h f s Q E es kN kB kR => by
  subst es; exact wpAny_execs_nil (kN δ μ hb s.heap s.toks n .refl f)⟩
theorem Run.cons {st : Stmt} {rest : List Stmt} (x : Run1 w A sc δ μ st (fun δ' μ' => Run w A sc δ' μ' rest N B R) B R) : Run w A sc δ μ (st :: rest) N B R := ⟨fun env h0 hb0 hb h f s Q E es kN kB kR =>
  wpAny_execs_cons (x.go env h0 hb0 hb h f s _ E es (fun δ' μ' hb' h' tk r g f' => r.go env h0 hb0 hb' h' f' _ Q E rfl (fun δ2 μ2 hb2 h2 tk2 n g2 f2 => kN δ2 μ2 hb2 h2 tk2 n (g.trans g2) f2)
    (fun δ2 μ2 hb2 h2 tk2 n g2 f2 => kB δ2 μ2 hb2 h2 tk2 n (g.trans g2) f2) fun d v hb2 h2 tk2 r st hv => kR d v hb2 h2 tk2 r st hv)
    (fun δ' μ' hb' h' tk b g f' => kB δ' μ' hb' h' tk b g f') fun d v hb' h' tk r st hv => kR d v hb' h' tk r st hv)⟩
theorem RunOn.weak {t : Env → Sem Flow} (x : RunOn w A sc δ' μ t N B R) (k : ∀ x d, δ'.lookup x = some d → δ.lookup x = some d) : RunOn w A sc δ μ t N B R := ⟨fun env h0 hb0 hb h f => x.go env h0 hb0 hb h (f.weak k)⟩
theorem RunOn.mono {t : Env → Sem Flow} {N' B' : Pm} {R' : D → Prop} (x : RunOn w A sc δ μ t N B R) (n : ∀ δ' μ', N δ' μ' → N' δ' μ') (b : ∀ δ' μ', B δ' μ' → B' δ' μ') (r : ∀ d, R d → R' d) : RunOn w A sc δ μ t N' B' R' :=
  ⟨fun env h0 hb0 hb h f s Q E es kN kB kR => x.go env h0 hb0 hb h f s Q E es (fun δ' μ' hb' h' tk q => kN δ' μ' hb' h' tk (n _ _ q)) (fun δ' μ' hb' h' tk q => kB δ' μ' hb' h' tk (b _ _ q)) fun d v hb' h' tk q => kR d v hb' h' tk (r _ q)⟩

theorem St.goStore {x : Str} {d : D} (f : St w sc env h0 hb0 δ μ hb h) (f' : St w sc env h0 hb0 δ' μ hb h') (k : ∀ b o, ¬ Own sc env b → h.get? b = some o → h'.get? b = some o) : Go sc env μ hb h μ hb h' :=
  ⟨fun b o n _ e => k b o n e, fun a ds m => .inl ⟨ds, m⟩, .refl _, fun _ _ e => .inl e, fun b e => by
    by_cases z : Own sc env b
    · exact f'.live z
    · cases q : h.get? b with
      | none => exact absurd q e
      | some o => rw [k b o z q]; intro z; cases z⟩

theorem Run1.assign {y : Str} {e : Expr} {x : D} (he : Evs w A sc δ e x) (o : own2 sc y) (sw : ∀ env, EnvOk sc env → swapsWith e (some (.Name y p)) pos.line env = pure false) (n : N ((y, x) :: δ) μ) :
    Run1 w A sc δ μ (.Assign [.Name y p] e pos) N B R := ⟨fun env h0 hb0 hb h f s Q E es kN kB kR =>
  wpAny_Assign_Name (he.run env hb h f.ctx s _ E es fun v hb1 h1 tk st hv => (f.after st).store o hv _ _ E rfl fun h2 tk2 f2 n2 =>
    kN _ _ _ h2 tk2 n ((Go.step st).trans ((f.after st).goStore (x := y) (d := x) f2 n2)) f2) (sw env f.rds.ok)⟩
theorem Run1.assignComp {κ : Nat} (hA : OkA κ A) {elt target iter : Expr} {ifs : List Expr} {spos py : Pos} {y : Str} {ds : List D} {gs : List (Option D)} (i : In sc scope) (hs : ∀ env x, foldedSetIterable iter env x = pure x)
    (hi : Evi w A sc δ iter target ds) (hn : gs.length = ds.length) (hg : ∀ (i : Nat) d r, ds[i]? = some d → gs[i]? = some r → Turn w A scope (freeOf scope δ) target ifs elt d r) (hl : ds.length ≤ bigL) (hy : sc.names.lookup y = some .local)
    (hline : (py.line == pos.line) = true) (hny : (scope.names.any fun p => p.1 == y && (p.2 == .local || p.2 == .cell)) = false) (n : N ((y, .list (gs.filterMap id)) :: δ) μ) :
    Run1 w A sc δ μ (.Assign [.Name y py] (.ListComp elt [⟨target, iter, ifs, 0⟩] scope pos) spos) N B R := ⟨fun env h0 hb0 hb h f s Q E es kN kB kR =>
  St.assignComp hA f i hs hi hn hg hl hy hline hny s Q E es fun hb' h' tk f' kp fz nw => kN _ _ hb' h' tk n ⟨fun b o n _ e => kp b o n e, fun a ds m => .inl ⟨ds, m⟩, fz, fun b o e => (nw b o e).imp id .inl, fun b e => by
    by_cases z : Own sc env b
    · exact f'.live z
    · cases q : h.get? b with
      | none => exact absurd q e
      | some o => rw [kp b o z q]; intro z; cases z⟩ f'⟩
theorem Run1.ret {e : Expr} {d : D} (he : Evs w A sc δ e d) (r : R d) : Run1 w A sc δ μ (.Return (some e) p) N B R := ⟨fun env h0 hb0 hb h f s Q E es kN kB kR =>
  wpAny_Return_some (he.run env hb h f.ctx s _ E es fun v hb1 h1 tk st hv => kR d v hb1 h1 tk r (f.step.trans st) hv)⟩
theorem Run1.brk (b : B δ μ) : Run1 w A sc δ μ (.Break p) N B R := ⟨fun env h0 hb0 hb h f s Q E es kN kB kR => by
  subst es; exact wpAny_Break (kB δ μ hb s.heap s.toks b .refl f)⟩
theorem Run1.if_ {t : Expr} {b : Bool} {body orelse : List Stmt} (ht : Tru w A sc δ t b) (h1 : b = true → Run w A sc δ μ body N B R) (h2 : b = false → Run w A sc δ μ orelse N B R) : Run1 w A sc δ μ (.If t body orelse p) N B R :=
  ⟨fun env h0 hb0 hb h f s Q E es kN kB kR => wpAny_If (ht.run env hb h f.ctx s _ E es fun r hb1 h1' tk st hr => by
    subst hr
    have g : Go sc env μ hb h μ hb1 h1' := Go.step st
    cases r with
    | true =>
      simp only [if_true]
      exact (h1 rfl).go env h0 hb0 hb1 h1' (f.after st) _ Q E rfl (fun δ2 μ2 hb2 h2 tk2 n g2 f2 => kN δ2 μ2 hb2 h2 tk2 n (g.trans g2) f2) (fun δ2 μ2 hb2 h2 tk2 n g2 f2 => kB δ2 μ2 hb2 h2 tk2 n (g.trans g2) f2) fun d v hb2 h2 tk2 r st hv => kR d v hb2 h2 tk2 r st hv
    | false =>
      simp only [Bool.false_eq_true, if_false]
      exact (h2 rfl).go env h0 hb0 hb1 h1' (f.after st) _ Q E rfl (fun δ2 μ2 hb2 h2 tk2 n g2 f2 => kN δ2 μ2 hb2 h2 tk2 n (g.trans g2) f2) (fun δ2 μ2 hb2 h2 tk2 n g2 f2 => kB δ2 μ2 hb2 h2 tk2 n (g.trans g2) f2) fun d v hb2 h2 tk2 r st hv => kR d v hb2 h2 tk2 r st hv)⟩

theorem Fn.of_run {κ : Nat} {fd : FuncData} {a : Addr} {xs : List Str} {ds : List D} {d : D} {body : List Stmt} (F : FnAt w a fd) (nd : xs.Nodup) (ho : ∀ x ∈ xs, own2 fd.scope x) (hl : xs.length = ds.length)
    (hbind : ∀ vs : List Value, vs.length = xs.length → bindArgs fd ⟨vs, []⟩ = pure (xs.zip vs)) (hbody : fd.body = .stmts body)
    (r : ∀ A, OkA κ A → Run w A fd.scope (xs.zip ds) [] body (fun _ _ => d = .none) (fun _ _ => False) fun d' => d' = d) : Fn w (κ + 1) a ds d := by
  intro A hb h vs hA gd hx hv s Q E es k
  have hl2 : xs.length = vs.length := by have := hv.1; omega
  refine Fn.enter F hA gd hx hv hl2 nd ho (hbind vs hl2.symm) hbody s Q E es fun env h1 tk E' hA' f => ?_
  refine (r _ hA').go env h hb hb h1 f _ _ E' rfl (fun δ' μ' hb' h' tk e g f' => ?_) (fun δ' μ' hb' h' tk e => e.elim) fun d' v hb' h' tk e st hv => ?_
  · subst e; exact k .none hb' h' tk f'.step .none
  · subst e; exact k v hb' h' tk st hv

theorem Evs.callFn {κ : Nat} {x : Str} {a : Addr} {fd : FuncData} {es : List Expr} {ds : List D} {d : D} (hA : OkA κ A) (b : Glb w sc x (.ref a)) (F : FnAt w a fd) (fn : Fn w κ a ds d) (xs : EvsL w A sc δ es ds) : Evs w A sc δ (.Call (.Name x p) es [] pos) d :=
  ⟨fun env hb h c s Q E es' q => Call_Name rfl (b.ok c s _ E es' fun r hb1 h1 tk st hr => by
    subst hr
    obtain ⟨o, ho1, ho2⟩ := F.fn
    refine Calls.callWith_function (o := o) (fd := fd) (evalArgs_ok xs (c.step st) _ _ E rfl fun a hb2 h2 tk2 st2 ha => ⟨⟨((c.step st).step st2).sub _ _ (((c.step st).step st2).gd.k _ _ ho1), ho2⟩, ?_⟩)
    rw [ha.1]
    exact fn A hb2 h2 _ hA ((c.step st).step st2).gd st2.inn ha.2 _ _ E rfl fun v hb3 h3 tk3 st3 hv => q v hb3 h3 tk3 ((st.trans st2).trans st3) hv)⟩
end
end
-- part A19
section
open PySem PySem.W PyProof.Rows PySem.Calls

section
variable {w : World} {A : Around} {sc scope : Scope} {env cenv : Env} {h0 hb0 hb h hb' h' : Heap} {δ δ' : Dm} {μ μ' : Mu} {pos p : Pos} {N B : Pm} {R : D → Prop}

theorem Run1.while_ {test : Expr} {body : List Stmt} (I : Nat → Dm → Mu → Prop)
    (turn : ∀ n δ μ, I n δ μ → (Tru w A sc δ test false ∧ N δ μ) ∨ (Tru w A sc δ test true ∧ Run w A sc δ μ body (fun δ' μ' => ∃ m, m < n ∧ I m δ' μ') N R)) (n : Nat) (i : I n δ μ) :
    Run1 w A sc δ μ (.While test body [] p) N B R := ⟨fun env h0 hb0 hb h f s Q E es kN kB kR => by
  subst es
  refine wpAny_While (codeAny_whileLoop (fun n s' => ∃ δ1 μ1 hb1 h1 tk1, s' = { s with heap := h1, toks := tk1 } ∧ I n δ1 μ1 ∧ Go sc env μ hb s.heap μ1 hb1 h1 ∧ St w sc env h0 hb0 δ1 μ1 hb1 h1) (fun n s' hI => ?_) n ⟨δ, μ, hb, s.heap, s.toks, rfl, i, .refl, f⟩)
  obtain ⟨δ1, μ1, hb1, h1, tk1, rfl, i1, g1, f1⟩ := hI
  rcases turn n δ1 μ1 i1 with ⟨t, nn⟩ | ⟨t, r⟩
  · refine t.run env hb1 h1 f1.ctx _ _ _ rfl fun b hb2 h2 tk2 st hr => ?_
    subst hr
    simp only [Bool.false_eq_true, if_false]
    exact wpAny_execs_nil (kN δ1 μ1 hb2 h2 tk2 nn (g1.trans (Go.step st)) (f1.after st))
  · refine t.run env hb1 h1 f1.ctx _ _ _ rfl fun b hb2 h2 tk2 st hr => ?_
    subst hr
    simp only [if_true]
    refine r.go env h0 hb0 hb2 h2 (f1.after st) _ _ _ rfl (fun δ3 μ3 hb3 h3 tk3 ⟨m, lt, im⟩ g3 f3 => ?_) (fun δ3 μ3 hb3 h3 tk3 b g3 f3 => ?_) fun d v hb3 h3 tk3 rr st3 hv => ?_
    · exact ⟨m, lt, δ3, μ3, hb3, h3, tk3, rfl, im, (g1.trans (Go.step st)).trans g3, f3⟩
    · exact kN δ3 μ3 hb3 h3 tk3 b ((g1.trans (Go.step st)).trans g3) f3
    · exact kR d v hb3 h3 tk3 rr st3 hv⟩

theorem Go.iterEnd {h2 : Heap} {mt : List Addr} (g : Go sc env μ hb h μ' hb' h') (keep : ∀ b o, b ∉ mt → h'.get? b = some o → h2.get? b = some o) (kx : Ext hb' h2) (m0 : ∀ b ∈ mt, h.get? b = none) : Go sc env μ hb h μ' (frzN hb' h' h2) h2 := by
  have nm : ∀ b, h.get? b ≠ none → b ∉ mt := fun b e m => e (m0 b m)
  refine ⟨fun b o n m e => keep b o (nm b (by rw [e]; intro z; cases z)) (g.keep b o n m e), g.keys, g.fz.trans (frzN_old kx), fun b o e => ?_, fun b e => ?_⟩
  · rcases frzN_inv kx e with r | r
    · exact g.new b o r
    · right; left
      cases q : h.get? b with
      | none => rfl
      | some o' => exact absurd r (g.live b (by rw [q]; intro z; cases z))
  · have := g.live b e
    cases q : h'.get? b with
    | none => exact absurd q this
    | some o => rw [keep b o (nm b e) q]; intro z; cases z
theorem offI {hbI : Heap} {b : Addr} (f : St w sc env h0 hb0 δ μ hb h) (k : Ext hbI hb) (o : Own sc env b) : hbI.get? b = none := by
  have := (f.own b o).2
  cases e : hbI.get? b with
  | none => rfl
  | some o' => rw [k b o' e] at this; cases this
theorem letGo_name {x : Str} {px : Pos} {it v : Value} : letOwnedTupleGo (.Name x px) it v = pure () := rfl
/-- iter, looked at from a block's state -/
noncomputable def EvS (w : World) (A : Around) (sc : Scope) (δ : Dm) (μ : Mu) (iter target : Expr) (ds : List D) : Prop :=
  ∀ env h0 hb0 hb h, St w sc env h0 hb0 δ μ hb h → ∀ (s : Shared) (Q : Value → Shared → Prop) (E : Value → Shared → Prop), s.heap = h →
    (∀ it hb' h' tk mt S, IterT w A target it mt hb' ds S → S 0 h' → Step hb h hb' h' → (∀ b ∈ mt, h.get? b = none ∧ hb'.get? b = none) → Q it { s with heap := h', toks := tk }) →
    wpAny (model PW w) A (eval iter env) (fun x s1 => wpAny (model PW w) A (pyIter x) (fun it s2 => Q it s2) E s1) E s
theorem Run1.forE {κ : Nat} (hA : OkA κ A) {x : Str} {px : Pos} {iter : Expr} {body : List Stmt} {ds : List D} (I : Nat → Dm → Mu → Prop) (hi : EvS w A sc δ μ iter (.Name x px) ds) (hs : ∀ env x, foldedSetIterable iter env x = pure x)
    (o : own2 sc x) (turn : ∀ i d δ μ, ds[i]? = some d → I i δ μ → Run w A sc ((x, d) :: δ) μ body (I (i + 1)) N R) (fin : ∀ δ μ, I ds.length δ μ → N δ μ) (i0 : I 0 δ μ) :
    Run1 w A sc δ μ (.For (.Name x px) iter body [] p) N B R := ⟨fun env h0 hb0 hb h f s Q E es kN kB kR => by
  refine wpAny_For ?_ (hs env)
  refine hi env h0 hb0 hb h f s _ E es fun it hbI hI tkI mt S W hS stI hmt => ?_
  have fI := f.after stI
  refine codeAny_forLoop (fun n s' => ∃ i δ1 μ1 hb1 h1 tk1, s' = { s with heap := h1, toks := tk1 } ∧ n = ds.length + 1 - i ∧ i ≤ ds.length ∧ I i δ1 μ1 ∧ Go sc env μ hb h μ1 hb1 h1 ∧ St w sc env h0 hb0 δ1 μ1 hb1 h1 ∧ S i h1 ∧ Ext hbI hb1 ∧
      (∀ b ∈ mt, hb1.get? b = none ∧ ∀ e, (b, e) ∉ μ1)) (fun n s' hq => ?_) (ds.length + 1) ⟨0, δ, μ, hbI, hI, tkI, rfl, rfl, Nat.zero_le _, i0, Go.step stI, fI, hS, .refl _, fun b m => ⟨(hmt b m).2, fun e q => (f.mu b e q).2.2.2.live (hmt b m).1⟩⟩ (fun v => letGo_name)
  obtain ⟨i, δ1, μ1, hb1, h1, tk1, rfl, rfl, hi', i1, g1, f1, hS1, hI1, hm1⟩ := hq
  have dead0 : ∀ b ∈ mt, h0.get? b = none := fun b m => by
    cases e : h0.get? b with
    | none => rfl
    | some o => have := f.step.ext b o e; rw [(hmt b m).1] at this; cases this
  have noOwn : ∀ b ∈ mt, ¬ Own sc env b := fun b m o => f.live o (hmt b m).1
  have noCell : ∀ x c, env.cells.lookup x = some c → c ∉ mt := fun x c e m => f.rds.cl x c e (hmt c m).1
  by_cases hlt : i < ds.length
  · have hd : ds[i]? = some ds[i] := List.getElem?_eq_getElem hlt
    generalize ds[i] = d at hd
    refine wpAny_mono (W.item i d _ (fun v s2 => ∃ h2 tk2, s2 = { s with heap := h2, toks := tk2 } ∧ S (i + 1) h2 ∧ (∀ b o, b ∉ mt → h1.get? b = some o → h2.get? b = some o) ∧ ∀ hb', Ext hbI hb' → (∀ b o, h1.get? b = none → h2.get? b = some o → hb'.get? b = some o) → Has hb' v d) _ hd hS1 (fun b o e => f1.step.inn b o (hI1 b o e)) (fun v h2 tk2 a b c => ⟨h2, tk2, rfl, a, b, c⟩)) (fun r s1 k => ?_) fun _ _ e => e
    cases r with
    | none => exact k.elim
    | some v =>
      show wpAny _ _ (letOwnedTupleGo (Expr.Name x px) it v >>= fun _ => PySem.assign (Expr.Name x px) env v) _ _ _
      refine wpAny_bind (wpAny_mono k (fun _ s2 k2 => ?_) fun _ _ e => e)
      obtain ⟨h2, tk2, rfl, hS2, keep, hv⟩ := k2
      have kx : Ext hb1 h2 := fun b o e => keep b o (fun q => by rw [(hm1 b q).1] at e; cases e) (f1.step.inn b o e)
      have f2 := f1.iter keep (fun b q => ⟨dead0 b q, (hm1 b q).1, noOwn b q, fun e m => (hm1 b q).2 e m⟩) noCell
      have hv2 : Has (frzN hb1 h1 h2) v d := hv _ (hI1.trans (frzN_old kx)) fun b o e q => frzN_new e q
      have hm2 : ∀ b ∈ mt, (frzN hb1 h1 h2).get? b = none := fun b q => by
        cases e : (frzN hb1 h1 h2).get? b with
        | none => rfl
        | some o =>
          rcases frzN_inv kx e with r | r
          · rw [(hm1 b q).1] at r; cases r
          · exact absurd r (W.live _ _ hS1 b q)
      have g2 := g1.iterEnd keep kx fun b q => (hmt b q).1
      refine wpAny_assign_Name (f2.store o hv2 _ _ _ rfl fun h3 tk3 f3 n3 => ?_)
      have g3 := g2.trans (f2.goStore (x := x) (d := d) f3 n3)
      have hS3 : S (i + 1) h3 := W.frame _ _ _ hS2 fun b o q e => n3 b o (fun z => q.elim (fun q => q (offI f2 (hI1.trans (frzN_old kx)) z)) fun q => noOwn b q z) e
      refine (turn i d δ1 μ1 hd i1).go env h0 hb0 _ h3 f3 _ _ _ rfl (fun δ4 μ4 hb4 h4 tk4 i4 g4 f4 => ?_) (fun δ4 μ4 hb4 h4 tk4 b g4 f4 => ?_) fun d v hb4 h4 tk4 rr st4 hv => ?_
      · refine ⟨ds.length + 1 - (i + 1), by omega, i + 1, δ4, μ4, hb4, h4, tk4, rfl, rfl, hlt, i4, g3.trans g4, f4, W.frame _ _ _ hS3 fun b o q e => g4.keep b o ?_ ?_ e, (hI1.trans (frzN_old kx)).trans g4.fz, fun b m => ⟨?_, fun e q => ?_⟩⟩
        · exact fun z => q.elim (fun q => q (offI f2 (hI1.trans (frzN_old kx)) z)) fun q => noOwn b q z
        · exact fun ds z => q.elim (fun q => by
            have := (f3.mu b ds z).2.2.1
            cases e' : hbI.get? b with
            | none => exact q e'
            | some o' => rw [(hI1.trans (frzN_old kx)) b o' e'] at this; cases this) fun q => (hm1 b q).2 ds z
        · cases e : hb4.get? b with
          | none => rfl
          | some o =>
            rcases g4.new b o e with r | r | ⟨ds', r⟩
            · rw [hm2 b m] at r; cases r
            · exact absurd r (W.live _ _ hS3 b m)
            · exact absurd r ((hm1 b m).2 ds')
        · rcases g4.keys b e q with ⟨e', z⟩ | z
          · exact (hm1 b m).2 e' z
          · exact W.live _ _ hS3 b m z
      · exact kN δ4 μ4 hb4 h4 tk4 b (g3.trans g4) f4
      · exact kR d v hb4 h4 tk4 rr st4 hv
  · have e : i = ds.length := by omega
    subst e
    refine W.done _ _ _ hS1 fun h2 tk2 keep => wpAny_execs_nil ?_
    have kx : Ext hb1 h2 := fun b o e => keep b o (fun q => by rw [(hm1 b q).1] at e; cases e) (f1.step.inn b o e)
    have f2 := f1.iter keep (fun b q => ⟨dead0 b q, (hm1 b q).1, noOwn b q, fun e m => (hm1 b q).2 e m⟩) noCell
    exact kN δ1 μ1 _ h2 tk2 (fin _ _ i1) (g1.iterEnd keep kx fun b q => (hmt b q).1) f2⟩
theorem Run1.for_ {κ : Nat} (hA : OkA κ A) {x : Str} {px : Pos} {iter : Expr} {body : List Stmt} {ds : List D} (I : Nat → Dm → Mu → Prop) (hi : Evi w A sc δ iter (.Name x px) ds) (hs : ∀ env x, foldedSetIterable iter env x = pure x)
    (o : own2 sc x) (turn : ∀ i d δ μ, ds[i]? = some d → I i δ μ → Run w A sc ((x, d) :: δ) μ body (I (i + 1)) N R) (fin : ∀ δ μ, I ds.length δ μ → N δ μ) (i0 : I 0 δ μ) :
    Run1 w A sc δ μ (.For (.Name x px) iter body [] p) N B R := Run1.forE hA I (fun env h0 hb0 hb h f => hi env hb h f.ctx) hs o turn fin i0
end
end
-- part A20
section
open PySem PySem.W PyProof.Rows PySem.Calls

section
variable {w : World} {A : Around} {sc scope : Scope} {env cenv : Env} {h0 hb0 hb h hb' h' : Heap} {δ δ' : Dm} {μ μ' : Mu} {pos p : Pos} {N B : Pm} {R : D → Prop}

theorem lookup_hd {x : Str} {d : D} : ((x, d) :: δ).lookup x = some d := by rw [List.lookup_cons]; simp
theorem lookup_tl {x y : Str} {d e : D} (h : (x == y) = false) (r : δ.lookup x = some d) : ((y, e) :: δ).lookup x = some d := by rw [List.lookup_cons, h]; exact r
theorem freeOf_of {x : Str} {d : D} (r : δ.lookup x = some d) (k : scope.names.lookup x = some .free) : (freeOf scope δ).lookup x = some d := by
  unfold freeOf
  induction δ with
  | nil => cases r
  | cons q t ih =>
    obtain ⟨y, e⟩ := q
    rw [List.filter_cons]
    rw [List.lookup_cons] at r
    cases z : x == y with
    | true =>
      rw [z] at r
      rw [← beq_iff_eq.mp z, k]
      rw [if_pos (by simp), List.lookup_cons]
      simpa using r
    | false =>
      rw [z] at r
      split
      · rw [List.lookup_cons, z]; exact ih r
      · exact ih r

theorem filterMap_id_map {α : Type} (q : α → Bool) (out : α → D) : ∀ l : List α, (l.map fun a => if q a = true then some (out a) else Option.none).filterMap id = (l.filter q).map out
  | [] => rfl
  | a :: l => by
    rw [List.map_cons, List.filter_cons]
    cases h : q a with
    | true => simp [filterMap_id_map q out l]
    | false => simp [filterMap_id_map q out l]

/-- [elt for x in iter] -/
theorem Evs.compAll {κ : Nat} {α : Type} {l : List α} {inj : α → D} (out : α → D) {elt iter : Expr} {x : Str} {px : Pos} (hA : OkA κ A) (i : In sc scope) (hs : ∀ env x, foldedSetIterable iter env x = pure x)
    (hi : Evi w A sc δ iter (.Name x px) (l.map inj)) (hx : own2 scope x) (hg : ∀ a ∈ l, Evs w A scope ((x, inj a) :: freeOf scope δ) elt (out a)) (hl : l.length ≤ bigL) :
    Evs w A sc δ (.ListComp elt [⟨.Name x px, iter, [], 0⟩] scope pos) (.list (l.map out)) := by
  have := Evs.listComp (gs := l.map fun a => some (out a)) (elt := elt) (ifs := []) (pos := pos) hA i hs hi (by simp) (fun j d r h1 h2 => ?_) (by simpa using hl)
  · rw [List.filterMap_map] at this
    have e : (id ∘ fun a => some (out a)) = fun a => some (out a) := rfl
    rw [e, List.filterMap_eq_map'] at this
    exact this
  · rw [List.getElem?_map] at h1 h2
    cases ha : l[j]? with
    | none => rw [ha] at h1; cases h1
    | some a =>
      rw [ha] at h1 h2; cases h1; cases h2
      exact ⟨[(x, inj a)], .name hx, .inr ⟨.nil, _, rfl, hg a (List.mem_of_getElem? ha)⟩⟩
/-- [elt for x in iter if c] -/
theorem Evs.compIf {κ : Nat} {α : Type} {l : List α} {inj : α → D} (q : α → Bool) (out : α → D) {elt iter c : Expr} {x : Str} {px : Pos} (hA : OkA κ A) (i : In sc scope) (hs : ∀ env x, foldedSetIterable iter env x = pure x)
    (hi : Evi w A sc δ iter (.Name x px) (l.map inj)) (hx : own2 scope x) (hc : ∀ a ∈ l, Tru w A scope ((x, inj a) :: freeOf scope δ) c (q a)) (hg : ∀ a ∈ l, q a = true → Evs w A scope ((x, inj a) :: freeOf scope δ) elt (out a)) (hl : l.length ≤ bigL) :
    Evs w A sc δ (.ListComp elt [⟨.Name x px, iter, [c], 0⟩] scope pos) (.list ((l.filter q).map out)) := by
  have := Evs.listComp (gs := l.map fun a => if q a = true then some (out a) else Option.none) (elt := elt) (ifs := [c]) (pos := pos) hA i hs hi (by simp) (fun j d r h1 h2 => ?_) (by simpa using hl)
  · rw [filterMap_id_map] at this; exact this
  · rw [List.getElem?_map] at h1 h2
    cases ha : l[j]? with
    | none => rw [ha] at h1; cases h1
    | some a =>
      rw [ha] at h1 h2; cases h1; cases h2
      refine ⟨[(x, inj a)], .name hx, ?_⟩
      have m := List.mem_of_getElem? ha
      have t := hc a m
      cases hq : q a with
      | true => rw [hq] at t; exact .inr ⟨.one t, _, by simp [hq], hg a m hq⟩
      | false => rw [hq] at t; exact .inl ⟨.one t, by simp [hq]⟩
/-- [elt for x, y in iter if c] -/
theorem Evs.compPairIf {κ : Nat} {α : Type} {l : List α} {i1 i2 : α → D} (q : α → Bool) (out : α → D) {elt iter c : Expr} {x y : Str} {px py pt : Pos} {k0 : Nat} (hA : OkA κ A) (i : In sc scope) (hs : ∀ env x, foldedSetIterable iter env x = pure x)
    (hi : Evi w A sc δ iter (.Tuple [.Name x px, .Name y py] k0 pt) (l.map fun a => .tup [i1 a, i2 a])) (hx : own2 scope x) (hy : own2 scope y) (hc : ∀ a ∈ l, Tru w A scope ((y, i2 a) :: (x, i1 a) :: freeOf scope δ) c (q a))
    (hg : ∀ a ∈ l, q a = true → Evs w A scope ((y, i2 a) :: (x, i1 a) :: freeOf scope δ) elt (out a)) (hl : l.length ≤ bigL) :
    Evs w A sc δ (.ListComp elt [⟨.Tuple [.Name x px, .Name y py] k0 pt, iter, [c], 0⟩] scope pos) (.list ((l.filter q).map out)) := by
  have := Evs.listComp (gs := l.map fun a => if q a = true then some (out a) else Option.none) (elt := elt) (ifs := [c]) (pos := pos) hA i hs hi (by simp) (fun j d r h1 h2 => ?_) (by simpa using hl)
  · rw [filterMap_id_map] at this; exact this
  · rw [List.getElem?_map] at h1 h2
    cases ha : l[j]? with
    | none => rw [ha] at h1; cases h1
    | some a =>
      rw [ha] at h1 h2; cases h1; cases h2
      refine ⟨[(y, i2 a), (x, i1 a)], .pair hx hy, ?_⟩
      have m := List.mem_of_getElem? ha
      have t := hc a m
      cases hq : q a with
      | true => rw [hq] at t; exact .inr ⟨.one t, _, by simp [hq], hg a m hq⟩
      | false => rw [hq] at t; exact .inl ⟨.one t, by simp [hq]⟩
/-- y = [elt for x in iter] on one row, y local -/
theorem Run1.acompAll {κ : Nat} {α : Type} {l : List α} {inj : α → D} (out : α → D) {elt iter : Expr} {x y : Str} {px py spos : Pos} (hA : OkA κ A) (i : In sc scope) (hs : ∀ env x, foldedSetIterable iter env x = pure x)
    (hi : Evi w A sc δ iter (.Name x px) (l.map inj)) (hx : own2 scope x) (hg : ∀ a ∈ l, Evs w A scope ((x, inj a) :: freeOf scope δ) elt (out a)) (hl : l.length ≤ bigL) (hy : sc.names.lookup y = some .local)
    (hline : (py.line == pos.line) = true) (hny : (scope.names.any fun p => p.1 == y && (p.2 == .local || p.2 == .cell)) = false) (n : N ((y, .list (l.map out)) :: δ) μ) :
    Run1 w A sc δ μ (.Assign [.Name y py] (.ListComp elt [⟨.Name x px, iter, [], 0⟩] scope pos) spos) N B R := by
  refine Run1.assignComp (gs := l.map fun a => some (out a)) hA i hs hi (by simp) (fun j d r h1 h2 => ?_) (by simpa using hl) hy hline hny ?_
  · rw [List.getElem?_map] at h1 h2
    cases ha : l[j]? with
    | none => rw [ha] at h1; cases h1
    | some a =>
      rw [ha] at h1 h2; cases h1; cases h2
      exact ⟨[(x, inj a)], .name hx, .inr ⟨.nil, _, rfl, hg a (List.mem_of_getElem? ha)⟩⟩
  · rw [List.filterMap_map]
    have e : (id ∘ fun a => some (out a)) = fun a => some (out a) := rfl
    rw [e, List.filterMap_eq_map']
    exact n
theorem Run1.acompIf {κ : Nat} {α : Type} {l : List α} {inj : α → D} (q : α → Bool) (out : α → D) {elt iter c : Expr} {x y : Str} {px py spos : Pos} (hA : OkA κ A) (i : In sc scope) (hs : ∀ env x, foldedSetIterable iter env x = pure x)
    (hi : Evi w A sc δ iter (.Name x px) (l.map inj)) (hx : own2 scope x) (hc : ∀ a ∈ l, Tru w A scope ((x, inj a) :: freeOf scope δ) c (q a)) (hg : ∀ a ∈ l, q a = true → Evs w A scope ((x, inj a) :: freeOf scope δ) elt (out a)) (hl : l.length ≤ bigL) (hy : sc.names.lookup y = some .local)
    (hline : (py.line == pos.line) = true) (hny : (scope.names.any fun p => p.1 == y && (p.2 == .local || p.2 == .cell)) = false) (n : N ((y, .list ((l.filter q).map out)) :: δ) μ) :
    Run1 w A sc δ μ (.Assign [.Name y py] (.ListComp elt [⟨.Name x px, iter, [c], 0⟩] scope pos) spos) N B R := by
  refine Run1.assignComp (gs := l.map fun a => if q a = true then some (out a) else Option.none) (ifs := [c]) hA i hs hi (by simp) (fun j d r h1 h2 => ?_) (by simpa using hl) hy hline hny ?_
  · rw [List.getElem?_map] at h1 h2
    cases ha : l[j]? with
    | none => rw [ha] at h1; cases h1
    | some a =>
      rw [ha] at h1 h2; cases h1; cases h2
      refine ⟨[(x, inj a)], .name hx, ?_⟩
      have m := List.mem_of_getElem? ha
      have t := hc a m
      cases hq : q a with
      | true => rw [hq] at t; exact .inr ⟨.one t, _, by simp [hq], hg a m hq⟩
      | false => rw [hq] at t; exact .inl ⟨.one t, by simp [hq]⟩
  · rw [filterMap_id_map]; exact n
/-- a comprehension for a cell name is assigned as any value -/
theorem swaps_cell {elt : Expr} {gens : List Comprehension} {y : Str} {py spos : Pos} (hy : sc.names.lookup y = some .cell) (env : Env) (ok : EnvOk sc env) : swapsWith (.ListComp elt gens scope pos) (some (.Name y py)) spos.line env = pure false := by
  show (pure (env.blockKind == .function && env.kindOf y == some .local && py.line == pos.line && !(scope.names.any fun (n, k) => n == y && (k == .local || k == .cell))) : Sem Bool) = pure false
  rw [ok.ck y hy]
  have : (some NameKind.cell == some NameKind.local) = false := rfl
  rw [this]; simp
end
end
-- part A21
section
open PySem PySem.W PyProof.Rows PySem.Calls

theorem binD_mod {a b : Int} (h : b ≠ 0) : binD .Mod (.int a) (.int b) = some (.int (a.fmod b)) := if_neg (by omega)
theorem binD_div {a b : Int} (h : b ≠ 0 ∧ b < 1073741824 ∧ -1073741824 < b) : binD .FloorDiv (.int a) (.int b) = some (.int (a.fdiv b)) := if_neg (by omega)
theorem binD_mul {a b : Int} (h : a < 2 ^ 60 ∧ -2 ^ 60 < a) : binD .Mult (.int a) (.int b) = some (.int (a * b)) := if_pos (by omega)
theorem binD_pow {a b : Int} (h : a < 16 ∧ -16 < a ∧ 0 ≤ b ∧ b ≤ 64) : binD .Pow (.int a) (.int b) = some (.int (a ^ b.toNat)) := if_pos (by omega)
theorem binD_str {x y : Str} (h : x.length + y.length ≤ bigL) : binD .Add (.str x) (.str y) = some (.str (x ++ y)) := if_pos h
theorem binD_list {x y : List D} (h : x.length + y.length ≤ bigL) : binD .Add (.list x) (.list y) = some (.list (x ++ y)) := if_pos h
theorem callB_len {l : List D} (h : l.length ≤ bigL) : callB "len" [.list l] = some (.int l.length) := by unfold callB; rw [if_pos rfl]; exact if_pos h
theorem callB_ord {x : Str} (h : x.length = 1) : callB "ord" [.str x] = some (.int (x.cps.getD 0 0 : Nat)) := by unfold callB; rw [if_neg (by decide), if_pos rfl]; exact if_pos h
theorem callB_chr {i : Int} (h : 0 ≤ i ∧ i ≤ 1114111) : callB "chr" [.int i] = some (.str ⟨#[i.toNat]⟩) := by unfold callB; rw [if_neg (by decide), if_neg (by decide), if_pos rfl]; exact if_pos h
theorem callB_isi {b : Bool} : callB "isinstance" [.bool b, .ty "bool"] = some (.bool true) := by unfold callB; rw [if_neg (by decide), if_neg (by decide), if_neg (by decide), if_pos rfl]; rfl
theorem callB_max {a b : Int} : callB "max" [.int a, .int b] = some (.int (if b > a then b else a)) := by unfold callB; rw [if_neg (by decide), if_neg (by decide), if_neg (by decide), if_neg (by decide), if_pos rfl]
theorem itemD_list {l : List D} {k : Int} {d : D} (h : 0 ≤ k ∧ k < bigL) (e : l[k.toNat]? = some d) : itemD (.list l) (.int k) = some d := by
  show (if 0 ≤ k then (if k < bigL then l[k.toNat]? else none) else _) = _; rw [if_pos h.1, if_pos h.2]; exact e
theorem callB_lenT {l : List D} (h : l.length ≤ bigL) : callB "len" [.tup l] = some (.int l.length) := by unfold callB; rw [if_pos rfl]; exact if_pos h
theorem itemD_tup {l : List D} {k : Int} {d : D} (h : 0 ≤ k ∧ k < bigL) (e : l[k.toNat]? = some d) : itemD (.tup l) (.int k) = some d := (if_pos h).trans e
theorem itemD_last {l : List D} {d : D} (h : 0 < l.length ∧ l.length ≤ bigL) (e : l.getLast? = some d) : itemD (.list l) (.int (-1)) = some d := by
  show (if (0 : Int) ≤ -1 then (if (-1 : Int) < bigL then l[(-1 : Int).toNat]? else none) else if -(l.length : Int) ≤ -1 ∧ l.length ≤ bigL then l[((-1 : Int) + l.length).toNat]? else none) = _
  rw [if_neg (by omega), if_pos ⟨by omega, h.2⟩]
  rw [List.getLast?_eq_getElem?] at e
  rw [show ((-1 : Int) + (l.length : Int)).toNat = l.length - 1 by omega]; exact e
theorem itemD_str {x : Str} {k : Int} {c : Nat} (h : 0 ≤ k ∧ x.length ≤ bigL) (e : x.cps[k.toNat]? = some c) : itemD (.str x) (.int k) = some (.str ⟨#[c]⟩) := by
  show (if 0 ≤ k ∧ k < x.length ∧ x.length ≤ bigL then (x.cps[k.toNat]?).map fun c => D.str ⟨#[c]⟩ else none) = _
  have : k < x.length := by
    have := (Array.getElem?_eq_some_iff.mp e).1
    have : k.toNat < x.length := this
    omega
  rw [if_pos ⟨h.1, this, h.2⟩, e]; rfl

/-! names that hold -/
noncomputable def Sub (δ0 δ : Dm) : Prop := ∀ x d, δ0.lookup x = some d → δ.lookup x = some d
theorem Sub.nil {δ : Dm} : Sub [] δ := fun _ _ e => by cases e
theorem Sub.cons {x : Str} {d : D} {δ0 δ : Dm} (h : δ.lookup x = some d) (t : Sub δ0 δ) : Sub ((x, d) :: δ0) δ := fun y e q => by
  rw [List.lookup_cons] at q
  cases z : y == x with
  | true => rw [z] at q; cases q; rw [beq_iff_eq.mp z]; exact h
  | false => rw [z] at q; exact t y e q
theorem Sub.push {x : Str} {d : D} {δ0 δ : Dm} (t : Sub δ0 δ) : Sub ((x, d) :: δ0) ((x, d) :: δ) := fun y e q => by
  rw [List.lookup_cons] at q ⊢
  cases z : y == x with
  | true => rw [z] at q; exact q
  | false => rw [z] at q; exact t y e q
theorem sgn_beq (c k : Nat) : ((⟨#[c]⟩ : Str) == ⟨#[k]⟩) = (c == k) := by
  cases h : c == k with
  | true => rw [beq_iff_eq.mp h]; simp
  | false => simp at h ⊢; exact h
theorem str_space : (" " : Str) = ⟨#[32]⟩ := by decide +kernel
theorem str_tab : ("\t" : Str) = ⟨#[9]⟩ := by decide +kernel

section
variable {w : World} {A : Around} {sc scope : Scope} {env cenv : Env} {h0 hb0 hb h hb' h' : Heap} {δ δ' : Dm} {μ μ' : Mu} {pos p : Pos} {N B : Pm} {R : D → Prop}
theorem Tru.cast {e : Expr} {a b : Bool} (h : a = b) (x : Tru w A sc δ e a) : Tru w A sc δ e b := h ▸ x
theorem Evs.cast {e : Expr} {a b : D} (h : a = b) (x : Evs w A sc δ e a) : Evs w A sc δ e b := h ▸ x
/-- a for loop whose state is told by the number of its turns -/
theorem Run1.forW {κ : Nat} (hA : OkA κ A) {x : Str} {px : Pos} {iter : Expr} {body : List Stmt} {ds : List D} (Δ : Nat → Dm) (hi : Evi w A sc δ iter (.Name x px) ds) (hs : ∀ env x, foldedSetIterable iter env x = pure x)
    (o : own2 sc x) (turn : ∀ i d, ds[i]? = some d → Run w A sc ((x, d) :: Δ i) μ body (fun δ' μ' => μ' = μ ∧ Sub (Δ (i + 1)) δ') N R) (i0 : Sub (Δ 0) δ) (fin : N (Δ ds.length) μ) (hN : ∀ δ δ' μ, Sub δ δ' → N δ μ → N δ' μ) :
    Run1 w A sc δ μ (.For (.Name x px) iter body [] p) N B R := by
  refine Run1.for_ hA (fun i δ' μ' => μ' = μ ∧ Sub (Δ i) δ') hi hs o ?_ ?_ ⟨rfl, i0⟩
  · rintro i d δ1 μ1 hd ⟨rfl, s⟩
    exact (turn i d hd).weak s.push
  · rintro δ1 μ1 ⟨rfl, s⟩
    exact hN _ _ _ s fin
theorem Run.sub {δ1 : Dm} {ss : List Stmt} (s : Sub δ1 δ) (r : Run w A sc δ1 μ ss N B R) : Run w A sc δ μ ss N B R := r.weak s
end
end
-- part A22
section
open PySem PySem.W PyProof.Rows PySem.Calls

/-! Whitespace's instances -/
noncomputable abbrev wsD (vr vn vt vm vs : Value) (hs : List Int) (ts : List Nat) (k : Nat) : Obj := { cls := .type "dict", data := .dict (wsEntries vr vn vt vm vs hs ts).toArray k }
theorem ws_ga (P : Params) : findIn (KF P) (.ref 83) "__getattribute__" = some (some (.builtin "object.__getattribute__")) := by kernel_rfl
theorem ws_hd (P : Params) : hasDictIn (KF P) 83 = true := by kernel_rfl
theorem ws_no (P : Params) : findIn (KF P) (.ref 83) "raw" = some none ∧ findIn (KF P) (.ref 83) "n" = some none ∧ findIn (KF P) (.ref 83) "nt" = some none ∧ findIn (KF P) (.ref 83) "norm" = some none ∧ findIn (KF P) (.ref 83) "is_simple" = some none :=
  ⟨by kernel_rfl, by kernel_rfl, by kernel_rfl, by kernel_rfl, by kernel_rfl⟩
theorem ws_look (vr vn vt vm vs : Value) (hs : List Int) (ts : List Nat) (k : Nat) : lookIn "raw" (wsD vr vn vt vm vs hs ts k) = some (some vr) ∧ lookIn "n" (wsD vr vn vt vm vs hs ts k) = some (some vn) ∧
    lookIn "nt" (wsD vr vn vt vm vs hs ts k) = some (some vt) ∧ lookIn "norm" (wsD vr vn vt vm vs hs ts k) = some (some vm) ∧ lookIn "is_simple" (wsD vr vn vt vm vs hs ts k) = some (some vs) :=
  ⟨by kernel_rfl, by kernel_rfl, by kernel_rfl, by kernel_rfl, by kernel_rfl⟩
theorem ws_find (P : Params) {vr vn vt vm vs v : Value} {hs : List Int} {ts : List Nat} {k : Nat} {name : Str} (h1 : findIn (KF P) (.ref 83) name = some none) (h2 : lookIn name (wsD vr vn vt vm vs hs ts k) = some (some v)) :
    findObj (KF P) 83 (some (wsD vr vn vt vm vs hs ts k)) name = some (.value v) := findObj_own (ws_hd P) h1 rfl h2

section
variable {w : World} {A : Around} {sc scope : Scope} {env cenv : Env} {h0 hb0 hb h hb' h' : Heap} {δ δ' : Dm} {μ μ' : Mu} {pos p : Pos} {N B : Pm} {R : D → Prop}

theorem attr_val {o : Expr} {name : Str} {x d : D} (ho : Evs w A sc δ o x) (nc : notCall o = true)
    (g : ∀ v hb h, Has hb v x → Ext hb h → Gd w hb → ∃ a ox od u, v = .ref a ∧ InstAt h a ox 83 (some od) ∧ findObj (KF w.params) 83 (some od) name = some (.value u) ∧ handedIn u = true ∧ Has hb u d) : Evs w A sc δ (.Attribute o name p) d :=
  ⟨fun env hb h c s Q E es q => by
    rw [arm_eval_Attribute, attrBase_plain nc]
    refine wpAny_bind (ho.run env hb h c s _ E es fun v hb1 h1 tk st hv => wpAny_bind (wpAny_standAt (wpAny_bind (wpAny_holding ?_))))
    have c1 := c.step st
    obtain ⟨a, ox, od, u, rfl, I, hf, hh, hu⟩ := g v hb1 h1 hv st.inn c1.gd
    exact get_value (s := { s with heap := h1, toks := tk }) (c1.gd.k.keeps c1.sub) I (ws_ga _) hf hh (wpAny_bind (wpAny_letTemporaryGo (wpAny_pure (q u hb1 h1 _ st hu))))⟩

theorem handed_has {hb : Heap} {v : Value} {d : D} (x : Has hb v d) : handedIn v = true := by cases x <;> rfl
theorem Evs.wsRaw {o : Expr} {raw : Str} {n nt t : Int} {c : List Int} {b : Bool} (ho : Evs w A sc δ o (.ws raw n nt c t b)) (nc : notCall o = true) : Evs w A sc δ (.Attribute o "raw" p) (.str raw) :=
  attr_val ho nc fun v hb h x k gd => by
    cases x with
    | ws ea ed h1 h2 h3 h4 h5 => exact ⟨_, _, _, _, rfl, ⟨k _ _ ea, rfl, rfl, k _ _ ed⟩, ws_find _ (ws_no _).1 (ws_look _ _ _ _ _ _ _ _).1, handed_has h1, h1⟩
theorem Evs.wsN {o : Expr} {raw : Str} {n nt t : Int} {c : List Int} {b : Bool} (ho : Evs w A sc δ o (.ws raw n nt c t b)) (nc : notCall o = true) : Evs w A sc δ (.Attribute o "n" p) (.int n) :=
  attr_val ho nc fun v hb h x k gd => by
    cases x with
    | ws ea ed h1 h2 h3 h4 h5 => exact ⟨_, _, _, _, rfl, ⟨k _ _ ea, rfl, rfl, k _ _ ed⟩, ws_find _ (ws_no _).2.1 (ws_look _ _ _ _ _ _ _ _).2.1, handed_has h2, h2⟩
theorem Evs.wsNt {o : Expr} {raw : Str} {n nt t : Int} {c : List Int} {b : Bool} (ho : Evs w A sc δ o (.ws raw n nt c t b)) (nc : notCall o = true) : Evs w A sc δ (.Attribute o "nt" p) (.int nt) :=
  attr_val ho nc fun v hb h x k gd => by
    cases x with
    | ws ea ed h1 h2 h3 h4 h5 => exact ⟨_, _, _, _, rfl, ⟨k _ _ ea, rfl, rfl, k _ _ ed⟩, ws_find _ (ws_no _).2.2.1 (ws_look _ _ _ _ _ _ _ _).2.2.1, handed_has h3, h3⟩
theorem Evs.wsNorm {o : Expr} {raw : Str} {n nt t : Int} {c : List Int} {b : Bool} (ho : Evs w A sc δ o (.ws raw n nt c t b)) (nc : notCall o = true) : Evs w A sc δ (.Attribute o "norm" p) (.tup [.tup (c.map .int), .int t]) :=
  attr_val ho nc fun v hb h x k gd => by
    cases x with
    | ws ea ed h1 h2 h3 h4 h5 => exact ⟨_, _, _, _, rfl, ⟨k _ _ ea, rfl, rfl, k _ _ ed⟩, ws_find _ (ws_no _).2.2.2.1 (ws_look _ _ _ _ _ _ _ _).2.2.2.1, handed_has h4, h4⟩
theorem Evs.wsSimple {o : Expr} {raw : Str} {n nt t : Int} {c : List Int} {b : Bool} (ho : Evs w A sc δ o (.ws raw n nt c t b)) (nc : notCall o = true) : Evs w A sc δ (.Attribute o "is_simple" p) (.bool b) :=
  attr_val ho nc fun v hb h x k gd => by
    cases x with
    | ws ea ed h1 h2 h3 h4 h5 => exact ⟨_, _, _, _, rfl, ⟨k _ _ ea, rfl, rfl, k _ _ ed⟩, ws_find _ (ws_no _).2.2.2.2 (ws_look _ _ _ _ _ _ _ _).2.2.2.2, handed_has h5, h5⟩
end
end
-- part A23
section
open PySem PySem.W PyProof.Rows PySem.Calls

theorem ws_gk (P : Params) : findIn (KF P) (.ref 83) "__getattr__" = some none := by kernel_rfl

section
variable {w : World} {A : Around} {sc scope : Scope} {env cenv : Env} {h0 hb0 hb h hb' h' : Heap} {δ δ' : Dm} {μ μ' : Mu} {pos p : Pos} {N B : Pm} {R : D → Prop}

/-- a method of Whitespace -/
structure MethAt (w : World) (name : Str) (f : Addr) : Prop where
  find : findIn (KF w.params) (.ref 83) name = some (some (.ref f))
  ty : typeIn (KF w.params) (.ref f) = some (.type "function")
  look : ∀ (vr vn vt vm vs : Value) (hs : List Int) (ts : List Nat) (k : Nat), shadowIn (some (wsD vr vn vt vm vs hs ts k)) name = some false

theorem Evs.methWs {κ : Nat} {o : Expr} {name : Str} {f : Addr} {fd : FuncData} {es : List Expr} {ds : List D} {d : D} {ap : Pos} {raw : Str} {n nt t : Int} {c : List Int} {b : Bool} (hA : OkA κ A) (ho : Evs w A sc δ o (.ws raw n nt c t b)) (nc : notCall o = true)
    (M : MethAt w name f) (F : FnAt w f fd) (fn : Fn w κ f (.ws raw n nt c t b :: ds) d) (xs : EvsL w A sc δ es ds) (hl : es.length < 30) (hline : (ap.endLine == pos.line) = true) : Evs w A sc δ (.Call (.Attribute o name ap) es [] pos) d :=
  ⟨fun env hb h cc s Q E es' q => by
    rw [eval_meth, attrBase_plain nc]
    refine wpAny_bind (ho.run env hb h cc s _ E es' fun ov hb1 h1 tk st hv => wpAny_bind (wpAny_standAt ?_))
    have c1 := cc.step st
    have few : methodCallForm (es.length + 0) (backTo pos (starEach es env)) (backToKw pos (keywordEach [] env)) = true := by
      have := few_ok (env := env) (pos := pos) xs.stars hl
      exact this
    unfold methodCall
    rw [few]
    cases hv with
    | ws ea ed h1' h2 h3 h4 h5 =>
    rename_i a dx vr vn vt vm vs hs ts k
    refine wpAny_bind (wpAny_holding ?_)
    show wpAny _ _ (getMethod (.ref a) name _) _ _ _
    refine method_fn (c1.gd.k.keeps c1.sub) (C := 83) (od := some (wsD vr vn vt vm vs hs ts k)) ⟨c1.sub _ _ ea, rfl, rfl, c1.sub _ _ ed⟩ (ws_ga _) (ws_gk _) M.find M.ty (M.look ..) ?_
    refine wpAny_bind (m := methodCallPos true o env ap pos) ?_
    unfold methodCallPos
    rw [hline]
    refine wpAny_pure ?_
    obtain ⟨ob, ho1, ho2⟩ := F.fn
    refine Calls.callWith_function (o := ob) (fd := fd) (evalArgs_ok xs c1 _ _ E rfl fun aa hb2 h2' tk2 st2 ha => ⟨⟨(c1.step st2).sub _ _ ((c1.step st2).gd.k _ _ ho1), ho2⟩, ?_⟩)
    rw [ha.1]
    exact fn A hb2 h2' _ hA (c1.step st2).gd st2.inn (.cons ((Has.ws ea ed h1' h2 h3 h4 h5).mono st2.fz) ha.2) _ _ E rfl fun v hb3 h3 tk3 st3 hv => q v hb3 h3 tk3 ((st.trans st2).trans st3) hv⟩
end
end
-- part A24
section
open PySem PySem.W PyProof.Rows PySem.Calls

/-! the set b1_set and the dict b3_exceptions -/
noncomputable def b1es (P : Params) : Array (Int × Value) := match (KF P).lookup 131 with
  | some ⟨_, _, .set es _ _, _⟩ => es
  | _ => #[]
noncomputable def b3es (P : Params) : Array DictEntry := match (KF P).lookup 142 with
  | some ⟨_, _, .dict es _, _⟩ => es
  | _ => #[]
noncomputable def b1k : List Int := [173, 847, 6150, 6155, 6156, 6157, 8203, 8204, 8205, 8288, 65279] ++ (List.range 16).map fun (i : Nat) => (65024 + i : Int)
noncomputable def numOf : Value → Int
  | .int k _ => k
  | _ => -1
noncomputable def elemB : Int × Value → Bool
  | (h, .int k _) => h == hashInt k
  | _ => false
noncomputable def entryB : DictEntry → Bool
  | ⟨h, .int k _, .str _ _⟩ => h == hashInt k
  | _ => false
theorem b1_all (P : Params) : (b1es P).toList.all elemB = true := by kernel_rfl
theorem b1_keys (P : Params) : ((b1es P).toList.map fun e => numOf e.2).all (fun k => b1k.contains k) = true ∧ b1k.all (fun k => ((b1es P).toList.map fun e => numOf e.2).contains k) = true := ⟨by kernel_rfl, by kernel_rfl⟩
theorem b3_all (P : Params) : (b3es P).toList.all entryB = true := by kernel_rfl

theorem b1_set (w : World) {h : Heap} (k : (KF w.params).In h) : h.SetOf (intKind PW w) 131 (fun x => b1k.contains x) 27 := by
  have look : ∃ o es ep t, (KF w.params).lookup 131 = some o ∧ o.ExactSet ∧ o.data = .set es ep t ∧ es = b1es w.params ∧ es.size = 27 ∧ t.fits es.size = true := ⟨_, _, _, _, rfl, ⟨rfl, rfl, rfl⟩, rfl, rfl, rfl, rfl⟩
  obtain ⟨o, es, ep, t, e1, e2, e3, e4, e5, e6⟩ := look
  refine ⟨o, es, ep, t, k _ _ e1, e2, e3, ?_, fun x => ?_, by rw [e5]; decide, e6, e5⟩
  · subst e4
    intro e m
    have := List.all_eq_true.mp (b1_all w.params) e m
    obtain ⟨hh, v⟩ := e
    cases v <;> try cases this
    rename_i n t
    exact ⟨⟨n, intKind_is _ _ _ _, (by simpa [elemB] using this : hh = hashInt n)⟩, rfl⟩
  · subst e4
    obtain ⟨a, b⟩ := b1_keys w.params
    constructor
    · intro q
      have := List.all_eq_true.mp b x (by simpa using q)
      have : x ∈ (b1es w.params).toList.map fun e => numOf e.2 := by simpa using this
      obtain ⟨e, m, rfl⟩ := List.mem_map.mp this
      refine ⟨e, m, ?_⟩
      have := List.all_eq_true.mp (b1_all w.params) e m
      obtain ⟨hh, v⟩ := e
      cases v <;> try cases this
      exact intKind_is _ _ _ _
    · rintro ⟨e, m, q⟩
      have := List.all_eq_true.mp a (numOf e.2) (List.mem_map.mpr ⟨e, m, rfl⟩)
      obtain ⟨t, q⟩ := Value.isInt_shape q
      rw [q] at this
      exact this
noncomputable def b3 (P : Params) (k : Int) : Option Value := findBy Value.isInt (b3es P) k
theorem b3_map (w : World) {h : Heap} (k : (KF w.params).In h) : h.MapOf (intKind PW w) 142 (b3 w.params) := by
  have look : ∃ o es ep, (KF w.params).lookup 142 = some o ∧ o.ExactDict ∧ o.data = .dict es ep ∧ es = b3es w.params := ⟨_, _, _, rfl, ⟨rfl, rfl, rfl⟩, rfl, rfl⟩
  obtain ⟨o, es, ep, e1, e2, e3, e4⟩ := look
  refine ⟨o, es, ep, k _ _ e1, e2, e3, ?_, fun x => by rw [e4]; rfl⟩
  subst e4
  intro e m
  have := List.all_eq_true.mp (b3_all w.params) e (by simpa using m)
  obtain ⟨hh, kk, v⟩ := e
  cases kk <;> try cases this
  cases v <;> try cases this
  rename_i n t y u
  exact ⟨n, intKind_is _ _ _ _, (by simpa [entryB] using this : hh = hashInt n)⟩

section
variable {w : World} {A : Around} {sc scope : Scope} {env cenv : Env} {h0 hb0 hb h hb' h' : Heap} {δ δ' : Dm} {μ μ' : Mu} {pos p pn : Pos} {N B : Pm} {R : D → Prop}

theorem Evs.inB1 {e : Expr} {x : Str} {k : Int} (he : Evs w A sc δ e (.int k)) (g : Glb w sc x (.ref 131)) : Evs w A sc δ (.Compare e [.In] [.Name x pn] p) (.bool (b1k.contains k)) :=
  ⟨fun env hb h c s Q E es q => wpAny_Compare1 (he.run env hb h c s _ E es fun a hb1 h1 tk st ha => g.ok (c.step st) _ _ E rfl fun b hb2 h2 tk2 st2 hb' => by
    subst hb'
    obtain ⟨t, rfl⟩ := ha.int_inv
    have c2 := (c.step st).step st2
    exact wpAny_inSet_of (knd := intKind PW w) (k := k) (intKind_is _ _ _ _) rfl (b1_set w (c2.gd.k.keeps c2.sub)) (q _ hb2 h2 _ (st.trans st2) (.bool _))) rfl⟩

theorem Evs.notInStr {e f : Expr} {x y : Str} (he : Evs w A sc δ e (.str x)) (hf : Evs w A sc δ f (.str y)) (hm : behindInMarks .NotIn f = false) : Evs w A sc δ (.Compare e [.NotIn] [f] p) (.bool (!Txt.contains y x)) :=
  ⟨fun env hb h c s Q E es q => wpAny_Compare1 (he.run env hb h c s _ E es fun a hb1 h1 tk st ha => hf.run env hb1 h1 (c.step st) _ _ E rfl fun b hb2 h2 tk2 st2 hb' => by
    obtain ⟨t, rfl⟩ := ha.str_inv
    obtain ⟨u, rfl⟩ := hb'.str_inv
    exact P.notIn_str (q _ hb2 h2 _ (st.trans st2) (.bool _))) hm⟩

noncomputable def valD : Option Value → D
  | some (.str x _) => .str x
  | _ => .none
theorem Evs.b3get {x : Str} {e : Expr} {ap : Pos} {k : Int} (he : Evs w A sc δ e (.int k)) (ns : notStar e = true) (g : Glb w sc x (.ref 142)) (hline : (ap.endLine == pos.line) = true) : Evs w A sc δ (.Call (.Attribute (.Name x pn) "get" ap) [e] [] pos) (valD (b3 w.params k)) :=
  ⟨fun env hb h c s Q E es' q => by
    have xs : EvsL w A sc δ [e] [.int k] := .cons ns he .nil
    refine wpAny_Call_method_late (attrBase_plain rfl) (few_ok xs.stars (by simp)) hline rfl (g.ok c s _ E es' fun v hb1 h1 tk st hv => ?_)
    subst hv
    have c1 := c.step st
    refine ⟨"dict", "dict.get", F.plainAttrs_dict, F.slot_dict_get, F.type_dict_get, (b3_map w (c1.gd.k.keeps c1.sub)).typeIs, (b3_map w (c1.gd.k.keeps c1.sub)).noDict, ?_⟩
    rw [starEach_cons ns]
    refine wpAny_dict_get1 (knd := intKind PW w) rfl (wpAny_mono (he.run env hb1 h1 c1 _ _ E rfl fun v hb2 h2 tk2 st2 hv => ?_) (fun _ _ q => q) fun _ _ q => q)
    obtain ⟨t, rfl⟩ := hv.int_inv
    have c2 := c1.step st2
    refine ⟨k, _, intKind_is _ _ _ _, b3_map w (c2.gd.k.keeps c2.sub), q _ hb2 h2 _ (st.trans st2) ?_⟩
    cases e : b3 w.params k with
    | none => exact .none
    | some v =>
      have : ∃ en ∈ (b3es w.params).toList, en.val = v := by
        unfold b3 findBy at e
        obtain ⟨en, h1, h2⟩ := Option.map_eq_some_iff.mp e
        exact ⟨en, by simpa using Array.mem_of_find?_eq_some h1, h2⟩
      obtain ⟨en, m, rfl⟩ := this
      have := List.all_eq_true.mp (b3_all w.params) en m
      obtain ⟨hh, kk, v⟩ := en
      cases kk <;> try cases this
      cases v <;> try cases this
      exact .str _ _⟩
end
end
-- part A25
section
open PySem PySem.W PyProof.Rows PySem.Calls

/-! equality of lists of data -/
mutual
noncomputable def toP : D → PyData
  | .none => .none
  | .bool b => .bool b
  | .int i => .int i
  | .str x => .str x
  | .list l => .list (toPs l)
  | .tup l => .tuple (toPs l)
  | .ws .. => .none
  | .range .. => .none
  | .adr _ => .none
  | .ty _ => .none
  | .lam => .none
noncomputable def toPs : List D → List PyData
  | [] => []
  | d :: r => toP d :: toPs r
end
inductive Pl : Nat → D → Prop
  | none {n} : Pl n .none
  | bool {n b} : Pl n (.bool b)
  | int {n i} : Pl n (.int i)
  | str {n x} : PyData.strOk x = true → Pl n (.str x)
  | list {n l} : (∀ d ∈ l, Pl n d) → Pl (n + 1) (.list l)
theorem HasL.tail {h : Heap} {v : Value} {vs : List Value} {d : D} {ds : List D} (x : HasL h (v :: vs) (d :: ds)) : Has h v d ∧ HasL h vs ds :=
  ⟨x.2 0 v d rfl rfl, by simpa using x.1, fun i v d a b => x.2 (i + 1) v d a b⟩
theorem Pl.reads {h : Heap} {n : Nat} {d : D} (p : Pl n d) : ∀ {v : Value}, Has h v d → ∃ as, Reads h v (toP d) as := by
  induction p with
  | none => intro v x; cases x; exact ⟨_, .none⟩
  | bool => intro v x; cases x; exact ⟨_, .bool _⟩
  | int => intro v x; cases x; exact ⟨_, .int _ _⟩
  | str _ => intro v x; cases x; exact ⟨_, .str _ _⟩
  | list hl ih =>
    rename_i n l
    intro v x
    obtain ⟨a, vs, k, rfl, e, al⟩ := x.list_inv
    have all : ∀ (l : List D) (vs : List Value), HasL h vs l → (∀ d ∈ l, ∀ {v : Value}, Has h v d → ∃ as, Reads h v (toP d) as) → ∃ as, ReadsAll h vs (toPs l) as := by
      intro l
      induction l with
      | nil => intro vs hv _; rw [hv.none]; exact ⟨_, .nil⟩
      | cons d r hr =>
        intro vs hv hd
        match vs, hv with
        | v :: vs, hv =>
          obtain ⟨a1, a2⟩ := hv.tail
          obtain ⟨as, q⟩ := hd d List.mem_cons_self a1
          obtain ⟨bs, q2⟩ := hr vs a2 fun d m => hd d (List.mem_cons_of_mem _ m)
          exact ⟨_, .cons q q2⟩
        | [], hv => have := hv.1; simp at this
    obtain ⟨as, q⟩ := all l vs al ih
    exact ⟨_, .list e rfl rfl (by simpa using q)⟩
theorem Pl.lay {n : Nat} {d : D} (p : Pl n d) : (toP d).canLay0 = true ∧ (toP d).depth ≤ n := by
  induction p with
  | none => simp [toP, PyData.canLay0, PyData.depth]
  | bool => simp [toP, PyData.canLay0, PyData.depth]
  | int => simp [toP, PyData.canLay0, PyData.depth]
  | str h => simp [toP, PyData.canLay0, PyData.depth, h]
  | list hl ih =>
    rename_i n l
    have all : ∀ l : List D, (∀ d ∈ l, (toP d).canLay0 = true ∧ (toP d).depth ≤ n) → PyData.canLayAll0 (toPs l) = true ∧ PyData.depthAll (toPs l) ≤ n := by
      intro l
      induction l with
      | nil => intro _; simp [toPs, PyData.canLayAll0, PyData.depthAll]
      | cons d r hr =>
        intro hd
        have a := hd d List.mem_cons_self
        have b := hr fun d m => hd d (List.mem_cons_of_mem _ m)
        simp only [toPs, PyData.canLayAll0, PyData.depthAll, a.1, b.1, Bool.and_self, true_and]
        have a1 := a.2
        have a2 := b.2
        omega
    have q := all l ih
    simp only [toP, PyData.canLay0, PyData.depth, q.1, true_and]
    have := q.2
    omega
theorem Pl.shaped {n : Nat} {d : D} (p : Pl n d) (h : n ≤ 64) : PySem.SeqAt.shaped (toP d) = true := by
  unfold PySem.SeqAt.shaped
  obtain ⟨a, b⟩ := p.lay
  rw [a, Bool.true_and]
  exact decide_eq_true (by omega)

theorem eqv_int (a b : Int) : PyData.eqv (toP (.int a)) (toP (.int b)) = decide (a = b) := by simp only [toP, PyData.eqv]; rfl
theorem eqv_bool (a b : Bool) : PyData.eqv (toP (.bool a)) (toP (.bool b)) = decide (a = b) := by simp only [toP, PyData.eqv]; cases a <;> cases b <;> rfl
theorem eqv_str (a b : Str) : PyData.eqv (toP (.str a)) (toP (.str b)) = decide (a = b) := by simp only [toP, PyData.eqv]; rfl
theorem eqv_list {α : Type} [DecidableEq α] (f : α → D) (hf : ∀ a b, PyData.eqv (toP (f a)) (toP (f b)) = decide (a = b)) : ∀ l m : List α, PyData.eqv (toP (.list (l.map f))) (toP (.list (m.map f))) = decide (l = m) := by
  intro l m
  simp only [toP, PyData.eqv]
  induction l generalizing m with
  | nil => cases m <;> simp [toPs, PyData.eqvAll]
  | cons a l ih =>
    cases m with
    | nil => simp [toPs, PyData.eqvAll]
    | cons b m => simp only [List.map_cons, toPs, PyData.eqvAll, hf, ih, List.cons.injEq, Bool.decide_and]

section
variable {w : World} {A : Around} {sc scope : Scope} {env cenv : Env} {h0 hb0 hb h hb' h' : Heap} {δ δ' : Dm} {μ μ' : Mu} {pos p pn : Pos} {N B : Pm} {R : D → Prop}

theorem Evs.eqL {κ m n : Nat} {l r : Expr} {x y : D} {b : Bool} (hA : OkA κ A) (hl : Evs w A sc δ l x) (hr : Evs w A sc δ r y) (px : Pl m x) (py : Pl n y) (hm : m ≤ 64) (hn : n ≤ 64) (hb : behindInMarks .Eq r = false) (e : PyData.eqv (toP x) (toP y) = b) :
    Evs w A sc δ (.Compare l [.Eq] [r] p) (.bool b) := ⟨fun env hb' h c s Q E es q => wpAny_Compare1 (hl.run env hb' h c s _ E es fun a hb1 h1 tk st ha => hr.run env hb1 h1 (c.step st) _ _ E rfl fun b hb2 h2 tk2 st2 hb' => by
    obtain ⟨as, ra⟩ := px.reads ((ha.mono st2.fz).mono st2.inn)
    obtain ⟨bs, rb⟩ := py.reads (hb'.mono st2.inn)
    exact eq_dataH ra rb (px.shaped hm) (py.shaped hn) (by have := hA.un; omega) (q _ hb2 h2 _ (st.trans st2) (e ▸ .bool _))) hb⟩
theorem Tru.eqL {κ m n : Nat} {l r : Expr} {x y : D} {b : Bool} (hA : OkA κ A) (hl : Evs w A sc δ l x) (hr : Evs w A sc δ r y) (px : Pl m x) (py : Pl n y) (hm : m ≤ 64) (hn : n ≤ 64) (hb : behindInMarks .Eq r = false) (e : PyData.eqv (toP x) (toP y) = b) :
    Tru w A sc δ (.Compare l [.Eq] [r] p) b := ⟨fun env hb' h c s Q E es q => wpAny_isTrue_Compare1 (hl.run env hb' h c s _ E es fun a hb1 h1 tk st ha => hr.run env hb1 h1 (c.step st) _ _ E rfl fun b hb2 h2 tk2 st2 hb' => by
    obtain ⟨as, ra⟩ := px.reads ((ha.mono st2.fz).mono st2.inn)
    obtain ⟨bs, rb⟩ := py.reads (hb'.mono st2.inn)
    refine eq_dataH ra rb (px.shaped hm) (py.shaped hn) (by have := hA.un; omega) ?_
    exact truthy_ok st2.inn _ _ E rfl fun r hb4 h4 tk4 st4 hr => q r hb4 h4 tk4 ((st.trans st2).trans st4) (hr.trans e)) hb⟩
theorem Tru.neL {κ m n : Nat} {l r : Expr} {x y : D} {b : Bool} (hA : OkA κ A) (hl : Evs w A sc δ l x) (hr : Evs w A sc δ r y) (px : Pl m x) (py : Pl n y) (hm : m ≤ 64) (hn : n ≤ 64) (hb : behindInMarks .NotEq r = false) (e : (!PyData.eqv (toP x) (toP y)) = b) :
    Tru w A sc δ (.Compare l [.NotEq] [r] p) b := ⟨fun env hb' h c s Q E es q => wpAny_isTrue_Compare1 (hl.run env hb' h c s _ E es fun a hb1 h1 tk st ha => hr.run env hb1 h1 (c.step st) _ _ E rfl fun b hb2 h2 tk2 st2 hb' => by
    obtain ⟨as, ra⟩ := px.reads ((ha.mono st2.fz).mono st2.inn)
    obtain ⟨bs, rb⟩ := py.reads (hb'.mono st2.inn)
    refine ne_dataH ra rb (px.shaped hm) (py.shaped hn) (by have := hA.un; omega) ?_
    exact truthy_ok st2.inn _ _ E rfl fun r hb4 h4 tk4 st4 hr => q r hb4 h4 tk4 ((st.trans st2).trans st4) (hr.trans e)) hb⟩
end
end
-- part A26
section
open PySem PySem.W PyProof.Rows PySem.Calls

/-! a written dict of texts, asked at once -/
inductive DP : List (Option Expr) → List Expr → List (Str × Str) → Prop
  | nil : DP [] [] []
  | cons {x y : Str} {a b : Nat} {p q : Pos} {ks : List (Option Expr)} {vs : List Expr} {kvs : List (Str × Str)} : DP ks vs kvs →
      DP (some (.Constant (.str x) a p) :: ks) (.Constant (.str y) b q :: vs) ((x, y) :: kvs)
noncomputable def Tells : List (Value × Value) → List (Str × Value) → List (Str × Str) → Prop
  | [], [], [] => True
  | (k, v) :: vs, (x, u) :: us, (x', y) :: kvs => (∃ t, k = .str x t) ∧ u = v ∧ x' = x ∧ (∃ t, v = .str y t) ∧ Tells vs us kvs
  | _, _, _ => False
theorem Tells.carries {w : World} : ∀ {vs : List (Value × Value)} {us : List (Str × Value)} {kvs : List (Str × Str)}, Tells vs us kvs → Carries (strKind PW w) vs us
  | [], [], [], _ => trivial
  | (k, v) :: vs, (x, u) :: us, (x', y) :: kvs, ⟨⟨t, e⟩, e2, _, _, r⟩ => ⟨by rw [e]; exact strKind_is _ _ _ _, e2.symm, Tells.carries r⟩
theorem Tells.keys : ∀ {vs : List (Value × Value)} {us : List (Str × Value)} {kvs : List (Str × Str)}, Tells vs us kvs → us.map (·.1) = kvs.map (·.1)
  | [], [], [], _ => rfl
  | (k, v) :: vs, (x, u) :: us, (x', y) :: kvs, ⟨_, _, e, _, r⟩ => by simp [e, Tells.keys r]
theorem Tells.at : ∀ {vs : List (Value × Value)} {us : List (Str × Value)} {kvs : List (Str × Str)} {x y : Str}, Tells vs us kvs → (kvs.find? fun kv => kv.1 = x).map (·.2) = some y → ∃ t, valueAt us x = some (.str y t)
  | [], [], [], x, y, _, e => by cases e
  | (k, v) :: vs, (z, u) :: us, (z', y') :: kvs, x, y, ⟨_, e2, e3, ⟨t, e4⟩, r⟩, e => by
    subst e3
    unfold valueAt
    rw [List.find?_cons] at e ⊢
    by_cases q : z' = x
    · simp only [q, decide_true] at e ⊢
      simp only [Option.map_some, Option.some.injEq] at e
      exact ⟨t, by rw [Option.map_some, e2, e4, e]⟩
    · simp only [q, decide_false] at e ⊢
      exact Tells.at r e
theorem merged_new {K : Type} [DecidableEq K] : ∀ (kvs acc : List (K × Value)), ((acc ++ kvs).map (·.1)).Nodup → merged acc kvs = acc ++ kvs
  | [], acc, _ => by simp [merged]
  | (k, v) :: r, acc, h => by
    have hn : acc.any (fun kv => kv.1 = k) = false := by
      rw [List.any_eq_false]
      intro kv m e
      simp only [List.map_append, List.map_cons] at h
      have := (List.nodup_append.mp h).2.2 kv.1 (List.mem_map.mpr ⟨kv, m, rfl⟩) k List.mem_cons_self
      exact this (by simpa using e)
    show merged (stored acc k v) r = _
    unfold stored
    rw [hn]
    simp only [Bool.false_eq_true, if_false]
    rw [merged_new r (acc ++ [(k, v)]) (by simpa using h)]
    simp

section
variable {w : World} {A : Around} {sc scope : Scope} {env cenv : Env} {h0 hb0 hb h hb' h' : Heap} {δ δ' : Dm} {μ μ' : Mu} {pos p pn : Pos} {N B : Pm} {R : D → Prop}

noncomputable def dpPairs (env : Env) (pos : Pos) : List (Option Expr) → List Expr → List (Sem Value × Sem Value)
  | some k :: ks, v :: vs => (eval k env, (do let x ← eval v env; standAt pos; pure x)) :: dpPairs env pos ks vs
  | _, _ => []
theorem dp_shape {ks : List (Option Expr)} {vs : List Expr} {kvs : List (Str × Str)} (x : DP ks vs kvs) : (evalEachOpt ks env).zip ((evalEach vs env).map fun v => do let x ← v; standAt pos; pure x) = (dpPairs env pos ks vs).map fun p => (some p.1, p.2) := by
  induction x with
  | nil => rfl
  | cons _ ih => exact congrArg (List.cons _) ih
theorem dp_len {ks : List (Option Expr)} {vs : List Expr} {kvs : List (Str × Str)} (x : DP ks vs kvs) : (dpPairs env pos ks vs).length = kvs.length := by
  induction x with
  | nil => rfl
  | cons _ ih => simp [dpPairs, ih]
theorem dp_run {ks : List (Option Expr)} {vs : List Expr} {kvs : List (Str × Str)} (x : DP ks vs kvs) : ∀ (s : Shared) (Q : List (Value × Value) → Shared → Prop) (E : Value → Shared → Prop),
    (∀ ps us tk, Tells ps us kvs → Q ps { s with toks := tk }) → wpAny (model PW w) A (evalPairs (dpPairs env pos ks vs)) Q E s := by
  induction x with
  | nil => intro s Q E k; exact evalPairs_nil (k [] [] s.toks trivial)
  | cons _ ih =>
    intro s Q E k
    refine evalPairs_cons (wpAny_Constant_str ?_)
    refine wpAny_bind (wpAny_Constant_str (wpAny_bind (wpAny_standAt (wpAny_pure ?_))))
    exact ih _ _ E fun ps us tk t => k _ ((_, _) :: us) tk ⟨⟨_, rfl⟩, rfl, rfl, ⟨_, rfl⟩, t⟩

theorem Evs.dictItem {ks : List (Option Expr)} {vs : List Expr} {kvs : List (Str × Str)} {e : Expr} {x y : Str} (hD : DP ks vs kvs) (h0 : kvs ≠ []) (hlen : kvs.length ≤ 15) (nd : (kvs.map (·.1)).Nodup) (hk : Evs w A sc δ e (.str x)) (ns : notSlice e = true)
    (hx : (kvs.find? fun kv => kv.1 = x).map (·.2) = some y) : Evs w A sc δ (.Subscript (.Dict ks vs p) e pos) (.str y) := by
  refine ⟨fun env hb h c s Q E es q => ?_⟩
  subst es
  show wpAny _ _ (do let o ← eval (.Dict ks vs p) env; let j ← holding [o] (eval e env); standAt pos; subscriptTail (.Dict ks vs p) e o j) _ _ _
  have hne : dpPairs env p ks vs ≠ [] := fun z => by
    have := dp_len (env := env) (pos := p) hD
    rw [z] at this
    exact h0 (List.length_eq_zero_iff.mp this.symm)
  refine wpAny_bind (wpAny_Dict_pairs (knd := strKind PW w) (dp_shape hD) hne (by rw [dp_len hD]; exact hlen) (dp_run hD _ _ _ fun ps us tk t => ?_))
  refine ⟨us, t.carries, Heap.DictOf.new s.heap, fun h' hm hs => ?_⟩
  · have e1 : merged [] us = us := by rw [merged_new us [] (by rw [List.nil_append, t.keys]; exact nd)]; rfl
    rw [e1] at hm
    have up : Ext s.heap h' := fun b o e => hs.extBut b o (Nat.ne_of_lt (Heap.lt_size e)) (Heap.get?_push_of_some _ e)
    have st : Step hb s.heap hb h' := ⟨up, .refl _, fun b o e => up b o (c.sub b o e), fun _ _ e => .inl e⟩
    refine wpAny_bind (wpAny_holding (hk.run env hb h' (c.step st) _ _ E rfl fun v hb2 h2 tk2 st2 hv => wpAny_bind (wpAny_standAt ?_)))
    obtain ⟨u, rfl⟩ := hv.str_inv
    obtain ⟨t2, hv2⟩ := t.at hx
    have hm2 := (hm.keep st2.ext).mapOf
    exact tail_any hm2.typeIs slot_dict_getitem.lookup (wpAny_getItem_of (knd := strKind PW w) (strKind_is _ _ _ _) hm2 hv2 (q _ hb2 h2 _ (st.trans st2) (.str _ _))) (subscripted_plain ns _ _)
end
end
-- part A27
section
open PySem PySem.W PyProof.Rows PySem.Calls

section
variable {w : World} {A : Around} {sc scope : Scope} {env cenv : Env} {h0 hb0 hb h hb' h' : Heap} {δ δ' : Dm} {μ μ' : Mu} {pos p pn : Pos} {N B : Pm} {R : D → Prop} {s : Shared} {E : Value → Shared → Prop}

/-! unpacking -/
theorem draw_list {it t : Addr} {items : Array Value} (hne : t ≠ it) : ∀ (n i : Nat) (s : Shared) (Q : List Value → Shared → Prop), s.heap.IsListIter it t i → s.heap.IsList t items → i + n ≤ items.size →
    (∀ h', h'.IsListIter it t (i + n) → Heap.SameBut it s.heap h' → Q ((items.toList.drop i).take n) { s with heap := h' }) → wpAny (model PW w) A (draw (.ref it) n) Q E s
  | 0, i, s, Q, hit, _, _, hQ => by
    show wpAny _ _ (pure []) Q E s
    exact wpAny_pure (by simpa using hQ s.heap hit (Heap.SameBut.refl ..))
  | n + 1, i, s, Q, hit, ht, hle, hQ => by
    have hlt : i < items.size := by omega
    show wpAny _ _ (pyNext (.ref it) >>= _) Q E s
    refine wpAny_bind (wpAny_pyNext_list_item hit ht (x := items[i]) (by simp [hlt]) fun h₁ hit₁ hs₁ => ?_)
    refine wpAny_bind (wpAny_holding (draw_list hne n (i + 1) _ _ hit₁ (ht.extBut hs₁.extBut hne) (by omega) fun h₂ hit₂ hs₂ => wpAny_pure ?_))
    have hd : items.toList.drop i = items[i] :: items.toList.drop (i + 1) := by simp [List.drop_eq_getElem_cons, hlt]
    have := hQ h₂ (by rw [show i + (n + 1) = i + 1 + n by omega]; exact hit₂) (hs₁.trans hs₂)
    rw [hd, List.take_succ_cons] at this
    exact this
theorem unpackItems_list {t : Addr} {items : Array Value} {Q : List Value → Shared → Prop} (hh : A.handled = none) (ht : s.heap.IsList t items)
    (hQ : ∀ h', Heap.ExtBut s.heap.objs.size s.heap h' → Q items.toList { s with heap := h' }) : wpAny (model PW w) A (unpackItems (.ref t) items.size none) Q E s := by
  have hlt : t ≠ s.heap.objs.size := by obtain ⟨o, ho, _⟩ := ht; exact Nat.ne_of_lt (Heap.lt_size ho)
  unfold unpackItems
  refine wpAny_bind ?_
  · unfold notIterableAtAll
    refine wpAny_bind (wpAny_specialOf ht.typeIs slot_list_iter.lookup ?_)
    refine wpAny_pure ?_
    simp only [Bool.false_eq_true, if_false]
    refine wpAny_bind (wpAny_holding (wpAny_pyIter_list ht ?_))
    refine wpAny_bind (wpAny_holding (draw_list hlt items.size 0 _ _ ⟨_, Heap.get?_push_size _ rfl, rfl, rfl⟩ (ht.push _) (by omega) fun h₁ hit₁ hs₁ => ?_))
    have hall : List.take items.size (List.drop 0 items.toList) = items.toList := by
      rw [List.drop_zero]; exact List.take_of_length_le (by simp)
    rw [hall]
    rw [if_neg (by simp)]
    have ht₁ : h₁.IsList t items := (ht.push _).extBut hs₁.extBut hlt
    refine wpAny_bind (wpAny_holding (wpAny_pyNext_list_end hh hit₁ ht₁ (by simp) fun h₂ he₂ => ?_))
    simp only [Option.isSome_none, Bool.false_eq_true, if_false]
    refine wpAny_pure (hQ h₂ fun b o hb e => he₂ b o hb (hs₁.extBut b o hb (Heap.get?_push_of_some _ e)))

/-- the values of a tuple or a list, drawn for a target with n parts -/
theorem unpack_ok {κ n : Nat} {v : Value} {ds : List D} (hA : OkA κ A) (hx : Ext hb h) (hv : Has hb v (.tup ds) ∨ Has hb v (.list ds)) (hn : n = ds.length) : Tri w A (unpackItems v n none) hb h fun vs hb' => HasL hb' vs ds := by
  intro s Q E es k
  subst es
  have fin : ∀ vs : List Value, HasL hb vs ds → ∀ h', Heap.ExtBut s.heap.objs.size s.heap h' → Q vs { s with heap := h' } := fun vs hvs h' he => by
    have x1 : Ext s.heap h' := fun b o e => he b o (Nat.ne_of_lt (Heap.lt_size e)) e
    exact k vs hb h' _ ⟨x1, .refl _, fun b o e => x1 b o (hx b o e), fun _ _ e => .inl e⟩ hvs
  rcases hv with hv | hv
  · obtain ⟨a, vs, m, rfl, e1, l1⟩ := hv.tup_inv
    have : n = vs.toArray.size := by rw [hn, ← l1.1]; simp
    rw [this]
    exact wpAny_unpackItems_tuple hA.hd ⟨_, hx _ _ e1, rfl, _, rfl⟩ (by simpa using fin vs l1)
  · obtain ⟨a, vs, m, rfl, e1, l1⟩ := hv.list_inv
    have : n = vs.toArray.size := by rw [hn, ← l1.1]; simp
    rw [this]
    exact unpackItems_list hA.hd ⟨_, hx _ _ e1, rfl, _, rfl⟩ (by simpa using fin vs l1)

noncomputable def stD : List Str → List D → Dm → Dm
  | x :: xs, d :: ds, δ => stD xs ds ((x, d) :: δ)
  | _, _, δ => δ
theorem St.stores (t : Str × Pos → Value → Sem Unit) (ht : ∀ x v s Q E, wpAny (model PW w) A (storeName env x.1 v) Q E s → wpAny (model PW w) A (t x v) Q E s) : ∀ (xs : List (Str × Pos)) (vs : List Value) (ds : List D) (δ : Dm) (h : Heap) (s : Shared) (Q : Unit → Shared → Prop) (E : Value → Shared → Prop),
    (∀ x ∈ xs, own2 sc x.1) → HasL hb vs ds → xs.length = ds.length → St w sc env h0 hb0 δ μ hb h → s.heap = h →
    (∀ h' tk, St w sc env h0 hb0 (stD (xs.map (·.1)) ds δ) μ hb h' → (∀ b o, ¬ Own sc env b → h.get? b = some o → h'.get? b = some o) → Q () { s with heap := h', toks := tk }) →
    wpAny (model PW w) A (assignInOrder (xs.map t) vs) Q E s
  | [], vs, ds, δ, h, s, Q, E, _, hv, hl, f, es, k => by
    subst es
    have : ds = [] := List.eq_nil_of_length_eq_zero hl.symm
    subst this
    rw [hv.none]
    exact wpAny_pure (k s.heap s.toks f fun _ _ _ e => e)
  | x :: xs, [], d :: ds, δ, h, s, Q, E, _, hv, _, _, _, _ => by have := hv.1; simp at this
  | x :: xs, [], [], δ, h, s, Q, E, _, _, hl, _, _, _ => by simp at hl
  | x :: xs, v :: vs, [], δ, h, s, Q, E, _, _, hl, _, _, _ => by simp at hl
  | x :: xs, v :: vs, d :: ds, δ, h, s, Q, E, ho, hv, hl, f, es, k => by
    obtain ⟨a, b⟩ := hv.tail
    show wpAny _ _ (holding vs (t x v) >>= fun _ => assignInOrder (xs.map t) vs) _ _ _
    refine wpAny_bind (wpAny_holding (ht _ _ _ _ _ (f.store (ho x List.mem_cons_self) a s _ E es fun h1 tk1 f1 n1 => ?_)))
    exact St.stores t ht xs vs ds _ h1 _ Q E (fun y m => ho y (List.mem_cons_of_mem _ m)) b (by simpa using hl) f1 rfl fun h2 tk2 f2 n2 => k h2 tk2 f2 fun b o n e => n2 b o n (n1 b o n e)

/-- names as a target -/
inductive NamesE : List Expr → List Str → Prop
  | nil : NamesE [] []
  | cons {x : Str} {p : Pos} {es : List Expr} {xs : List Str} : NamesE es xs → NamesE (.Name x p :: es) (x :: xs)
theorem NamesE.len {es : List Expr} {xs : List Str} (x : NamesE es xs) : es.length = xs.length := by induction x with | nil => rfl | cons _ ih => simp [ih]
theorem assignEach_names {es : List Expr} {xs : List Str} (x : NamesE es xs) : (assignEach es env).length = xs.length ∧ (assignEach es env).findIdx? (·.1) = none ∧ ∃ ts : List (Str × Pos), ts.map (·.1) = xs ∧ (assignEach es env).map (·.2) = ts.map fun q => assign (.Name q.1 q.2) env := by
  induction x with
  | nil => exact ⟨rfl, rfl, [], rfl, rfl⟩
  | cons _ ih =>
    rename_i y p es' xs' _
    obtain ⟨a, b, ts, c, d⟩ := ih
    have e : assignEach (.Name y p :: es') env = (false, assign (.Name y p) env) :: assignEach es' env := rfl
    refine ⟨by rw [e]; simp [a], ?_, (y, p) :: ts, by simp [c], by rw [e]; simp [d]⟩
    rw [e, List.findIdx?_cons, b]; rfl

theorem Go.store (f : St w sc env h0 hb0 δ μ hb h) (f' : St w sc env h0 hb0 δ' μ hb h') (k : ∀ b o, ¬ Own sc env b → h.get? b = some o → h'.get? b = some o) : Go sc env μ hb h μ hb h' := f.goStore (x := "") (d := .none) f' k

/-- a, b = e, told one by one -/
theorem Run1.tup {κ k : Nat} {es : List Expr} {xs : List Str} {ds : List D} {e : Expr} {tp : Pos} (hA : OkA κ A) (ne : NamesE es xs) (ho : ∀ x ∈ xs, own2 sc x) (he : Evs w A sc δ e (.tup ds) ∨ Evs w A sc δ e (.list ds)) (hl : xs.length = ds.length)
    (hs : ∀ env, swapsWithSole [.Tuple es k tp] e pos.line env = pure false) (hw : ∀ env, EnvOk sc env → swappedStores [.Tuple es k tp] e env = pure none) (n : N (stD xs ds δ) μ) : Run1 w A sc δ μ (.Assign [.Tuple es k tp] e pos) N B R := ⟨fun env h0 hb0 hb h f s Q E es' kN kB kR => by
  refine PyProof.Rows.Assign_Tuple ?_ (hs env) (hw env f.rds.ok)
  have go : ∀ v hb1 h1 tk, Step hb h hb1 h1 → (Has hb1 v (.tup ds) ∨ Has hb1 v (.list ds)) → wpAny (model PW w) A (PySem.assign (.Tuple es k tp) env v) (fun _ => Q .next) E { s with heap := h1, toks := tk } := fun v hb1 h1 tk st hv => by
    have f1 := f.after st
    obtain ⟨a1, a2, ts, a3, a4⟩ := assignEach_names (env := env) ne
    rw [arm_assign_Tuple]
    refine wpAny_bind (wpAny_standAt ?_)
    unfold unpack
    rw [a1, a2, a4]
    refine wpAny_bind (wpAny_holding (unpack_ok hA st.inn hv hl _ _ E rfl fun vs hb2 h2 tk2 st2 hvs => ?_))
    have f2 := f1.after st2
    refine St.stores (fun q => PySem.assign (.Name q.1 q.2) env) (fun x v s Q E q => wpAny_assign_Name q) ts vs ds δ h2 _ _ E (fun x m => ho _ (by rw [← a3]; exact List.mem_map.mpr ⟨x, m, rfl⟩)) hvs (by rw [← hl, ← a3]; simp) f2 rfl fun h3 tk3 f3 n3 => ?_
    rw [a3] at f3
    exact kN _ _ hb2 h3 tk3 n ((Go.step (st.trans st2)).trans (Go.store f2 f3 n3)) f3
  rcases he with he | he
  · exact he.run env hb h f.ctx s _ E es' fun v hb1 h1 tk st hv => go v hb1 h1 tk st (.inl hv)
  · exact he.run env hb h f.ctx s _ E es' fun v hb1 h1 tk st hv => go v hb1 h1 tk st (.inr hv)⟩
/-- a, b = x, y of local names -/
theorem Run1.tupS {κ k : Nat} {es : List Expr} {xs : List Str} {ds : List D} {e : Expr} {tp : Pos} (hA : OkA κ A) (ho : ∀ x ∈ xs, own2 sc x) (he : Evs w A sc δ e (.tup ds)) (hl : xs.length = ds.length)
    (hs : ∀ env, swapsWithSole [.Tuple es k tp] e pos.line env = pure false) (hw : ∀ env, EnvOk sc env → swappedStores [.Tuple es k tp] e env = pure (some xs)) (n : N (stD xs.reverse ds.reverse δ) μ) : Run1 w A sc δ μ (.Assign [.Tuple es k tp] e pos) N B R := ⟨fun env h0 hb0 hb h f s Q E es' kN kB kR => by
  refine PyProof.Rows.Assign_Tuple_swapped ?_ (hs env) (hw env f.rds.ok)
  refine he.run env hb h f.ctx s _ E es' fun v hb1 h1 tk st hv => ?_
  have f1 := f.after st
  refine unpack_ok hA st.inn (.inl hv) hl _ _ E rfl fun vs hb2 h2 tk2 st2 hvs => ?_
  have f2 := f1.after st2
  have hr : HasL hb2 vs.reverse ds.reverse := ⟨by simp [hvs.1], fun i v d a b => by
    have hi : i < vs.length := by have := (List.getElem?_eq_some_iff.mp a).1; simpa using this
    rw [List.getElem?_reverse hi] at a
    rw [List.getElem?_reverse (by rw [← hvs.1]; exact hi), ← hvs.1] at b
    exact hvs.2 _ v d a b⟩
  have e1 : (xs.reverse.map fun n => bindName env n) = (xs.reverse.map fun x => (x, pos)).map fun (q : Str × Pos) => bindName env q.1 := by rw [List.map_map]; rfl
  rw [e1]
  refine St.stores (fun q => bindName env q.1) (fun x v s Q E q => wpAny_bindName q) _ vs.reverse ds.reverse δ h2 _ _ E (fun x m => ?_) hr (by simp [hl]) f2 rfl fun h3 tk3 f3 n3 => ?_
  · obtain ⟨y, hy, rfl⟩ := List.mem_map.mp m
    exact ho y (List.mem_reverse.mp hy)
  · have e2 : (xs.reverse.map fun x => (x, pos)).map (·.1) = xs.reverse := by rw [List.map_map]; exact List.map_id'' (fun _ => rfl) _
    rw [e2] at f3
    exact kN _ _ hb2 h3 tk3 n ((Go.step (st.trans st2)).trans (Go.store f2 f3 n3)) f3⟩

theorem sw_cell {ts : List Expr} {vs : List Expr} {k k2 : Nat} {tp vp : Pos} (env : Env) {x : Str} {p : Pos} {r : List Expr} (e : ts = .Name x p :: r) (hx : env.kindOf x = some .cell) : swappedStores [.Tuple ts k tp] (.Tuple vs k2 vp) env = pure none := by
  subst e
  unfold swappedStores
  change ite _ _ _ = _
  split
  · rfl
  split
  · rfl
  dsimp only
  rw [if_pos]
  rw [List.filterMap_cons_none (by simp [hx])]
  simp only [Bool.or_eq_true, bne_iff_ne, ne_eq]
  left
  rw [List.length_cons]
  exact Nat.ne_of_lt (Nat.lt_succ_of_le (List.length_filterMap_le ..))
noncomputable def isStar : Expr → Bool
  | .Starred .. => true
  | _ => false
theorem sw_names {env : Env} {x y : Str} {p p2 : Pos} {e1 e2 : Expr} {k k2 : Nat} {tp vp : Pos} (bk : env.blockKind = .function) (hx : env.kindOf x = some .local) (hy : env.kindOf y = some .local) (l1 : (p2.line == p.line) = true) (nd : ([x, y].eraseDups.length != 2) = false)
    (h1 : [e1, e2].any isStar = false) (h2 : [e1, e2].all (foldedForSure 8) = false) (h3 : [e1, e2].all (constantsAlone 8) = false) :
    swappedStores [.Tuple [.Name x p, .Name y p2] k tp] (.Tuple [e1, e2] k2 vp) env = pure (some [x, y]) := by
  unfold swappedStores
  change ite _ _ _ = _
  refine (if_neg ?_).trans ((if_neg ?_).trans ?_)
  · rw [bk]; simp
  · exact fun q => by
      have q' : [e1, e2].any isStar = true := q
      rw [h1] at q'; cases q'
  dsimp only
  have : (List.filterMap (fun u => match u with | Expr.Name id pos => if (env.kindOf id == some NameKind.local && pos.line == ((([Expr.Name x p, Expr.Name y p2] : List Expr).head?.map (·.pos.line)).getD 0)) = true then some id else none | u => none) [Expr.Name x p, Expr.Name y p2]) = [x, y] := by
    have l0 : (Expr.Name x p).pos.line = p.line := rfl
    simp [List.filterMap_cons, hx, hy, l0, beq_iff_eq.mp l1]
  refine (if_neg ?_).trans ((if_neg ?_).trans ((if_neg ?_).trans ?_))
  · intro q
    rw [Bool.or_eq_true] at q
    rcases q with q | q
    · have q' : ([x, y].length != 2) = true := this ▸ q
      simp at q'
    · have q' : ([x, y].eraseDups.length != [x, y].length) = true := this ▸ q
      have : ([x, y].eraseDups.length != 2) = true := q'
      rw [nd] at this; cases this
  · exact fun q => by
      have q' : [e1, e2].all (foldedForSure 8) = true := q
      rw [h2] at q'; cases q'
  · exact fun q => by
      have q' : [e1, e2].all (constantsAlone 8) = true := q
      rw [h3] at q'; cases q'
  · exact congrArg (fun l => (pure (some l) : Sem (Option (List Str)))) this
theorem sw_names3 {env : Env} {x y z : Str} {p p2 p3 : Pos} {e1 e2 e3 : Expr} {k k2 : Nat} {tp vp : Pos} (bk : env.blockKind = .function) (hx : env.kindOf x = some .local) (hy : env.kindOf y = some .local) (hz : env.kindOf z = some .local) (l1 : (p2.line == p.line) = true) (l2 : (p3.line == p.line) = true) (nd : ([x, y, z].eraseDups.length != 3) = false)
    (h1 : [e1, e2, e3].any isStar = false) (h2 : [e1, e2, e3].all (foldedForSure 8) = false) (h3 : [e1, e2, e3].all (constantsAlone 8) = false) :
    swappedStores [.Tuple [.Name x p, .Name y p2, .Name z p3] k tp] (.Tuple [e1, e2, e3] k2 vp) env = pure (some [x, y, z]) := by
  unfold swappedStores
  change ite _ _ _ = _
  refine (if_neg ?_).trans ((if_neg ?_).trans ?_)
  · rw [bk]; simp
  · exact fun q => by
      have q' : [e1, e2, e3].any isStar = true := q
      rw [h1] at q'; cases q'
  dsimp only
  have : (List.filterMap (fun u => match u with | Expr.Name id pos => if (env.kindOf id == some NameKind.local && pos.line == ((([Expr.Name x p, Expr.Name y p2, Expr.Name z p3] : List Expr).head?.map (·.pos.line)).getD 0)) = true then some id else none | u => none) [Expr.Name x p, Expr.Name y p2, Expr.Name z p3]) = [x, y, z] := by
    have l0 : (Expr.Name x p).pos.line = p.line := rfl
    simp [List.filterMap_cons, hx, hy, hz, l0, beq_iff_eq.mp l1, beq_iff_eq.mp l2]
  refine (if_neg ?_).trans ((if_neg ?_).trans ((if_neg ?_).trans ?_))
  · intro q
    rw [Bool.or_eq_true] at q
    rcases q with q | q
    · have q' : ([x, y, z].length != 3) = true := this ▸ q
      simp at q'
    · have q' : ([x, y, z].eraseDups.length != [x, y, z].length) = true := this ▸ q
      have : ([x, y, z].eraseDups.length != 3) = true := q'
      rw [nd] at this; cases this
  · exact fun q => by
      have q' : [e1, e2, e3].all (foldedForSure 8) = true := q
      rw [h2] at q'; cases q'
  · exact fun q => by
      have q' : [e1, e2, e3].all (constantsAlone 8) = true := q
      rw [h3] at q'; cases q'
  · exact congrArg (fun l => (pure (some l) : Sem (Option (List Str)))) this
theorem EnvOk.bk (ok : EnvOk sc env) : env.blockKind = .function := by unfold Env.blockKind; rw [ok.kind]; rfl
end
end
-- part A28
section
open PySem PySem.W PyProof.Rows PySem.Calls

/-! slices, told plainly -/
theorem seg {α : Type} (l : List α) (a : Nat) : ∀ n : Nat, ((List.range n).map (a + ·)).filterMap (l[·]?) = (l.drop a).take n
  | 0 => by simp
  | n + 1 => by
    rw [List.range_succ, List.map_append, List.filterMap_append, seg l a n, List.take_add_one, List.getElem?_drop]
    cases h : l[a + n]? <;> simp [h]
theorem sliceL_seg {α : Type} (l : List α) (lo hi : Option Int) (a b : Nat) (ea : (sliceBounds lo hi none l.length).1 = a) (eb : (sliceBounds lo hi none l.length).2.1 = b) : sliceL l lo hi none = (l.drop a).take (b - a) := by
  unfold sliceL
  rw [ea, eb, show (sliceBounds lo hi none l.length).2.2 = 1 from rfl, sliceRange_one]
  exact seg l a (b - a)
theorem sliceL_take {α : Type} (l : List α) {j : Int} (h : 0 ≤ j) : sliceL l none (some j) none = l.take j.toNat := by
  rw [sliceL_seg l none (some j) 0 (min j.toNat l.length) rfl (by simp only [sliceBounds, Option.getD_none]; rw [if_pos (by decide), if_neg (by omega)]; omega), Nat.sub_zero, List.drop_zero]
  rw [← List.take_take, List.take_length]
theorem sliceL_drop {α : Type} (l : List α) {j : Int} (h : 0 ≤ j) : sliceL l (some j) none none = l.drop j.toNat := by
  rw [sliceL_seg l (some j) none (min j.toNat l.length) l.length (by simp only [sliceBounds, Option.getD_none]; rw [if_pos (by decide), if_neg (by omega)]; omega) (by simp [sliceBounds])]
  by_cases q : j.toNat ≤ l.length
  · rw [Nat.min_eq_left q, List.take_of_length_le (by simp)]
  · rw [Nat.min_eq_right (by omega), List.drop_of_length_le (Nat.le_refl _), List.drop_of_length_le (by omega)]; simp
theorem sliceL_mid {α : Type} (l : List α) {i j : Int} (h : 0 ≤ i) (h2 : 0 ≤ j) : sliceL l (some i) (some j) none = (l.take j.toNat).drop i.toNat := by
  rw [sliceL_seg l (some i) (some j) (min i.toNat l.length) (min j.toNat l.length) (by simp only [sliceBounds, Option.getD_none]; rw [if_pos (by decide), if_neg (by omega)]; omega)
    (by simp only [sliceBounds, Option.getD_none]; rw [if_pos (by decide), if_neg (by omega)]; omega)]
  rw [List.drop_take]
  by_cases q : i.toNat ≤ l.length
  · rw [Nat.min_eq_left q]
    by_cases q2 : j.toNat ≤ l.length
    · rw [Nat.min_eq_left q2]
    · rw [Nat.min_eq_right (by omega), List.take_of_length_le (by simp), List.take_of_length_le (by simp; omega)]
  · rw [show min i.toNat l.length = l.length by omega, List.drop_of_length_le (Nat.le_refl _), List.drop_of_length_le (by omega)]; simp
theorem sliceL_init {α : Type} (l : List α) : sliceL l none (some (-1)) none = l.dropLast := by
  rw [sliceL_seg l none (some (-1)) 0 (l.length - 1) rfl (by simp only [sliceBounds, Option.getD_none]; rw [if_pos (by decide), if_pos (by omega)]; omega), Nat.sub_zero, List.drop_zero, List.dropLast_eq_take]
theorem seg_rev {α : Type} (l : List α) : ∀ m : Nat, m ≤ l.length → ((List.range m).map fun k => l.length - 1 - k).filterMap (l[·]?) = l.reverse.take m
  | 0, _ => by simp
  | m + 1, h => by
    rw [List.range_succ, List.map_append, List.filterMap_append, seg_rev l m (by omega), List.take_add_one, List.getElem?_reverse (by omega)]
    cases q : l[l.length - 1 - m]? <;> simp [q]
theorem sliceL_rev {α : Type} (l : List α) : sliceL l none none (some (-1)) = l.reverse := by
  unfold sliceL
  have e1 : (sliceBounds none none (some (-1)) l.length) = ((l.length : Int) - 1, -1, -1) := rfl
  rw [e1]
  have e2 : sliceRange ((l.length : Int) - 1) (-1) (-1) = (List.range l.length).map fun k => l.length - 1 - k := by
    unfold sliceRange
    simp only [show ¬ ((-1 : Int) > 0) by decide, if_false]
    have : (if (l.length : Int) - 1 > -1 then ((l.length : Int) - 1 - -1 - -1 - 1) / - -1 else 0).toNat = l.length := by
      split
      · rw [show (- -1 : Int) = 1 by decide, Int.ediv_one]; omega
      · omega
    rw [this]
    refine List.map_congr_left fun k m => ?_
    have := List.mem_range.mp m
    omega
  rw [e2, seg_rev l _ (Nat.le_refl _), List.take_of_length_le (by simp)]
theorem clip_ge (v : Option Int) (d n : Int) : 0 ≤ d → 0 ≤ n → 0 ≤ (match v with | none => d | some i => let i := if i < 0 then i + n else i; if (1 : Int) > 0 then max 0 (min i n) else max (-1) (min i (n - 1))) := by
  intro h1 h2
  cases v with
  | none => exact h1
  | some i => simp only [show (1 : Int) > 0 by decide, if_true]; omega
theorem slice_eq (x : Str) (lo hi : Option Int) : Txt.slice x lo hi = ⟨(sliceL x.cps.toList lo hi none).toArray⟩ := by
  have e : Builtin.Str.strSliceIndices lo hi 1 x.length = sliceRange (sliceBounds lo hi none x.cps.toList.length).1 (sliceBounds lo hi none x.cps.toList.length).2.1 (sliceBounds lo hi none x.cps.toList.length).2.2 := by
    have : x.cps.toList.length = x.length := by simp [Str.length]
    rw [this]; rfl
  have e2 : ((Builtin.Str.strSliceIndices lo hi 1 x.length).filterMap (x.cps[·]?)) = sliceL x.cps.toList lo hi none := by
    rw [e]
    unfold sliceL
    congr 1
    funext i
    simp
  unfold Txt.slice
  split
  · rename_i h
    have hl : (Builtin.Str.strSliceIndices lo hi 1 x.length).length = x.length := by simpa using h
    have e1 : (sliceBounds lo hi none x.cps.toList.length).2.2 = 1 := rfl
    have n0 : x.cps.toList.length = x.length := by simp [Str.length]
    obtain ⟨a, ha⟩ : ∃ a : Nat, (sliceBounds lo hi none x.cps.toList.length).1 = a := ⟨_, (Int.toNat_of_nonneg (clip_ge lo 0 _ (by omega) (by omega))).symm⟩
    obtain ⟨b, hb⟩ : ∃ b : Nat, (sliceBounds lo hi none x.cps.toList.length).2.1 = b := ⟨_, (Int.toNat_of_nonneg (clip_ge hi x.cps.toList.length _ (by omega) (by omega))).symm⟩
    have hbn : b ≤ x.length := by
      rw [n0] at hb
      have : (sliceBounds lo hi none x.length).2.1 ≤ x.length := by
        unfold sliceBounds
        cases hi with
        | none => simp
        | some i => simp only [Option.getD_none, show (1 : Int) > 0 by decide, if_true]; omega
      omega
    rw [e, e1, ha, hb, sliceRange_one] at hl
    rw [List.length_map, List.length_range] at hl
    rw [sliceL_seg _ lo hi a b ha hb, hl]
    by_cases z : x.length = 0
    · have : x.cps.toList = [] := List.eq_nil_of_length_eq_zero (by omega)
      rw [this]
      have : x.cps = #[] := by rw [← Array.toList_inj]; exact this
      cases x; simp_all
    · have h0 : a = 0 := by omega
      rw [h0, List.drop_zero, List.take_of_length_le (by omega)]
  · rw [e2]
end
-- part A29
section
open PySem PySem.W PyProof.Rows PySem.Calls

section
variable {w : World} {A : Around} {sc scope : Scope} {env cenv : Env} {h0 hb0 hb h hb' h' : Heap} {δ δ' : Dm} {μ μ' : Mu} {pos p pn : Pos} {N B : Pm} {R : D → Prop} {s : Shared} {E : Value → Shared → Prop}

/-! own lists, frozen for a while -/
noncomputable def fzd (μ : Mu) : D → D
  | .adr a => match μ.lookup a with
    | some (.lst ds) => .list ds
    | _ => .adr a
  | d => d
noncomputable def fzD (μ : Mu) (δ : Dm) : Dm := δ.map fun p => (p.1, fzd μ p.2)
theorem fzD_look : ∀ (δ : Dm) (x : Str) (d : D), (fzD μ δ).lookup x = some d → ∃ d0, δ.lookup x = some d0 ∧ d = fzd μ d0
  | [], x, d, e => by cases e
  | (y, v) :: r, x, d, e => by
    show ∃ d0, List.lookup x ((y, v) :: r) = some d0 ∧ _
    have e : List.lookup x ((y, fzd μ v) :: fzD μ r) = some d := e
    rw [List.lookup_cons] at e ⊢
    cases q : x == y with
    | true => rw [q] at e; cases e; exact ⟨v, rfl, rfl⟩
    | false => rw [q] at e; exact fzD_look r x d e
theorem mem_of_look_mu : ∀ {μ : Mu} {a : Addr} {ds : Mo}, μ.lookup a = some ds → (a, ds) ∈ μ
  | (b, e) :: r, a, ds, h => by
    rw [List.lookup_cons] at h
    cases q : a == b with
    | true => rw [q] at h; cases h; rw [beq_iff_eq.mp q]; exact List.mem_cons_self
    | false => rw [q] at h; exact List.mem_cons_of_mem _ (mem_of_look_mu h)
noncomputable def hbF (hb h : Heap) (μ : Mu) : Heap := only h fun b => (hb.get? b).isSome = true ∨ ∃ ds, (b, ds) ∈ μ
theorem hbF_old (k : Ext hb h) : Ext hb (hbF hb h μ) := fun b o e => by
  unfold hbF; rw [get_only, if_pos (.inl (by rw [e]; rfl))]; exact k b o e
theorem hbF_sub : Ext (hbF hb h μ) h := fun b o e => by
  unfold hbF at e; rw [get_only] at e; split at e
  · exact e
  · cases e
theorem hbF_at {a : Addr} {ds : Mo} {o : Obj} (m : (a, ds) ∈ μ) (e : h.get? a = some o) : (hbF hb h μ).get? a = some o := by
  unfold hbF; rw [get_only, if_pos (.inr ⟨ds, m⟩)]; exact e
theorem St.frozen (f : St w sc env h0 hb0 δ μ hb h) : Ctx w sc env (fzD μ δ) (hbF hb h μ) h := by
  refine ⟨f.gd.mono (hbF_old f.step.inn), hbF_sub, ⟨f.rds.ok, fun x d e => ?_, f.rds.cl⟩⟩
  obtain ⟨d0, e0, rfl⟩ := fzD_look δ x d e
  obtain ⟨v, r, hv⟩ := f.rds.rd x d0 e0
  refine ⟨v, r, ?_⟩
  have hv2 := hv.mono (hbF_old (μ := μ) f.step.inn)
  cases d0 with
  | adr a =>
    cases hv
    show Has _ _ (match μ.lookup a with | some (.lst ds) => D.list ds | _ => D.adr a)
    cases q : μ.lookup a with
    | none => exact .adr a
    | some o =>
    cases o with
    | tab => exact .adr a
    | ns _ _ => exact .adr a
    | lst ds =>
      have m := mem_of_look_mu q
      obtain ⟨_, _, _, vs, n, g, l⟩ := f.mu a _ m
      exact .list (hbF_at m g) l.1 (l.mono (hbF_old f.step.inn)).2
  | _ => exact hv2
theorem St.stepF (f : St w sc env h0 hb0 δ μ hb h) : Step hb0 h0 (hbF hb h μ) h := by
  refine ⟨f.step.ext, f.step.fz.trans (hbF_old f.step.inn), hbF_sub, fun b o e => ?_⟩
  unfold hbF at e; rw [get_only] at e; split at e
  · rename_i q
    rcases q with q | ⟨ds, m⟩
    · obtain ⟨o', h'⟩ := Option.isSome_iff_exists.mp q
      have := f.step.inn b o' h'
      rw [this] at e; cases e; exact f.step.new b _ h'
    · exact .inr (f.mu b ds m).2.1
  · cases e
/-- after a run over the frozen lists, they are the block's own again -/
theorem St.thaw (f : St w sc env h0 hb0 δ μ hb h) (st : Step (hbF hb h μ) h hb' h') : Step hb h hb h' :=
  ⟨st.ext, .refl _, fun b o e => st.ext b o (f.step.inn b o e), fun _ _ e => .inl e⟩
noncomputable def flat : D → Bool
  | .none | .bool _ | .int _ | .str _ => true
  | _ => false
theorem Has.flat {v : Value} {d : D} (x : Has h v d) (q : flat d = true) : Has h' v d := by
  cases x <;> first | (cases q; done) | constructor
theorem Run1.assignF {y : Str} {e : Expr} {x : D} (he : Evs w A sc (fzD μ δ) e x) (fl : flat x = true) (o : own2 sc y) (sw : ∀ env, EnvOk sc env → swapsWith e (some (.Name y p)) pos.line env = pure false) (n : N ((y, x) :: δ) μ) :
    Run1 w A sc δ μ (.Assign [.Name y p] e pos) N B R := ⟨fun env h0 hb0 hb h f s Q E es kN kB kR =>
  wpAny_Assign_Name (he.run env _ h f.frozen s _ E es fun v hb1 h1 tk st hv => (f.after (f.thaw st)).store o (hv.flat fl) _ _ E rfl fun h2 tk2 f2 n2 =>
    kN _ _ _ h2 tk2 n ((Go.step (f.thaw st)).trans (Go.store (f.after (f.thaw st)) f2 n2)) f2) (sw env f.rds.ok)⟩
theorem Run1.ifF {t : Expr} {b : Bool} {body orelse : List Stmt} (ht : Tru w A sc (fzD μ δ) t b) (h1 : b = true → Run w A sc δ μ body N B R) (h2 : b = false → Run w A sc δ μ orelse N B R) : Run1 w A sc δ μ (.If t body orelse p) N B R :=
  ⟨fun env h0 hb0 hb h f s Q E es kN kB kR => wpAny_If (ht.run env _ h f.frozen s _ E es fun r hb1 h1' tk st' hr => by
    subst hr
    have st := f.thaw st'
    have g : Go sc env μ hb h μ hb h1' := Go.step st
    cases r with
    | true =>
      simp only [if_true]
      exact (h1 rfl).go env h0 hb0 hb h1' (f.after st) _ Q E rfl (fun δ2 μ2 hb2 h2 tk2 n g2 f2 => kN δ2 μ2 hb2 h2 tk2 n (g.trans g2) f2) (fun δ2 μ2 hb2 h2 tk2 n g2 f2 => kB δ2 μ2 hb2 h2 tk2 n (g.trans g2) f2) fun d v hb2 h2 tk2 r st hv => kR d v hb2 h2 tk2 r st hv
    | false =>
      simp only [Bool.false_eq_true, if_false]
      exact (h2 rfl).go env h0 hb0 hb h1' (f.after st) _ Q E rfl (fun δ2 μ2 hb2 h2 tk2 n g2 f2 => kN δ2 μ2 hb2 h2 tk2 n (g.trans g2) f2) (fun δ2 μ2 hb2 h2 tk2 n g2 f2 => kB δ2 μ2 hb2 h2 tk2 n (g.trans g2) f2) fun d v hb2 h2 tk2 r st hv => kR d v hb2 h2 tk2 r st hv)⟩
theorem Run1.retF {e : Expr} {d : D} (he : Evs w A sc (fzD μ δ) e d) (r : R d) : Run1 w A sc δ μ (.Return (some e) p) N B R := ⟨fun env h0 hb0 hb h f s Q E es kN kB kR =>
  wpAny_Return_some (he.run env _ h f.frozen s _ E es fun v hb1 h1 tk st hv => kR d v hb1 h1 tk r (f.stepF.trans st) hv)⟩

/-! fresh lists -/
inductive NE : List Expr → List (Option Int) → Prop
  | nil : NE [] []
  | lst {p : Pos} {es : List Expr} {ks : List (Option Int)} : NE es ks → NE (.List [] p :: es) (none :: ks)
  | int {i : Int} {k : Nat} {p : Pos} {es : List Expr} {ks : List (Option Int)} : NE es ks → NE (.Constant (.int i) k p :: es) (some i :: ks)
inductive NOs : List (Option Int) → List D → Mu → Prop
  | nil : NOs [] [] []
  | lst {a : Addr} {ks : List (Option Int)} {ds : List D} {μ : Mu} : (∀ e, (a, e) ∉ μ) → NOs ks ds μ → NOs (none :: ks) (.adr a :: ds) ((a, .lst []) :: μ)
  | int {i : Int} {ks : List (Option Int)} {ds : List D} {μ : Mu} : NOs ks ds μ → NOs (some i :: ks) (.int i :: ds) μ
theorem NOs.len {ks : List (Option Int)} {ds : List D} {μ : Mu} (x : NOs ks ds μ) : ks.length = ds.length := by induction x <;> simp_all
theorem NE.stars {es : List Expr} {ks : List (Option Int)} (x : NE es ks) : es.all notStar = true := by
  induction x with
  | nil => rfl
  | lst _ ih => simpa [notStar] using ih
  | int _ ih => simpa [notStar] using ih
theorem ne_run {es : List Expr} {ks : List (Option Int)} (x : NE es ks) : ∀ (s : Shared) (Q : List Value → Shared → Prop) (E : Value → Shared → Prop),
    (∀ vs ds μ h' tk, NOs ks ds μ → (∀ hb, HasL hb vs ds) → Ext s.heap h' → (∀ a e, (a, e) ∈ μ → s.heap.get? a = none ∧ h'.get? a = some { cls := .type "list", data := .seq #[] 0 } ∧ e = .lst []) → Q vs { s with heap := h', toks := tk }) →
    wpAny (model PW w) A (spliced (backTo pos (starEach es env))) Q E s := by
  induction x with
  | nil => intro s Q E k; exact Calls.spliced_nil (k [] [] [] s.heap s.toks .nil (fun _ => .nil) (.refl _) fun _ _ m => by cases m)
  | lst _ ih =>
    intro s Q E k
    refine wpAny_items_cons ?_ rfl
    refine wpAny_List (Calls.spliced_nil ⟨Nat.zero_le _, ?_⟩)
    refine ih _ _ E fun vs ds μ h' tk no hl hx hm => ?_
    have hx : Ext (s.heap.push { cls := .type "list", data := .seq ([] : List Value).toArray }) h' := hx
    have nx : s.heap.get? s.heap.objs.size = none := size_none _
    have al : h'.get? s.heap.objs.size = some { cls := .type "list", data := .seq #[] 0 } := hx _ _ (Heap.get?_push_size _ rfl)
    refine k (.ref s.heap.objs.size :: vs) (.adr s.heap.objs.size :: ds) ((s.heap.objs.size, .lst []) :: μ) h' tk (.lst (fun e m => ?_) no) (fun hb => .cons (.adr _) (hl hb)) (fun b o e => hx b o (Heap.get?_push_of_some _ e)) fun a e m => ?_
    · have := (hm _ _ m).1
      have h2 : (s.heap.push { cls := .type "list", data := .seq ([] : List Value).toArray }).get? s.heap.objs.size = some { cls := .type "list", data := .seq #[] } := Heap.get?_push_size _ rfl
      have h3 : (s.heap.push { cls := .type "list", data := .seq ([] : List Value).toArray }).get? s.heap.objs.size = none := this
      rw [h2] at h3; cases h3
    · rcases List.mem_cons.mp m with e' | m
      · cases e'; exact ⟨nx, al, rfl⟩
      · obtain ⟨q1, q2, q3⟩ := hm a e m
        refine ⟨?_, q2, q3⟩
        cases z : s.heap.get? a with
        | none => rfl
        | some o =>
          have h3 : (s.heap.push { cls := .type "list", data := .seq ([] : List Value).toArray }).get? a = none := q1
          rw [Heap.get?_push_of_some _ z] at h3; cases h3
  | int _ ih =>
    intro s Q E k
    refine wpAny_items_cons ?_ rfl
    refine wpAny_Constant_int ?_
    exact ih _ _ E fun vs ds μ h' tk no hl hx hm => k (.int _ _ :: vs) (.int _ :: ds) μ h' tk (.int no) (fun hb => .cons (.int _ _) (hl hb)) hx hm
end
end
-- part A30
section
open PySem PySem.W PyProof.Rows PySem.Calls

section
variable {w : World} {A : Around} {sc scope : Scope} {env cenv : Env} {h0 hb0 hb h hb' h' : Heap} {δ δ' : Dm} {μ μ' : Mu} {pos p pn : Pos} {N B : Pm} {R : D → Prop} {s : Shared} {E : Value → Shared → Prop}

theorem NOs.keysNodup {ks : List (Option Int)} {ds : List D} {μ : Mu} (x : NOs ks ds μ) : μ.Pairwise fun x y => x.1 ≠ y.1 := by
  induction x with
  | nil => exact .nil
  | lst h _ ih => exact List.pairwise_cons.mpr ⟨fun y m e => h y.2 (by dsimp only at e; rw [e]; exact m), ih⟩
  | int _ ih => exact ih
theorem St.addMu {μn : Mu} (f : St w sc env h0 hb0 δ μ hb h) (hp : μn.Pairwise fun x y => x.1 ≠ y.1) (hn : ∀ a e, (a, e) ∈ μn → ¬ Own sc env a ∧ h0.get? a = none ∧ hb.get? a = none ∧ IsMo hb h a e ∧ ∀ e', (a, e') ∉ μ) : St w sc env h0 hb0 δ (μn ++ μ) hb h := by
  refine ⟨f.step, f.gd, f.rds, f.loc, f.cell, f.own, fun a e m => ?_, ?_⟩
  · rcases List.mem_append.mp m with m | m
    · obtain ⟨a1, a2, a3, a4, _⟩ := hn a e m; exact ⟨a1, a2, a3, a4⟩
    · exact f.mu a e m
  · refine List.pairwise_append.mpr ⟨hp, f.mud, fun x mx y my q => ?_⟩
    exact (hn x.1 x.2 mx).2.2.2.2 y.2 (q ▸ my)

theorem Run1.tupNS {κ k k2 : Nat} {ts es : List Expr} {xs : List Str} {ks : List (Option Int)} {tp vp : Pos} (hA : OkA κ A) (ne : NE es ks) (ho : ∀ x ∈ xs, own2 sc x) (hl : xs.length = ks.length) (hk : ks.length ≤ 100)
    (hs : ∀ env, swapsWithSole [.Tuple ts k tp] (.Tuple es k2 vp) pos.line env = pure false) (hw : ∀ env, EnvOk sc env → swappedStores [.Tuple ts k tp] (.Tuple es k2 vp) env = pure (some xs))
    (n : ∀ ds μn, NOs ks ds μn → (∀ a e, (a, e) ∈ μn → ∀ e', (a, e') ∉ μ) → N (stD xs.reverse ds.reverse δ) (μn ++ μ)) : Run1 w A sc δ μ (.Assign [.Tuple ts k tp] (.Tuple es k2 vp) pos) N B R := ⟨fun env h0 hb0 hb h f s Q E es' kN kB kR => by
  subst es'
  refine PyProof.Rows.Assign_Tuple_swapped ?_ (hs env) (hw env f.rds.ok)
  refine wpAny_Tuple (ne_run ne _ _ _ fun vs ds μn h1 tk1 no hv hx hm => ⟨?_, ?_⟩)
  · have := (hv hb).1
    have := no.len
    have e : sizeLine = 16777216 := by decide
    omega
  have lt : ∀ {a}, s.heap.get? a ≠ none → h1.get? a ≠ none := fun {a} q => by
    cases e : s.heap.get? a with
    | none => exact absurd e q
    | some o => rw [hx a o e]; intro z; cases z
  have hX : Ext s.heap (h1.push { cls := .type "tuple", data := .seq vs.toArray }) := fun b o e => Heap.get?_push_of_some _ (hx b o e)
  have hT : (h1.push { cls := .type "tuple", data := .seq vs.toArray }).get? h1.objs.size = some { cls := .type "tuple", data := .seq vs.toArray } := Heap.get?_push_size _ rfl
  have hM : ∀ a e, (a, e) ∈ μn → s.heap.get? a = none ∧ (h1.push { cls := .type "tuple", data := .seq vs.toArray }).get? a = some { cls := .type "list", data := .seq #[] 0 } ∧ e = .lst [] := fun a e m => by
    obtain ⟨a1, a2, a3⟩ := hm a e m
    exact ⟨a1, Heap.get?_push_of_some _ a2, a3⟩
  have td : s.heap.get? h1.objs.size = none := by
    cases e : s.heap.get? h1.objs.size with
    | none => rfl
    | some o => have := hx _ o e; rw [size_none] at this; cases this
  generalize h1.push { cls := .type "tuple", data := .seq vs.toArray } = H at hX hT hM
  generalize h1.objs.size = t at hT td
  have st0 : Step hb s.heap hb H := ⟨hX, .refl _, fun b o e => hX b o (f.step.inn b o e), fun _ _ e => .inl e⟩
  have st1 := frzA_step st0 td
  have f1 := f.after st1
  have hb_none : ∀ a, s.heap.get? a = none → hb.get? a = none := fun a q => by
    cases e : hb.get? a with
    | none => rfl
    | some o => have := f.step.inn a o e; rw [q] at this; cases this
  have f2 : St w sc env h0 hb0 δ (μn ++ μ) (frzA hb H t) H := f1.addMu no.keysNodup fun a e m => by
    obtain ⟨a1, a2, a3⟩ := hM a e m
    refine ⟨fun o => f.live o a1, ?_, ?_, ?_, fun e' m' => (f.mu a e' m').2.2.2.live a1⟩
    · cases q : h0.get? a with
      | none => rfl
      | some o => have := f.step.ext a o q; rw [a1] at this; cases this
    · unfold frzA; rw [get_only, if_neg]
      rintro (q | q)
      · rw [hb_none a a1] at q; cases q
      · subst q; rw [hT] at a2; simp at a2
    · subst a3; exact ⟨[], 0, a2, .nil⟩
  have htup : Has (frzA hb H t) (.ref t) (.tup ds) := .tup (frzA_at hT) (hv (frzA hb H t)).1 (hv (frzA hb H t)).2
  refine unpack_ok hA st1.inn (.inl htup) (hl.trans no.len) _ _ E rfl fun vs' hb3 h3 tk3 st3 hvs => ?_
  have f3 := f2.after st3
  have hr : HasL hb3 vs'.reverse ds.reverse := ⟨by simp [hvs.1], fun i v d a b => by
    have hi : i < vs'.length := by have := (List.getElem?_eq_some_iff.mp a).1; simpa using this
    rw [List.getElem?_reverse hi] at a
    rw [List.getElem?_reverse (by rw [← hvs.1]; exact hi), ← hvs.1] at b
    exact hvs.2 _ v d a b⟩
  have e1 : (xs.reverse.map fun n => bindName env n) = (xs.reverse.map fun x => (x, pos)).map fun (q : Str × Pos) => bindName env q.1 := by rw [List.map_map]; rfl
  rw [e1]
  refine St.stores (fun q => bindName env q.1) (fun x v s Q E q => wpAny_bindName q) _ vs'.reverse ds.reverse δ h3 _ _ E (fun x m => ?_) hr (by have := no.len; simp; omega) f3 rfl fun h4 tk4 f4 n4 => ?_
  · obtain ⟨y, hy, rfl⟩ := List.mem_map.mp m
    exact ho y (List.mem_reverse.mp hy)
  · have e2 : (xs.reverse.map fun x => (x, pos)).map (·.1) = xs.reverse := by rw [List.map_map]; exact List.map_id'' (fun _ => rfl) _
    rw [e2] at f4
    have g1 : Go sc env μ hb s.heap (μn ++ μ) (frzA hb H t) H := ⟨fun b o _ _ e => st1.ext b o e, fun a e m => by
      rcases List.mem_append.mp m with m | m
      · exact .inr (hM a e m).1
      · exact .inl ⟨e, m⟩, st1.fz, fun b o e => (st1.new b o e).imp id .inl, (Go.step (sc := sc) (env := env) (μ := μ) st1).live⟩
    exact kN _ _ hb3 h4 tk4 (n ds μn no fun a e m e' m' => (f.mu a e' m').2.2.2.live (hM a e m).1) ((g1.trans (Go.step st3)).trans (Go.store f3 f4 n4)) f4⟩

theorem Go.change {a : Addr} {ds : Mo} (f : St w sc env h0 hb0 δ μ hb h) (f' : St w sc env h0 hb0 δ' (setMu μ a ds) hb h') (m : ∃ e, (a, e) ∈ μ) (k : ∀ b o, b ≠ a → h.get? b = some o → h'.get? b = some o) (al : h'.get? a ≠ none) : Go sc env μ hb h (setMu μ a ds) hb h' := by
  refine ⟨fun b o _ nm e => k b o (fun q => by obtain ⟨e', m'⟩ := m; exact nm e' (q ▸ m')) e, fun b e mb => ?_, .refl _, fun _ _ e => .inl e, fun b e => ?_⟩
  · rcases setMu_mem f.mud mb with ⟨_, _, e', z⟩ | ⟨_, z⟩
    · exact .inl ⟨e', z⟩
    · exact .inl ⟨e, z⟩
  · by_cases z : b = a
    · rw [z]; exact al
    · cases q : h.get? b with
      | none => exact absurd q e
      | some o => rw [k b o z q]; intro z; cases z

/-- x.append(e) on an own list -/
theorem Run1.append {x : Str} {a : Addr} {ds : List D} {e : Expr} {d : D} {px ap p2 : Pos} (hp : plainName x = true) (hx : δ.lookup x = some (.adr a)) (hm : (a, .lst ds) ∈ μ) (he : Evs w A sc δ e d) (ns : notStar e = true) (hl : ds.length ≤ bigL) (hline : (ap.endLine == pos.line) = true)
    (n : N δ (setMu μ a (.lst (ds ++ [d])))) : Run1 w A sc δ μ (.Expr (.Call (.Attribute (.Name x px) "append" ap) [e] [] pos) p2) N B R := ⟨fun env h0 hb0 hb h f s Q E es kN kB kR => by
  subst es
  refine wpAny_Expr_any ?_ (by unfold interactive; rw [f.rds.ok.kind]; rfl) rfl
  have xs : EvsL w A sc δ [e] [d] := .cons ns he .nil
  refine wpAny_Call_method_late (attrBase_plain rfl) (few_ok xs.stars (by simp)) hline rfl ((Evs.name hp hx).run env hb s.heap f.ctx s _ E rfl fun v hb1 h1 tk st hv => ?_)
  cases hv
  have f1 := f.after st
  obtain ⟨no, p0, pb, vs, k, g, l⟩ := f1.mu a _ hm
  refine ⟨"list", _, F.plainAttrs_list, F.slot_list_append, F.type_list_append, ⟨_, g, rfl⟩, fun b eb => (by cases eb; exact ⟨_, g, rfl⟩), ?_⟩
  rw [starEach_cons ns]
  refine P.append_list (wpAny_mono (he.run env hb1 h1 f1.ctx _ _ E rfl fun v hb2 h2 tk2 st2 hv => ?_) (fun _ _ q => q) fun _ _ q => q)
  have f2 := f1.after st2
  obtain ⟨no, p0, pb, vs, k, g, l⟩ := f2.mu a _ hm
  have hsz : vs.toArray.size ≤ sizeLine := by have := l.1; have := bigL_le; simp only [List.size_toArray]; omega
  refine ⟨vs.toArray, k, hsz, g, ?_⟩
  have g2 := IsL.update (h := h2) (l := a) (items := vs.toArray) (n := k) g (fun xs => xs.push v)
  have sb : Heap.SameBut a h2 (h2.update a (Obj.mapSeq fun xs => xs.push v)) := Heap.SameBut.update ..
  have il : IsL' hb2 (h2.update a (Obj.mapSeq fun xs => xs.push v)) a (ds ++ [d]) := ⟨vs ++ [v], _, by rw [show (vs ++ [v]).toArray = vs.toArray.push v by simp]; exact g2, l.append (.cons hv .nil)⟩
  have f3 := f2.change (ds' := .lst (ds ++ [d])) hm (fun b o nb e => sb.extBut b o nb e) il
  exact kN _ _ hb2 _ _ n ((Go.step (st.trans st2)).trans (Go.change f2 f3 ⟨_, hm⟩ (fun b o nb e => sb.extBut b o nb e) il.live)) f3⟩
end
open PySem PySem.W PyProof.Rows PySem.Calls
/-- an own list that will not change any more -/
theorem RunOn.settle {w : World} {A : Around} {sc : Scope} {δ : Dm} {μ1 μ2 : Mu} {N B : Pm} {R : D → Prop} {t : Env → Sem Flow} {x : Str} {a : Addr} {ds : List D} (hx : δ.lookup x = some (.adr a)) (r : RunOn w A sc ((x, .list ds) :: δ) (μ1 ++ μ2) t N B R) :
    RunOn w A sc δ (μ1 ++ (a, .lst ds) :: μ2) t N B R := ⟨fun env h0 hb0 hb h f s Q E es kN kB kR => by
  have hm : (a, .lst ds) ∈ μ1 ++ (a, .lst ds) :: μ2 := List.mem_append.mpr (.inr List.mem_cons_self)
  obtain ⟨no, p0, pb, il⟩ := f.mu a _ hm
  have st := frzA_step f.step p0
  have old := frzA_old (a := a) f.step.inn
  have sub : ∀ q, q ∈ μ1 ++ μ2 → q ∈ μ1 ++ (a, .lst ds) :: μ2 := fun q m => by
    rcases List.mem_append.mp m with m | m
    · exact List.mem_append.mpr (.inl m)
    · exact List.mem_append.mpr (.inr (List.mem_cons_of_mem _ m))
  have hne : ∀ q ∈ μ1 ++ μ2, q.1 ≠ a := fun q m e => by
    have h1 := List.pairwise_append.mp f.mud
    have h2 := List.pairwise_cons.mp h1.2.1
    rcases List.mem_append.mp m with m | m
    · exact h1.2.2 q m _ List.mem_cons_self e
    · exact h2.1 q m e.symm
  have out : ∀ b, b ≠ a → hb.get? b = none → (frzA hb h a).get? b = none := fun b n e => by
    unfold frzA; rw [get_only, if_neg]
    rintro (q | q)
    · rw [e] at q; cases q
    · exact n q
  have f' : St w sc env h0 hb0 ((x, .list ds) :: δ) (μ1 ++ μ2) (frzA hb h a) h := by
    refine ⟨st, f.gd.mono old, ⟨f.rds.ok, fun y d e => ?_, f.rds.cl⟩, f.loc, f.cell, fun b o => ⟨(f.own b o).1, out b (fun q => no (q ▸ o)) (f.own b o).2⟩, fun b e m => ?_, ?_⟩
    · rw [List.lookup_cons] at e
      cases q : y == x with
      | true =>
        rw [q] at e; cases e
        obtain ⟨v, rv, hv⟩ := f.rds.rd x _ hx
        cases hv
        exact ⟨.ref a, beq_iff_eq.mp q ▸ rv, il.has f.step.inn⟩
      | false =>
        rw [q] at e
        obtain ⟨v, rv, hv⟩ := f.rds.rd y d e
        exact ⟨v, rv, hv.mono old⟩
    · obtain ⟨a1, a2, a3, a4⟩ := f.mu b e (sub _ m)
      exact ⟨a1, a2, out b (hne _ m) a3, a4.mono old fun _ q => q⟩
    · have h1 := List.pairwise_append.mp f.mud
      exact List.pairwise_append.mpr ⟨h1.1, (List.pairwise_cons.mp h1.2.1).2, fun q m r n => h1.2.2 q m r (List.mem_cons_of_mem _ n)⟩
  have g : Go sc env (μ1 ++ (a, .lst ds) :: μ2) hb h (μ1 ++ μ2) (frzA hb h a) h := by
    refine ⟨fun _ _ _ _ e => e, fun b e m => .inl ⟨e, sub _ m⟩, old, fun b o e => ?_, fun _ e => e⟩
    by_cases z : b = a
    · exact .inr (.inr ⟨.lst ds, z ▸ hm⟩)
    · left
      cases q : hb.get? b with
      | none => rw [out b z q] at e; cases e
      | some o' => have := old b o' q; rw [this] at e; exact e
  exact r.go env h0 hb0 _ h f' s Q E es (fun δ2 μ2 hb2 h2 tk2 n g2 f2 => kN δ2 μ2 hb2 h2 tk2 n (g.trans g2) f2) (fun δ2 μ2 hb2 h2 tk2 n g2 f2 => kB δ2 μ2 hb2 h2 tk2 n (g.trans g2) f2) fun d v hb2 h2 tk2 r st hv => kR d v hb2 h2 tk2 r st hv⟩
theorem fzD_of {μ : Mu} : ∀ {δ : Dm} {x : Str} {d : D}, δ.lookup x = some d → (fzD μ δ).lookup x = some (fzd μ d)
  | (y, v) :: r, x, d, e => by
    show List.lookup x ((y, fzd μ v) :: fzD μ r) = _
    rw [List.lookup_cons] at e ⊢
    cases q : x == y with
    | true => rw [q] at e; cases e; rfl
    | false => rw [q] at e; exact fzD_of e
theorem fzD_own {μ : Mu} {δ : Dm} {x : Str} {a : Addr} {ds : List D} (e : δ.lookup x = some (.adr a)) (m : μ.lookup a = some (.lst ds)) : (fzD μ δ).lookup x = some (.list ds) := by
  have := fzD_of (μ := μ) e
  rw [this]
  show some (match μ.lookup a with | some (.lst ds) => D.list ds | _ => D.adr a) = _
  rw [m]
theorem zip_pairs {α β : Type} (f : α → D) (g : β → D) : ∀ (l : List α) (m : List β), List.zipWith (fun c d => D.tup [c, d]) (l.map f) (m.map g) = (l.zip m).map fun p => .tup [f p.1, g p.2]
  | [], _ => rfl
  | _ :: _, [] => rfl
  | a :: l, b :: m => by simp [zip_pairs f g l m]
theorem eqv_nil {α : Type} (f : α → D) (l : List α) : PyData.eqv (toP (.list (l.map f))) (toP (.list [])) = decide (l = []) := by
  simp only [toP, PyData.eqv]
  cases l <;> simp [toPs, PyData.eqvAll]
theorem Pl.ints {α : Type} (f : α → Int) (l : List α) : Pl 1 (.list (l.map fun a => .int (f a))) := .list fun d m => by
  obtain ⟨a, _, rfl⟩ := List.mem_map.mp m; exact .int
theorem Pl.nil {n : Nat} : Pl (n + 1) (.list []) := .list fun d m => by cases m
end
local macro_rules | `(tactic| trivial) => `(tactic| first
  | with_reducible first
    | exact Evs.int
    | exact Evs.str
    | exact Evs.none
    | exact Evs.bool
    | apply Evs.name (by decide +kernel)
    | exact Sub.nil
    | apply Sub.cons
    | exact lookup_hd
    | refine lookup_tl (by decide +kernel) ?_
    | refine freeOf_of ?_ (by decide +kernel)
    | apply Evs.bin
    | apply Evs.cmp (hm := by decide +kernel)
    | apply Tru.cmp (hm := by decide +kernel)
    | exact EvsL.nil
    | apply EvsL.cons (by decide +kernel)
    | apply Evs.item (ns := by decide +kernel)
    | apply Evs.wsN (nc := by decide +kernel)
    | apply Evs.wsNt (nc := by decide +kernel)
    | apply Evs.wsNorm (nc := by decide +kernel)
    | apply Evs.wsSimple (nc := by decide +kernel)
    | apply Evs.wsRaw (nc := by decide +kernel)
    | exact Prt.none
    | apply Prt.some
  | (with_reducible show binD _ _ _ = some _; first | rfl | exact binD_mod (by omega) | exact binD_div (by omega) | exact binD_mul (by omega) | exact binD_pow (by omega))
  | (with_reducible show cmpD _ _ _ = some _; rfl))
-- part B1
section
open PySem PySem.W PyProof.Rows PySem.Calls

noncomputable def fdAt (w : World) (a : Addr) : FuncData := match (KF w.params).lookup a with
  | some ⟨_, _, .func fd, _⟩ => fd
  | _ => default
noncomputable def keysB (sc : Scope) : Bool := (sc.names.all fun p => sc.names.lookup p.1 == some p.2) && sc.names.all fun p => p.2 != .free
theorem keys_of {sc : Scope} (h : keysB sc = true) : (∀ p ∈ sc.names, sc.names.lookup p.1 = some p.2) ∧ ∀ p ∈ sc.names, p.2 ≠ .free := by
  obtain ⟨a, b⟩ := Bool.and_eq_true_iff.mp h
  exact ⟨fun p m => by simpa using List.all_eq_true.mp a p m, fun p m => by simpa using List.all_eq_true.mp b p m⟩
noncomputable def own2B (sc : Scope) (xs : List Str) : Bool := xs.all fun x => sc.names.lookup x == some .local || sc.names.lookup x == some .cell
theorem own2_of {sc : Scope} {xs : List Str} (h : own2B sc xs = true) : ∀ x ∈ xs, own2 sc x := fun x m => by
  have := List.all_eq_true.mp h x m
  unfold own2
  simpa using this

theorem F_col (w : World) : FnAt w 209 (fdAt w 209) where
  fn := ⟨_, rfl, rfl⟩
  code := ⟨_, _, _, _, rfl, rfl, rfl, rfl⟩
  glob := rfl
  blt := rfl
  clo := rfl
  co := rfl
  gen := rfl
  kind := rfl
  keys := (keys_of (sc := fnSc (topS 17)) (by decide +kernel)).1
  nofree := (keys_of (sc := fnSc (topS 17)) (by decide +kernel)).2
  asked := fun q => absurd q (by rw [show (fdAt w 209).scope = fnSc (topS 17) from rfl]; decide +kernel)


noncomputable def colF (size : Int) (lead : List Nat) : Int := lead.foldl (fun c ch => if ch = 32 then c + 1 else c + size - c.fmod size) 0

theorem fn_col (w : World) (lead : Str) (size : Int) (h1 : 1 ≤ size) (h2 : size ≤ 5) : Fn w 1 209 [.str lead, .int size] (.int (colF size lead.cps.toList)) := by
  refine Fn.of_run (κ := 0) (xs := ["lead", "size"]) (F_col w) (by decide +kernel) (own2_of (sc := fnSc (topS 17)) (by decide +kernel)) rfl (fun vs h => ?_) rfl fun A hA => ?_
  · match vs, h with
    | [a, b], _ => kernel_rfl
  · show Run w A (fnSc (topS 17)) _ _ (fnBody (topS 17)) _ _ _
    refine Run.cons (Run1.assign Evs.int (.inl (by decide +kernel)) (fun _ _ => rfl) ?_)
    refine Run.cons (Run1.forW hA (fun i => [(("column" : Str), D.int (colF size (lead.cps.toList.take i))), (("lead" : Str), D.str lead), (("size" : Str), D.int size)]) (Evi.str hA (by repeat' trivial)) (fun _ _ => rfl) (.inl (by decide +kernel)) (fun i d hd => ?_) ?_ ?_ fun δ δ' μ s r => r.sub s)
    · rw [signs, List.getElem?_map] at hd
      obtain ⟨c, hc, rfl⟩ := Option.map_eq_some_iff.mp hd
      have e : colF size (lead.cps.toList.take (i + 1)) = if c = 32 then colF size (lead.cps.toList.take i) + 1 else colF size (lead.cps.toList.take i) + size - (colF size (lead.cps.toList.take i)).fmod size := by
        unfold colF
        rw [List.take_add_one, hc, List.foldl_append]; rfl
      refine Run.cons (Run1.assign (x := .int (colF size (lead.cps.toList.take (i + 1)))) ?_ (.inl (by decide +kernel)) (fun _ _ => rfl) (Run.nil ?_))
      · refine Evs.ifexp (b := c == 32) (Tru.cast ?_ (by repeat' trivial)) (fun q => ?_) fun q => ?_
        · rw [str_space, sgn_beq]
        · rw [e, if_pos (by simpa using q)]; repeat' trivial
        · rw [e, if_neg (by simpa using q)]; repeat' trivial
      · exact ⟨rfl, by repeat' trivial⟩
    · refine Sub.cons lookup_hd (by repeat' trivial)
    · refine Run.cons (Run1.ret (d := .int (colF size lead.cps.toList)) ?_ rfl)
      refine Evs.cast ?_ (by repeat' trivial)
      rw [List.take_of_length_le (by simp [signs])]
end
-- part B2
section
open PySem PySem.W PyProof.Rows PySem.Calls

theorem FnAt.mk' {w : World} {a : Addr} {s : Stmt} (h : keysB (fnSc s) && !isAsked (fnSc s)) (e : (fdAt w a).scope = fnSc s) (fn : ∃ o, (KF w.params).lookup a = some o ∧ o.data = .func (fdAt w a))
    (code : ∃ c o vs t, (fdAt w a).code = .ref c ∧ (KF w.params).lookup c = some o ∧ o.data = .fields vs ∧ vs[1]? = some (.str (fdAt w a).qualname t)) (glob : (fdAt w a).globals = mainGlobals) (blt : (fdAt w a).builtins = builtinsNs)
    (clo : (fdAt w a).closure = []) (co : (fdAt w a).scope.isCoroutine = false) (gen : (fdAt w a).scope.isGenerator = false) (kind : (fdAt w a).scope.kind = .function) : FnAt w a (fdAt w a) :=
  ⟨fn, code, glob, blt, clo, co, gen, kind, by rw [e]; exact (keys_of (Bool.and_eq_true_iff.mp h).1).1, by rw [e]; exact (keys_of (Bool.and_eq_true_iff.mp h).1).2, fun q => by rw [e] at q; have := (Bool.and_eq_true_iff.mp h).2; rw [q] at this; cases this⟩

theorem F_in (w : World) : FnAt w 141 (fdAt w 141) := .mk' (s := topS 10) (by decide +kernel) rfl ⟨_, rfl, rfl⟩ ⟨_, _, _, _, rfl, rfl, rfl, rfl⟩ rfl rfl rfl rfl rfl rfl
theorem F_map (w : World) : FnAt w 187 (fdAt w 187) := .mk' (s := topS 12) (by decide +kernel) rfl ⟨_, rfl, rfl⟩ ⟨_, _, _, _, rfl, rfl, rfl, rfl⟩ rfl rfl rfl rfl rfl rfl
theorem F_typed (w : World) : FnAt w 192 (fdAt w 192) := .mk' (s := topS 14) (by decide +kernel) rfl ⟨_, rfl, rfl⟩ ⟨_, _, _, _, rfl, rfl, rfl, rfl⟩ rfl rfl rfl rfl rfl rfl
theorem F_prep (w : World) : FnAt w 197 (fdAt w 197) := .mk' (s := topS 15) (by decide +kernel) rfl ⟨_, rfl, rfl⟩ ⟨_, _, _, _, rfl, rfl, rfl, rfl⟩ rfl rfl rfl rfl rfl rfl


theorem blt_ord (w : World) {sc : Scope} (h : sc.names.lookup ("ord" : Str) = some .globalImplicit) : Blt w sc "ord" (.builtin "ord") := ⟨by decide +kernel, h, by kernel_rfl, by decide +kernel, by kernel_rfl⟩
theorem blt_len (w : World) {sc : Scope} (h : sc.names.lookup ("len" : Str) = some .globalImplicit) : Blt w sc "len" (.builtin "len") := ⟨by decide +kernel, h, by kernel_rfl, by decide +kernel, by kernel_rfl⟩
theorem blt_chr (w : World) {sc : Scope} (h : sc.names.lookup ("chr" : Str) = some .globalImplicit) : Blt w sc "chr" (.builtin "chr") := ⟨by decide +kernel, h, by kernel_rfl, by decide +kernel, by kernel_rfl⟩
theorem blt_max (w : World) {sc : Scope} (h : sc.names.lookup ("max" : Str) = some .globalImplicit) : Blt w sc "max" (.builtin "max") := ⟨by decide +kernel, h, by kernel_rfl, by decide +kernel, by kernel_rfl⟩
theorem blt_isi (w : World) {sc : Scope} (h : sc.names.lookup ("isinstance" : Str) = some .globalImplicit) : Blt w sc "isinstance" (.builtin "isinstance") := ⟨by decide +kernel, h, by kernel_rfl, by decide +kernel, by kernel_rfl⟩
theorem blt_range (w : World) {sc : Scope} (h : sc.names.lookup ("range" : Str) = some .globalImplicit) : Blt w sc "range" (.type "range") := ⟨by decide +kernel, h, by kernel_rfl, by decide +kernel, by kernel_rfl⟩
theorem blt_zip (w : World) {sc : Scope} (h : sc.names.lookup ("zip" : Str) = some .globalImplicit) : Blt w sc "zip" (.type "zip") := ⟨by decide +kernel, h, by kernel_rfl, by decide +kernel, by kernel_rfl⟩
theorem blt_bool (w : World) {sc : Scope} (h : sc.names.lookup ("bool" : Str) = some .globalImplicit) : Blt w sc "bool" (.type "bool") := ⟨by decide +kernel, h, by kernel_rfl, by decide +kernel, by kernel_rfl⟩
theorem blt_tuple (w : World) {sc : Scope} (h : sc.names.lookup ("tuple" : Str) = some .globalImplicit) : Blt w sc "tuple" (.type "tuple") := ⟨by decide +kernel, h, by kernel_rfl, by decide +kernel, by kernel_rfl⟩
theorem glb_of (w : World) {sc : Scope} {x : Str} {v : Value} (p : plainName x = true) (h : sc.names.lookup x = some .globalImplicit) (e : nsIn (KF w.params) mainGlobals x = some (some v)) : Glb w sc x v := ⟨p, h, e⟩

theorem fn_in (w : World) (c : Nat) : Fn w 1 141 [.str ⟨#[c]⟩] (.bool (b1k.contains (c : Int))) := by
  refine Fn.of_run (κ := 0) (xs := ["code"]) (F_in w) (by decide +kernel) (own2_of (sc := fnSc (topS 10)) (by decide +kernel)) rfl (fun vs h => ?_) rfl fun A hA => ?_
  · match vs, h with
    | [a], _ => kernel_rfl
  · show Run w A (fnSc (topS 10)) _ _ (fnBody (topS 10)) _ _ _
    refine Run.cons (Run1.ret (d := .bool (b1k.contains (c : Int))) (Evs.inB1 (Evs.callB hA (blt_ord w (by decide +kernel)) (by repeat' trivial) (callB_ord rfl)) (glb_of w (by decide +kernel) (by decide +kernel) (by kernel_rfl))) rfl)
end
-- part B3
section
open PySem PySem.W PyProof.Rows PySem.Calls


noncomputable def b3f (P : Params) (c : Nat) : Str := match b3 P c with
  | some (.str x _) => x
  | _ => Txt.lower ⟨#[c]⟩
theorem b3_str (P : Params) (k : Int) (v : Value) (e : b3 P k = some v) : ∃ x t, v = .str x t := by
  unfold b3 findBy at e
  obtain ⟨en, h1, h2⟩ := Option.map_eq_some_iff.mp e
  have := List.all_eq_true.mp (b3_all P) en (by simpa using Array.mem_of_find?_eq_some h1)
  subst h2
  obtain ⟨hh, kk, v⟩ := en
  cases kk <;> try cases this
  cases v <;> try cases this
  exact ⟨_, _, rfl⟩
theorem lower_fit (c : Nat) : Builtin.Str.tooLong (Txt.lower ⟨#[c]⟩).length = false := PyProof.Rows.fit_lower (by show 1 ≤ 5592405; decide)

theorem fn_map (w : World) (c : Nat) : Fn w 1 187 [.str ⟨#[c]⟩] (.str (b3f w.params c)) := by
  refine Fn.of_run (κ := 0) (xs := ["code"]) (F_map w) (by decide +kernel) (own2_of (sc := fnSc (topS 12)) (by decide +kernel)) rfl (fun vs h => ?_) rfl fun A hA => ?_
  · match vs, h with
    | [a], _ => kernel_rfl
  · show Run w A (fnSc (topS 12)) _ _ (fnBody (topS 12)) _ _ _
    refine Run.cons (Run1.assign (x := valD (b3 w.params c)) (Evs.b3get (k := c) (Evs.callB hA (blt_ord w (by decide +kernel)) (by repeat' trivial) (callB_ord rfl)) (by decide +kernel) (glb_of w (by decide +kernel) (by decide +kernel) (by kernel_rfl)) (by decide +kernel)) (.inl (by decide +kernel)) (fun _ _ => rfl) ?_)
    cases e : b3 w.params c with
    | none =>
      refine Run.cons (Run1.if_ (b := false) (Tru.cmp (x := .none) (y := .none) (by repeat' trivial) (by repeat' trivial) rfl (by decide +kernel)) (fun q => by cases q) fun _ => Run.nil ?_)
      refine Run.cons (Run1.ret (d := .str (Txt.lower ⟨#[c]⟩)) (Evs.methB (m := "lower") (x := .str ⟨#[c]⟩) (ds := []) (by repeat' trivial) (by decide +kernel) (by repeat' trivial) ?_ (by decide +kernel) (by decide +kernel)) ?_)
      · show (if Builtin.Str.tooLong (Txt.lower ⟨#[c]⟩).length = true then none else some (D.str (Txt.lower ⟨#[c]⟩))) = _
        rw [lower_fit]; rfl
      · unfold b3f; rw [e]
    | some v =>
      obtain ⟨x, t, rfl⟩ := b3_str _ _ _ e
      refine Run.cons (Run1.if_ (b := true) (Tru.cmp (x := .str x) (y := .none) (by repeat' trivial) (by repeat' trivial) rfl (by decide +kernel)) (fun _ => ?_) fun q => by cases q)
      refine Run.cons (Run1.ret (d := .str x) (by repeat' trivial) ?_)
      unfold b3f; rw [e]
end
-- part B4
section
open PySem PySem.W PyProof.Rows PySem.Calls


theorem Evi.cast {w : World} {A : Around} {sc : Scope} {δ : Dm} {iter target : Expr} {ds ds' : List D} (e : ds = ds') (x : Evi w A sc δ iter target ds) : Evi w A sc δ iter target ds' := e ▸ x
noncomputable def lenB : DictEntry → Bool
  | ⟨_, _, .str x _⟩ => decide (x.length ≤ 5)
  | _ => false
theorem b3_len (P : Params) : (b3es P).toList.all lenB = true := by kernel_rfl
theorem b3f_len (P : Params) (c : Nat) : (b3f P c).length ≤ 5 := by
  unfold b3f
  split
  · rename_i x t e
    unfold b3 findBy at e
    obtain ⟨en, h1, h2⟩ := Option.map_eq_some_iff.mp e
    have := List.all_eq_true.mp (b3_len P) en (by simpa using Array.mem_of_find?_eq_some h1)
    obtain ⟨hh, kk, v⟩ := en
    simp only at h2
    subst h2
    simpa [lenB] using this
  · have := PyProof.Rows.len_lower ⟨#[c]⟩
    have h : (⟨#[c]⟩ : Str).length = 1 := rfl
    omega
noncomputable def prepF (P : Params) (l : List Nat) : Str := Txt.join "" ((l.filter fun c : Nat => !b1k.contains (c : Int)).map (b3f P))
theorem join_ok (xs : List Str) (n : Nat) (h : ∀ x ∈ xs, x.length ≤ 5) (hl : xs.length ≤ 1000) : JoinOk "" xs = true := by
  unfold JoinOk
  rw [StrLaws.joinTotal]
  have h1 := StrLaws.sumLen_le (B := 5) xs h
  have h2 : ("" : Str).length = 0 := by decide +kernel
  rw [h2]
  unfold Builtin.Str.tooLong
  have : sizeLine = 16777216 := by decide
  have h3 : xs.length * 5 ≤ 5000 := by omega
  simp only [Nat.mul_zero, Nat.add_zero, gt_iff_lt, Bool.not_eq_true', decide_eq_false_iff_not]
  omega
theorem strsOf_map {α : Type} (f : α → Str) : ∀ l : List α, strsOf (l.map fun a => D.str (f a)) = some (l.map f)
  | [] => rfl
  | a :: l => by
    show (strsOf (l.map fun a => D.str (f a))).map (f a :: ·) = _
    rw [strsOf_map f l]; rfl
theorem methB_join {x : Str} {α : Type} (f : α → Str) (l : List α) (h : JoinOk x (l.map f) = true) : methB "join" (.str x) [.list (l.map fun a => D.str (f a))] = some (.str (Txt.join x (l.map f))) := by
  show ((strsOf (l.map fun a => D.str (f a))).bind fun xs => if JoinOk x xs = true then some (D.str (Txt.join x xs)) else none) = _
  rw [strsOf_map, Option.bind_some, if_pos h]
theorem zip_map {α : Type} (f g : α → D) : ∀ l : List α, List.zipWith (fun a b => D.tup [a, b]) (l.map f) (l.map g) = l.map fun a => .tup [f a, g a]
  | [] => rfl
  | a :: l => by simp [zip_map f g l]
theorem zip_mapS {α : Type} (f : α → Nat) (g : α → D) : ∀ l : List α, List.zipWith (fun c d => D.tup [.str ⟨#[c]⟩, d]) (l.map f) (l.map g) = l.map fun a => .tup [.str ⟨#[f a]⟩, g a]
  | [] => rfl
  | a :: l => by simp [zip_mapS f g l]

theorem fn_prep (w : World) (t : Str) (ht : t.length ≤ 1000) : Fn w 2 197 [.str t] (.list [.str (prepF w.params t.cps.toList), .list []]) := by
  refine Fn.of_run (κ := 1) (xs := ["text"]) (F_prep w) (by decide +kernel) (own2_of (sc := fnSc (topS 15)) (by decide +kernel)) rfl (fun vs h => ?_) rfl fun A hA => ?_
  · match vs, h with
    | [a], _ => kernel_rfl
  · show Run w A (fnSc (topS 15)) _ _ (fnBody (topS 15)) _ _ _
    have hl : t.cps.toList.length ≤ 1000 := by simpa [Str.length] using ht
    have hb : bigL = 100000 := rfl
    refine Run.cons (Run1.acompAll (l := t.cps.toList) (inj := fun c => .str ⟨#[c]⟩) (fun c => .bool (b1k.contains (c : Int))) hA (In.of (by decide +kernel)) (fun _ _ => rfl) (Evi.str hA (by repeat' trivial)) (.inl (by decide +kernel))
      (fun c _ => Evs.callFn hA (glb_of w (by decide +kernel) (by decide +kernel) (by kernel_rfl)) (F_in w) (fn_in w c) (by repeat' trivial)) (by omega) (by decide +kernel) (by decide +kernel) (by decide +kernel) ?_)
    refine Run.cons (Run1.assign (x := .str (prepF w.params t.cps.toList)) (Evs.methB (m := "join") (x := .str "") (by repeat' trivial) (by decide +kernel) (EvsL.cons (by decide +kernel) ?_ .nil)
      (methB_join (fun c => b3f w.params c) (t.cps.toList.filter fun c => !b1k.contains (c : Int)) (join_ok _ 0 (fun x m => ?_) ?_)) (by decide +kernel) (by decide +kernel)) (.inl (by decide +kernel)) (fun _ _ => rfl) ?_)
    · refine Evs.compPairIf (l := t.cps.toList) (i1 := fun c => .str ⟨#[c]⟩) (i2 := fun c => .bool (b1k.contains (c : Int))) (fun c => !b1k.contains (c : Int)) (fun c => .str (b3f w.params c)) hA (In.of (by decide +kernel)) (fun _ _ => rfl)
        (Evi.cast ?_ (Evi.zipStr hA (blt_zip w (by decide +kernel)) (by decide +kernel) (by decide +kernel) (y := t) (ds := t.cps.toList.map fun c : Nat => .bool (b1k.contains (c : Int))) (by repeat' trivial) (by repeat' trivial) ?_)) (.inl (by decide +kernel)) (.inl (by decide +kernel)) (fun c _ => ?_) (fun c _ _ => ?_) (by omega)
      · have := zip_mapS (fun c => c) (fun c : Nat => D.bool (b1k.contains (c : Int))) t.cps.toList
        simpa using this
      · simp [Str.length]
      · exact Tru.not (Tru.val (by repeat' trivial) (fun _ _ => rfl))
      · exact Evs.callFn hA (glb_of w (by decide +kernel) (by decide +kernel) (by kernel_rfl)) (F_map w) (fn_map w c) (by repeat' trivial)
    · obtain ⟨c, _, rfl⟩ := List.mem_map.mp m
      exact b3f_len _ _
    · rw [List.length_map]
      exact Nat.le_trans (List.length_filter_le ..) hl
    · refine Run.cons (Run1.ret (d := .list [.str (prepF w.params t.cps.toList), .list []]) (Evs.list (EvsL.cons (by decide +kernel) (by repeat' trivial) (EvsL.cons (by decide +kernel) (Evs.cast ?_
        (Evs.compIf (l := t.cps.toList) (inj := fun c => .bool (b1k.contains (c : Int))) (fun _ => false) (fun _ => .none) hA (In.of (by decide +kernel)) (fun _ _ => rfl) (Evi.list hA (by repeat' trivial)) (.inl (by decide +kernel)) (fun c _ => ?_) (fun c _ q => by cases q) (by omega))) .nil)) (by show 2 ≤ 100000; decide)) rfl)
      · simp
      · exact Tru.not (b := true) (Tru.val (Evs.callB hA (blt_isi w (by decide +kernel)) (EvsL.cons (by decide +kernel) (by repeat' trivial) (EvsL.cons (by decide +kernel) (Evs.ty (blt_bool w (by decide +kernel))) .nil)) callB_isi) (fun _ _ => rfl))
end
-- part B5
section
open PySem PySem.W PyProof.Rows PySem.Calls


noncomputable def baseL : List Nat := [65, 119808, 119860, 119912, 120016, 120172, 120224, 120276, 120328, 120380, 120432]
noncomputable def noiseL : List Nat := [173, 847, 6150, 6155, 6156, 6157, 8203, 8204, 8205, 8288, 65279]
noncomputable def ligL : List (Str × Str) := [("st", "ﬅﬆ"), ("pa", "㎀㎩"), ("mw", "㎽㎿")]
noncomputable def ligOf (nm : Str) (f : Nat) : Nat := (((ligL.find? fun kv => kv.1 = nm).map (·.2)).getD ("" : Str)).cps.toList.getD f 0
noncomputable def typed0 (nm : Str) (f : Nat) : List Nat := if f < 2 then [ligOf nm f] else if f = 2 then nm.cps.toList else nm.cps.toList.map fun c => baseL.getD (f - 3) 0 + c - 97
noncomputable def noiseOf (s : Nat) : Nat := if s < 11 then noiseL.getD s 0 else 65013 + s
noncomputable def typedL (nm : Str) (f p s : Nat) : List Nat := if p = 3 then typed0 nm f else (typed0 nm f).take p ++ [noiseOf s] ++ (typed0 nm f).drop p
noncomputable def wordsL : List Str := ["st", "pa", "mw"]

theorem words_low : ∀ nm ∈ wordsL, nm.length = 2 ∧ ∀ c ∈ nm.cps.toList, 97 ≤ c ∧ c ≤ 122 := by decide +kernel
theorem join_one (x : Str) : Txt.join "" [x] = x := rfl
theorem chars_join : ∀ l : List Nat, (Txt.join "" (l.map fun c => (⟨#[c]⟩ : Str))).cps.toList = l := by
  intro l
  have e : ∀ xs, Txt.join "" xs = Str.join "" xs := fun xs => StrLaws.glued_eq_join _ _
  rw [e]
  induction l with
  | nil => rfl
  | cons c r ih =>
    cases r with
    | nil => rfl
    | cons d r =>
      show ((⟨#[c]⟩ : Str) ++ "" ++ Str.join "" ((d :: r).map fun c => (⟨#[c]⟩ : Str))).cps.toList = _
      have h : ∀ a b : Str, (a ++ b).cps = a.cps ++ b.cps := fun _ _ => rfl
      rw [h, h, Array.toList_append, Array.toList_append, ih]
      rfl

theorem lig_all : ∀ nm ∈ wordsL, ((ligL.find? fun kv => kv.1 = nm).map (·.2)).any (fun L => L.length == 2) = true := by decide +kernel
theorem fn_typed (w : World) (nm : Str) (hm : nm ∈ wordsL) (number : Int) (f p s : Nat) (ef : number.fmod 14 = f) (ep : (number.fdiv 14).fmod 4 = p) (es : (number.fdiv 56).fmod 27 = s) (hf : f < 14) (hp : p < 4) (hs : s < 27) :
    Fn w 1 192 [.str nm, .int number] (.str ⟨(typedL nm f p s).toArray⟩) := by
  obtain ⟨hlen, hlow⟩ := words_low nm hm
  refine Fn.of_run (κ := 0) (xs := ["name", "number"]) (F_typed w) (by decide +kernel) (own2_of (sc := fnSc (topS 14)) (by decide +kernel)) rfl (fun vs h => ?_) rfl fun A hA => ?_
  · match vs, h with
    | [a, b], _ => kernel_rfl
  · show Run w A (fnSc (topS 14)) _ _ (fnBody (topS 14)) _ _ _
    refine Run.cons (Run1.assign (x := .list (noiseL.map fun n : Nat => .int n)) (Evs.cast ?_ (Evs.list (by repeat' trivial) (by decide +kernel))) (.inl (by decide +kernel)) (fun _ _ => rfl) ?_)
    · rfl
    refine Run.cons (Run1.assign (x := .list (baseL.map fun n : Nat => .int n)) (Evs.cast ?_ (Evs.list (by repeat' trivial) (by decide +kernel))) (.inr (by decide +kernel)) (fun _ _ => rfl) ?_)
    · rfl
    refine Run.cons (Run1.tup (xs := ["form", "place", "strange"]) (ds := [.int f, .int p, .int s]) hA (.cons (.cons (.cons .nil))) (own2_of (sc := fnSc (topS 14)) (by decide +kernel)) (.inl (Evs.tuple ?_ (by show 3 ≤ 100000; decide))) rfl (fun _ => rfl) (fun env ok => sw_cell env rfl (ok.ck _ (by decide +kernel))) ?_)
    · refine EvsL.cons (by decide +kernel) (Evs.cast (congrArg D.int ef) (by repeat' trivial)) (EvsL.cons (by decide +kernel) (Evs.cast (congrArg D.int ep) (by repeat' trivial)) (EvsL.cons (by decide +kernel) (Evs.cast (congrArg D.int es) (by repeat' trivial)) .nil))
    refine Run.cons (Run1.assign (x := .str nm) (by repeat' trivial) (.inl (by decide +kernel)) (fun _ _ => rfl) ?_)
    -- what is left, from the names that it reads
    have rest : ∀ (t : Str), t.cps.toList = typed0 nm f → Run w A (fnSc (topS 14)) [(("typed" : Str), D.str t), (("place" : Str), D.int p), (("strange" : Str), D.int s), (("noise" : Str), .list (noiseL.map fun n : Nat => .int n))] [] ((fnBody (topS 14)).drop 5)
        (fun _ _ => False) (fun _ _ => False) (fun d => d = .str ⟨(typedL nm f p s).toArray⟩) := by
      intro t ht
      refine Run.cons (Run1.if_ (b := decide (p = 3)) (Tru.cast ?_ (by repeat' trivial)) (fun q => ?_) (fun q => Run.nil ?_))
      · have : ((p : Int) == 3) = decide (p = 3) := by
          by_cases h : p = 3
          · simp [h]
          · simp [h]; omega
        exact this
      · have q : p = 3 := by simpa using q
        refine Run.cons (Run1.ret (d := .str t) (by repeat' trivial) ?_)
        unfold typedL; rw [if_pos q, ← ht]
      · have q : ¬ p = 3 := by simpa using q
        have hb : bigL = 100000 := rfl
        have htl : t.length ≤ 2 := by
          have e1 : t.length = t.cps.toList.length := by simp [Str.length]
          have e2 : nm.cps.toList.length = 2 := by simpa [Str.length] using hlen
          rw [e1, ht]; unfold typed0
          split
          · simp
          · split <;> simp [e2]
        have hn : (noiseL.map fun n : Nat => D.int n)[s]? = if s < 11 then some (.int (noiseL.getD s 0 : Nat)) else none := by
          by_cases h : s < 11
          · have h2 : s < noiseL.length := by have : noiseL.length = 11 := rfl; omega
            rw [if_pos h, List.getElem?_map, List.getElem?_eq_getElem h2, List.getD_eq_getElem?_getD, List.getElem?_eq_getElem h2]; rfl
          · rw [if_neg h, List.getElem?_eq_none]; simp [noiseL]; omega
        have hno : noiseOf s ≤ 1114111 := by
          unfold noiseOf
          split
          · rw [List.getD_eq_getElem?_getD]
            cases e : noiseL[s]? with
            | none => exact Nat.zero_le _
            | some b => exact (by decide : ∀ b ∈ noiseL, b ≤ 1114111) b (List.mem_of_getElem? e)
          · omega
        refine Run.cons (Run1.ret (d := .str ⟨(typedL nm f p s).toArray⟩) (Evs.cast ?_ (Evs.bin (x := .str (Txt.slice t none (some p) ++ ⟨#[noiseOf s]⟩)) (y := .str (Txt.slice t (some p) none)) (Evs.bin (x := .str (Txt.slice t none (some p))) (y := .str ⟨#[noiseOf s]⟩)
          (Evs.slice (x := .str t) (by repeat' trivial) .none (.some (by repeat' trivial)) .none (if_pos ⟨by omega, rfl⟩)) (Evs.callB hA (blt_chr w (by decide +kernel)) (EvsL.cons (by decide +kernel) (d := .int (noiseOf s)) (Evs.ifexp (b := decide (s < 11)) (Tru.cast ?_ (by repeat' trivial)) (fun h => ?_) (fun h => ?_)) .nil) ?_) (binD_str ?_))
          (Evs.slice (x := .str t) (by repeat' trivial) (.some (by repeat' trivial)) .none .none (if_pos ⟨by omega, rfl⟩)) (binD_str ?_))) rfl)
        · have h : ∀ a b : Str, (a ++ b).cps = a.cps ++ b.cps := fun _ _ => rfl
          have e1 : ∀ a b : Str, a.cps = b.cps → a = b := fun a b e => by cases a; cases b; simp_all
          refine congrArg D.str (e1 _ _ ?_)
          rw [h, h, slice_eq, slice_eq, sliceL_take _ (by omega), sliceL_drop _ (by omega), ht]
          unfold typedL
          rw [if_neg q, Int.toNat_natCast]
          simp
        · simp only [decide_eq_decide]; omega
        · have h : s < 11 := by simpa using h
          refine Evs.item (x := .list (noiseL.map fun n : Nat => .int n)) (y := .int s) (by repeat' trivial) (by repeat' trivial) (by decide +kernel) (itemD_list ⟨by omega, by omega⟩ ?_)
          rw [Int.toNat_natCast, hn, if_pos h]; unfold noiseOf; rw [if_pos h]
        · have h : ¬ s < 11 := by simpa using h
          refine Evs.cast (a := .int (65013 + s)) ?_ (by repeat' trivial)
          unfold noiseOf; rw [if_neg h]; rfl
        · rw [callB_chr ⟨by omega, by omega⟩]; rfl
        · have := Txt.slice_le t none (some p)
          show _ + 1 ≤ _
          omega
        · have := Txt.slice_le t none (some p)
          have := Txt.slice_le t (some p) none
          have h : (Txt.slice t none (some p) ++ (⟨#[noiseOf s]⟩ : Str)).length = (Txt.slice t none (some p)).length + 1 := Str.length_append ..
          omega
    have fin : ∀ δ', (∃ t : Str, t.cps.toList = typed0 nm f ∧ Sub [(("typed" : Str), D.str t), (("place" : Str), D.int p), (("strange" : Str), D.int s), (("noise" : Str), .list (noiseL.map fun n : Nat => .int n))] δ') →
        Run w A (fnSc (topS 14)) δ' [] ((fnBody (topS 14)).drop 5) (fun _ _ => D.str ⟨(typedL nm f p s).toArray⟩ = D.none) (fun _ _ => False) (fun d' => d' = D.str ⟨(typedL nm f p s).toArray⟩) := fun δ' ⟨t, ht, sb⟩ =>
      ((rest t ht).mono (fun _ _ q => q.elim) (fun _ _ q => q) (fun _ q => q)).weak sb
    refine Run.cons ((Run1.if_ (N := fun δ' μ' => μ' = [] ∧ ∃ t : Str, t.cps.toList = typed0 nm f ∧ Sub [(("typed" : Str), D.str t), (("place" : Str), D.int p), (("strange" : Str), D.int s), (("noise" : Str), .list (noiseL.map fun n : Nat => .int n))] δ') (b := decide (f < 2))
      (Tru.cast ?_ (by repeat' trivial)) (fun q => ?_) (fun q => ?_)).mono (fun δ' μ' ⟨e, q⟩ => e ▸ fin δ' q) (fun _ _ q => q) (fun _ q => q))
    · simp only [decide_eq_decide]; omega
    · -- a ligature
      have q : f < 2 := by simpa using q
      obtain ⟨L, hL, hL2⟩ : ∃ L : Str, (ligL.find? fun kv => kv.1 = nm).map (·.2) = some L ∧ L.length = 2 := by
        have := lig_all nm hm
        cases h : (ligL.find? fun kv => kv.1 = nm).map (·.2) with
        | none => rw [h] at this; cases this
        | some L => rw [h] at this; exact ⟨L, rfl, by simpa using this⟩
      have hc : L.cps[f]? = some (ligOf nm f) := by
        have h2 : f < L.cps.size := by have : L.cps.size = 2 := hL2; omega
        unfold ligOf
        rw [hL, Option.getD_some, List.getD_eq_getElem?_getD]
        simp [h2]
      refine Run.cons (Run1.assign (x := .str ⟨#[ligOf nm f]⟩) (Evs.item (Evs.dictItem (kvs := ligL) (.cons (.cons (.cons .nil))) (by decide) (by decide) (by decide +kernel) (by repeat' trivial) (by decide +kernel) hL) (y := .int f) (by repeat' trivial) (by decide +kernel)
        (itemD_str ⟨by omega, by rw [hL2]; decide⟩ hc)) (.inl (by decide +kernel)) (fun _ _ => rfl) (Run.nil ⟨rfl, ⟨#[ligOf nm f]⟩, ?_, ?_⟩))
      · unfold typed0; rw [if_pos q]
      · repeat' trivial
    · have q : ¬ f < 2 := by simpa using q
      refine Run.cons (Run1.if_ (b := decide (2 < f)) (Tru.cast ?_ (by repeat' trivial)) (fun q2 => ?_) (fun q2 => Run.nil (Run.nil ⟨rfl, nm, ?_, ?_⟩)))
      · simp only [decide_eq_decide]; omega
      · -- a mathematical alphabet
        have q2 : 2 < f := by simpa using q2
        have hb : bigL = 100000 := rfl
        have hln : nm.cps.toList.length = 2 := by simpa [Str.length] using hlen
        have hbase : (baseL.map fun n : Nat => D.int n)[f - 3]? = some (.int (baseL.getD (f - 3) 0 : Nat)) := by
          have h2 : f - 3 < baseL.length := by have : baseL.length = 11 := rfl; omega
          rw [List.getElem?_map, List.getElem?_eq_getElem h2, List.getD_eq_getElem?_getD, List.getElem?_eq_getElem h2]; rfl
        have hle : ∀ g, baseL.getD g 0 ≤ 120432 := fun g => by
          rw [List.getD_eq_getElem?_getD]
          cases e : baseL[g]? with
          | none => exact Nat.zero_le _
          | some b => exact (by decide : ∀ b ∈ baseL, b ≤ 120432) b (List.mem_of_getElem? e)
        refine Run.cons (Run1.assign (x := .str (Txt.join "" (nm.cps.toList.map fun c => (⟨#[baseL.getD (f - 3) 0 + c - 97]⟩ : Str)))) (Evs.methB (m := "join") (x := .str "") (by repeat' trivial) (by decide +kernel) (EvsL.cons (by decide +kernel) ?_ .nil)
          (methB_join (fun c => (⟨#[baseL.getD (f - 3) 0 + c - 97]⟩ : Str)) nm.cps.toList (join_ok _ 0 (fun x m => ?_) (by simp [hln]))) (by decide +kernel) (by decide +kernel)) (.inl (by decide +kernel)) (fun _ _ => rfl) (Run.nil (Run.nil ⟨rfl, Txt.join "" (nm.cps.toList.map fun c => (⟨#[baseL.getD (f - 3) 0 + c - 97]⟩ : Str)), ?_, ?_⟩)))
        · refine Evs.compAll (l := nm.cps.toList) (inj := fun c => .str ⟨#[c]⟩) (fun c => .str ⟨#[baseL.getD (f - 3) 0 + c - 97]⟩) hA (In.of (by decide +kernel)) (fun _ _ => rfl) (Evi.str hA (by repeat' trivial)) (.inl (by decide +kernel)) (fun c hc => ?_) (by omega)
          obtain ⟨c1, c2⟩ := hlow c hc
          have hg := hle (f - 3)
          refine Evs.callB hA (blt_chr w (by decide +kernel)) (EvsL.cons (by decide +kernel) (Evs.cast (a := .int ((baseL.getD (f - 3) 0 : Nat) + (c : Nat) - 97)) rfl (Evs.bin (Evs.bin (Evs.item (x := .list (baseL.map fun n : Nat => .int n)) (y := .int (f - 3)) (by repeat' trivial) (by repeat' trivial) (by decide +kernel)
            (itemD_list ⟨by omega, by omega⟩ (by rw [show ((f : Int) - 3).toNat = f - 3 by omega]; exact hbase))) (Evs.callB hA (blt_ord w (by decide +kernel)) (by repeat' trivial) (callB_ord rfl)) rfl) Evs.int rfl)) .nil) ?_
          have e : ((baseL.getD (f - 3) 0 : Nat) + (c : Nat) - 97 : Int).toNat = baseL.getD (f - 3) 0 + c - 97 := by omega
          rw [callB_chr ⟨by omega, by omega⟩, e]
        · obtain ⟨c, _, rfl⟩ := List.mem_map.mp m
          show 1 ≤ 5; decide
        · have := chars_join (nm.cps.toList.map fun c => baseL.getD (f - 3) 0 + c - 97)
          rw [List.map_map] at this
          unfold typed0; rw [if_neg q, if_neg (by omega)]
          exact this
        · repeat' trivial
      · have q2 : ¬ 2 < f := by simpa using q2
        unfold typed0; rw [if_neg q, if_pos (by omega)]
      · repeat' trivial
end
-- part B6
section
open PySem PySem.W PyProof.Rows PySem.Calls


theorem F_long (w : World) : FnAt w 45 (fdAt w 45) := .mk' (s := inS (topS 2) 2) (by decide +kernel) rfl ⟨_, rfl, rfl⟩ ⟨_, _, _, _, rfl, rfl, rfl, rfl⟩ rfl rfl rfl rfl rfl rfl
theorem F_ind (w : World) : FnAt w 52 (fdAt w 52) := .mk' (s := inS (topS 2) 3) (by decide +kernel) rfl ⟨_, rfl, rfl⟩ ⟨_, _, _, _, rfl, rfl, rfl, rfl⟩ rfl rfl rfl rfl rfl rfl
theorem F_less (w : World) : FnAt w 73 (fdAt w 73) := .mk' (s := inS (topS 2) 6) (by decide +kernel) rfl ⟨_, rfl, rfl⟩ ⟨_, _, _, _, rfl, rfl, rfl, rfl⟩ rfl rfl rfl rfl rfl rfl
theorem M_long (w : World) : MethAt w "longest_run_of_spaces" 45 := ⟨by kernel_rfl, by kernel_rfl, fun _ _ _ _ _ _ _ _ => by kernel_rfl⟩
theorem M_ind (w : World) : MethAt w "indent_level" 52 := ⟨by kernel_rfl, by kernel_rfl, fun _ _ _ _ _ _ _ _ => by kernel_rfl⟩
theorem M_less (w : World) : MethAt w "less" 73 := ⟨by kernel_rfl, by kernel_rfl, fun _ _ _ _ _ _ _ _ => by kernel_rfl⟩

noncomputable def longF (c : List Int) (t : Int) : Int := if t > (c.length : Int) - 1 then t else c.length - 1
theorem fn_long (w : World) (raw : Str) (n nt t : Int) (c : List Int) (b : Bool) (hc : c.length ≤ 1000) : Fn w 1 45 [.ws raw n nt c t b] (.int (longF c t)) := by
  refine Fn.of_run (κ := 0) (xs := ["self"]) (F_long w) (by decide +kernel) (own2_of (sc := fnSc (inS (topS 2) 2)) (by decide +kernel)) rfl (fun vs h => ?_) rfl fun A hA => ?_
  · match vs, h with
    | [a], _ => kernel_rfl
  · show Run w A (fnSc (inS (topS 2) 2)) _ _ (fnBody (inS (topS 2) 2)) _ _ _
    have hb : bigL = 100000 := rfl
    refine Run.cons (Run1.tup (xs := ["count", "trailing"]) (ds := [.tup (c.map .int), .int t]) hA (.cons (.cons .nil)) (own2_of (sc := fnSc (inS (topS 2) 2)) (by decide +kernel)) (.inl (by repeat' trivial)) rfl (fun _ => rfl) (fun _ _ => rfl) ?_)
    refine Run.cons (Run1.ret (d := .int (longF c t)) (Evs.callB hA (blt_max w (by decide +kernel)) (EvsL.cons (by decide +kernel) (Evs.bin (x := .int c.length) (y := .int 1) (Evs.cast ?_ (Evs.callB hA (blt_len w (by decide +kernel)) (ds := [.tup (c.map .int)]) (by repeat' trivial) (callB_lenT (by simp; omega)))) Evs.int rfl) (EvsL.cons (by decide +kernel) (d := .int t) (by repeat' trivial) .nil)) callB_max) rfl)
    simp

noncomputable def indSum (ts : Nat) (c : List Int) (k : Nat) : Int := (List.range k).foldl (fun (il : Int) (i : Nat) => il + ((ts + i : Nat) : Int).fdiv ts * c.getD (ts + i) 0) 0
noncomputable def indF (ts : Nat) (c : List Int) (t nt : Int) : Int := t + ts * (indSum ts c (c.length - ts) + nt)
theorem fn_ind (w : World) (raw : Str) (n nt t : Int) (c : List Int) (b : Bool) (ts : Nat) (hc : c.length ≤ 1000) (h1 : 1 ≤ ts) (h2 : ts ≤ 1000) : Fn w 1 52 [.ws raw n nt c t b, .int ts] (.int (indF ts c t nt)) := by
  refine Fn.of_run (κ := 0) (xs := ["self", "tabsize"]) (F_ind w) (by decide +kernel) (own2_of (sc := fnSc (inS (topS 2) 3)) (by decide +kernel)) rfl (fun vs h => ?_) rfl fun A hA => ?_
  · match vs, h with
    | [a, b], _ => kernel_rfl
  · show Run w A (fnSc (inS (topS 2) 3)) _ _ (fnBody (inS (topS 2) 3)) _ _ _
    have hb : bigL = 100000 := rfl
    refine Run.cons (Run1.tup (xs := ["count", "trailing"]) (ds := [.tup (c.map .int), .int t]) hA (.cons (.cons .nil)) (own2_of (sc := fnSc (inS (topS 2) 3)) (by decide +kernel)) (.inl (by repeat' trivial)) rfl (fun _ => rfl) (fun _ _ => rfl) ?_)
    refine Run.cons (Run1.assign Evs.int (.inl (by decide +kernel)) (fun _ _ => rfl) ?_)
    refine Run.cons (Run1.forW hA (fun i => [(("il" : Str), D.int (indSum ts c i)), (("count" : Str), .tup (c.map .int)), (("trailing" : Str), D.int t), (("self" : Str), .ws raw n nt c t b), (("tabsize" : Str), D.int ts)]) (ds := rangeD ts c.length)
      (Evi.range hA (Evs.range2 (blt_range w (by decide +kernel)) (by repeat' trivial) (by decide +kernel) (Evs.cast ?_ (Evs.callB hA (blt_len w (by decide +kernel)) (ds := [.tup (c.map .int)]) (by repeat' trivial) (callB_lenT (by simp; omega)))) (by decide +kernel)) ⟨by omega, by omega⟩ ⟨by omega, by omega⟩)
      (fun _ _ => rfl) (.inl (by decide +kernel)) (fun i d hd => ?_) ?_ ?_ fun δ δ' μ s r => r.sub s)
    · simp
    · have hk : ((c.length : Int) - ts).toNat = c.length - ts := by omega
      rw [rangeD, hk, List.getElem?_map] at hd
      obtain ⟨j, hj, rfl⟩ := Option.map_eq_some_iff.mp hd
      obtain ⟨q1, q2⟩ := List.getElem?_eq_some_iff.mp hj
      rw [List.getElem_range] at q2
      subst q2
      rw [List.length_range] at q1
      have hget : (c.map D.int)[(ts + i)]? = some (.int (c.getD (ts + i) 0)) := by
        have h : ts + i < c.length := by omega
        rw [List.getElem?_map, List.getElem?_eq_getElem h, List.getD_eq_getElem?_getD, List.getElem?_eq_getElem h]; rfl
      have hdv : ((ts + i : Int)).fdiv ts ≤ 2000 ∧ 0 ≤ ((ts + i : Int)).fdiv ts := by
        rw [Int.fdiv_eq_ediv_of_nonneg _ (by omega)]
        exact ⟨Int.le_trans (Int.ediv_le_self _ (by omega)) (by omega), Int.ediv_nonneg (by omega) (by omega)⟩
      refine Run.cons (Run1.assign (x := .int (indSum ts c (i + 1))) (Evs.cast ?_ (Evs.bin (x := .int (indSum ts c i)) (y := .int ((ts + i : Int).fdiv ts * c.getD (ts + i) 0)) (by repeat' trivial) (Evs.bin (x := .int ((ts + i : Int).fdiv ts)) (y := .int (c.getD (ts + i) 0))
        (by repeat' trivial) (Evs.item (x := .tup (c.map .int)) (y := .int (ts + i)) (by repeat' trivial) (by repeat' trivial) (by decide +kernel) (itemD_tup ⟨by omega, by omega⟩ (by rw [show ((ts : Int) + i).toNat = ts + i by omega]; exact hget))) (binD_mul ⟨by omega, by omega⟩)) rfl)) (.inl (by decide +kernel)) (fun _ _ => rfl) (Run.nil ⟨rfl, ?_⟩))
      · unfold indSum
        rw [List.range_succ, List.foldl_append]
        simp
      · repeat' trivial
    · repeat' trivial
    · refine Run.cons (Run1.ret (d := .int (indF ts c t nt)) (Evs.cast ?_ (by repeat' trivial)) rfl)
      unfold indF
      simp only [rangeD, List.length_map, List.length_range]
      rw [show ((c.length : Int) - ts).toNat = c.length - ts by omega]
end
-- part B7
section
open PySem PySem.W PyProof.Rows PySem.Calls


/-- what an indent tells -/
structure Ws where
  raw : Str
  n : Int
  nt : Int
  c : List Int
  t : Int
  b : Bool
noncomputable abbrev Ws.d (x : Ws) : D := .ws x.raw x.n x.nt x.c x.t x.b
noncomputable def maxI (a b : Int) : Int := if b > a then b else a
noncomputable def Ws.long (x : Ws) : Int := longF x.c x.t
noncomputable def Ws.ind (x : Ws) (ts : Nat) : Int := indF ts x.c x.t x.nt
noncomputable def Ws.top (x y : Ws) : Int := maxI x.long y.long + 1
noncomputable def Ws.less (x y : Ws) : Bool :=
  if x.n ≥ y.n then false else if (x.b && y.b) = true then decide (x.nt ≤ y.nt) else (List.range (x.top y - 1).toNat).all fun i => !decide (x.ind (2 + i) ≥ y.ind (2 + i))
structure Ws.Ok (x : Ws) : Prop where
  c : x.c.length ≤ 500
  t : x.t ≤ 500

theorem longF_le (x : Ws) (h : x.Ok) : x.long ≤ 500 ∧ -1 ≤ x.long := by
  unfold Ws.long longF
  have := h.c
  have := h.t
  split <;> omega
theorem fn_less (w : World) (x y : Ws) (hx : x.Ok) (hy : y.Ok) : Fn w 2 73 [x.d, y.d] (.bool (x.less y)) := by
  refine Fn.of_run (κ := 1) (xs := ["self", "other"]) (F_less w) (by decide +kernel) (own2_of (sc := fnSc (inS (topS 2) 6)) (by decide +kernel)) rfl (fun vs h => ?_) rfl fun A hA => ?_
  · match vs, h with
    | [a, b], _ => kernel_rfl
  · show Run w A (fnSc (inS (topS 2) 6)) _ _ (fnBody (inS (topS 2) 6)) _ _ _
    have hb : bigL = 100000 := rfl
    have hxc := hx.c
    have hyc := hy.c
    refine Run.cons (Run1.if_ (b := decide (x.n ≥ y.n)) (Tru.cast ?_ (by repeat' trivial)) (fun q => Run.cons (Run1.ret (d := .bool false) (by repeat' trivial) ?_)) (fun q => Run.nil ?_))
    · rfl
    · unfold Ws.less; rw [if_pos (by simpa using q)]
    have q : ¬ x.n ≥ y.n := by simpa using q
    refine Run.cons (Run1.if_ (b := x.b && y.b) (Tru.and (Tru.val (by repeat' trivial) (fun _ _ => rfl)) (fun _ => Tru.val (by repeat' trivial) (fun _ _ => rfl))) (fun q2 => Run.cons (Run1.ret (d := .bool (decide (x.nt ≤ y.nt))) (by repeat' trivial) ?_)) (fun q2 => Run.nil ?_))
    · unfold Ws.less; rw [if_neg q, if_pos q2]
    have q2 : ¬ (x.b && y.b) = true := by rw [q2]; decide
    have hlx := longF_le x hx
    have hly := longF_le y hy
    have htop : x.top y ≤ 501 ∧ 0 ≤ x.top y := by unfold Ws.top maxI; split <;> omega
    refine Run.cons (Run1.assign (x := .int (x.top y)) (Evs.bin (x := .int (maxI x.long y.long)) (y := .int 1) (Evs.callB hA (blt_max w (by decide +kernel)) (EvsL.cons (by decide +kernel) (d := .int x.long) ?_ (EvsL.cons (by decide +kernel) (d := .int y.long) ?_ .nil)) callB_max) Evs.int rfl) (.inl (by decide +kernel)) (fun _ _ => rfl) ?_)
    · exact Evs.methWs hA (by repeat' trivial) (by decide +kernel) (M_long w) (F_long w) (fn_long w _ _ _ _ _ _ (by omega)) (by repeat' trivial) (by decide +kernel) (by decide +kernel)
    · exact Evs.methWs hA (by repeat' trivial) (by decide +kernel) (M_long w) (F_long w) (fn_long w _ _ _ _ _ _ (by omega)) (by repeat' trivial) (by decide +kernel) (by decide +kernel)
    refine Run.cons (Run1.for_ hA (ds := rangeD 2 (x.top y + 1)) (fun i δ' μ' => μ' = [] ∧ Sub [(("self" : Str), x.d), (("other" : Str), y.d)] δ' ∧ ∀ j, j < i → ¬ x.ind (2 + j) ≥ y.ind (2 + j))
      (Evi.range hA (Evs.range2 (blt_range w (by decide +kernel)) (by repeat' trivial) (by decide +kernel) (by repeat' trivial) (by decide +kernel)) ⟨by omega, by omega⟩ ⟨by omega, by omega⟩) (fun _ _ => rfl) (.inl (by decide +kernel)) ?_ ?_ ?_)
    · rintro i d δ' μ' hd ⟨rfl, sb, old⟩
      rw [rangeD, List.getElem?_map] at hd
      obtain ⟨j, hj, rfl⟩ := Option.map_eq_some_iff.mp hd
      obtain ⟨q3, q4⟩ := List.getElem?_eq_some_iff.mp hj
      rw [List.getElem_range] at q4
      subst q4
      rw [List.length_range] at q3
      have e : ((2 : Int) + (i : Nat)) = ((2 + i : Nat) : Int) := by omega
      rw [e]
      refine RunOn.weak (δ' := [(("ts" : Str), D.int (2 + i : Nat)), (("self" : Str), x.d), (("other" : Str), y.d)]) ?_ sb.push
      refine Run.cons (Run1.if_ (b := decide (x.ind (2 + i) ≥ y.ind (2 + i))) (Tru.cast ?_ (Tru.cmp (x := .int (x.ind (2 + i))) (y := .int (y.ind (2 + i)))
        (Evs.methWs hA (by repeat' trivial) (by decide +kernel) (M_ind w) (F_ind w) (fn_ind w _ _ _ _ _ _ _ (by omega) (by omega) (by omega)) (by repeat' trivial) (by decide +kernel) (by decide +kernel))
        (Evs.methWs hA (by repeat' trivial) (by decide +kernel) (M_ind w) (F_ind w) (fn_ind w _ _ _ _ _ _ _ (by omega) (by omega) (by omega)) (by repeat' trivial) (by decide +kernel) (by decide +kernel)) rfl (by decide +kernel)))
        (fun q5 => Run.cons (Run1.ret (d := .bool false) (by repeat' trivial) ?_)) (fun q5 => Run.nil (Run.nil ⟨rfl, ?_, ?_⟩)))
      · rfl
      · unfold Ws.less; rw [if_neg q, if_neg q2]
        refine congrArg D.bool (Eq.symm ?_)
        rw [List.all_eq_false]
        exact ⟨i, List.mem_range.mpr (by omega), by rw [q5]; decide⟩
      · repeat' trivial
      · intro j hj
        by_cases z : j = i
        · subst z; simpa using q5
        · exact old j (by omega)
    · rintro δ' μ' ⟨rfl, sb, old⟩
      refine Run.cons (Run1.ret (d := .bool true) (by repeat' trivial) ?_)
      unfold Ws.less; rw [if_neg q, if_neg q2]
      refine congrArg D.bool (Eq.symm ?_)
      rw [List.all_eq_true]
      intro i hi
      have hi := List.mem_range.mp hi
      have := old i (by simp only [rangeD, List.length_map, List.length_range]; omega)
      simpa using this
    · exact ⟨rfl, by repeat' trivial, fun j hj => absurd hj (Nat.not_lt_zero _)⟩
end
-- part B8
section
open PySem PySem.W PyProof.Rows PySem.Calls


theorem F_above (w : World) : FnAt w 214 (fdAt w 214) := .mk' (s := topS 18) (by decide +kernel) rfl ⟨_, rfl, rfl⟩ ⟨_, _, _, _, rfl, rfl, rfl, rfl⟩ rfl rfl rfl rfl rfl rfl

/-- no number of the first is as great as its fellow in the second -/
noncomputable def below (a b : List Int) : Bool := decide ((a.zip b).filter (fun p => decide (p.1 ≥ p.2)) = [])
noncomputable def abv (L : List (List Int)) : Nat → List Nat
  | 0 => []
  | k + 1 => (abv L k).filter (fun j => below (L.getD j []) (L.getD k [])) ++ [k]
theorem abv_lt (L : List (List Int)) : ∀ k, ∀ j ∈ abv L k, j < k
  | 0, j, m => by cases m
  | k + 1, j, m => by
    unfold abv at m
    rcases List.mem_append.mp m with m | m
    · exact Nat.lt_succ_of_lt (abv_lt L k j (List.mem_filter.mp m).1)
    · rw [List.mem_singleton.mp m]; exact Nat.lt_succ_self k
theorem abv_len (L : List (List Int)) : ∀ k, (abv L k).length ≤ k
  | 0 => Nat.le_refl _
  | k + 1 => by
    unfold abv
    rw [List.length_append]
    have := List.length_filter_le (fun j => below (L.getD j []) (L.getD k [])) (abv L k)
    have := abv_len L k
    simp only [List.length_singleton]; omega
noncomputable abbrev colsD (L : List (List Int)) : D := .list (L.map fun c => .list (c.map .int))
noncomputable abbrev pileD (l : List Nat) : D := .list (l.map fun j : Nat => .int j)
theorem colsD_get {L : List (List Int)} {j : Nat} (h : j < L.length) : (L.map fun c => D.list (c.map .int))[j]? = some (.list ((L.getD j []).map .int)) := by
  rw [List.getElem?_map, List.getElem?_eq_getElem h, List.getD_eq_getElem?_getD, List.getElem?_eq_getElem h]; rfl

theorem fn_above (w : World) (L : List (List Int)) (hL : L.length ≤ 1000) (hc : ∀ c ∈ L, c.length ≤ 1000) : Fn w 1 214 [colsD L] (.list ((List.range L.length).map fun k => pileD (abv L (k + 1)))) := by
  refine Fn.of_run (κ := 0) (xs := ["columns"]) (F_above w) (by decide +kernel) (own2_of (sc := fnSc (topS 18)) (by decide +kernel)) rfl (fun vs h => ?_) rfl fun A hA => ?_
  · match vs, h with
    | [a], _ => kernel_rfl
  · show Run w A (fnSc (topS 18)) _ _ (fnBody (topS 18)) _ _ _
    have hb : bigL = 100000 := rfl
    refine Run.cons (Run1.tupNS (xs := ["piles", "pile"]) (ks := [none, none]) hA (.lst (.lst .nil)) (own2_of (sc := fnSc (topS 18)) (by decide +kernel)) rfl (by decide) (fun _ => rfl)
      (fun env ok => sw_names ok.bk (ok.lk _ (by decide +kernel)) (ok.lk _ (by decide +kernel)) (by decide +kernel) (by decide +kernel) (by decide +kernel) (by decide +kernel) (by decide +kernel)) (fun ds μn no _ => ?_))
    cases no with
    | @lst a _ _ _ na no =>
    cases no with
    | @lst b _ _ _ nb no =>
    cases no
    have hab : ((a == b) = false) := by
      cases q : a == b with
      | false => rfl
      | true => exact absurd (by rw [beq_iff_eq.mp q]; exact List.mem_cons_self) (na (.lst []))
    refine RunOn.settle (μ1 := [(a, .lst [])]) (μ2 := []) (x := "pile") (a := b) (ds := []) (by repeat' trivial) ?_
    refine Run.cons (Run1.for_ hA (ds := rangeD 0 L.length) (fun i δ' μ' => μ' = [(a, .lst ((List.range i).map fun k => pileD (abv L (k + 1))))] ∧ Sub [(("pile" : Str), pileD (abv L i)), (("piles" : Str), D.adr a), (("columns" : Str), colsD L)] δ')
      (Evi.range hA (Evs.range1 (blt_range w (by decide +kernel)) (Evs.cast ?_ (Evs.callB hA (blt_len w (by decide +kernel)) (ds := [colsD L]) (by repeat' trivial) (callB_len (by simp; omega)))) (by decide +kernel)) ⟨by omega, by omega⟩ ⟨by omega, by omega⟩) (fun _ _ => rfl) (.inr (by decide +kernel)) ?_ ?_ ?_)
    · simp
    · rintro i d δ' μ' hd ⟨rfl, sb⟩
      rw [rangeD, List.getElem?_map] at hd
      obtain ⟨j, hj, rfl⟩ := Option.map_eq_some_iff.mp hd
      obtain ⟨q3, q4⟩ := List.getElem?_eq_some_iff.mp hj
      rw [List.getElem_range] at q4
      subst q4
      rw [List.length_range] at q3
      have hi : i < L.length := by omega
      have e : ((0 : Int) + (i : Nat)) = (i : Nat) := by omega
      rw [e]
      refine RunOn.weak (δ' := [(("k" : Str), D.int i), (("pile" : Str), pileD (abv L i)), (("piles" : Str), D.adr a), (("columns" : Str), colsD L)]) ?_ sb.push
      have hlen := abv_len L i
      refine Run.cons (Run1.assign (x := pileD (abv L (i + 1))) (Evs.cast ?_ (Evs.bin (x := pileD ((abv L i).filter fun j => below (L.getD j []) (L.getD i []))) (y := .list [.int i])
        (Evs.compIf (l := abv L i) (inj := fun j : Nat => .int j) (fun j => below (L.getD j []) (L.getD i [])) (fun j : Nat => .int j) hA (In.of (by decide +kernel)) (fun _ _ => rfl) (Evi.list hA (by repeat' trivial)) (.inl (by decide +kernel)) (fun j hj => ?_) (fun j _ _ => by repeat' trivial) (by omega))
        (Evs.list (by repeat' trivial) (by show 1 ≤ 100000; decide)) (binD_list ?_))) (.inl (by decide +kernel)) (fun _ _ => rfl) ?_)
      · show D.list (_ ++ _) = _
        have e2 : abv L (i + 1) = (abv L i).filter (fun j => below (L.getD j []) (L.getD i [])) ++ [i] := rfl
        rw [e2]
        show _ = D.list (List.map _ (_ ++ _))
        rw [List.map_append]; rfl
      · have hjL : j < L.length := Nat.lt_trans (abv_lt L i j hj) hi
        have hle : ∀ m, (L.getD m []).length ≤ 1000 := fun m => by
          rw [List.getD_eq_getElem?_getD]
          cases e : L[m]? with
          | none => simp
          | some c => exact hc c (List.mem_of_getElem? e)
        refine Tru.eqL hA (x := .list ((((L.getD j []).zip (L.getD i [])).filter fun p => decide (p.1 ≥ p.2)).map fun _ => .int 1)) (y := .list [])
          (Evs.compPairIf (l := (L.getD j []).zip (L.getD i [])) (i1 := fun p => .int p.1) (i2 := fun p => .int p.2) (fun p => decide (p.1 ≥ p.2)) (fun _ => .int 1) hA (In.of (by decide +kernel)) (fun _ _ => rfl)
            (Evi.cast (zip_pairs D.int D.int _ _) (Evi.zipList hA (blt_zip w (by decide +kernel)) (by decide +kernel) (by decide +kernel) (Evs.item (x := colsD L) (y := .int j) (by repeat' trivial) (by repeat' trivial) (by decide +kernel) (itemD_list ⟨by omega, by omega⟩ ?_))
              (Evs.item (x := colsD L) (y := .int i) (by repeat' trivial) (by repeat' trivial) (by decide +kernel) (itemD_list ⟨by omega, by omega⟩ ?_)))) (.inl (by decide +kernel)) (.inl (by decide +kernel)) (fun p _ => by repeat' trivial) (fun p _ _ => Evs.int) ?_)
          (Evs.list EvsL.nil (by show 0 ≤ 100000; decide)) (Pl.ints _ _) (Pl.nil (n := 0)) (by decide) (by decide) (by decide +kernel) (eqv_nil _ _)
        · rw [Int.toNat_natCast]; exact colsD_get hjL
        · rw [Int.toNat_natCast]; exact colsD_get hi
        · rw [List.length_zip]; have := hle j; omega
      · have := List.length_filter_le (fun j => below (L.getD j []) (L.getD i [])) (abv L i)
        simp only [List.length_map, List.length_singleton]; omega
      · refine Run.cons (Run1.append (a := a) (ds := (List.range i).map fun k => pileD (abv L (k + 1))) (d := pileD (abv L (i + 1))) (by decide +kernel) (by repeat' trivial) List.mem_cons_self (by repeat' trivial) (by decide +kernel) (by simp; omega) (by decide +kernel) (Run.nil ⟨?_, ?_⟩))
        · simp [setMu, List.range_succ]
        · repeat' trivial
    · rintro δ' μ' ⟨rfl, sb⟩
      refine RunOn.weak ?_ sb
      refine Run.cons (Run1.retF (d := .list ((List.range L.length).map fun k => pileD (abv L (k + 1)))) (Evs.name (by decide +kernel) (fzD_own (a := a) (by repeat' trivial) ?_)) rfl)
      simp [rangeD]
    · exact ⟨rfl, by repeat' trivial⟩
end
-- part B9
section
open PySem PySem.W PyProof.Rows PySem.Calls


theorem Evs.neg {w : World} {A : Around} {sc : Scope} {δ : Dm} {e : Expr} {i : Int} {p : Pos} (he : Evs w A sc δ e (.int i)) : Evs w A sc δ (.UnaryOp .USub e p) (.int (-i)) := ⟨fun env hb h c s Q E es q =>
  wpAny_UnaryOp (he.run env hb h c s _ E es fun v hb1 h1 tk st hv => by
    obtain ⟨t, rfl⟩ := hv.int_inv
    exact P.neg_int (q _ hb1 h1 _ st (.int _ _)))⟩
theorem F_piles (w : World) : FnAt w 202 (fdAt w 202) := .mk' (s := topS 16) (by decide +kernel) rfl ⟨_, rfl, rfl⟩ ⟨_, _, _, _, rfl, rfl, rfl, rfl⟩ rfl rfl rfl rfl rfl rfl

/-- the last ones that are not less are given off -/
noncomputable def popP (lt : Nat → Bool) (l : List Nat) : List Nat := (l.reverse.dropWhile fun j => !lt j).reverse
theorem popP_nil (lt : Nat → Bool) : popP lt [] = [] := rfl
theorem popP_snoc (lt : Nat → Bool) (l : List Nat) (j : Nat) : popP lt (l ++ [j]) = if lt j = true then l ++ [j] else popP lt l := by
  unfold popP
  rw [List.reverse_append, List.reverse_singleton, List.singleton_append, List.dropWhile_cons]
  cases h : lt j <;> simp
theorem popP_sub (lt : Nat → Bool) (l : List Nat) : ∀ j ∈ popP lt l, j ∈ l := fun j m => by
  unfold popP at m
  have := (List.dropWhile_sublist (l := l.reverse) fun j => !lt j).mem (List.mem_reverse.mp m)
  exact List.mem_reverse.mp this
theorem popP_len (lt : Nat → Bool) (l : List Nat) : (popP lt l).length ≤ l.length := by
  unfold popP
  rw [List.length_reverse]
  have := (List.dropWhile_sublist (l := l.reverse) fun j => !lt j).length_le
  simpa using this
noncomputable def nilW : Ws := ⟨"", 0, 0, [], 0, false⟩
noncomputable def ltW (X : List Ws) (k j : Nat) : Bool := (X.getD j nilW).less (X.getD k nilW)
noncomputable def pls (X : List Ws) : Nat → List Nat
  | 0 => []
  | k + 1 => popP (ltW X k) (pls X k) ++ [k]
theorem pls_lt (X : List Ws) : ∀ k, ∀ j ∈ pls X k, j < k
  | 0, j, m => by cases m
  | k + 1, j, m => by
    unfold pls at m
    rcases List.mem_append.mp m with m | m
    · exact Nat.lt_succ_of_lt (pls_lt X k j (popP_sub _ _ j m))
    · rw [List.mem_singleton.mp m]; exact Nat.lt_succ_self k
theorem pls_len (X : List Ws) : ∀ k, (pls X k).length ≤ k
  | 0 => Nat.le_refl _
  | k + 1 => by
    unfold pls
    rw [List.length_append]
    have := popP_len (ltW X k) (pls X k)
    have := pls_len X k
    simp only [List.length_singleton]; omega
theorem wsD_get {X : List Ws} {j : Nat} (h : j < X.length) : (X.map Ws.d)[j]? = some (X.getD j nilW).d := by
  rw [List.getElem?_map, List.getElem?_eq_getElem h, List.getD_eq_getElem?_getD, List.getElem?_eq_getElem h]; rfl
theorem snoc_of {l : List Nat} (h : l ≠ []) : ∃ r j, l = r ++ [j] := ⟨l.dropLast, l.getLast h, (List.dropLast_concat_getLast h).symm⟩

theorem fn_piles (w : World) (X : List Ws) (hX : X.length ≤ 100) (ok : ∀ x ∈ X, x.Ok) : Fn w 3 202 [.list (X.map Ws.d)] (.list [.list ((List.range X.length).map fun k => pileD (pls X (k + 1))), .list []]) := by
  refine Fn.of_run (κ := 2) (xs := ["leads"]) (F_piles w) (by decide +kernel) (own2_of (sc := fnSc (topS 16)) (by decide +kernel)) rfl (fun vs h => ?_) rfl fun A hA => ?_
  · match vs, h with
    | [a], _ => kernel_rfl
  · show Run w A (fnSc (topS 16)) _ _ (fnBody (topS 16)) _ _ _
    have hb : bigL = 100000 := rfl
    have oks : ∀ j, j < X.length → (X.getD j nilW).Ok := fun j h => by
      rw [List.getD_eq_getElem?_getD, List.getElem?_eq_getElem h]
      exact ok _ (List.getElem_mem h)
    refine Run.cons (Run1.tupNS (xs := ["piles", "pile", "says"]) (ks := [none, none, none]) hA (.lst (.lst (.lst .nil))) (own2_of (sc := fnSc (topS 16)) (by decide +kernel)) rfl (by decide) (fun _ => rfl)
      (fun env ok => sw_names3 ok.bk (ok.lk _ (by decide +kernel)) (ok.lk _ (by decide +kernel)) (ok.lk _ (by decide +kernel)) (by decide +kernel) (by decide +kernel) (by decide +kernel) (by decide +kernel) (by decide +kernel) (by decide +kernel)) (fun ds μn no _ => ?_))
    cases no with
    | @lst a _ _ _ na no =>
    cases no with
    | @lst b _ _ _ nb no =>
    cases no with
    | @lst c _ _ _ nc no =>
    cases no
    have hca : (c == a) = false := by
      cases q : c == a with
      | false => rfl
      | true => exact absurd (by rw [beq_iff_eq.mp q]; simp) (na (.lst []))
    have hac : a ≠ c := fun q => by rw [q] at hca; simp at hca
    refine RunOn.settle (μ1 := [(a, .lst [])]) (μ2 := [(c, .lst [])]) (x := "pile") (a := b) (ds := []) (by repeat' trivial) ?_
    refine Run.cons (Run1.for_ hA (ds := rangeD 0 X.length) (fun i δ' μ' => (∃ bs : List Bool, bs.length ≤ i * 101 ∧ μ' = [(a, .lst ((List.range i).map fun k => pileD (pls X (k + 1)))), (c, .lst (bs.map .bool))]) ∧
        Sub [(("pile" : Str), pileD (pls X i)), (("piles" : Str), D.adr a), (("says" : Str), D.adr c), (("leads" : Str), .list (X.map Ws.d))] δ')
      (Evi.range hA (Evs.range1 (blt_range w (by decide +kernel)) (Evs.cast ?_ (Evs.callB hA (blt_len w (by decide +kernel)) (ds := [.list (X.map Ws.d)]) (by repeat' trivial) (callB_len (by simp; omega)))) (by decide +kernel)) ⟨by omega, by omega⟩ ⟨by omega, by omega⟩) (fun _ _ => rfl) (.inl (by decide +kernel)) ?_ ?_ ?_)
    · simp
    · rintro i d δ' μ' hd ⟨⟨bs0, hbs0, rfl⟩, sb⟩
      rw [rangeD, List.getElem?_map] at hd
      obtain ⟨j, hj, rfl⟩ := Option.map_eq_some_iff.mp hd
      obtain ⟨q3, q4⟩ := List.getElem?_eq_some_iff.mp hj
      rw [List.getElem_range] at q4
      subst q4
      rw [List.length_range] at q3
      have hi : i < X.length := by omega
      have e : ((0 : Int) + (i : Nat)) = (i : Nat) := by omega
      rw [e]
      have hlen := pls_len X i
      refine RunOn.weak (δ' := [(("k" : Str), D.int i), (("pile" : Str), pileD (pls X i)), (("piles" : Str), D.adr a), (("says" : Str), D.adr c), (("leads" : Str), .list (X.map Ws.d))]) ?_ sb.push
      -- the pile, as the while loop leaves it
      refine Run.cons ((Run1.while_ (N := fun δ' μ' => ∃ (l : List Nat) (bs : List Bool), l = popP (ltW X i) (pls X i) ∧ l.length ≤ i ∧ bs.length ≤ i * 101 + 101 ∧
          μ' = [(a, .lst ((List.range i).map fun k => pileD (pls X (k + 1)))), (c, .lst (bs.map .bool))] ∧ Sub [(("k" : Str), D.int i), (("pile" : Str), pileD l), (("piles" : Str), D.adr a), (("says" : Str), D.adr c), (("leads" : Str), .list (X.map Ws.d))] δ')
        (fun n δ' μ' => ∃ (l : List Nat) (bs : List Bool), n = l.length ∧ popP (ltW X i) l = popP (ltW X i) (pls X i) ∧ (∀ j ∈ l, j < i) ∧ l.length ≤ i ∧ bs.length + l.length ≤ i * 101 + (pls X i).length ∧
          μ' = [(a, .lst ((List.range i).map fun k => pileD (pls X (k + 1)))), (c, .lst (bs.map .bool))] ∧
          Sub [(("k" : Str), D.int i), (("pile" : Str), pileD l), (("piles" : Str), D.adr a), (("says" : Str), D.adr c), (("leads" : Str), .list (X.map Ws.d))] δ') ?_ _
        ⟨pls X i, bs0, rfl, rfl, pls_lt X i, hlen, by omega, rfl, by repeat' trivial⟩).mono (fun δ1 μ1 ⟨l, bs, hl, hll, hbs, e1, sb1⟩ => ?_) (fun _ _ q => q) (fun _ q => q))
      · rintro n δ1 μ1 ⟨l, bs, rfl, hl1, hl2, hl3, hl4, rfl, sb1⟩
        by_cases hnil : l = []
        · left
          refine ⟨?_, l, bs, ?_, hl3, by omega, rfl, sb1⟩
          · exact Tru.neL hA (x := pileD l) (y := .list []) (Evs.name (by decide +kernel) (sb1 _ _ (by repeat' trivial))) (Evs.list EvsL.nil (by show 0 ≤ 100000; decide)) (Pl.ints _ _) (Pl.nil (n := 0)) (by decide) (by decide) (by decide +kernel) (by rw [eqv_nil]; simp [hnil])
          · rw [← hl1, hnil]; rfl
        · right
          obtain ⟨r, j, rfl⟩ := snoc_of hnil
          have hj : j < i := hl2 j (by simp)
          have hrl : r.length + 1 ≤ i := by simpa using hl3
          have hjX : j < X.length := Nat.lt_trans hj hi
          refine ⟨?_, RunOn.weak ?_ sb1⟩
          · exact Tru.neL hA (x := pileD (r ++ [j])) (y := .list []) (Evs.name (by decide +kernel) (sb1 _ _ (by repeat' trivial))) (Evs.list EvsL.nil (by show 0 ≤ 100000; decide)) (Pl.ints _ _) (Pl.nil (n := 0)) (by decide) (by decide) (by decide +kernel) (by rw [eqv_nil]; simp)
          have hlast : (List.map (fun j : Nat => D.int j) (r ++ [j])).getLast? = some (.int j) := by simp
          have hsz : bs.length ≤ bigL := by omega
          refine Run.cons (Run1.append (a := c) (ds := bs.map .bool) (d := .bool (ltW X i j)) (by decide +kernel) (by repeat' trivial) (by simp) ?_ (by decide +kernel) (by simp; omega) (by decide +kernel) ?_)
          · refine Evs.methWs (κ := 2) hA (Evs.item (x := .list (X.map Ws.d)) (y := .int j) (by repeat' trivial) (Evs.item (x := pileD (r ++ [j])) (y := .int (-1)) (by repeat' trivial) (Evs.neg Evs.int) (by decide +kernel) (itemD_last ⟨by simp, by simp; omega⟩ hlast)) (by decide +kernel) (itemD_list ⟨by omega, by omega⟩ (by rw [Int.toNat_natCast]; exact wsD_get hjX)))
              (by decide +kernel) (M_less w) (F_less w) (fn_less w (X.getD j nilW) (X.getD i nilW) (oks j hjX) (oks i hi)) (EvsL.cons (by decide +kernel) (Evs.item (x := .list (X.map Ws.d)) (y := .int i) (by repeat' trivial) (by repeat' trivial) (by decide +kernel) (itemD_list ⟨by omega, by omega⟩ (by rw [Int.toNat_natCast]; exact wsD_get hi))) .nil) (by decide +kernel) (by decide +kernel)
          have e5 : setMu [(a, .lst ((List.range i).map fun k => pileD (pls X (k + 1)))), (c, .lst (bs.map .bool))] c (.lst (bs.map .bool ++ [.bool (ltW X i j)])) = [(a, .lst ((List.range i).map fun k => pileD (pls X (k + 1)))), (c, .lst ((bs ++ [ltW X i j]).map .bool))] := by
            simp [setMu, hac]
          rw [e5]
          refine Run.cons (Run1.ifF (b := ltW X i j) (Tru.val (Evs.item (x := .list ((bs ++ [ltW X i j]).map .bool)) (y := .int (-1)) (Evs.name (by decide +kernel) (fzD_own (a := c) (by repeat' trivial) ?_)) (Evs.neg Evs.int) (by decide +kernel) (itemD_last ⟨by simp, by simp; omega⟩ (by simp))) (fun _ _ => rfl)) (fun q => Run.cons (Run1.brk ?_)) (fun q => Run.nil ?_))
          · rw [List.lookup_cons, hca, List.lookup_cons]; simp
          · refine ⟨r ++ [j], bs ++ [ltW X i j], ?_, hl3, ?_, rfl, by repeat' trivial⟩
            · rw [← hl1, popP_snoc, if_pos q]
            · simp at hl4 ⊢; omega
          · refine Run.cons (Run1.assign (x := pileD r) (Evs.slice (x := pileD (r ++ [j])) (by repeat' trivial) .none (.some (Evs.neg Evs.int)) .none ?_) (.inl (by decide +kernel)) (fun _ _ => rfl) (Run.nil ⟨r.length, by simp, r, bs ++ [ltW X i j], rfl, ?_, fun j m => hl2 j (by simp [m]), by omega, ?_, rfl, by repeat' trivial⟩))
            · show (if _ then _ else _) = _
              rw [if_pos ⟨by simp; omega, by simp⟩, sliceL_init]
              simp
            · rw [← hl1, popP_snoc, if_neg (by rw [q]; decide)]
            · simp at hl4 ⊢; omega
      · subst e1
        refine RunOn.weak ?_ sb1
        have e3 : pls X (i + 1) = l ++ [i] := by rw [hl]; rfl
        refine Run.cons (Run1.assign (x := pileD (pls X (i + 1))) (Evs.cast ?_ (Evs.bin (x := pileD l) (y := .list [.int i]) (by repeat' trivial) (Evs.list (by repeat' trivial) (by show 1 ≤ 100000; decide)) (binD_list (by simp; omega)))) (.inl (by decide +kernel)) (fun _ _ => rfl) ?_)
        · rw [e3]; simp
        · refine Run.cons (Run1.append (a := a) (ds := (List.range i).map fun k => pileD (pls X (k + 1))) (d := pileD (pls X (i + 1))) (by decide +kernel) (by repeat' trivial) (by simp) (by repeat' trivial) (by decide +kernel) (by simp; omega) (by decide +kernel) (Run.nil ⟨⟨bs, by omega, ?_⟩, ?_⟩))
          · simp [setMu, List.range_succ]
          · repeat' trivial
    · rintro δ' μ' ⟨⟨bs, hbs, rfl⟩, sb⟩
      refine RunOn.weak ?_ sb
      have hbs2 : bs.length ≤ 100000 := by
        simp only [rangeD, List.length_map, List.length_range] at hbs; omega
      refine Run.cons (Run1.retF (d := .list [.list ((List.range X.length).map fun k => pileD (pls X (k + 1))), .list []]) (Evs.list (EvsL.cons (by decide +kernel) (Evs.name (by decide +kernel) (fzD_own (a := a) (by repeat' trivial) ?_)) (EvsL.cons (by decide +kernel) (Evs.cast ?_
        (Evs.compIf (l := bs) (inj := .bool) (fun _ => false) (fun _ => .none) hA (In.of (by decide +kernel)) (fun _ _ => rfl) (Evi.list hA (Evs.name (by decide +kernel) (fzD_own (a := c) (by repeat' trivial) ?_))) (.inl (by decide +kernel)) (fun c _ => ?_) (fun c _ q => by cases q) (by omega))) .nil)) (by show 2 ≤ 100000; decide)) rfl)
      · simp [rangeD]
      · simp
      · rw [List.lookup_cons, hca, List.lookup_cons]; simp
      · exact Tru.not (b := true) (Tru.val (Evs.callB hA (blt_isi w (by decide +kernel)) (EvsL.cons (by decide +kernel) (by repeat' trivial) (EvsL.cons (by decide +kernel) (Evs.ty (blt_bool w (by decide +kernel))) .nil)) callB_isi) (fun _ _ => rfl))
    · exact ⟨⟨[], Nat.zero_le _, rfl⟩, by repeat' trivial⟩
end
-- part B10
section
open PySem PySem.W PyProof.Rows PySem.Calls


/-! binding with defaults: the reads are peeled one by one -/
noncomputable def contOf {α : Type} : Sem α → Obj → Sem α
  | .load _ _ k, o => k o
  | t, _ => t
theorem bind_two {s : Shared} {fd : FuncData} {args : Args} {binds : List (Str × Value)} {T D' : Addr} {p1 p2 : Option Value} {o1 o2 : Obj} (g1 : s.heap.get? T = some o1) (g2 : s.heap.get? D' = some o2)
    (h1 : bindArgs fd args = .load T p1 (contOf (bindArgs fd args))) (h2 : contOf (bindArgs fd args) o1 = .load D' p2 (contOf (contOf (bindArgs fd args) o1))) (h3 : contOf (contOf (bindArgs fd args) o1) o2 = pure binds) : BindsTo s fd args binds := fun M A E Q q => by
  rw [h1]
  refine nd_load g1 ?_
  rw [h2]
  refine nd_load g2 ?_
  rw [h3]
  exact wpAny_pure q
theorem bind_one {s : Shared} {fd : FuncData} {args : Args} {binds : List (Str × Value)} {T : Addr} {p1 : Option Value} {o1 : Obj} (g1 : s.heap.get? T = some o1)
    (h1 : bindArgs fd args = .load T p1 (contOf (bindArgs fd args))) (h3 : contOf (bindArgs fd args) o1 = pure binds) : BindsTo s fd args binds := fun M A E Q q => by
  rw [h1]
  refine nd_load g1 ?_
  rw [h3]
  exact wpAny_pure q
noncomputable def obAt (w : World) (a : Addr) : Obj := ((KF w.params).lookup a).getD default
theorem F_insR (w : World) : FnAt w 96 (fdAt w 96) := .mk' (s := topS 4) (by decide +kernel) rfl ⟨_, rfl, rfl⟩ ⟨_, _, _, _, rfl, rfl, rfl, rfl⟩ rfl rfl rfl rfl rfl rfl
theorem F_bisR (w : World) : FnAt w 105 (fdAt w 105) := .mk' (s := topS 5) (by decide +kernel) rfl ⟨_, rfl, rfl⟩ ⟨_, _, _, _, rfl, rfl, rfl, rfl⟩ rfl rfl rfl rfl rfl rfl
theorem F_insL (w : World) : FnAt w 114 (fdAt w 114) := .mk' (s := topS 6) (by decide +kernel) rfl ⟨_, rfl, rfl⟩ ⟨_, _, _, _, rfl, rfl, rfl, rfl⟩ rfl rfl rfl rfl rfl rfl
theorem F_bisL (w : World) : FnAt w 123 (fdAt w 123) := .mk' (s := topS 7) (by decide +kernel) rfl ⟨_, rfl, rfl⟩ ⟨_, _, _, _, rfl, rfl, rfl, rfl⟩ rfl rfl rfl rfl rfl rfl

theorem bL2a (w : World) (a x : Value) : bindArgs (fdAt w 123) ⟨[a, x], []⟩ = .load 115 none (contOf (bindArgs (fdAt w 123) ⟨[a, x], []⟩)) := by kernel_rfl
theorem bL2b (w : World) (a x : Value) : contOf (bindArgs (fdAt w 123) ⟨[a, x], []⟩) (obAt w 115) = .load 116 (some (.str "key" 0)) (contOf (contOf (bindArgs (fdAt w 123) ⟨[a, x], []⟩) (obAt w 115))) := by kernel_rfl
theorem bL2c (w : World) (a x : Value) : contOf (contOf (bindArgs (fdAt w 123) ⟨[a, x], []⟩) (obAt w 115)) (obAt w 116) = pure [(("a" : Str), a), (("x" : Str), x), (("lo" : Str), .int 0 338), (("hi" : Str), .none), (("key" : Str), .none)] := by kernel_rfl
theorem bLk2a (w : World) (a x k : Value) : bindArgs (fdAt w 123) ⟨[a, x], [("key", k)]⟩ = .load 115 none (contOf (bindArgs (fdAt w 123) ⟨[a, x], [("key", k)]⟩)) := by kernel_rfl
theorem bLk2c (w : World) (a x k : Value) : contOf (bindArgs (fdAt w 123) ⟨[a, x], [("key", k)]⟩) (obAt w 115) = pure [(("a" : Str), a), (("x" : Str), x), (("lo" : Str), .int 0 338), (("hi" : Str), .none), (("key" : Str), k)] := by kernel_rfl
theorem bLk4a (w : World) (a x lo hi k : Value) : bindArgs (fdAt w 123) ⟨[a, x, lo, hi], [("key", k)]⟩ = .load 115 none (contOf (bindArgs (fdAt w 123) ⟨[a, x, lo, hi], [("key", k)]⟩)) := by kernel_rfl
theorem bLk4c (w : World) (a x lo hi k : Value) : contOf (bindArgs (fdAt w 123) ⟨[a, x, lo, hi], [("key", k)]⟩) (obAt w 115) = pure [(("a" : Str), a), (("x" : Str), x), (("lo" : Str), lo), (("hi" : Str), hi), (("key" : Str), k)] := by kernel_rfl
theorem bR2a (w : World) (a x : Value) : bindArgs (fdAt w 105) ⟨[a, x], []⟩ = .load 97 none (contOf (bindArgs (fdAt w 105) ⟨[a, x], []⟩)) := by kernel_rfl
theorem bR2b (w : World) (a x : Value) : contOf (bindArgs (fdAt w 105) ⟨[a, x], []⟩) (obAt w 97) = .load 98 (some (.str "key" 0)) (contOf (contOf (bindArgs (fdAt w 105) ⟨[a, x], []⟩) (obAt w 97))) := by kernel_rfl
theorem bR2c (w : World) (a x : Value) : contOf (contOf (bindArgs (fdAt w 105) ⟨[a, x], []⟩) (obAt w 97)) (obAt w 98) = pure [(("a" : Str), a), (("x" : Str), x), (("lo" : Str), .int 0 311), (("hi" : Str), .none), (("key" : Str), .none)] := by kernel_rfl
theorem bRk2a (w : World) (a x k : Value) : bindArgs (fdAt w 105) ⟨[a, x], [("key", k)]⟩ = .load 97 none (contOf (bindArgs (fdAt w 105) ⟨[a, x], [("key", k)]⟩)) := by kernel_rfl
theorem bRk2c (w : World) (a x k : Value) : contOf (bindArgs (fdAt w 105) ⟨[a, x], [("key", k)]⟩) (obAt w 97) = pure [(("a" : Str), a), (("x" : Str), x), (("lo" : Str), .int 0 311), (("hi" : Str), .none), (("key" : Str), k)] := by kernel_rfl
theorem bRk4a (w : World) (a x lo hi k : Value) : bindArgs (fdAt w 105) ⟨[a, x, lo, hi], [("key", k)]⟩ = .load 97 none (contOf (bindArgs (fdAt w 105) ⟨[a, x, lo, hi], [("key", k)]⟩)) := by kernel_rfl
theorem bRk4c (w : World) (a x lo hi k : Value) : contOf (bindArgs (fdAt w 105) ⟨[a, x, lo, hi], [("key", k)]⟩) (obAt w 97) = pure [(("a" : Str), a), (("x" : Str), x), (("lo" : Str), lo), (("hi" : Str), hi), (("key" : Str), k)] := by kernel_rfl
theorem iLk2a (w : World) (a x k : Value) : bindArgs (fdAt w 114) ⟨[a, x], [("key", k)]⟩ = .load 106 none (contOf (bindArgs (fdAt w 114) ⟨[a, x], [("key", k)]⟩)) := by kernel_rfl
theorem iLk2c (w : World) (a x k : Value) : contOf (bindArgs (fdAt w 114) ⟨[a, x], [("key", k)]⟩) (obAt w 106) = pure [(("a" : Str), a), (("x" : Str), x), (("lo" : Str), .int 0 325), (("hi" : Str), .none), (("key" : Str), k)] := by kernel_rfl
theorem iRk2a (w : World) (a x k : Value) : bindArgs (fdAt w 96) ⟨[a, x], [("key", k)]⟩ = .load 88 none (contOf (bindArgs (fdAt w 96) ⟨[a, x], [("key", k)]⟩)) := by kernel_rfl
theorem iRk2c (w : World) (a x k : Value) : contOf (bindArgs (fdAt w 96) ⟨[a, x], [("key", k)]⟩) (obAt w 88) = pure [(("a" : Str), a), (("x" : Str), x), (("lo" : Str), .int 0 298), (("hi" : Str), .none), (("key" : Str), k)] := by kernel_rfl

section
variable {w : World} {A : Around} {sc scope : Scope} {env cenv : Env} {h0 hb0 hb h hb' h' : Heap} {δ δ' : Dm} {μ μ' : Mu} {pos p pn : Pos} {N B : Pm} {R : D → Prop} {s : Shared} {E : Value → Shared → Prop}
theorem lookup_rev : ∀ (bs : List (Str × Value)) (x : Str) (v : Value), (bs.map (·.1)).Nodup → (x, v) ∈ bs → bs.reverse.lookup x = some v := by
  intro bs x v nd m
  have h1 : (bs.reverse.map (·.1)).Nodup := by rw [List.map_reverse]; exact ((List.reverse_perm _).nodup_iff).mpr nd
  have m1 : (x, v) ∈ bs.reverse := List.mem_reverse.mpr m
  generalize bs.reverse = l at h1 m1
  induction l with
  | nil => cases m1
  | cons q r ih =>
    obtain ⟨y, u⟩ := q
    rw [List.map_cons, List.nodup_cons] at h1
    rw [List.lookup_cons]
    rcases List.mem_cons.mp m1 with e | m2
    · cases e; simp
    · have : (x == y) = false := by
        cases q : x == y with
        | false => rfl
        | true => exact absurd (List.mem_map.mpr ⟨_, m2, beq_iff_eq.mp q⟩) h1.1
      rw [this]; exact ih h1.2 m2
theorem zip_unz : ∀ bs : List (Str × Value), (bs.map (·.1)).zip (bs.map (·.2)) = bs
  | [] => rfl
  | q :: r => by simp [zip_unz r]
/-- a def without cells is entered, whatever binds its names -/
theorem enterK {κ : Nat} {fd : FuncData} {a : Addr} {args : Args} {binds : List (Str × Value)} {ds : List D} {body : List Stmt} (F : FnAt w a fd) (hA : OkA (κ + 1) A) (gd : Gd w hb) (hx : Ext hb h) (hcell : ∀ p ∈ fd.scope.names, p.2 ≠ .cell)
    (s : Shared) (Q : Value → Shared → Prop) (E : Value → Shared → Prop) (es : s.heap = h) (hbind : BindsTo s fd args binds) (hv : HasL hb (binds.map (·.2)) ds) (hloc : ∀ x ∈ binds, fd.scope.names.lookup x.1 = some .local) (nd : (binds.map (·.1)).Nodup) (hbody : fd.body = .stmts body)
    (k : ∀ env h1 tk E', OkA κ (A.deeper env) → St w fd.scope env h hb ((binds.map (·.1)).zip ds) [] hb h1 → wpAny (model PW w) (A.deeper env) (execs body env) (fun f s' => Q (match f with | .ret v => v | _ => .none) s') E' { s with heap := h1, toks := tk }) :
    wpAny (model PW w) A (call (.ref a) args.pos args.kw) Q E s := by
  subst es
  obtain ⟨o, ho1, ho2⟩ := F.fn
  obtain ⟨c, oc, vc, t, e1, e2, e3, e4⟩ := F.code
  have code : s.heap.CodeRec fd.code fd.qualname := ⟨c, oc, vc, t, e1, hx _ _ (gd.k _ _ e2), e3, e4⟩
  refine wpAny_call (codeAny_call_def (by have := hA.dep; show A.depth < 1000; omega) (hx _ _ (gd.k _ _ ho1)) ho2 (gd.nolimit.keeps hx) code hbody hbind hcell hloc (fun h1 ns ext => ?_) F.co F.gen F.kind)
  refine k _ h1 _ _ (hA.deeper _) ?_
  have noc : ∀ y, fd.scope.names.lookup y ≠ some .cell := fun y e => hcell _ (mem_of_look e) rfl
  have nof : ∀ y, fd.scope.names.lookup y ≠ some .free := fun y e => F.nofree _ (mem_of_look e) rfl
  have nocl : ∀ y c, (callEnv fd s.heap.objs.size a).cells.lookup y ≠ some c := fun y c => by
    show fd.closure.lookup y ≠ _
    rw [F.clo]; intro q; cases q
  refine ⟨⟨ext, .refl _, fun b o e => ext b o (hx b o e), fun _ _ e => .inl e⟩, gd, ⟨⟨F.kind, F.glob, F.blt, fun y e => e, fun y e => e, fun y e => e, fun y e => absurd e (nof y), fun y e => ?_, fun x y c e => absurd e (nocl x c), F.asked⟩, fun y d e => ?_, fun y c e => absurd e (nocl y c)⟩, ⟨_, ns⟩, fun y c k e => absurd e (nocl y c), fun b o => ?_, fun _ _ m => (by cases m), .nil⟩
  · rcases e with e | e
    · exact absurd e (noc y)
    · exact absurd e (nof y)
  · obtain ⟨v, m, hvd⟩ := zip_look _ _ _ _ _ hv e
    have m2 : (y, v) ∈ binds := by rw [zip_unz] at m; exact m
    exact ⟨v, .inl ⟨hloc _ m2, _, ns, lookup_rev binds y v nd m2⟩, hvd⟩
  · rcases o with rfl | ⟨y, _, e⟩
    · exact new_out (Step.refl hx) (Nat.le_refl _)
    · exact absurd e (nocl y b)

theorem call_lam {κ : Nat} {v lv : Value} {l : List Int} {x : Int} (hA : OkA (κ + 1) A) (gd : Gd w hb) (hx : Ext hb h) (hlam : Has hb lv .lam) (hv : Has hb v (.list (l.map .int))) (hl : l.getLast? = some x) (hll : l.length ≤ bigL) :
    Tri w A (call lv [v] []) hb h fun r hb' => Has hb' r (.int x) := by
  intro s Q E es q
  subst es
  cases hlam with
  | lam e d k c =>
  rename_i a o fd
  have code : s.heap.CodeRec fd.code fd.qualname := by rw [k.qual]; exact c.keeps hx
  obtain ⟨p1, p2, p3, p4, kk, hbody⟩ := k.body
  refine wpAny_call (kla_callFunE (by have := hA.dep; show A.depth < 1000; omega) (hx _ _ e) d k.co k.gen hbody code ?_)
  rw [k.bind, k.clo]
  refine wpAny_pure (wpAny_newFunctionEnv (fun p m => (k.cells p m).1) (fun p m => by obtain rfl := List.mem_singleton.mp m; exact k.loc) (fun h0 ns sb => ⟨gd.nolimit.keeps (fun b o e => sb.extBut b o (Nat.ne_of_lt (Heap.lt_size (hx b o e))) (Heap.get?_push_of_some _ (hx b o e))), kla_codeExpr ?_⟩) k.kind)
  have ext : Ext s.heap h0 := fun b o e => sb.extBut b o (Nat.ne_of_lt (Heap.lt_size e)) (Heap.get?_push_of_some _ e)
  have st : Step hb s.heap hb h0 := ⟨ext, .refl _, fun b o e => ext b o (hx b o e), fun _ _ e => .inl e⟩
  have c0 : Ctx w fd.scope (newEnv fd.scope s.heap.objs.size fd.globals [] (fd.qualname ++ ".<locals>.") (some a) fd.code none fd.builtins) [(("pile" : Str), .list (l.map .int))] hb h0 := by
    refine ⟨gd, st.inn, ⟨⟨k.kind, k.glob, k.blt, fun y e => e, fun y e => e, fun y e => e, fun y e => absurd rfl (k.cells _ (mem_of_look e)).2, fun y e => ?_, fun x y c e => ?_, fun e => ?_⟩, fun y dd e => ?_, fun y c e => ?_⟩⟩
    · rcases e with e | e
      · exact absurd rfl (k.cells _ (mem_of_look e)).1
      · exact absurd rfl (k.cells _ (mem_of_look e)).2
    · cases e
    · exact absurd (by simpa [isAsked] using e) k.no
    · rw [List.lookup_cons] at e
      cases z : y == ("pile" : Str) with
      | true =>
        rw [z] at e; cases e
        rw [beq_iff_eq.mp z]
        refine ⟨v, .inl ⟨k.loc, _, ns, ?_⟩, hv⟩
        show List.lookup _ [(("pile" : Str), v)] = _
        rw [List.lookup_cons]; simp
      | false => rw [z] at e; cases e
    · cases e
  have ev : Evs w (A.deeper (newEnv fd.scope s.heap.objs.size fd.globals [] (fd.qualname ++ ".<locals>.") (some a) fd.code none fd.builtins)) fd.scope [(("pile" : Str), .list (l.map .int))] (.Subscript (.Name "pile" p1) (.UnaryOp .USub (.Constant (.int 1) kk p2) p3) p4) (.int x) :=
    Evs.item (x := .list (l.map .int)) (y := .int (-1)) (Evs.name (by decide +kernel) lookup_hd) (Evs.neg Evs.int) rfl (itemD_last ⟨by
      cases l with
      | nil => cases hl
      | cons y r => simp, by simpa using hll⟩ (by rw [List.getLast?_map, hl]; rfl))
  exact ev.run _ hb h0 c0 _ _ _ rfl fun r hb2 h2 tk2 st2 hr => q r hb2 h2 tk2 (st.trans st2) hr
end
end
-- part B11
section
open PySem PySem.W PyProof.Rows PySem.Calls


theorem count_of (P : Nat → Bool) (r : Nat) (h1 : ∀ i, i < r → P i = true) : ∀ n, r ≤ n → (∀ i, r ≤ i → i < n → P i = false) → (List.range n).countP P = r
  | 0, hr, _ => by
    have : r = 0 := by omega
    rw [this]; rfl
  | n + 1, hr, h2 => by
    rw [List.range_succ, List.countP_append]
    by_cases q : r = n + 1
    · have a : (List.range n).countP P = n := by
        have := (List.countP_eq_length (p := P) (l := List.range n)).mpr fun i m => h1 i (by have := List.mem_range.mp m; omega)
        rw [this, List.length_range]
      rw [a, q]
      simp [h1 n (by omega)]
    · rw [count_of P r h1 n (by omega) fun i a b => h2 i a (by omega)]
      simp [h2 n (by omega) (by omega)]

section
variable {w : World} {A : Around} {sc scope : Scope} {δ δ' : Dm} {μ μ' : Mu} {pos p pn : Pos} {N B : Pm} {R : D → Prop}
noncomputable abbrev dmB (lo hi : Nat) (base : Dm) : Dm := (("lo" : Str), .int lo) :: (("hi" : Str), .int hi) :: base
/-- the loop of a bisection -/
theorem bis_loop {n : Nat} (P : Nat → Bool) (mono : ∀ i j, i ≤ j → j < n → P j = true → P i = true) (hn : n ≤ 100000) {base : Dm} {ifS : Stmt} {p1 p2 p3 p4 p5 p6 p7 p8 p9 p10 p12 : Pos} {k8 : Nat} (hm : own2 sc "mid")
    (hif : ∀ (lo hi mid : Nat) (N' : Pm), mid < n → (P mid = true → N' ((("lo" : Str), .int (mid + 1 : Nat)) :: (("mid" : Str), .int mid) :: dmB lo hi base) []) → (P mid = false → N' ((("hi" : Str), .int mid) :: (("mid" : Str), .int mid) :: dmB lo hi base) []) →
      Run1 w A sc ((("mid" : Str), .int mid) :: dmB lo hi base) [] ifS N' (fun _ _ => False) R)
    (hb : ∀ x, (base.lookup x).isSome = true → x ≠ "lo" ∧ x ≠ "hi" ∧ x ≠ "mid")
    (hN : ∀ δ', Sub ((("lo" : Str), .int ((List.range n).countP P : Nat)) :: base) δ' → N δ' []) (hB : ∀ δ' μ', B δ' μ' ↔ False) :
    Run1 w A sc (dmB 0 n base) [] (.While (.Compare (.Name "lo" p1) [.Lt] [.Name "hi" p2] p3) [.Assign [.Name "mid" p4] (.BinOp (.BinOp (.Name "lo" p5) .Add (.Name "hi" p6) p7) .FloorDiv (.Constant (.int 2) k8 p8) p9) p10, ifS] [] p12) N B R := by
  have keepBase : ∀ {x : Str} {d : D} {δ' : Dm}, (x = "lo" ∨ x = "hi" ∨ x = "mid") → Sub base δ' → Sub base ((x, d) :: δ') := fun {x d δ'} hx sb y e q => by
    have h1 := hb y (by rw [q]; rfl)
    rw [List.lookup_cons]
    have : (y == x) = false := by
      cases z : y == x with
      | false => rfl
      | true =>
        have z := beq_iff_eq.mp z
        rcases hx with h | h | h <;> rw [h] at z
        · exact absurd z h1.1
        · exact absurd z h1.2.1
        · exact absurd z h1.2.2
    rw [this]; exact sb y e q
  have sbase : ∀ lo hi, Sub base (dmB lo hi base) := fun lo hi => keepBase (.inl rfl) (keepBase (.inr (.inl rfl)) fun _ _ q => q)
  refine Run1.while_ (fun k δ' μ' => ∃ lo hi, k = hi - lo ∧ lo ≤ hi ∧ hi ≤ n ∧ (∀ i, i < lo → P i = true) ∧ (∀ i, hi ≤ i → i < n → P i = false) ∧ μ' = [] ∧ Sub (dmB lo hi base) δ') ?_ n ⟨0, n, by omega, Nat.zero_le _, Nat.le_refl _, fun i h => absurd h (Nat.not_lt_zero _), fun i a b => by omega, rfl, fun _ _ q => q⟩
  rintro k δ1 μ1 ⟨lo, hi, rfl, h1, h2, h3, h4, rfl, sb⟩
  have hlo : (dmB lo hi base).lookup ("lo" : Str) = some (.int lo) := lookup_hd
  have hhi : (dmB lo hi base).lookup ("hi" : Str) = some (.int hi) := lookup_tl (by decide +kernel) lookup_hd
  have ht : Tru w A sc δ1 (.Compare (.Name "lo" p1) [.Lt] [.Name "hi" p2] p3) (decide (lo < hi)) := Tru.cast (by simp only [decide_eq_decide]; omega) (Tru.cmp (x := .int lo) (y := .int hi) (Evs.name (by decide +kernel) (sb _ _ hlo)) (Evs.name (by decide +kernel) (sb _ _ hhi)) rfl (by rfl))
  by_cases q : lo < hi
  · right
    rw [decide_eq_true q] at ht
    refine ⟨ht, RunOn.weak ?_ sb⟩
    have hmid : (lo + hi) / 2 < hi ∧ lo ≤ (lo + hi) / 2 := by omega
    refine Run.cons (Run1.assign (x := .int ((lo + hi) / 2 : Nat)) (Evs.cast (a := .int (((lo : Int) + hi).fdiv 2)) ?_ (Evs.bin (x := .int (lo + hi)) (y := .int 2) (Evs.bin (x := .int lo) (y := .int hi) (Evs.name (by decide +kernel) hlo) (Evs.name (by decide +kernel) hhi) rfl) Evs.int (binD_div (by omega)))) hm (fun _ _ => rfl) ?_)
    · rw [Int.fdiv_eq_ediv_of_nonneg _ (by omega)]
      refine congrArg D.int ?_
      omega
    generalize (lo + hi) / 2 = mid at hmid
    refine Run.cons ((hif lo hi mid (fun δ' μ' => ∃ m, m < hi - lo ∧ ∃ lo hi, m = hi - lo ∧ lo ≤ hi ∧ hi ≤ n ∧ (∀ i, i < lo → P i = true) ∧ (∀ i, hi ≤ i → i < n → P i = false) ∧ μ' = [] ∧ Sub (dmB lo hi base) δ') (by omega) (fun hp => ?_) (fun hp => ?_)).mono (fun _ _ q => Run.nil q) (fun _ _ q => q.elim) (fun _ q => q))
    · refine ⟨hi - (mid + 1), by omega, mid + 1, hi, rfl, by omega, h2, fun i hi' => mono i mid (by omega) (by omega) hp, h4, rfl, ?_⟩
      refine Sub.cons lookup_hd (Sub.cons (lookup_tl (by decide +kernel) (lookup_tl (by decide +kernel) hhi)) (keepBase (.inl rfl) (keepBase (.inr (.inr rfl)) (sbase lo hi))))
    · refine ⟨mid - lo, by omega, lo, mid, rfl, by omega, by omega, h3, fun i a b => ?_, rfl, ?_⟩
      · cases z : P i with
        | false => rfl
        | true => have := mono mid i a b z; rw [hp] at this; cases this
      · refine Sub.cons (lookup_tl (by decide +kernel) (lookup_tl (by decide +kernel) hlo)) (Sub.cons lookup_hd (keepBase (.inr (.inl rfl)) (keepBase (.inr (.inr rfl)) (sbase lo hi))))
  · left
    rw [decide_eq_false q] at ht
    have e : lo = hi := by omega
    subst e
    refine ⟨ht, hN δ1 ?_⟩
    rw [count_of P lo h3 n h2 h4]
    exact Sub.cons (sb _ _ hlo) fun y d q => sb _ _ (sbase lo lo y d q)
end
end
-- part B12
section
open PySem PySem.W PyProof.Rows PySem.Calls


section
variable {w : World} {A : Around} {sc scope : Scope} {env : Env} {h0 hb0 hb h hb' h' : Heap} {δ δ' : Dm} {μ μ' : Mu} {pos p pn : Pos} {N B : Pm} {R : D → Prop}
theorem Evs.callLam {κ : Nat} {x : Str} {e : Expr} {l : List Int} {i : Int} (hA : OkA (κ + 1) A) (hp : plainName x = true) (hx : δ.lookup x = some .lam) (he : Evs w A sc δ e (.list (l.map .int))) (ns : notStar e = true) (hl : l.getLast? = some i) (hll : l.length ≤ bigL) :
    Evs w A sc δ (.Call (.Name x p) [e] [] pos) (.int i) :=
  ⟨fun env hb h c s Q E es' q => Call_Name rfl ((Evs.name hp hx).run env hb h c s _ E es' fun r hb1 h1 tk st hr => by
    cases hr with
    | lam eo d k cc =>
    have xs : EvsL w A sc δ [e] [_] := .cons ns he .nil
    refine Calls.callWith_function (evalArgs_ok xs (c.step st) _ _ E rfl fun a hb2 h2 tk2 st2 ha => ⟨⟨((c.step st).step st2).sub _ _ (st2.fz _ _ eo), d⟩, ?_⟩)
    rw [ha.1]
    obtain ⟨v, hv, hv2⟩ := ha.2.one
    rw [hv]
    exact call_lam hA ((c.step st).step st2).gd st2.inn (.lam (st2.fz _ _ eo) d k (cc.keeps st2.fz)) hv2 hl hll _ _ E rfl fun v hb3 h3 tk3 st3 hv => q v hb3 h3 tk3 ((st.trans st2).trans st3) hv)⟩

/-- called with ds and the lambda as key, the function at a gives d -/
noncomputable def FnK (w : World) (κ : Nat) (a : Addr) (ds : List D) (d : D) : Prop :=
  ∀ A hb h vs lv, OkA κ A → Gd w hb → Ext hb h → HasL hb vs ds → Has hb lv .lam → Tri w A (call (.ref a) vs [("key", lv)]) hb h fun v hb' => Has hb' v d

noncomputable def lst (l : List Nat) : Nat := l.getLast?.getD 0
noncomputable abbrev pilesD (L : List (List Nat)) : D := .list (L.map pileD)
theorem pile_ints (l : List Nat) : pileD l = .list ((l.map fun j : Nat => (j : Int)).map .int) := by rw [List.map_map]; rfl
theorem pilesD_get {L : List (List Nat)} {j : Nat} (h : j < L.length) : (L.map pileD)[j]? = some (pileD (L.getD j [])) := by
  rw [List.getElem?_map, List.getElem?_eq_getElem h, List.getD_eq_getElem?_getD, List.getElem?_eq_getElem h]; rfl
theorem last_int {l : List Nat} (h : l ≠ []) : (l.map fun j : Nat => (j : Int)).getLast? = some (lst l : Int) := by
  obtain ⟨r, j, rfl⟩ := snoc_of h
  simp [lst]
structure PilesOk (L : List (List Nat)) : Prop where
  len : L.length ≤ 1000
  ne : ∀ l ∈ L, l ≠ [] ∧ l.length ≤ 1000
  asc : ∀ i j, i ≤ j → j < L.length → lst (L.getD i []) ≤ lst (L.getD j [])
theorem PilesOk.at {L : List (List Nat)} (h : PilesOk L) {i : Nat} (hi : i < L.length) : L.getD i [] ≠ [] ∧ (L.getD i []).length ≤ 1000 := by
  rw [List.getD_eq_getElem?_getD, List.getElem?_eq_getElem hi]
  exact h.ne _ (List.getElem_mem hi)

noncomputable abbrev dm0 (A x K : D) : Dm := [(("a" : Str), A), (("x" : Str), x), (("lo" : Str), .int 0), (("hi" : Str), .none), (("key" : Str), K)]
noncomputable def bisLN (L : List (List Nat)) (x : Int) : Nat := (List.range L.length).countP fun i => decide ((lst (L.getD i []) : Int) < x)
noncomputable def bisRN (L : List (List Nat)) (x : Int) : Nat := (List.range L.length).countP fun i => decide ((lst (L.getD i []) : Int) ≤ x)
noncomputable def bisRI (l : List Int) (x : Int) : Nat := (List.range l.length).countP fun i => decide (l.getD i 0 ≤ x)
end

section
variable {w : World} {A : Around} {δ δ' : Dm} {μ μ' : Mu}
theorem runL {κ : Nat} (L : List (List Nat)) (x : Int) (ok : PilesOk L) (hA : OkA (κ + 1) A) :
    Run w A (fnSc (topS 7)) (dm0 (pilesD L) (.int x) .lam) [] (fnBody (topS 7)) (fun _ _ => False) (fun _ _ => False) (fun d => d = .int (bisLN L x)) := by
  have hb : bigL = 100000 := rfl
  have hlen := ok.len
  refine Run.cons (Run1.if_ (b := false) (Tru.cast ?_ (Tru.cmp (x := .int 0) (y := .int 0) (by repeat' trivial) (by repeat' trivial) rfl (by decide +kernel))) (fun q => by cases q) fun _ => Run.nil ?_)
  · rfl
  refine Run.cons (Run1.if_ (b := true) (Tru.cmp (x := .none) (y := .none) (by repeat' trivial) (by repeat' trivial) rfl (by decide +kernel)) (fun _ => ?_) fun q => by cases q)
  refine Run.cons (Run1.assign (x := .int L.length) (Evs.cast ?_ (Evs.callB hA (blt_len w (by decide +kernel)) (ds := [pilesD L]) (by repeat' trivial) (callB_len (by simp; omega)))) (.inl (by decide +kernel)) (fun _ _ => rfl) (Run.nil ?_))
  · simp
  refine Run.cons (Run1.if_ (b := false) (Tru.cmp (x := .lam) (y := .none) (by repeat' trivial) (by repeat' trivial) rfl (by decide +kernel)) (fun q => by cases q) fun _ => ?_)
  refine RunOn.weak (δ' := dmB 0 L.length [(("a" : Str), pilesD L), (("x" : Str), D.int x), (("key" : Str), D.lam)]) ?_ (by
    show Sub _ _
    repeat' trivial)
  refine Run.cons (bis_loop (n := L.length) (fun i => decide ((lst (L.getD i []) : Int) < x)) (fun i j h1 h2 h3 => ?_) (by omega) (.inl (by decide +kernel)) (fun lo hi mid N' hm h1 h2 => ?_) (fun y hy => ?_) (fun δ' sb => ?_) (fun _ _ => Iff.rfl))
  · have := ok.asc i j h1 h2
    simp only [decide_eq_true_eq] at h3 ⊢
    omega
  · obtain ⟨m1, m2⟩ := ok.at hm
    refine Run1.if_ (b := decide ((lst (L.getD mid []) : Int) < x)) (Tru.cmp (x := .int (lst (L.getD mid []))) (y := .int x) (Evs.callLam hA (by decide +kernel) (by repeat' trivial) (Evs.cast (pile_ints _) (Evs.item (x := pilesD L) (y := .int mid) (by repeat' trivial) (by repeat' trivial) (by decide +kernel) (itemD_list ⟨by omega, by omega⟩ (by rw [Int.toNat_natCast]; exact pilesD_get hm)))) (by decide +kernel) (last_int m1) (by rw [List.length_map]; omega)) (by repeat' trivial) rfl (by decide +kernel)) (fun q => ?_) (fun q => ?_)
    · refine Run.cons (Run1.assign (x := .int (mid + 1 : Nat)) (Evs.cast ?_ (Evs.bin (x := .int mid) (y := .int 1) (by repeat' trivial) Evs.int rfl)) (.inl (by decide +kernel)) (fun _ _ => rfl) (Run.nil (h1 q)))
      simp
    · exact Run.cons (Run1.assign (x := .int mid) (by repeat' trivial) (.inl (by decide +kernel)) (fun _ _ => rfl) (Run.nil (h2 q)))
  · have : y = "a" ∨ y = "x" ∨ y = "key" := by
      simp only [List.lookup_cons] at hy
      by_cases z1 : y = "a"
      · exact .inl z1
      by_cases z2 : y = "x"
      · exact .inr (.inl z2)
      by_cases z3 : y = "key"
      · exact .inr (.inr z3)
      rw [beq_false_of_ne z1, beq_false_of_ne z2, beq_false_of_ne z3] at hy
      cases hy
    rcases this with h | h | h <;> subst h <;> decide +kernel
  · refine RunOn.weak (Run.nil ?_) sb
    refine Run.cons (Run1.ret (d := .int (bisLN L x)) ?_ rfl)
    exact Evs.name (by decide +kernel) lookup_hd
theorem runR {κ : Nat} (L : List (List Nat)) (x : Int) (ok : PilesOk L) (hA : OkA (κ + 1) A) :
    Run w A (fnSc (topS 5)) (dm0 (pilesD L) (.int x) .lam) [] (fnBody (topS 5)) (fun _ _ => False) (fun _ _ => False) (fun d => d = .int (bisRN L x)) := by
  have hb : bigL = 100000 := rfl
  have hlen := ok.len
  refine Run.cons (Run1.if_ (b := false) (Tru.cast ?_ (Tru.cmp (x := .int 0) (y := .int 0) (by repeat' trivial) (by repeat' trivial) rfl (by decide +kernel))) (fun q => by cases q) fun _ => Run.nil ?_)
  · rfl
  refine Run.cons (Run1.if_ (b := true) (Tru.cmp (x := .none) (y := .none) (by repeat' trivial) (by repeat' trivial) rfl (by decide +kernel)) (fun _ => ?_) fun q => by cases q)
  refine Run.cons (Run1.assign (x := .int L.length) (Evs.cast ?_ (Evs.callB hA (blt_len w (by decide +kernel)) (ds := [pilesD L]) (by repeat' trivial) (callB_len (by simp; omega)))) (.inl (by decide +kernel)) (fun _ _ => rfl) (Run.nil ?_))
  · simp
  refine Run.cons (Run1.if_ (b := false) (Tru.cmp (x := .lam) (y := .none) (by repeat' trivial) (by repeat' trivial) rfl (by decide +kernel)) (fun q => by cases q) fun _ => ?_)
  refine RunOn.weak (δ' := dmB 0 L.length [(("a" : Str), pilesD L), (("x" : Str), D.int x), (("key" : Str), D.lam)]) ?_ (by
    show Sub _ _
    repeat' trivial)
  refine Run.cons (bis_loop (n := L.length) (fun i => decide ((lst (L.getD i []) : Int) ≤ x)) (fun i j h1 h2 h3 => ?_) (by omega) (.inl (by decide +kernel)) (fun lo hi mid N' hm h1 h2 => ?_) (fun y hy => ?_) (fun δ' sb => ?_) (fun _ _ => Iff.rfl))
  · have := ok.asc i j h1 h2
    simp only [decide_eq_true_eq] at h3 ⊢
    omega
  · obtain ⟨m1, m2⟩ := ok.at hm
    refine Run1.if_ (b := decide (x < (lst (L.getD mid []) : Int))) (Tru.cmp (x := .int x) (y := .int (lst (L.getD mid []))) (by repeat' trivial) (Evs.callLam hA (by decide +kernel) (by repeat' trivial) (Evs.cast (pile_ints _) (Evs.item (x := pilesD L) (y := .int mid) (by repeat' trivial) (by repeat' trivial) (by decide +kernel) (itemD_list ⟨by omega, by omega⟩ (by rw [Int.toNat_natCast]; exact pilesD_get hm)))) (by decide +kernel) (last_int m1) (by rw [List.length_map]; omega)) rfl (by decide +kernel)) (fun q => ?_) (fun q => ?_)
    · refine Run.cons (Run1.assign (x := .int mid) (by repeat' trivial) (.inl (by decide +kernel)) (fun _ _ => rfl) (Run.nil (h2 ?_)))
      simp only [decide_eq_true_eq, decide_eq_false_iff_not] at q ⊢; omega
    · refine Run.cons (Run1.assign (x := .int (mid + 1 : Nat)) (Evs.cast ?_ (Evs.bin (x := .int mid) (y := .int 1) (by repeat' trivial) Evs.int rfl)) (.inl (by decide +kernel)) (fun _ _ => rfl) (Run.nil (h1 ?_)))
      · simp
      · simp only [decide_eq_true_eq, decide_eq_false_iff_not] at q ⊢; omega
  · have : y = "a" ∨ y = "x" ∨ y = "key" := by
      simp only [List.lookup_cons] at hy
      by_cases z1 : y = "a"
      · exact .inl z1
      by_cases z2 : y = "x"
      · exact .inr (.inl z2)
      by_cases z3 : y = "key"
      · exact .inr (.inr z3)
      rw [beq_false_of_ne z1, beq_false_of_ne z2, beq_false_of_ne z3] at hy
      cases hy
    rcases this with h | h | h <;> subst h <;> decide +kernel
  · refine RunOn.weak (Run.nil ?_) sb
    refine Run.cons (Run1.ret (d := .int (bisRN L x)) ?_ rfl)
    exact Evs.name (by decide +kernel) lookup_hd
theorem intsD_get {l : List Int} {j : Nat} (h : j < l.length) : (l.map D.int)[j]? = some (.int (l.getD j 0)) := by
  rw [List.getElem?_map, List.getElem?_eq_getElem h, List.getD_eq_getElem?_getD, List.getElem?_eq_getElem h]; rfl
theorem runI {κ : Nat} (l : List Int) (x : Int) (hlen : l.length ≤ 1000) (asc : ∀ i j, i ≤ j → j < l.length → l.getD i 0 ≤ l.getD j 0) (hA : OkA κ A) :
    Run w A (fnSc (topS 5)) (dm0 (D.list (l.map .int)) (.int x) D.none) [] (fnBody (topS 5)) (fun _ _ => False) (fun _ _ => False) (fun d => d = .int (bisRI l x)) := by
  have hb : bigL = 100000 := rfl
  refine Run.cons (Run1.if_ (b := false) (Tru.cast ?_ (Tru.cmp (x := .int 0) (y := .int 0) (by repeat' trivial) (by repeat' trivial) rfl (by decide +kernel))) (fun q => by cases q) fun _ => Run.nil ?_)
  · rfl
  refine Run.cons (Run1.if_ (b := true) (Tru.cmp (x := .none) (y := .none) (by repeat' trivial) (by repeat' trivial) rfl (by decide +kernel)) (fun _ => ?_) fun q => by cases q)
  refine Run.cons (Run1.assign (x := .int l.length) (Evs.cast ?_ (Evs.callB hA (blt_len w (by decide +kernel)) (ds := [D.list (l.map .int)]) (by repeat' trivial) (callB_len (by simp; omega)))) (.inl (by decide +kernel)) (fun _ _ => rfl) (Run.nil ?_))
  · simp
  refine Run.cons (Run1.if_ (b := true) (Tru.cmp (x := .none) (y := .none) (by repeat' trivial) (by repeat' trivial) rfl (by decide +kernel)) (fun _ => ?_) fun q => by cases q)
  refine RunOn.weak (δ' := dmB 0 l.length [(("a" : Str), D.list (l.map .int)), (("x" : Str), D.int x), (("key" : Str), D.none)]) ?_ (by
    show Sub _ _
    repeat' trivial)
  refine Run.cons (bis_loop (n := l.length) (fun i => decide (l.getD i 0 ≤ x)) (fun i j h1 h2 h3 => ?_) (by omega) (.inl (by decide +kernel)) (fun lo hi mid N' hm h1 h2 => ?_) (fun y hy => ?_) (fun δ' sb => ?_) (fun _ _ => Iff.rfl))
  · have := asc i j h1 h2
    simp only [decide_eq_true_eq] at h3 ⊢
    omega
  · refine Run1.if_ (b := decide (x < l.getD mid 0)) (Tru.cmp (x := .int x) (y := .int (l.getD mid 0)) (by repeat' trivial) (Evs.item (x := D.list (l.map .int)) (y := .int mid) (by repeat' trivial) (by repeat' trivial) (by decide +kernel) (itemD_list ⟨by omega, by omega⟩ (by rw [Int.toNat_natCast]; exact intsD_get hm))) rfl (by decide +kernel)) (fun q => ?_) (fun q => ?_)
    · refine Run.cons (Run1.assign (x := .int mid) (by repeat' trivial) (.inl (by decide +kernel)) (fun _ _ => rfl) (Run.nil (h2 ?_)))
      simp only [decide_eq_true_eq, decide_eq_false_iff_not] at q ⊢; omega
    · refine Run.cons (Run1.assign (x := .int (mid + 1 : Nat)) (Evs.cast ?_ (Evs.bin (x := .int mid) (y := .int 1) (by repeat' trivial) Evs.int rfl)) (.inl (by decide +kernel)) (fun _ _ => rfl) (Run.nil (h1 ?_)))
      · simp
      · simp only [decide_eq_true_eq, decide_eq_false_iff_not] at q ⊢; omega
  · have : y = "a" ∨ y = "x" ∨ y = "key" := by
      simp only [List.lookup_cons] at hy
      by_cases z1 : y = "a"
      · exact .inl z1
      by_cases z2 : y = "x"
      · exact .inr (.inl z2)
      by_cases z3 : y = "key"
      · exact .inr (.inr z3)
      rw [beq_false_of_ne z1, beq_false_of_ne z2, beq_false_of_ne z3] at hy
      cases hy
    rcases this with h | h | h <;> subst h <;> decide +kernel
  · refine RunOn.weak (Run.nil ?_) sb
    refine Run.cons (Run1.ret (d := .int (bisRI l x)) ?_ rfl)
    exact Evs.name (by decide +kernel) lookup_hd
theorem HasL.uncons {h : Heap} {vs : List Value} {d : D} {ds : List D} (x : HasL h vs (d :: ds)) : ∃ v us, vs = v :: us ∧ Has h v d ∧ HasL h us ds := by
  match vs, x with
  | v :: us, x => exact ⟨v, us, rfl, x.tail⟩
  | [], x => have := x.1; simp at this

variable {hb h : Heap}
theorem loc_of {sc : Scope} {xs : List Str} (h : (xs.all fun x => sc.names.lookup x == some .local) = true) {binds : List (Str × Value)} (e : binds.map (·.1) = xs) : ∀ x ∈ binds, sc.names.lookup x.1 = some .local := fun x m => by
  have := List.all_eq_true.mp h x.1 (by rw [← e]; exact List.mem_map.mpr ⟨x, m, rfl⟩)
  simpa using this
theorem nocell_of {sc : Scope} (h : (sc.names.all fun p => p.2 != .cell) = true) : ∀ p ∈ sc.names, p.2 ≠ .cell := fun p m => by
  have := List.all_eq_true.mp h p m
  simpa using this
noncomputable abbrev argsX : List Str := ["a", "x", "lo", "hi", "key"]
theorem at_of {a : Addr} (gd : Gd w hb) (hx : Ext hb h) (e : (KF w.params).lookup a = some (obAt w a)) : h.get? a = some (obAt w a) := hx _ _ (gd.k _ _ e)
/-- how a def with such names is left -/
theorem leave {κ : Nat} {fd : FuncData} {a : Addr} {args : Args} {binds : List (Str × Value)} {ds : List D} {d : D} {body : List Stmt} (F : FnAt w a fd) (hA : OkA (κ + 1) A) (gd : Gd w hb) (hx : Ext hb h) (hcell : ∀ p ∈ fd.scope.names, p.2 ≠ .cell)
    (hbind : ∀ s : Shared, s.heap = h → BindsTo s fd args binds) (hv : HasL hb (binds.map (·.2)) ds) (hloc : ∀ x ∈ binds, fd.scope.names.lookup x.1 = some .local) (nd : (binds.map (·.1)).Nodup) (hbody : fd.body = .stmts body)
    (r : ∀ A, OkA κ A → Run w A fd.scope ((binds.map (·.1)).zip ds) [] body (fun _ _ => False) (fun _ _ => False) fun d' => d' = d) : Tri w A (call (.ref a) args.pos args.kw) hb h fun v hb' => Has hb' v d := by
  intro s Q E es k
  refine enterK F hA gd hx hcell s Q E es (hbind s es) hv hloc nd hbody fun env h1 tk E' hA' f => ?_
  exact (r _ hA').go env h hb hb h1 f _ _ E' rfl (fun δ' μ' hb' h' tk e g f' => e.elim) (fun δ' μ' hb' h' tk e => e.elim) fun d' v hb' h' tk e st hv => by subst e; exact k v hb' h' tk st hv
theorem fn_bisL2 (L : List (List Nat)) (x : Int) (ok : PilesOk L) : FnK w 2 123 [pilesD L, .int x] (.int (bisLN L x)) := by
  intro A hb h vs lv hA gd hx hv hl
  obtain ⟨va, vx, rfl, h1, h2⟩ := hv.two
  exact leave (args := ⟨[va, vx], [("key", lv)]⟩) (F_bisL w) hA gd hx (nocell_of (sc := fnSc (topS 7)) (by decide +kernel)) (fun s es => bind_one (at_of gd (es ▸ hx) rfl) (bLk2a w va vx lv) (bLk2c w va vx lv))
    (.cons h1 (.cons h2 (.cons (.int 0 _) (.cons .none (.cons hl .nil))))) (loc_of (sc := fnSc (topS 7)) (xs := argsX) (by decide +kernel) rfl) (show argsX.Nodup by decide +kernel) rfl fun A hA => runL L x ok hA
theorem fn_bisL4 (L : List (List Nat)) (x : Int) (ok : PilesOk L) : FnK w 2 123 [pilesD L, .int x, .int 0, .none] (.int (bisLN L x)) := by
  intro A hb h vs lv hA gd hx hv hl
  obtain ⟨va, vs, rfl, h1, hv⟩ := hv.uncons
  obtain ⟨vx, vs, rfl, h2, hv⟩ := hv.uncons
  obtain ⟨vlo, vs, rfl, h3, hv⟩ := hv.uncons
  obtain ⟨vhi, rfl, h4⟩ := hv.one
  exact leave (args := ⟨[va, vx, vlo, vhi], [("key", lv)]⟩) (F_bisL w) hA gd hx (nocell_of (sc := fnSc (topS 7)) (by decide +kernel)) (fun s es => bind_one (at_of gd (es ▸ hx) rfl) (bLk4a w va vx vlo vhi lv) (bLk4c w va vx vlo vhi lv))
    (.cons h1 (.cons h2 (.cons h3 (.cons h4 (.cons hl .nil))))) (loc_of (sc := fnSc (topS 7)) (xs := argsX) (by decide +kernel) rfl) (show argsX.Nodup by decide +kernel) rfl fun A hA => runL L x ok hA
theorem fn_bisR4 (L : List (List Nat)) (x : Int) (ok : PilesOk L) : FnK w 2 105 [pilesD L, .int x, .int 0, .none] (.int (bisRN L x)) := by
  intro A hb h vs lv hA gd hx hv hl
  obtain ⟨va, vs, rfl, h1, hv⟩ := hv.uncons
  obtain ⟨vx, vs, rfl, h2, hv⟩ := hv.uncons
  obtain ⟨vlo, vs, rfl, h3, hv⟩ := hv.uncons
  obtain ⟨vhi, rfl, h4⟩ := hv.one
  exact leave (args := ⟨[va, vx, vlo, vhi], [("key", lv)]⟩) (F_bisR w) hA gd hx (nocell_of (sc := fnSc (topS 5)) (by decide +kernel)) (fun s es => bind_one (at_of gd (es ▸ hx) rfl) (bRk4a w va vx vlo vhi lv) (bRk4c w va vx vlo vhi lv))
    (.cons h1 (.cons h2 (.cons h3 (.cons h4 (.cons hl .nil))))) (loc_of (sc := fnSc (topS 5)) (xs := argsX) (by decide +kernel) rfl) (show argsX.Nodup by decide +kernel) rfl fun A hA => runR L x ok hA
theorem fn_bisR2 (l : List Int) (x : Int) (hlen : l.length ≤ 1000) (asc : ∀ i j, i ≤ j → j < l.length → l.getD i 0 ≤ l.getD j 0) : Fn w 1 105 [.list (l.map .int), .int x] (.int (bisRI l x)) := by
  intro A hb h vs hA gd hx hv
  obtain ⟨va, vx, rfl, h1, h2⟩ := hv.two
  exact leave (args := ⟨[va, vx], []⟩) (F_bisR w) hA gd hx (nocell_of (sc := fnSc (topS 5)) (by decide +kernel)) (fun s es => bind_two (at_of gd (es ▸ hx) rfl) (at_of gd (es ▸ hx) rfl) (bR2a w va vx) (bR2b w va vx) (bR2c w va vx))
    (.cons h1 (.cons h2 (.cons (.int 0 _) (.cons .none (.cons .none .nil))))) (loc_of (sc := fnSc (topS 5)) (xs := argsX) (by decide +kernel) rfl) (show argsX.Nodup by decide +kernel) rfl fun A hA => runI l x hlen asc hA
end
end
-- part B13
section
open PySem PySem.W PyProof.Rows PySem.Calls


section
variable {w : World} {A : Around} {sc scope : Scope} {env : Env} {h0 hb0 hb h hb' h' : Heap} {δ δ' : Dm} {μ μ' : Mu} {pos p pn kp : Pos} {N B : Pm} {R : D → Prop}

theorem evalArgsK_ok {f : Value} {es : List Expr} {ds : List D} {ke : Expr} (x : EvsL w A sc δ es ds) (hne : es ≠ []) (hk : Evs w A sc δ ke .lam) (c : Ctx w sc env δ hb h) :
    Tri w A (evalArgs f true (backTo pos (starEach es env)) (backToKw pos (keywordEach [⟨some "key", ke, kp⟩] env))) hb h fun a hb' => ∃ lv : Value, a.kw = [(("key" : Str), lv)] ∧ Has hb' lv .lam ∧ HasL hb' a.pos ds := by
  intro s Q E e k
  cases x with
  | nil => exact absurd rfl hne
  | cons a b d =>
    have sp := spliced_ok (pos := pos) (.cons a b d) c
    refine evalArgs_kw2 rfl ?_ (starEach_cons a)
    refine sp s _ E e fun vs hb1 h1 tk1 st1 hv => ?_
    refine kwAll_cons (hk.run env hb1 h1 (c.step st1) _ _ E rfl fun lv hb2 h2 tk2 st2 hl => kwAll_nil ?_)
    exact k _ hb2 h2 tk2 (st1.trans st2) ⟨lv, rfl, hl, hv.mono st2.fz⟩
theorem Evs.callK {κ : Nat} {x : Str} {a : Addr} {fd : FuncData} {es : List Expr} {ds : List D} {ke : Expr} {d : D} (hA : OkA κ A) (b : Glb w sc x (.ref a)) (F : FnAt w a fd) (fn : FnK w κ a ds d) (xs : EvsL w A sc δ es ds) (hne : es ≠ []) (hk : Evs w A sc δ ke .lam) :
    Evs w A sc δ (.Call (.Name x p) es [⟨some "key", ke, kp⟩] pos) d :=
  ⟨fun env hb h c s Q E es' q => wpAny_Call_Name_kw (b.ok c s _ E es' fun r hb1 h1 tk st hr => by
    subst hr
    obtain ⟨o, ho1, ho2⟩ := F.fn
    refine callWith_function_kw (o := o) (fd := fd) (evalArgsK_ok xs hne hk (c.step st) _ _ E rfl fun a hb2 h2 tk2 st2 ⟨lv, e1, e2, e3⟩ => ⟨⟨((c.step st).step st2).sub _ _ (((c.step st).step st2).gd.k _ _ ho1), ho2⟩, ?_⟩)
    rw [e1]
    exact fn A hb2 h2 _ lv hA ((c.step st).step st2).gd st2.inn e3 e2 _ _ E rfl fun v hb3 h3 tk3 st3 hv => q v hb3 h3 tk3 ((st.trans st2).trans st3) hv)⟩

/-! lists that change: insert, pop -/
noncomputable def insAt {α : Type} (l : List α) (k : Nat) (x : α) : List α := l.take k ++ x :: l.drop k
theorem HasL.take {vs : List Value} {ds : List D} (x : HasL h vs ds) (k : Nat) : HasL h (vs.take k) (ds.take k) :=
  ⟨by simp [x.1], fun i v d a b => by
    rw [List.getElem?_take] at a b
    split at a
    · rename_i q; rw [if_pos q] at b; exact x.2 i v d a b
    · cases a⟩
theorem HasL.drop {vs : List Value} {ds : List D} (x : HasL h vs ds) (k : Nat) : HasL h (vs.drop k) (ds.drop k) :=
  ⟨by simp [x.1], fun i v d a b => by rw [List.getElem?_drop] at a b; exact x.2 _ v d a b⟩
noncomputable def insF (i : Int) (u : Value) (xs : Array Value) : Array Value := have k := if i < 0 then (i + ((xs.size : Nat) : Int)).toNat else min i.toNat xs.size; (xs.extract 0 k).push u ++ xs.extract k
theorem insert_list {l : Addr} {x y : Sem Value} {s : Shared} {E : Value → Shared → Prop} {Q : Value → Shared → Prop}
    (k : wpAny (model PW w) A x (fun v s₁ => wpAny (model PW w) A y (fun u s₂ => ∃ items n i t, items.size ≤ sizeLine ∧ v = .int i t ∧ IsL s₂.heap l items n ∧ Builtin.List.listFitsIndex i = true ∧
      Q .none { s₂ with heap := s₂.heap.update l (Obj.mapSeq (insF i u)) }) E s₁) E s) :
    wpAny (model PW w) A (callWith pos (.builtin "list.insert") [.ref l] [(false, x), (false, y)] []) Q E s := by
  refine method_meets F.slot_list_insert F.entry_list_insert rfl (Calls.evalArgs_plain (Calls.spliced_cons (wpAny_mono k (fun v s1 h1 => Calls.spliced_cons (wpAny_mono h1 (fun u s2 h2 => Calls.spliced_nil ?_) fun _ _ e => e)) fun _ _ e => e)))
  obtain ⟨items, n, i, t, hz, rfl, il, hf, q⟩ := h2
  exact ⟨rfl, ⟨_, il, rfl⟩, F.args_list_insert_3 _ _ _, _, AutoSeq1.list_insert_list_int_val_1 l items n i t u (by simp [hf]) hz, il, q⟩
theorem ins_arr (l : List Value) (k : Nat) (y : Value) : (l.toArray.extract 0 k).push y ++ l.toArray.extract k = (insAt l k y).toArray := by
  apply Array.toList_inj.mp
  simp [insAt]
  exact List.take_of_length_le (by simp)
theorem fits_of {i : Int} (h : 0 ≤ i ∧ i ≤ 100000) : Builtin.List.listFitsIndex i = true := by
  unfold Builtin.List.listFitsIndex
  simp; omega

/-- x.insert(i, e) on an own list -/
theorem Run1.insert {x : Str} {a : Addr} {ds : List D} {e1 e2 : Expr} {i : Nat} {d : D} {px ap p2 : Pos} (hp : plainName x = true) (hx : δ.lookup x = some (.adr a)) (hm : (a, .lst ds) ∈ μ) (h1 : Evs w A sc δ e1 (.int i)) (n1 : notStar e1 = true) (h2 : Evs w A sc δ e2 d) (n2 : notStar e2 = true) (hl : ds.length ≤ bigL) (hi : i ≤ ds.length) (hline : (ap.endLine == pos.line) = true)
    (n : N δ (setMu μ a (.lst (insAt ds i d)))) : Run1 w A sc δ μ (.Expr (.Call (.Attribute (.Name x px) "insert" ap) [e1, e2] [] pos) p2) N B R := ⟨fun env h0 hb0 hb h f s Q E es kN kB kR => by
  subst es
  refine wpAny_Expr_any ?_ (by unfold interactive; rw [f.rds.ok.kind]; rfl) rfl
  have xs : EvsL w A sc δ [e1, e2] [.int i, d] := .cons n1 h1 (.cons n2 h2 .nil)
  refine wpAny_Call_method_late (attrBase_plain rfl) (few_ok xs.stars (by simp)) hline rfl ((Evs.name hp hx).run env hb s.heap f.ctx s _ E rfl fun v hb1 h1' tk st hv => ?_)
  cases hv
  have f1 := f.after st
  obtain ⟨no, p0, pb, vs, k, g, l⟩ := f1.mu a _ hm
  refine ⟨"list", _, F.plainAttrs_list, F.slot_list_insert, F.type_list_insert, ⟨_, g, rfl⟩, fun b eb => (by cases eb; exact ⟨_, g, rfl⟩), ?_⟩
  rw [starEach_cons n1, starEach_cons n2]
  refine insert_list (wpAny_mono (h1.run env hb1 h1' f1.ctx _ _ E rfl fun v hb2 h2' tk2 st2 hv => ?_) (fun _ _ q => q) fun _ _ q => q)
  have f2 := f1.after st2
  refine wpAny_mono (h2.run env hb2 h2' f2.ctx _ _ E rfl fun u hb3 h3' tk3 st3 hu => ?_) (fun _ _ q => q) fun _ _ q => q
  have f3 := f2.after st3
  obtain ⟨no, p0, pb, vs, k, g, l⟩ := f3.mu a _ hm
  obtain ⟨t, rfl⟩ := hv.int_inv
  have hb' : bigL = 100000 := rfl
  have hsz : vs.toArray.size ≤ sizeLine := by have := l.1; have := bigL_le; simp only [List.size_toArray]; omega
  refine ⟨vs.toArray, k, i, t, hsz, rfl, g, fits_of ⟨by omega, by omega⟩, ?_⟩
  have e : insF i u vs.toArray = (insAt vs i u).toArray := by
    have hk : (if (i : Int) < 0 then ((i : Int) + ((vs.toArray.size : Nat) : Int)).toNat else min (i : Int).toNat vs.toArray.size) = i := by
      rw [if_neg (by omega)]
      have := l.1
      simp only [List.size_toArray]
      omega
    show (vs.toArray.extract 0 (if (i : Int) < 0 then ((i : Int) + ((vs.toArray.size : Nat) : Int)).toNat else min (i : Int).toNat vs.toArray.size)).push u ++ vs.toArray.extract (if (i : Int) < 0 then ((i : Int) + ((vs.toArray.size : Nat) : Int)).toNat else min (i : Int).toNat vs.toArray.size) = _
    rw [hk, ins_arr]
  have g2 := IsL.update (h := h3') (l := a) (items := vs.toArray) (n := k) g (insF i u)
  rw [e] at g2
  have sb : Heap.SameBut a h3' (h3'.update a (Obj.mapSeq (insF i u))) := Heap.SameBut.update ..
  have il : IsL' hb3 (h3'.update a (Obj.mapSeq (insF i u))) a (insAt ds i d) := ⟨insAt vs i u, _, g2, (l.take i).append (.cons hu (l.drop i))⟩
  have f4 := f3.change (ds' := .lst (insAt ds i d)) hm (fun b o nb e => sb.extBut b o nb e) il
  exact kN _ _ hb3 _ _ n ((Go.step ((st.trans st2).trans st3)).trans (Go.change f3 f4 ⟨_, hm⟩ (fun b o nb e => sb.extBut b o nb e) il.live)) f4⟩

noncomputable def popAt {α : Type} (l : List α) (k : Nat) : List α := l.take k ++ l.drop (k + 1)
theorem pop_arr (l : List Value) (k : Nat) (h : k < l.length) : l.toArray.eraseIdxIfInBounds k = (popAt l k).toArray := by
  apply Array.toList_inj.mp
  simp [popAt, Array.eraseIdxIfInBounds, h, List.eraseIdx_eq_take_drop_succ]
/-- x.pop(i) on an own list -/
theorem Run1.pop {x : Str} {a : Addr} {ds : List D} {e1 : Expr} {i : Nat} {px ap p2 : Pos} (hp : plainName x = true) (hx : δ.lookup x = some (.adr a)) (hm : (a, .lst ds) ∈ μ) (h1 : Evs w A sc δ e1 (.int i)) (n1 : notStar e1 = true) (hl : ds.length ≤ bigL) (hi : i < ds.length) (hline : (ap.endLine == pos.line) = true)
    (n : N δ (setMu μ a (.lst (popAt ds i)))) : Run1 w A sc δ μ (.Expr (.Call (.Attribute (.Name x px) "pop" ap) [e1] [] pos) p2) N B R := ⟨fun env h0 hb0 hb h f s Q E es kN kB kR => by
  subst es
  refine wpAny_Expr_any ?_ (by unfold interactive; rw [f.rds.ok.kind]; rfl) rfl
  have xs : EvsL w A sc δ [e1] [.int i] := .cons n1 h1 .nil
  refine wpAny_Call_method_late (attrBase_plain rfl) (few_ok xs.stars (by simp)) hline rfl ((Evs.name hp hx).run env hb s.heap f.ctx s _ E rfl fun v hb1 h1' tk st hv => ?_)
  cases hv
  have f1 := f.after st
  obtain ⟨no, p0, pb, vs, k, g, l⟩ := f1.mu a _ hm
  refine ⟨"list", _, F.plainAttrs_list, F.slot_list_pop, F.type_list_pop, ⟨_, g, rfl⟩, fun b eb => (by cases eb; exact ⟨_, g, rfl⟩), ?_⟩
  rw [starEach_cons n1]
  refine P.pop_at_list (wpAny_mono (h1.run env hb1 h1' f1.ctx _ _ E rfl fun v hb2 h2' tk2 st2 hv => ?_) (fun _ _ q => q) fun _ _ q => q)
  have f2 := f1.after st2
  obtain ⟨no, p0, pb, vs, k, g, l⟩ := f2.mu a _ hm
  obtain ⟨t, rfl⟩ := hv.int_inv
  have hb' : bigL = 100000 := rfl
  have hl1 := l.1
  have hsz : vs.toArray.size ≤ sizeLine := by have := bigL_le; simp only [List.size_toArray]; omega
  have hi2 : i < vs.length := by omega
  have hk : seqIndex? (i : Int) vs.toArray.size = some i := by
    unfold seqIndex?
    have a1 : ¬ (i : Int) < 0 := by omega
    simp [a1]; omega
  refine ⟨vs.toArray, k, i, t, i, vs[i], hsz, rfl, g, fits_of ⟨by omega, by omega⟩, hk, by simp [hi2], ?_⟩
  have g2 := IsL.update (h := h2') (l := a) (items := vs.toArray) (n := k) g (fun xs => xs.eraseIdxIfInBounds i)
  have e : vs.toArray.eraseIdxIfInBounds i = (popAt vs i).toArray := pop_arr vs i hi2
  rw [e] at g2
  have sb : Heap.SameBut a h2' (h2'.update a (Obj.mapSeq fun xs => xs.eraseIdxIfInBounds i)) := Heap.SameBut.update ..
  have il : IsL' hb2 (h2'.update a (Obj.mapSeq fun xs => xs.eraseIdxIfInBounds i)) a (popAt ds i) := ⟨popAt vs i, _, g2, (l.take i).append (l.drop (i + 1))⟩
  have f3 := f2.change (ds' := .lst (popAt ds i)) hm (fun b o nb e => sb.extBut b o nb e) il
  exact kN _ _ hb2 _ _ n ((Go.step (st.trans st2)).trans (Go.change f2 f3 ⟨_, hm⟩ (fun b o nb e => sb.extBut b o nb e) il.live)) f3⟩
end
end
-- part B14
section
open PySem PySem.W PyProof.Rows PySem.Calls


section
variable {w : World} {A : Around} {sc scope : Scope} {env : Env} {h0 hb0 hb h hb' h' : Heap} {δ δ' : Dm} {μ μ' : Mu} {pos p pn kp : Pos} {N B : Pm} {R : D → Prop}

theorem bisLN_le (L : List (List Nat)) (x : Int) : bisLN L x ≤ L.length := by
  unfold bisLN
  have := List.countP_le_length (p := fun i => decide ((lst (L.getD i []) : Int) < x)) (l := List.range L.length)
  simpa using this
theorem bisRN_le (L : List (List Nat)) (x : Int) : bisRN L x ≤ L.length := by
  unfold bisRN
  have := List.countP_le_length (p := fun i => decide ((lst (L.getD i []) : Int) ≤ x)) (l := List.range L.length)
  simpa using this

theorem runIL {P : Addr} (L : List (List Nat)) (l : List Nat) (ok : PilesOk L) (hl : l ≠ []) (hl2 : l.length ≤ 1000) (hA : OkA 2 A) :
    Run w A (fnSc (topS 6)) (dm0 (.adr P) (pileD l) .lam) [(P, .lst (L.map pileD))] (fnBody (topS 6)) (fun _ μ' => μ' = [(P, .lst (insAt (L.map pileD) (bisLN L (lst l)) (pileD l)))]) (fun _ _ => False) (fun _ => False) := by
  have hb : bigL = 100000 := rfl
  have hlen := ok.len
  refine Run.cons (Run1.if_ (b := false) (Tru.cmp (x := .lam) (y := .none) (by repeat' trivial) (by repeat' trivial) rfl (by decide +kernel)) (fun q => by cases q) fun _ => ?_)
  have ha : (fzD [(P, .lst (L.map pileD))] (dm0 (.adr P) (pileD l) .lam)).lookup ("a" : Str) = some (pilesD L) := fzD_own (a := P) (by repeat' trivial) (by rw [List.lookup_cons]; simp)
  have hx : (fzD [(P, .lst (L.map pileD))] (dm0 (.adr P) (pileD l) .lam)).lookup ("x" : Str) = some (pileD l) := fzD_of (d := pileD l) (by repeat' trivial)
  have hlo : (fzD [(P, .lst (L.map pileD))] (dm0 (.adr P) (pileD l) .lam)).lookup ("lo" : Str) = some (.int 0) := fzD_of (d := .int 0) (by repeat' trivial)
  have hhi : (fzD [(P, .lst (L.map pileD))] (dm0 (.adr P) (pileD l) .lam)).lookup ("hi" : Str) = some .none := fzD_of (d := .none) (by repeat' trivial)
  have hk : (fzD [(P, .lst (L.map pileD))] (dm0 (.adr P) (pileD l) .lam)).lookup ("key" : Str) = some .lam := fzD_of (d := .lam) (by repeat' trivial)
  refine Run.cons (Run1.assignF (x := .int (bisLN L (lst l))) (Evs.callK hA (glb_of w (by decide +kernel) (by decide +kernel) (by kernel_rfl)) (F_bisL w) (fn_bisL4 L (lst l) ok)
    (.cons (by decide +kernel) (Evs.name (by decide +kernel) ha) (.cons (by decide +kernel) (Evs.callLam hA (by decide +kernel) hk (Evs.cast (pile_ints _) (Evs.name (by decide +kernel) hx)) (by decide +kernel) (last_int hl) (by rw [List.length_map]; omega))
      (.cons (by decide +kernel) (Evs.name (by decide +kernel) hlo) (.cons (by decide +kernel) (Evs.name (by decide +kernel) hhi) .nil)))) (by simp) (Evs.name (by decide +kernel) hk)) rfl (.inl (by decide +kernel)) (fun _ _ => rfl) (Run.nil ?_))
  have hle := bisLN_le L (lst l)
  refine Run.cons (Run1.insert (a := P) (ds := L.map pileD) (i := bisLN L (lst l)) (d := pileD l) (by decide +kernel) (by repeat' trivial) List.mem_cons_self (by repeat' trivial) (by decide +kernel) (by repeat' trivial) (by decide +kernel) (by simp; omega) (by simp; omega) (by decide +kernel) (Run.nil ?_))
  simp [setMu]
theorem runIR {P : Addr} (L : List (List Nat)) (l : List Nat) (ok : PilesOk L) (hl : l ≠ []) (hl2 : l.length ≤ 1000) (hA : OkA 2 A) :
    Run w A (fnSc (topS 4)) (dm0 (.adr P) (pileD l) .lam) [(P, .lst (L.map pileD))] (fnBody (topS 4)) (fun _ μ' => μ' = [(P, .lst (insAt (L.map pileD) (bisRN L (lst l)) (pileD l)))]) (fun _ _ => False) (fun _ => False) := by
  have hb : bigL = 100000 := rfl
  have hlen := ok.len
  refine Run.cons (Run1.if_ (b := false) (Tru.cmp (x := .lam) (y := .none) (by repeat' trivial) (by repeat' trivial) rfl (by decide +kernel)) (fun q => by cases q) fun _ => ?_)
  have ha : (fzD [(P, .lst (L.map pileD))] (dm0 (.adr P) (pileD l) .lam)).lookup ("a" : Str) = some (pilesD L) := fzD_own (a := P) (by repeat' trivial) (by rw [List.lookup_cons]; simp)
  have hx : (fzD [(P, .lst (L.map pileD))] (dm0 (.adr P) (pileD l) .lam)).lookup ("x" : Str) = some (pileD l) := fzD_of (d := pileD l) (by repeat' trivial)
  have hlo : (fzD [(P, .lst (L.map pileD))] (dm0 (.adr P) (pileD l) .lam)).lookup ("lo" : Str) = some (.int 0) := fzD_of (d := .int 0) (by repeat' trivial)
  have hhi : (fzD [(P, .lst (L.map pileD))] (dm0 (.adr P) (pileD l) .lam)).lookup ("hi" : Str) = some .none := fzD_of (d := .none) (by repeat' trivial)
  have hk : (fzD [(P, .lst (L.map pileD))] (dm0 (.adr P) (pileD l) .lam)).lookup ("key" : Str) = some .lam := fzD_of (d := .lam) (by repeat' trivial)
  refine Run.cons (Run1.assignF (x := .int (bisRN L (lst l))) (Evs.callK hA (glb_of w (by decide +kernel) (by decide +kernel) (by kernel_rfl)) (F_bisR w) (fn_bisR4 L (lst l) ok)
    (.cons (by decide +kernel) (Evs.name (by decide +kernel) ha) (.cons (by decide +kernel) (Evs.callLam hA (by decide +kernel) hk (Evs.cast (pile_ints _) (Evs.name (by decide +kernel) hx)) (by decide +kernel) (last_int hl) (by rw [List.length_map]; omega))
      (.cons (by decide +kernel) (Evs.name (by decide +kernel) hlo) (.cons (by decide +kernel) (Evs.name (by decide +kernel) hhi) .nil)))) (by simp) (Evs.name (by decide +kernel) hk)) rfl (.inl (by decide +kernel)) (fun _ _ => rfl) (Run.nil ?_))
  have hle := bisRN_le L (lst l)
  refine Run.cons (Run1.insert (a := P) (ds := L.map pileD) (i := bisRN L (lst l)) (d := pileD l) (by decide +kernel) (by repeat' trivial) List.mem_cons_self (by repeat' trivial) (by decide +kernel) (by repeat' trivial) (by decide +kernel) (by simp; omega) (by simp; omega) (by decide +kernel) (Run.nil ?_))
  simp [setMu]

/-- what a call that changes one list of the caller's leaves -/
structure Chg (P : Addr) (hb h hb' h' : Heap) : Prop where
  keep : ∀ b o, b ≠ P → h.get? b = some o → h'.get? b = some o
  fz : Ext hb hb'
  inn : Ext hb' h'
  new : ∀ b o, hb'.get? b = some o → hb.get? b = some o ∨ h.get? b = none
theorem St.called {P : Addr} {m m' : Mo} (f : St w sc env h0 hb0 δ μ hb h) (hm : (P, m) ∈ μ) (c : Chg P hb h hb' h') (il : IsMo hb' h' P m') : St w sc env h0 hb0 δ (setMu μ P m') hb' h' := by
  obtain ⟨no, p0, pb, il0⟩ := f.mu P m hm
  have nl : ∀ c', h.get? c' ≠ none → h'.get? c' ≠ none := fun c' q => by
    by_cases z : c' = P
    · rw [z]; exact il.live
    · cases e : h.get? c' with
      | none => exact absurd e q
      | some o => rw [c.keep c' o z e]; intro z; cases z
  have kl : ∀ {m}, h.Ns env.locals m → h'.Ns env.locals m := fun {m} n => n.at fun o e => c.keep _ o (fun z => no (.inl z.symm)) e
  have kc : ∀ {c' v}, h.IsCell c' v → h'.IsCell c' v := fun {c' v} ⟨o, e, d⟩ => ⟨o, c.keep c' o (fun z => cell_mo ⟨o, e, d⟩ (z ▸ il0)) e, d⟩
  have out : ∀ a, hb.get? a = none → h.get? a ≠ none → hb'.get? a = none := fun a p q => by
    cases e : hb'.get? a with
    | none => rfl
    | some o =>
      rcases c.new a o e with r | r
      · rw [p] at r; cases r
      · exact absurd r q
  refine ⟨⟨fun b o e => c.keep b o (fun q => by rw [q, p0] at e; cases e) (f.step.ext b o e), f.step.fz.trans c.fz, c.inn, fun b o e => ?_⟩, f.gd.mono c.fz, ⟨f.rds.ok, fun x d e => ?_, fun x c' e => nl c' (f.rds.cl x c' e)⟩,
    let ⟨m, n⟩ := f.loc; ⟨m, kl n⟩, fun x c' p q => let ⟨v, i⟩ := f.cell x c' p q; ⟨v, kc i⟩, fun a o => ⟨(f.own a o).1, out a (f.own a o).2 (f.live o)⟩, fun b e mem => ?_, ?_⟩
  · rcases c.new b o e with r | r
    · exact f.step.new b o r
    · right
      cases q : h0.get? b with
      | none => rfl
      | some o' => have := f.step.ext b o' q; rw [r] at this; cases this
  · obtain ⟨v, r, hv⟩ := f.rds.rd x d e
    refine ⟨v, ?_, hv.mono c.fz⟩
    rcases r with ⟨k, m, n, e⟩ | ⟨k, c, l, n⟩
    · exact .inl ⟨k, m, kl n, e⟩
    · exact .inr ⟨k, c, l, kc n⟩
  · rcases setMu_mem f.mud mem with ⟨rfl, rfl, _⟩ | ⟨ne, mem⟩
    · exact ⟨no, p0, out _ pb il0.live, il⟩
    · obtain ⟨x, y, z, t⟩ := f.mu b e mem
      exact ⟨x, y, out _ z t.live, t.mono c.fz fun o q => c.keep b o ne q⟩
  · have := f.mud
    have e1 : (setMu μ P m').Pairwise (fun x y => x.1 ≠ y.1) ↔ ((setMu μ P m').map (·.1)).Pairwise (· ≠ ·) := by rw [List.pairwise_map]
    have e2 : μ.Pairwise (fun x y => x.1 ≠ y.1) ↔ (μ.map (·.1)).Pairwise (· ≠ ·) := by rw [List.pairwise_map]
    rw [e1, setMu_keys, ← e2]; exact this
theorem Go.called {P : Addr} {m m' : Mo} (f : St w sc env h0 hb0 δ μ hb h) (hm : (P, m) ∈ μ) (c : Chg P hb h hb' h') (il : IsMo hb' h' P m') : Go sc env μ hb h (setMu μ P m') hb' h' := by
  refine ⟨fun b o _ nm e => c.keep b o (fun q => nm m (q ▸ hm)) e, fun b e mb => ?_, c.fz, fun b o e => (c.new b o e).imp id .inl, fun b e => ?_⟩
  · rcases setMu_mem f.mud mb with ⟨_, _, e', z⟩ | ⟨_, z⟩
    · exact .inl ⟨e', z⟩
    · exact .inl ⟨e, z⟩
  · by_cases z : b = P
    · rw [z]; exact il.live
    · cases q : h.get? b with
      | none => exact absurd q e
      | some o => rw [c.keep b o z q]; intro z; cases z

/-- called with a list of the caller's, a value and the lambda, the function at a changes the list and gives None -/
noncomputable def FnM (w : World) (κ : Nat) (a : Addr) (ds : List D) (d : D) (ds' : List D) : Prop :=
  ∀ A hb P v lv, OkA κ A → Gd w hb → ∀ (s : Shared) (Q : Value → Shared → Prop) (E : Value → Shared → Prop), Ext hb s.heap → hb.get? P = none → IsL' hb s.heap P ds → Has hb v d → Has hb lv .lam →
    (∀ hb' h' tk, Chg P hb s.heap hb' h' → IsL' hb' h' P ds' → Q .none { s with heap := h', toks := tk }) → wpAny (model PW w) A (call (.ref a) [.ref P, v] [("key", lv)]) Q E s

theorem fnM_of {κ : Nat} {a : Addr} {fd : FuncData} {ds ds' : List D} {d : D} {body : List Stmt} {lot : Tok} (F : FnAt w a fd) (hcell : ∀ p ∈ fd.scope.names, p.2 ≠ .cell) (hloc : (argsX.all fun x => fd.scope.names.lookup x == some .local) = true)
    (hbind : ∀ (s : Shared) (va vx lv : Value), (KF w.params).In s.heap → BindsTo s fd ⟨[va, vx], [("key", lv)]⟩ [(("a" : Str), va), (("x" : Str), vx), (("lo" : Str), .int 0 lot), (("hi" : Str), .none), (("key" : Str), lv)]) (hbody : fd.body = .stmts body)
    (r : ∀ A P, OkA κ A → Run w A fd.scope (dm0 (.adr P) d .lam) [(P, .lst ds)] body (fun _ μ' => μ' = [(P, .lst ds')]) (fun _ _ => False) (fun _ => False)) : FnM w (κ + 1) a ds d ds' := by
  intro A hb P v lv hA gd s Q E hx pn il hv hlv k
  obtain ⟨o, ho1, ho2⟩ := F.fn
  obtain ⟨c, oc, vc, t, e1, e2, e3, e4⟩ := F.code
  have code : s.heap.CodeRec fd.code fd.qualname := ⟨c, oc, vc, t, e1, hx _ _ (gd.k _ _ e2), e3, e4⟩
  have gdh := gd.mono hx
  have hloc' := loc_of (sc := fd.scope) hloc (binds := [(("a" : Str), Value.ref P), (("x" : Str), v), (("lo" : Str), .int 0 lot), (("hi" : Str), .none), (("key" : Str), lv)]) rfl
  refine wpAny_call (codeAny_call_def (by have := hA.dep; show A.depth < 1000; omega) (hx _ _ (gd.k _ _ ho1)) ho2 (gd.nolimit.keeps hx) code hbody (hbind s (.ref P) v lv gdh.k) hcell hloc' (fun h1 ns ext => ?_) F.co F.gen F.kind)
  have noc : ∀ y, fd.scope.names.lookup y ≠ some .cell := fun y e => hcell _ (mem_of_look e) rfl
  have nof : ∀ y, fd.scope.names.lookup y ≠ some .free := fun y e => F.nofree _ (mem_of_look e) rfl
  have nocl : ∀ y c, (callEnv fd s.heap.objs.size a).cells.lookup y ≠ some c := fun y c => by
    show fd.closure.lookup y ≠ _
    rw [F.clo]; intro q; cases q
  have ownN : ∀ b, Own fd.scope (callEnv fd s.heap.objs.size a) b → b = s.heap.objs.size := fun b o => by
    rcases o with rfl | ⟨y, _, e⟩
    · rfl
    · exact absurd e (nocl y b)
  have g0 : ∀ b o, (only s.heap (· ≠ P)).get? b = some o → s.heap.get? b = some o := fun b o e => by
    rw [get_only] at e; split at e
    · exact e
    · cases e
  have hPl : s.heap.get? P ≠ none := il.live
  have hds : HasL hb ([(("a" : Str), Value.ref P), (("x" : Str), v), (("lo" : Str), .int 0 lot), (("hi" : Str), .none), (("key" : Str), lv)].map (·.2)) [.adr P, d, .int 0, .none, .lam] := .cons (.adr P) (.cons hv (.cons (.int 0 _) (.cons .none (.cons hlv .nil))))
  have f : St w fd.scope (callEnv fd s.heap.objs.size a) (only s.heap (· ≠ P)) hb (dm0 (.adr P) d .lam) [(P, .lst ds)] hb h1 := by
    refine ⟨⟨fun b o e => ext b o (g0 b o e), .refl _, fun b o e => ext b o (hx b o e), fun _ _ e => .inl e⟩, gd, ⟨⟨F.kind, F.glob, F.blt, fun y e => e, fun y e => e, fun y e => e, fun y e => absurd e (nof y), fun y e => ?_, fun x y c e => absurd e (nocl x c), F.asked⟩, fun y d' e => ?_, fun y c e => absurd e (nocl y c)⟩, ⟨_, ns⟩, fun y c k e => absurd e (nocl y c), fun b o => ?_, fun b e m => ?_, List.pairwise_singleton _ _⟩
    · rcases e with e | e
      · exact absurd e (noc y)
      · exact absurd e (nof y)
    · obtain ⟨u, m, hu⟩ := zip_look argsX _ _ y d' hds e
      have m2 : (y, u) ∈ [(("a" : Str), Value.ref P), (("x" : Str), v), (("lo" : Str), .int 0 lot), (("hi" : Str), .none), (("key" : Str), lv)] := m
      exact ⟨u, .inl ⟨hloc' _ m2, _, ns, lookup_rev _ y u (show argsX.Nodup by decide +kernel) m2⟩, hu⟩
    · rw [ownN b o]
      refine ⟨?_, ?_⟩
      · rw [get_only]; split
        · exact size_none _
        · rfl
      · exact (new_out (Step.refl hx) (Nat.le_refl _)).2
    · obtain ⟨rfl, rfl⟩ : b = P ∧ e = .lst ds := by
        have := List.mem_singleton.mp m
        exact ⟨congrArg (·.1) this, congrArg (·.2) this⟩
      refine ⟨fun o => hPl (by rw [ownN _ o]; exact size_none _), ?_, pn, IsL'.mono il (.refl _) fun o e => ext _ o e⟩
      rw [get_only, if_neg (by simp)]
  refine (r _ P (hA.deeper _)).go _ _ _ _ _ f _ _ _ rfl (fun δ' μ' hb' h' tk e g f' => ?_) (fun _ _ _ _ _ e => e.elim) (fun _ _ _ _ _ e => e.elim)
  subst e
  obtain ⟨_, _, pn', il'⟩ := f'.mu P _ List.mem_cons_self
  refine k hb' h' tk ⟨fun b o ne e => g.keep b o (fun q => ?_) (fun e' q => ?_) (ext b o e), g.fz, f'.step.inn, fun b o e => ?_⟩ il'
  · rw [ownN b q, size_none] at e; cases e
  · exact ne (congrArg (·.1) (List.mem_singleton.mp q))
  · rcases g.new b o e with q | q | ⟨e', q⟩
    · exact .inl q
    · right
      cases z : s.heap.get? b with
      | none => rfl
      | some o' => rw [ext b o' z] at q; cases q
    · have : b = P := congrArg (·.1) (List.mem_singleton.mp q)
      rw [this, pn'] at e; cases e
theorem fn_insL (L : List (List Nat)) (l : List Nat) (ok : PilesOk L) (hl : l ≠ []) (hl2 : l.length ≤ 1000) : FnM w 3 114 (L.map pileD) (pileD l) (insAt (L.map pileD) (bisLN L (lst l)) (pileD l)) :=
  fnM_of (F_insL w) (nocell_of (sc := fnSc (topS 6)) (by decide +kernel)) (show (argsX.all fun x => (fnSc (topS 6)).names.lookup x == some .local) = true by decide +kernel) (fun s va vx lv k => bind_one (k _ _ rfl) (iLk2a w va vx lv) (iLk2c w va vx lv)) rfl
    fun A P hA => runIL L l ok hl hl2 hA
theorem fn_insR (L : List (List Nat)) (l : List Nat) (ok : PilesOk L) (hl : l ≠ []) (hl2 : l.length ≤ 1000) : FnM w 3 96 (L.map pileD) (pileD l) (insAt (L.map pileD) (bisRN L (lst l)) (pileD l)) :=
  fnM_of (F_insR w) (nocell_of (sc := fnSc (topS 4)) (by decide +kernel)) (show (argsX.all fun x => (fnSc (topS 4)).names.lookup x == some .local) = true by decide +kernel) (fun s va vx lv k => bind_one (k _ _ rfl) (iRk2a w va vx lv) (iRk2c w va vx lv)) rfl
    fun A P hA => runIR L l ok hl hl2 hA
end
end
-- part B15
section
open PySem PySem.W PyProof.Rows PySem.Calls


/-- the table of the codes that _law_asked made -/
noncomputable def PT : Addr := 216
theorem pt_code (P : Params) : codeHdIn (KF P) 218 PT = true := by kernel_rfl
theorem bt_at (P : Params) : nsIn (KF P) mainGlobals "__builtins__" = some (some (.ref 4)) := by kernel_rfl
theorem among_snoc {pos : Pos} {a b : Int} {c cv : Value} (l : List Value) (h : TriplesOk l) (e : codeAmong pos (l ++ [rawInt a, rawInt b, c]) = some cv) : codeAmong pos l = some cv ∨ cv = c := by
  fun_induction TriplesOk l with
  | case1 =>
    simp only [List.nil_append, codeAmong, rawInt] at e
    split at e
    · cases e; exact .inr rfl
    · cases e
  | case2 a' t b' u x rest ih =>
    simp only [List.cons_append, codeAmong] at e ⊢
    split at e
    · rename_i hc; rw [if_pos hc]; exact .inl e
    · rename_i hc; rw [if_neg hc]; exact ih h e
  | case3 l h1 h2 => exact h.elim
theorem setMu_same : ∀ {μ : Mu} {a : Addr} {m : Mo}, (a, m) ∈ μ → (μ.Pairwise fun x y => x.1 ≠ y.1) → setMu μ a m = μ
  | (b, e) :: r, a, m, h, hp => by
    obtain ⟨h1, h2⟩ := List.pairwise_cons.mp hp
    unfold setMu
    rcases List.mem_cons.mp h with q | q
    · cases q; rw [if_pos rfl]
    · split
      · rename_i z; exact absurd z (h1 _ q)
      · rw [setMu_same q h2]

section
variable {w : World} {A : Around} {sc scope : Scope} {env : Env} {h0 hb0 hb h hb' h' : Heap} {δ δ' : Dm} {μ μ' : Mu} {pos p pn kp : Pos} {N B : Pm} {R : D → Prop}

/-- the lambda as an expression -/
structure LamE (params : Arguments) (body : Expr) (lsc : Scope) : Prop where
  dflt : ∀ env, defaultsOf params env = ([], [])
  co : lsc.isCoroutine = false
  gen : lsc.isGenerator = false
  kind : lsc.kind = .function
  loc : lsc.names.lookup ("pile" : Str) = some .local
  cells : ∀ p ∈ lsc.names, p.2 ≠ .cell ∧ p.2 ≠ .free
  no : lsc.names.lookup ("common" : Str) ≠ some .local
  bd : ∃ p1 p2 p3 p4 k, body = .Subscript (.Name "pile" p1) (.UnaryOp .USub (.Constant (.int 1) k p2) p3) p4
  bind : ∀ (pm cdv ct v : Value), bindArgs (kla_fn "<lambda>" lamQ params body lsc [] pm cdv ct) ⟨[v], []⟩ = pure [(("pile" : Str), v)]
theorem LamE.fd {params : Arguments} {body : Expr} {lsc : Scope} (L : LamE params body lsc) (pm cdv ct : Value) : LamFd (kla_fn "<lambda>" lamQ params body lsc [] pm cdv ct) :=
  ⟨rfl, rfl, rfl, rfl, L.co, L.gen, L.kind, L.loc, L.cells, L.no, let ⟨a, b, c, d, k, e⟩ := L.bd; ⟨a, b, c, d, k, by rw [e]⟩, L.bind pm cdv ct⟩
theorem clos_none (env : Env) : ∀ (names : List (Str × NameKind)) (acc : List (Str × Addr)), (∀ p ∈ names, p.2 ≠ .free) → clos env names acc = acc
  | [], acc, _ => rfl
  | (n, k) :: r, acc, h => by
    unfold clos
    rw [if_neg (by simpa using h (n, k) List.mem_cons_self)]
    exact clos_none env r acc fun p m => h p (List.mem_cons_of_mem _ m)

theorem lam_make {params : Arguments} {body : Expr} {lsc : Scope} {lpos : Pos} (L : LamE params body lsc) (f : St w sc env h0 hb0 δ μ hb h) (mT : (PT, .tab) ∈ μ) (ask : isAsked sc = true) (s : Shared) (Q : Value → Shared → Prop) (E : Value → Shared → Prop) (es : s.heap = h)
    (k : ∀ v hb' h' tk, Has hb' v .lam → St w sc env h0 hb0 δ μ hb' h' → Go sc env μ hb h μ hb' h' → Q v { s with heap := h', toks := tk }) : wpAny (model PW w) A (eval (.Lambda params body lsc lpos) env) Q E s := by
  subst es
  have gdh := f.gd.mono f.step.inn
  obtain ⟨mg, hm⟩ := gdh.g
  have e1 := bt_at w.params
  obtain ⟨o4, e2, e3, e4, e5⟩ := gdh.bm
  obtain ⟨no, p0, pb, ps, hP, ht, hcs⟩ := f.mu PT _ mT
  obtain ⟨ec, eq⟩ := f.rds.ok.asked ask
  have hcl : closureFor lsc env = pure [] := by
    rw [closureFor_ok (fun p m e => absurd e (L.cells p m).2), clos_none env _ _ fun p m => (L.cells p m).2]
  have C : CodeHd s.heap 218 PT := codeHd_of_K gdh.k (pt_code _)
  have hgP : mainGlobals ≠ PT := by decide
  have hbA : s.heap.BuiltinsAt mg PT := ⟨4, o4, mg_of gdh.k hm e1, by decide, by decide, by decide, e2, e3, e4, e5⟩
  have qn : env.qual ++ "<lambda>" = lamQ := by rw [eq]; decide +kernel
  have pushed : ∀ (h1 : Heap) (fo : Obj) (ps' : Array Value) (cv ctv pm : Value), fo = { cls := .type "function", data := .func (kla_fn "<lambda>" lamQ params body lsc [] pm cv ctv) } → s.heap.objs.size ≤ h1.objs.size →
      Heap.ExtBut PT s.heap h1 → h1.get? PT = some (tabObj ps') → TriplesOk ps'.toList → (frzN hb s.heap (h1.push fo)).CodeRec cv lamQ → (∀ pos cv, codeAmong pos ps'.toList = some cv → (frzN hb s.heap (h1.push fo)).CodeRec cv lamQ) → ∀ tk,
      Q (.ref h1.objs.size) { s with heap := h1.push fo, toks := tk } := by
    intro h1 fo ps' cv ctv pm hfo hsz hx hP' ht' hcr hall tk
    have kb : Ext hb (h1.push fo) := fun b o e => Heap.get?_push_of_some _ (hx b o (fun q => by rw [q, pb] at e; cases e) (f.step.inn b o e))
    have new : s.heap.get? h1.objs.size = none := Heap.get?_none_of_le hsz
    have at1 : (h1.push fo).get? h1.objs.size = some fo := Heap.get?_push_size _ (by subst hfo; rfl)
    have c : Chg PT hb s.heap (frzN hb s.heap (h1.push fo)) (h1.push fo) := ⟨fun b o n e => Heap.get?_push_of_some _ (hx b o n e), frzN_old kb, frzN_sub, fun b o e => frzN_inv kb e⟩
    have il : IsMo (frzN hb s.heap (h1.push fo)) (h1.push fo) PT .tab := ⟨ps', Heap.get?_push_of_some _ hP', ht', hall⟩
    have f2 := f.called mT c il
    have g2 := Go.called f mT c il
    rw [setMu_same mT f.mud] at f2 g2
    refine k _ _ _ tk (.lam (frzN_new new at1) (by rw [hfo]) (L.fd pm cv ctv) hcr) f2 g2
  refine kla_eval (L.dflt env) ?_
  rw [qn]
  cases hf : codeAmong lpos ps.toList with
  | none =>
    refine kla_makeFunction hcl f.rds.ok.glob hm ec C hP ht hf hgP hbA fun c' ctv h1 tk hx hge hlt hrec htb => ?_
    have recN : ∀ fo : Obj, (frzN hb s.heap (h1.push fo)).CodeRec (.ref c') lamQ := fun fo => by
      obtain ⟨c2, oc, vs, t, q1, q2, q3, q4⟩ := hrec
      cases q1
      exact ⟨c', oc, vs, t, rfl, frzN_new (Heap.get?_none_of_le hge) (Heap.get?_push_of_some _ q2), q3, q4⟩
    refine pushed h1 _ _ _ ctv _ rfl (Nat.le_of_lt (Nat.lt_of_le_of_lt hge hlt)) hx htb ?_ (recN _) (fun pos cv e => ?_) tk
    · have := TriplesOk_snoc lpos.line lpos.col (.ref c') ps.toList ht
      simpa using this
    · have e' : codeAmong pos (ps.toList ++ [rawInt lpos.line, rawInt lpos.col, .ref c']) = some cv := by simpa using e
      rcases among_snoc _ ht e' with q | q
      · refine (hcs pos cv q).keeps (frzN_old fun b o e => ?_)
        exact Heap.get?_push_of_some _ (hx b o (fun q => by rw [q, pb] at e; cases e) (f.step.inn b o e))
      · rw [q]; exact recN _
  | some cv =>
    refine kla_makeFunctionHit hcl f.rds.ok.glob hm ec C hP ht hf hbA fun ctv h1 tk hk hsz => ?_
    have kb : ∀ fo : Obj, Ext hb (h1.push fo) := fun fo b o e => Heap.get?_push_of_some _ (hk b o (f.step.inn b o e))
    exact pushed h1 _ _ _ ctv _ rfl hsz (fun b o _ e => hk b o e) (hk _ _ hP) ht ((hcs _ _ hf).keeps (frzN_old (kb _))) (fun pos cv e => (hcs pos cv e).keeps (frzN_old (kb _))) tk

/-- evaluation of «f(x, e, key=lambda ..)», up to the call -/
theorem keyed_args {fnm x : Str} {a P : Addr} {fd : FuncData} {ds0 : List D} {e2 : Expr} {d2 : D} {fp px : Pos} {params : Arguments} {body : Expr} {lsc : Scope} {lpos : Pos} (L : LamE params body lsc) (F : FnAt w a fd) (b : Glb w sc fnm (.ref a)) (hp : plainName x = true) (hx : δ.lookup x = some (.adr P)) (hm : (P, .lst ds0) ∈ μ)
    (mT : (PT, .tab) ∈ μ) (ask : isAsked sc = true) (he : Evs w A sc δ e2 d2) (ns : notStar e2 = true) (f : St w sc env h0 hb0 δ μ hb h) (s : Shared) (Q : Value → Shared → Prop) (E : Value → Shared → Prop) (es : s.heap = h)
    (k : ∀ v lv hb' h' tk, Has hb' v d2 → Has hb' lv .lam → St w sc env h0 hb0 δ μ hb' h' → Go sc env μ hb h μ hb' h' → wpAny (model PW w) A (call (.ref a) [.ref P, v] [("key", lv)]) Q E { s with heap := h', toks := tk }) :
    wpAny (model PW w) A (eval (.Call (.Name fnm fp) [.Name x px, e2] [⟨some "key", .Lambda params body lsc lpos, kp⟩] pos) env) Q E s := by
  refine wpAny_Call_Name_kw (b.ok f.ctx s _ E es fun r hb1 h1 tk st hr => ?_)
  subst hr
  have f1 := f.after st
  obtain ⟨o, ho1, ho2⟩ := F.fn
  have xs : EvsL w A sc δ [.Name x px, e2] [.adr P, d2] := .cons rfl (Evs.name hp hx) (.cons ns he .nil)
  refine callWith_function_kw (o := o) (fd := fd) (evalArgs_kw2 rfl ?_ rfl)
  refine spliced_ok xs f1.ctx _ _ E rfl fun vs hb2 h2 tk2 st2 hvs => ?_
  have f2 := f1.after st2
  obtain ⟨vx, v, rfl, hvx, hv⟩ := hvs.two
  cases hvx
  refine kwAll_cons (lam_make L f2 mT ask _ _ E rfl fun lv hb3 h3 tk3 hlv f3 g3 => kwAll_nil ?_)
  refine ⟨⟨f3.step.inn _ _ (f3.gd.k _ _ ho1), ho2⟩, ?_⟩
  exact k v lv hb3 h3 tk3 (hv.mono g3.fz) hlv f3 ((Go.step (st.trans st2)).trans g3)
/-- y = f(x, e, key=lambda ..) with a flat result -/
theorem Run1.keyed {κ : Nat} {y fnm x : Str} {a P : Addr} {fd : FuncData} {ds0 : List D} {e2 : Expr} {d2 d : D} {fp px py spos : Pos} {params : Arguments} {body : Expr} {lsc : Scope} {lpos : Pos} (hA : OkA κ A) (L : LamE params body lsc) (F : FnAt w a fd) (b : Glb w sc fnm (.ref a)) (hp : plainName x = true) (hx : δ.lookup x = some (.adr P)) (hm : μ.lookup P = some (.lst ds0))
    (mT : (PT, .tab) ∈ μ) (ask : isAsked sc = true) (he : Evs w A sc δ e2 d2) (ns : notStar e2 = true) (fn : FnK w κ a [.list ds0, d2] d) (fl : flat d = true) (o : own2 sc y) (n : N ((y, d) :: δ) μ) :
    Run1 w A sc δ μ (.Assign [.Name y py] (.Call (.Name fnm fp) [.Name x px, e2] [⟨some "key", .Lambda params body lsc lpos, kp⟩] pos) spos) N B R := ⟨fun env h0 hb0 hb h f s Q E es kN kB kR => by
  have hm' := mem_of_look_mu hm
  refine wpAny_Assign_Name (keyed_args L F b hp hx hm' mT ask he ns f s _ E es fun v lv hb1 h1 tk hv hlv f1 g1 => ?_) rfl
  obtain ⟨_, _, _, vs, nn, g, l⟩ := f1.mu P _ hm'
  have il : Has (hbF hb1 h1 μ) (.ref P) (.list ds0) := .list (hbF_at hm' g) l.1 (l.mono (hbF_old f1.step.inn)).2
  have c := f1.frozen
  refine fn A _ h1 _ lv hA c.gd c.sub (.cons il (.cons (hv.mono (hbF_old f1.step.inn)) .nil)) (hlv.mono (hbF_old f1.step.inn)) _ _ E rfl fun r hb2 h2 tk2 st hr => ?_
  have f2 := f1.after (f1.thaw st)
  exact f2.store o (hr.flat fl) _ _ E rfl fun h3 tk3 f3 n3 => kN _ _ _ h3 tk3 n ((g1.trans (Go.step (f1.thaw st))).trans (Go.store f2 f3 n3)) f3⟩
/-- y = f(x, e, key=lambda ..) that changes x and gives None -/
theorem Run1.keyedM {κ : Nat} {y fnm x : Str} {a P : Addr} {fd : FuncData} {ds0 ds1 : List D} {e2 : Expr} {d2 : D} {fp px py spos : Pos} {params : Arguments} {body : Expr} {lsc : Scope} {lpos : Pos} (hA : OkA κ A) (L : LamE params body lsc) (F : FnAt w a fd) (b : Glb w sc fnm (.ref a)) (hp : plainName x = true) (hx : δ.lookup x = some (.adr P)) (hm : (P, .lst ds0) ∈ μ)
    (mT : (PT, .tab) ∈ μ) (ask : isAsked sc = true) (he : Evs w A sc δ e2 d2) (ns : notStar e2 = true) (fn : FnM w κ a ds0 d2 ds1) (o : own2 sc y) (n : N ((y, .none) :: δ) (setMu μ P (.lst ds1))) :
    Run1 w A sc δ μ (.Assign [.Name y py] (.Call (.Name fnm fp) [.Name x px, e2] [⟨some "key", .Lambda params body lsc lpos, kp⟩] pos) spos) N B R := ⟨fun env h0 hb0 hb h f s Q E es kN kB kR => by
  refine wpAny_Assign_Name (keyed_args L F b hp hx hm mT ask he ns f s _ E es fun v lv hb1 h1 tk hv hlv f1 g1 => ?_) rfl
  obtain ⟨_, _, pb, il⟩ := f1.mu P _ hm
  refine fn A hb1 P v lv hA f1.gd _ _ E f1.step.inn pb il hv hlv fun hb2 h2 tk2 c il2 => ?_
  have f2 := f1.called (m' := .lst ds1) hm c il2
  have g2 := Go.called (m' := .lst ds1) f1 hm c il2
  exact f2.store o .none _ _ E rfl fun h3 tk3 f3 n3 => kN _ _ _ h3 tk3 n ((g1.trans g2).trans (Go.store f2 f3 n3)) f3⟩
end
end
-- part B16
section
/-! the plain law of the shown lines: no program in sight -/
structure Forest (A : Nat → Nat → Bool) : Prop where
  refl : ∀ k, A k k = true
  down : ∀ {j p k}, A j k = true → j ≤ p → p ≤ k → A j p = true
  trans : ∀ {i j q}, A i j = true → A j q = true → i ≤ j → j ≤ q → A i q = true
noncomputable def pileF (A : Nat → Nat → Bool) (k : Nat) : List Nat := (List.range (k + 1)).filter fun j => A j k
noncomputable def cov (A : Nat → Nat → Bool) (n : Nat) (c : Nat → Bool) (j : Nat) : Bool := (List.range n).any fun m => c m && decide (j ≤ m) && A j m
noncomputable def U (A : Nat → Nat → Bool) (n : Nat) (c : Nat → Bool) : Nat := (List.range n).countP (cov A n c)
noncomputable def chos (n : Nat) (c : Nat → Bool) : List Nat := (List.range n).filter c

theorem cov_iff {A : Nat → Nat → Bool} {n : Nat} {c : Nat → Bool} {j : Nat} : cov A n c j = true ↔ ∃ m, m < n ∧ c m = true ∧ j ≤ m ∧ A j m = true := by
  unfold cov
  rw [List.any_eq_true]
  constructor
  · rintro ⟨m, h1, h2⟩
    rw [Bool.and_eq_true, Bool.and_eq_true, decide_eq_true_eq] at h2
    exact ⟨m, List.mem_range.mp h1, h2.1.1, h2.1.2, h2.2⟩
  · rintro ⟨m, h1, h2, h3, h4⟩
    exact ⟨m, List.mem_range.mpr h1, by rw [h2, h4]; simp [h3]⟩
theorem any_congr_mem {l : List Nat} {p q : Nat → Bool} (h : ∀ x ∈ l, p x = q x) : l.any p = l.any q := by
  induction l with
  | nil => rfl
  | cons a l ih => rw [List.any_cons, List.any_cons, h a List.mem_cons_self, ih fun x m => h x (List.mem_cons_of_mem _ m)]
theorem U_congr {A : Nat → Nat → Bool} {n : Nat} {c c' : Nat → Bool} (h : ∀ m, m < n → c m = c' m) : U A n c = U A n c' := by
  have : cov A n c = cov A n c' := by
    funext j
    unfold cov
    exact any_congr_mem fun m mm => by rw [h m (List.mem_range.mp mm)]
  unfold U; rw [this]
theorem chos_congr {n : Nat} {c c' : Nat → Bool} (h : ∀ m, m < n → c m = c' m) : chos n c = chos n c' := List.filter_congr fun m mm => h m (List.mem_range.mp mm)
theorem countP_range_getD {P : Int → Bool} : ∀ l : List Int, (List.range l.length).countP (fun i => P (l.getD i 0)) = l.countP P := by
  intro l
  induction l with
  | nil => rfl
  | cons a l ih =>
    rw [List.length_cons, List.range_succ_eq_map, List.countP_cons, List.countP_map, List.countP_cons, ← ih]
    congr 1
theorem bisRI_eq (l : List Int) (x : Int) : bisRI l x = l.countP fun y => decide (y ≤ x) := countP_range_getD (P := fun y => decide (y ≤ x)) l
theorem range_countP_le {P : Nat → Bool} {a b : Nat} (h : a ≤ b) (k : ∀ j, a ≤ j → j < b → P j = false) : (List.range b).countP P = (List.range a).countP P := by
  induction b with
  | zero => rw [Nat.le_zero.mp h]
  | succ b ih =>
    by_cases q : a = b + 1
    · rw [q]
    · rw [List.range_succ, List.countP_append, ih (by omega) fun j h1 h2 => k j h1 (by omega)]
      simp [k b (by omega) (by omega)]
/-- the lines of k's pile that satisfy P, counted over all lines -/
theorem pile_count {A : Nat → Nat → Bool} {n k : Nat} (hk : k < n) (P : Nat → Bool) : (pileF A k).countP P = (List.range n).countP fun j => decide (j ≤ k) && A j k && P j := by
  unfold pileF
  rw [List.countP_filter, range_countP_le (a := k + 1) (b := n) (by omega) fun j h1 h2 => by rw [decide_eq_false (by omega)]; rfl]
  refine List.countP_congr fun j mj => ?_
  have := List.mem_range.mp mj
  rw [decide_eq_true (show j ≤ k by omega)]
  simp [and_comm]
theorem countP_or_of {X Y : Nat → Bool} {l : List Nat} (h : (∀ j ∈ l, X j = true → Y j = true) ∨ (∀ j ∈ l, Y j = true → X j = true)) : l.countP (fun j => X j || Y j) = max (l.countP X) (l.countP Y) := by
  rcases h with h | h
  · have e : l.countP (fun j => X j || Y j) = l.countP Y := List.countP_congr fun j m => by
      constructor
      · intro q; rcases Bool.or_eq_true_iff.mp q with q | q
        · exact h j m q
        · exact q
      · intro q; rw [q]; simp
    have : l.countP X ≤ l.countP Y := List.countP_mono_left fun j m q => h j m q
    rw [e]; omega
  · have e : l.countP (fun j => X j || Y j) = l.countP X := List.countP_congr fun j m => by
      constructor
      · intro q; rcases Bool.or_eq_true_iff.mp q with q | q
        · exact q
        · exact h j m q
      · intro q; rw [q]; simp
    have : l.countP Y ≤ l.countP X := List.countP_mono_left fun j m q => h j m q
    rw [e]; omega

theorem range_cut {n k : Nat} (hk : k ≤ n) : List.range n = List.range k ++ List.range' k (n - k) := by
  rw [List.range_eq_range', List.range_eq_range']
  have : n = k + (n - k) := by omega
  conv => lhs; rw [this, ← List.range'_append_1, Nat.zero_add]
/-- the line ahead of k among the chosen, the line behind it -/
theorem chos_prev {n k : Nat} {c : Nat → Bool} (hk : k ≤ n) : ((chos n c).countP (fun m => decide (m < k)) = 0 ∧ ∀ m, m < k → c m = false) ∨
    (∃ q, 0 < (chos n c).countP (fun m => decide (m < k)) ∧ (chos n c).getD ((chos n c).countP (fun m => decide (m < k)) - 1) 0 = q ∧ q < k ∧ c q = true ∧ ∀ m, m < k → c m = true → m ≤ q) := by
  have split : chos n c = chos k c ++ ((List.range' k (n - k)).filter c) := by
    unfold chos
    rw [← List.filter_append]
    congr 1
    exact range_cut hk
  have low : ∀ m ∈ chos k c, m < k := fun m mm => List.mem_range.mp (List.mem_filter.mp mm).1
  have hi : ∀ m ∈ (List.range' k (n - k)).filter c, ¬ m < k := fun m mm => by
    have := (List.mem_filter.mp mm).1
    rw [List.mem_range'_1] at this; omega
  have cnt : (chos n c).countP (fun m => decide (m < k)) = (chos k c).length := by
    rw [split, List.countP_append, List.countP_eq_length.mpr fun m mm => decide_eq_true (low m mm), List.countP_eq_zero.mpr fun m mm q => hi m mm (of_decide_eq_true q)]; rfl
  rw [cnt]
  by_cases e : chos k c = []
  · left
    refine ⟨by rw [e]; rfl, fun m hm => ?_⟩
    cases q : c m with
    | false => rfl
    | true =>
      have : m ∈ chos k c := List.mem_filter.mpr ⟨List.mem_range.mpr hm, q⟩
      rw [e] at this; cases this
  · right
    refine ⟨(chos k c).getLast e, List.length_pos_iff.mpr e, ?_, low _ (List.getLast_mem e), (List.mem_filter.mp (List.getLast_mem e)).2, fun m hm hc => ?_⟩
    · have h1 := List.length_pos_iff.mpr e
      rw [split, List.getD_eq_getElem?_getD, List.getElem?_append_left (by omega), List.getElem?_eq_getElem (by omega), List.getLast_eq_getElem]; rfl
    · have mm : m ∈ chos k c := List.mem_filter.mpr ⟨List.mem_range.mpr hm, hc⟩
      have asc : (chos k c).Pairwise (· < ·) := List.Pairwise.filter _ (List.pairwise_lt_range)
      obtain ⟨i, hi', rfl⟩ := List.getElem_of_mem mm
      rw [List.getLast_eq_getElem]
      by_cases z : i = (chos k c).length - 1
      · subst z; exact Nat.le_refl _
      · exact Nat.le_of_lt (List.pairwise_iff_getElem.mp asc _ _ hi' (by omega) (by omega))
theorem chos_next {n k : Nat} {c : Nat → Bool} (hk : k ≤ n) : ((chos n c).length ≤ (chos n c).countP (fun m => decide (m < k)) ∧ ∀ m, k ≤ m → m < n → c m = false) ∨
    (∃ r, (chos n c).countP (fun m => decide (m < k)) < (chos n c).length ∧ (chos n c).getD ((chos n c).countP (fun m => decide (m < k))) 0 = r ∧ k ≤ r ∧ r < n ∧ c r = true ∧ ∀ m, k ≤ m → m < n → c m = true → r ≤ m) := by
  have split : chos n c = chos k c ++ ((List.range' k (n - k)).filter c) := by
    unfold chos
    rw [← List.filter_append]
    congr 1
    exact range_cut hk
  have low : ∀ m ∈ chos k c, m < k := fun m mm => List.mem_range.mp (List.mem_filter.mp mm).1
  have hi : ∀ m ∈ (List.range' k (n - k)).filter c, k ≤ m ∧ m < n ∧ c m = true := fun m mm => by
    have h1 := (List.mem_filter.mp mm).1
    rw [List.mem_range'_1] at h1; exact ⟨h1.1, by omega, (List.mem_filter.mp mm).2⟩
  have cnt : (chos n c).countP (fun m => decide (m < k)) = (chos k c).length := by
    rw [split, List.countP_append, List.countP_eq_length.mpr fun m mm => decide_eq_true (low m mm), List.countP_eq_zero.mpr fun m mm q => by have := (hi m mm).1; have := of_decide_eq_true q; omega]; rfl
  rw [cnt]
  cases e : (List.range' k (n - k)).filter c with
  | nil =>
    left
    refine ⟨by rw [split, e]; simp, fun m h1 h2 => ?_⟩
    cases q : c m with
    | false => rfl
    | true =>
      have : m ∈ (List.range' k (n - k)).filter c := List.mem_filter.mpr ⟨List.mem_range'_1.mpr ⟨h1, by omega⟩, q⟩
      rw [e] at this; cases this
  | cons r t =>
    right
    obtain ⟨a1, a2, a3⟩ := hi r (by rw [e]; exact List.mem_cons_self)
    refine ⟨r, by rw [split, e]; simp, ?_, a1, a2, a3, fun m h1 h2 hc => ?_⟩
    · rw [split, e, List.getD_eq_getElem?_getD, List.getElem?_append_right (Nat.le_refl _), Nat.sub_self]; rfl
    · have mm : m ∈ (List.range' k (n - k)).filter c := List.mem_filter.mpr ⟨List.mem_range'_1.mpr ⟨h1, by omega⟩, hc⟩
      have asc : ((List.range' k (n - k)).filter c).Pairwise (· < ·) := List.Pairwise.filter _ (List.pairwise_lt_range')
      rw [e] at mm asc
      rcases List.mem_cons.mp mm with z | z
      · omega
      · exact Nat.le_of_lt ((List.pairwise_cons.mp asc).1 m z)

/-- what _law_asked counts as common -/
noncomputable def intsOf (l : List Nat) : List Int := l.map fun j : Nat => (j : Int)
noncomputable def placeN (n : Nat) (c : Nat → Bool) (k : Nat) : Nat := (chos n c).countP fun m => decide (m < k)
noncomputable def com0 (A : Nat → Nat → Bool) (n : Nat) (c : Nat → Bool) (k : Nat) : Nat := if placeN n c k > 0 then bisRI (intsOf (pileF A k)) ((chos n c).getD (placeN n c k - 1) 0 : Nat) else 0
noncomputable def com1 (A : Nat → Nat → Bool) (n : Nat) (c : Nat → Bool) (k : Nat) : Nat := if placeN n c k < (chos n c).length then max (com0 A n c k) (bisRI (intsOf (pileF A ((chos n c).getD (placeN n c k) 0))) k) else com0 A n c k
theorem bis_ints (l : List Nat) (x : Nat) : bisRI (intsOf l) x = l.countP fun j => decide (j ≤ x) := by
  rw [bisRI_eq]
  unfold intsOf
  rw [List.countP_map]
  refine List.countP_congr fun j _ => ?_
  simp
theorem com_eq {A : Nat → Nat → Bool} (F : Forest A) {n k : Nat} {c : Nat → Bool} (hk : k < n) (hc : c k = false) : com1 A n c k = (List.range n).countP fun j => decide (j ≤ k) && A j k && cov A n c j := by
  have nx : ∀ m, c m = true → m ≠ k := fun m h e => by rw [e, hc] at h; cases h
  -- what stands for the line ahead, the line behind
  obtain ⟨X, hX0, hX⟩ : ∃ X : Nat → Bool, com0 A n c k = (List.range n).countP (fun j => decide (j ≤ k) && A j k && X j) ∧ ((∃ q, X = (fun j => decide (j ≤ q)) ∧ q < k ∧ c q = true ∧ ∀ m, m < k → c m = true → m ≤ q) ∨ (X = (fun _ => false) ∧ ∀ m, m < k → c m = false)) := by
    rcases chos_prev (n := n) (k := k) (c := c) (by omega) with ⟨h1, h2⟩ | ⟨q, h1, h2, h3, h4, h5⟩
    · exact ⟨fun _ => false, by unfold com0 placeN; rw [h1]; simp, .inr ⟨rfl, h2⟩⟩
    · refine ⟨fun j => decide (j ≤ q), ?_, .inl ⟨q, rfl, h3, h4, h5⟩⟩
      unfold com0 placeN
      rw [if_pos h1, h2, bis_ints, pile_count hk]
  obtain ⟨Y, hY0, hY⟩ : ∃ Y : Nat → Bool, com1 A n c k = max (com0 A n c k) ((List.range n).countP (fun j => decide (j ≤ k) && A j k && Y j)) ∧ ((∃ r, Y = (fun j => A j r) ∧ k < r ∧ r < n ∧ c r = true ∧ ∀ m, k < m → m < n → c m = true → r ≤ m) ∨ (Y = (fun _ => false) ∧ ∀ m, k < m → m < n → c m = false)) := by
    rcases chos_next (n := n) (k := k) (c := c) (by omega) with ⟨h1, h2⟩ | ⟨r, h1, h2, h3, h4, h5, h6⟩
    · refine ⟨fun _ => false, ?_, .inr ⟨rfl, fun m a b => h2 m (by omega) b⟩⟩
      unfold com1 placeN
      rw [if_neg (by omega)]; simp
    · have hr : k < r := by have := nx r h5; omega
      refine ⟨fun j => A j r, ?_, .inl ⟨r, rfl, hr, h4, h5, fun m a b d => h6 m (by omega) b d⟩⟩
      unfold com1 placeN
      rw [if_pos h1, h2, bis_ints, pile_count h4]
      congr 1
      refine List.countP_congr fun j _ => ?_
      simp only [Bool.and_eq_true, decide_eq_true_eq]
      constructor
      · rintro ⟨⟨a, b⟩, d⟩; exact ⟨⟨d, F.down b d (by omega)⟩, b⟩
      · rintro ⟨⟨a, b⟩, d⟩; exact ⟨⟨by omega, d⟩, a⟩
  rw [hY0, hX0, ← countP_or_of]
  · refine List.countP_congr fun j _ => ?_
    simp only [Bool.or_eq_true, Bool.and_eq_true, decide_eq_true_eq]
    rw [cov_iff]
    constructor
    · rintro (⟨⟨a, b⟩, d⟩ | ⟨⟨a, b⟩, d⟩)
      · refine ⟨⟨a, b⟩, ?_⟩
        rcases hX with ⟨q, rfl, h3, h4, h5⟩ | ⟨rfl, _⟩
        · have d := of_decide_eq_true d
          exact ⟨q, by omega, h4, d, F.down b d (by omega)⟩
        · cases d
      · refine ⟨⟨a, b⟩, ?_⟩
        rcases hY with ⟨r, rfl, h3, h4, h5, h6⟩ | ⟨rfl, _⟩
        · exact ⟨r, h4, h5, by omega, d⟩
        · cases d
    · rintro ⟨⟨a, b⟩, m, h1, h2, h3, h4⟩
      have := nx m h2
      by_cases z : m < k
      · left
        refine ⟨⟨a, b⟩, ?_⟩
        rcases hX with ⟨q, rfl, g3, g4, g5⟩ | ⟨rfl, g⟩
        · have := g5 m z h2; exact decide_eq_true (by omega)
        · rw [g m z] at h2; cases h2
      · right
        refine ⟨⟨a, b⟩, ?_⟩
        rcases hY with ⟨r, rfl, g3, g4, g5, g6⟩ | ⟨rfl, g⟩
        · have := g6 m (by omega) h1 h2
          exact F.down h4 (by omega) this
        · rw [g m (by omega) h1] at h2; cases h2
  · rcases hX with ⟨q, rfl, g3, g4, g5⟩ | ⟨rfl, g⟩
    · rcases hY with ⟨r, rfl, f3, f4, f5, f6⟩ | ⟨rfl, f⟩
      · by_cases z : ∀ j ∈ List.range n, (decide (j ≤ k) && A j k && decide (j ≤ q)) = true → (decide (j ≤ k) && A j k && A j r) = true
        · exact .inl z
        · right
          have ⟨x, hx⟩ : ∃ x, ¬ (x ∈ List.range n → (decide (x ≤ k) && A x k && decide (x ≤ q)) = true → (decide (x ≤ k) && A x k && A x r) = true) := Classical.not_forall.mp z
          have hx1 : (decide (x ≤ k) && A x k && decide (x ≤ q)) = true ∧ ¬ A x r = true := by
            refine Classical.byContradiction fun h => hx fun _ h1 => ?_
            refine Classical.byContradiction fun h2 => h ⟨h1, fun h3 => h2 ?_⟩
            simp only [Bool.and_eq_true, decide_eq_true_eq] at h1 ⊢
            exact ⟨h1.1, h3⟩
          simp only [Bool.and_eq_true, decide_eq_true_eq] at hx1
          intro y _ hy
          simp only [Bool.and_eq_true, decide_eq_true_eq] at hy ⊢
          refine ⟨hy.1, Classical.byContradiction fun h => hx1.2 ?_⟩
          exact F.trans (F.down hx1.1.1.2 (show x ≤ y by omega) hy.1.1) hy.2 (by omega) (by omega)
      · right; intro j _ h; simp at h
    · left; intro j _ h; simp at h
theorem countP_split {P Q : Nat → Bool} (l : List Nat) : l.countP (fun j => P j || Q j) = l.countP P + l.countP fun j => Q j && !P j := by
  induction l with
  | nil => rfl
  | cons a l ih =>
    simp only [List.countP_cons, ih]
    cases h1 : P a <;> cases h2 : Q a <;> simp <;> omega
theorem countP_split2 {P Q : Nat → Bool} (l : List Nat) : l.countP P = (l.countP fun j => P j && Q j) + l.countP fun j => P j && !Q j := by
  induction l with
  | nil => rfl
  | cons a l ih =>
    simp only [List.countP_cons, ih]
    cases h1 : P a <;> cases h2 : Q a <;> simp <;> omega
/-- one line more: so many lines are gained -/
theorem gain {A : Nat → Nat → Bool} (F : Forest A) {n k : Nat} {c c' : Nat → Bool} (hk : k < n) (hc : c k = false) (hc' : ∀ m, m < n → c' m = (c m || m == k)) : ((pileF A k).length : Int) - com1 A n c k = (U A n c' : Int) - U A n c := by
  have e1 : U A n c' = (List.range n).countP fun j => cov A n c j || (decide (j ≤ k) && A j k) := by
    unfold U
    refine List.countP_congr fun j _ => ?_
    rw [cov_iff, Bool.or_eq_true, cov_iff, Bool.and_eq_true, decide_eq_true_eq]
    constructor
    · rintro ⟨m, h1, h2, h3, h4⟩
      rw [hc' m h1, Bool.or_eq_true] at h2
      rcases h2 with h2 | h2
      · exact .inl ⟨m, h1, h2, h3, h4⟩
      · rw [beq_iff_eq] at h2; subst h2; exact .inr ⟨h3, h4⟩
    · rintro (⟨m, h1, h2, h3, h4⟩ | ⟨h1, h2⟩)
      · exact ⟨m, h1, by rw [hc' m h1, h2]; rfl, h3, h4⟩
      · exact ⟨k, hk, by rw [hc' k hk]; simp, h1, h2⟩
  have e2 : (pileF A k).length = (List.range n).countP fun j => decide (j ≤ k) && A j k := by
    have := pile_count (A := A) hk (fun _ => true)
    rw [List.countP_true] at this
    simpa using this
  have e3 := countP_split (P := cov A n c) (Q := fun j => decide (j ≤ k) && A j k) (List.range n)
  have e4 := countP_split2 (P := fun j => decide (j ≤ k) && A j k) (Q := cov A n c) (List.range n)
  rw [com_eq F hk hc, e1, e2, e3, e4]
  unfold U
  omega
theorem range_split {n k : Nat} (hk : k < n) : List.range n = List.range k ++ k :: List.range' (k + 1) (n - k - 1) := by
  rw [List.range_eq_range', List.range_eq_range']
  have : n = k + (1 + (n - k - 1)) := by omega
  conv => lhs; rw [this, ← List.range'_append_1, Nat.zero_add, ← List.range'_append_1]
  rfl
theorem chos_split {n k : Nat} {c : Nat → Bool} (hk : k < n) : chos n c = chos k c ++ ((if c k = true then [k] else []) ++ (List.range' (k + 1) (n - k - 1)).filter c) := by
  unfold chos
  rw [range_split hk, List.filter_append, List.filter_cons]
  split <;> simp
theorem place_eq {n k : Nat} {c : Nat → Bool} (hk : k < n) : placeN n c k = (chos k c).length := by
  unfold placeN
  rw [chos_split hk, List.countP_append, List.countP_append]
  have h1 : (chos k c).countP (fun m => decide (m < k)) = (chos k c).length := List.countP_eq_length.mpr fun m mm => decide_eq_true (List.mem_range.mp (List.mem_filter.mp mm).1)
  have h2 : (if c k = true then [k] else []).countP (fun m => decide (m < k)) = 0 := by split <;> simp
  have h3 : ((List.range' (k + 1) (n - k - 1)).filter c).countP (fun m => decide (m < k)) = 0 := List.countP_eq_zero.mpr fun m mm q => by
    have h1 := (List.mem_filter.mp mm).1
    rw [List.mem_range'_1] at h1
    have := of_decide_eq_true q; omega
  omega
theorem placeR_eq {n k : Nat} {c : Nat → Bool} (hk : k < n) (hc : c k = false) : (chos n c).countP (fun m => decide (m ≤ k)) = placeN n c k := by
  unfold placeN
  refine List.countP_congr fun m mm => ?_
  have : m ≠ k := fun e => by have := (List.mem_filter.mp mm).2; rw [e, hc] at this; cases this
  simp only [decide_eq_true_eq]; omega
theorem chos_le {k : Nat} {c c' : Nat → Bool} (h : ∀ m, m ≠ k → c m = c' m) : chos k c = chos k c' := List.filter_congr fun m mm => h m (by have := List.mem_range.mp mm; omega)
theorem chos_ins {n k : Nat} {c c' : Nat → Bool} (hk : k < n) (hc : c k = false) (hc' : ∀ m, c' m = (c m || m == k)) : insAt (chos n c) (placeN n c k) k = chos n c' := by
  have h1 : ∀ m, m ≠ k → c m = c' m := fun m h => by rw [hc' m, beq_false_of_ne h]; simp
  rw [place_eq hk, chos_split (c := c) hk, chos_split (c := c') hk, ← chos_le h1]
  have h2 : (List.range' (k + 1) (n - k - 1)).filter c = (List.range' (k + 1) (n - k - 1)).filter c' := List.filter_congr fun m mm => h1 m (by rw [List.mem_range'_1] at mm; omega)
  rw [h2, if_neg (by rw [hc]; decide), if_pos (by rw [hc']; simp)]
  unfold insAt
  simp
theorem chos_pop {n k : Nat} {c c' : Nat → Bool} (hk : k < n) (hc : c k = true) (hc' : ∀ m, c' m = (c m && m != k)) : popAt (chos n c) (placeN n c k) = chos n c' := by
  have h1 : ∀ m, m ≠ k → c m = c' m := fun m h => by rw [hc' m]; simp [h]
  rw [place_eq hk, chos_split (c := c) hk, chos_split (c := c') hk, ← chos_le h1]
  have h2 : (List.range' (k + 1) (n - k - 1)).filter c = (List.range' (k + 1) (n - k - 1)).filter c' := List.filter_congr fun m mm => h1 m (by rw [List.mem_range'_1] at mm; omega)
  rw [h2, if_pos hc, if_neg (by rw [hc']; simp)]
  unfold popAt
  simp
theorem place_same {n k : Nat} {c c' : Nat → Bool} (hk : k < n) (hc' : ∀ m, m ≠ k → c' m = c m) : placeN n c' k = placeN n c k := by
  rw [place_eq hk, place_eq hk, chos_le hc']
theorem insAt_map {α β : Type} (f : α → β) (l : List α) (k : Nat) (x : α) : insAt (l.map f) k (f x) = (insAt l k x).map f := by simp [insAt]
theorem popAt_map {α β : Type} (f : α → β) (l : List α) (k : Nat) : popAt (l.map f) k = (popAt l k).map f := by simp [popAt]
theorem pileF_snoc {A : Nat → Nat → Bool} (F : Forest A) (k : Nat) : pileF A k = (List.range k).filter (fun j => A j k) ++ [k] := by
  unfold pileF
  rw [List.range_succ, List.filter_append]
  simp [F.refl]
theorem pileF_lst {A : Nat → Nat → Bool} (F : Forest A) (k : Nat) : lst (pileF A k) = k := by
  rw [pileF_snoc F]; simp [lst]
theorem pileF_ne {A : Nat → Nat → Bool} (F : Forest A) (k : Nat) : pileF A k ≠ [] := by
  rw [pileF_snoc F]; simp
theorem pileF_len {A : Nat → Nat → Bool} (k : Nat) : (pileF A k).length ≤ k + 1 := by
  unfold pileF
  have := List.length_filter_le (fun j => A j k) (List.range (k + 1))
  simpa using this
theorem chos_len (n : Nat) (c : Nat → Bool) : (chos n c).length ≤ n := by
  have := List.length_filter_le c (List.range n)
  simpa [chos] using this
theorem chos_asc (n : Nat) (c : Nat → Bool) : (chos n c).Pairwise (· < ·) := List.Pairwise.filter _ List.pairwise_lt_range
theorem chos_getD {n : Nat} {c : Nat → Bool} {i : Nat} (h : i < (chos n c).length) : (chos n c).getD i 0 = (chos n c)[i] := by
  rw [List.getD_eq_getElem?_getD, List.getElem?_eq_getElem h]; rfl
theorem chos_lt {n : Nat} {c : Nat → Bool} {i : Nat} (h : i < (chos n c).length) : (chos n c).getD i 0 < n := by
  rw [chos_getD h]
  exact List.mem_range.mp (List.mem_filter.mp (List.getElem_mem h)).1
theorem shown_get {A : Nat → Nat → Bool} {n : Nat} {c : Nat → Bool} {i : Nat} (h : i < (chos n c).length) : ((chos n c).map (pileF A)).getD i [] = pileF A ((chos n c).getD i 0) := by
  rw [chos_getD h, List.getD_eq_getElem?_getD, List.getElem?_map, List.getElem?_eq_getElem h]; rfl
theorem shown_ok {A : Nat → Nat → Bool} (F : Forest A) {n : Nat} (hn : n ≤ 999) (c : Nat → Bool) : PilesOk ((chos n c).map (pileF A)) := by
  refine ⟨by have := chos_len n c; simp; omega, fun l m => ?_, fun i j h1 h2 => ?_⟩
  · obtain ⟨k, mk, rfl⟩ := List.mem_map.mp m
    have := List.mem_range.mp (List.mem_filter.mp mk).1
    have := pileF_len (A := A) k
    exact ⟨pileF_ne F k, by omega⟩
  · rw [List.length_map] at h2
    rw [shown_get h2, shown_get (by omega), pileF_lst F, pileF_lst F, chos_getD h2, chos_getD (by omega)]
    by_cases e : i = j
    · subst e; exact Nat.le_refl _
    · exact Nat.le_of_lt (List.pairwise_iff_getElem.mp (chos_asc n c) i j (by omega) h2 (by omega))
theorem countP_range_at {α : Type} (d : α) (P : α → Bool) : ∀ l : List α, (List.range l.length).countP (fun i => P (l.getD i d)) = l.countP P := by
  intro l
  induction l with
  | nil => rfl
  | cons a l ih =>
    rw [List.length_cons, List.range_succ_eq_map, List.countP_cons, List.countP_map, List.countP_cons, ← ih]
    congr 1
theorem shown_bisL {A : Nat → Nat → Bool} (F : Forest A) (n : Nat) (c : Nat → Bool) (k : Nat) : bisLN ((chos n c).map (pileF A)) k = placeN n c k := by
  unfold bisLN placeN
  rw [countP_range_at [] (fun l => decide ((lst l : Int) < k)), List.countP_map]
  refine List.countP_congr fun m _ => ?_
  simp [pileF_lst F]
theorem shown_bisR {A : Nat → Nat → Bool} (F : Forest A) {n : Nat} {c : Nat → Bool} {k : Nat} (hk : k < n) (hc : c k = false) : bisRN ((chos n c).map (pileF A)) k = placeN n c k := by
  rw [← placeR_eq hk hc]
  unfold bisRN
  rw [countP_range_at [] (fun l => decide ((lst l : Int) ≤ k)), List.countP_map]
  refine List.countP_congr fun m _ => ?_
  simp [pileF_lst F]
theorem ints_asc {A : Nat → Nat → Bool} (k : Nat) : ∀ i j, i ≤ j → j < (intsOf (pileF A k)).length → (intsOf (pileF A k)).getD i 0 ≤ (intsOf (pileF A k)).getD j 0 := by
  intro i j h1 h2
  have asc : (pileF A k).Pairwise (· < ·) := List.Pairwise.filter _ List.pairwise_lt_range
  have hl : (intsOf (pileF A k)).length = (pileF A k).length := by simp [intsOf]
  have g : ∀ m, m < (pileF A k).length → ∀ h : m < (pileF A k).length, (intsOf (pileF A k)).getD m 0 = ((pileF A k)[m] : Int) := fun m hm h => by
    rw [List.getD_eq_getElem?_getD]; simp [intsOf, h]
  rw [g i (by omega) (by omega), g j (by omega) (by omega)]
  by_cases e : i = j
  · subst e; exact Int.le_refl _
  · have := List.pairwise_iff_getElem.mp asc i j (by omega) (by omega) (by omega)
    omega
end
-- part B17
section
open PySem PySem.W PyProof.Rows PySem.Calls


theorem OkA.le {κ κ' : Nat} {A : Around} (h : OkA κ A) (k : κ' ≤ κ) : OkA κ' A := ⟨h.hd, by have := h.dep; omega, by have := h.un; omega⟩
theorem F_asked (w : World) : FnAt w 219 (fdAt w 219) where
  fn := ⟨_, rfl, rfl⟩
  code := ⟨_, _, _, _, rfl, rfl, rfl, rfl⟩
  glob := rfl
  blt := rfl
  clo := rfl
  co := rfl
  gen := rfl
  kind := rfl
  keys := (keys_of (sc := fnSc (topS 19)) (by decide +kernel)).1
  nofree := (keys_of (sc := fnSc (topS 19)) (by decide +kernel)).2
  asked := fun _ => ⟨rfl, by kernel_rfl⟩

section
variable {w : World} {A : Around} {sc scope : Scope} {env : Env} {h0 hb0 hb h hb' h' : Heap} {δ δ' : Dm} {μ μ' : Mu} {pos p pn kp : Pos} {N B : Pm} {R : D → Prop}

/-- the inner loop's statements -/
noncomputable def inner : Stmt → List Stmt
  | .For _ _ b _ _ => b
  | _ => []
noncomputable def askFor : Stmt := (fnBody (topS 19)).getD 1 (.Pass ⟨0, 0, 0, 0⟩)
noncomputable def askIn : Stmt := (inner askFor).getD 2 (.Pass ⟨0, 0, 0, 0⟩)
noncomputable abbrev dmO (Ap : Nat → Nat → Bool) (n : Nat) (S T : Addr) (W As : D) (back : Bool) (tot : Int) : Dm :=
  [(("total" : Str), D.int tot), (("shown" : Str), .adr S), (("piles" : Str), .list ((List.range n).map fun k => pileD (pileF Ap k))), (("totals" : Str), .adr T), (("words" : Str), W), (("asked" : Str), As), (("back" : Str), .bool back)]
noncomputable abbrev dmI (Ap : Nat → Nat → Bool) (n : Nat) (S T : Addr) (W As : D) (back : Bool) (tot : Int) (held : Bool) (t : Nat) : Dm :=
  [(("total" : Str), D.int tot), (("held" : Str), .bool held), (("turn" : Str), .int t), (("shown" : Str), .adr S), (("piles" : Str), .list ((List.range n).map fun k => pileD (pileF Ap k))), (("totals" : Str), .adr T), (("words" : Str), W), (("asked" : Str), As), (("back" : Str), .bool back)]
noncomputable abbrev muI (Ap : Nat → Nat → Bool) (n : Nat) (S T : Addr) (c : Nat → Bool) (ts : List D) : Mu := [(S, .lst ((chos n c).map fun m => pileD (pileF Ap m))), (T, .lst ts), (PT, .tab)]
theorem pilesR_get {Ap : Nat → Nat → Bool} {n k : Nat} (h : k < n) : ((List.range n).map fun k => pileD (pileF Ap k))[k]? = some (pileD (pileF Ap k)) := by
  rw [List.getElem?_map, List.getElem?_range h]; rfl
theorem pile_len {Ap : Nat → Nat → Bool} {k : Nat} : ((pileF Ap k).map fun j : Nat => D.int j).length = (pileF Ap k).length := List.length_map ..

theorem lam_e1 : ∃ params body lsc lpos, (match askIn with | .For _ _ (.Assign _ (.Call _ _ [⟨_, e, _⟩] _) _ :: _) _ _ => e | _ => .Constant .none 0 ⟨0, 0, 0, 0⟩) = .Lambda params body lsc lpos ∧ LamE params body lsc :=
  ⟨_, _, _, _, rfl, fun _ => rfl, rfl, rfl, rfl, by decide +kernel, by decide +kernel, by decide +kernel, ⟨_, _, _, _, _, rfl⟩, fun _ _ _ _ => by kernel_rfl⟩

theorem Evs.nameF {x : Str} {d : D} (hp : plainName x = true) (e : δ.lookup x = some d) (h : fzd μ d = d) : Evs w A sc (fzD μ δ) (.Name x p) d := Evs.name hp (by have := fzD_of (μ := μ) e; rw [h] at this; exact this)
theorem Evs.nameO {x : Str} {a : Addr} {ds : List D} (hp : plainName x = true) (e : δ.lookup x = some (.adr a)) (m : μ.lookup a = some (.lst ds)) : Evs w A sc (fzD μ δ) (.Name x p) (.list ds) := Evs.name hp (fzD_own e m)
theorem pile_intsOf (l : List Nat) : pileD l = .list ((intsOf l).map .int) := by unfold intsOf; rw [List.map_map]; rfl
theorem fn_pileR {Ap : Nat → Nat → Bool} {k : Nat} (hk : k ≤ 900) (x : Int) : Fn w 1 105 [pileD (pileF Ap k), .int x] (.int (bisRI (intsOf (pileF Ap k)) x)) := by
  rw [pile_intsOf]
  have := pileF_len (A := Ap) k
  exact fn_bisR2 _ x (by simp [intsOf]; omega) (ints_asc k)
theorem shown_map (Ap : Nat → Nat → Bool) (n : Nat) (c : Nat → Bool) : ((chos n c).map (pileF Ap)).map pileD = (chos n c).map fun m => pileD (pileF Ap m) := List.map_map ..
theorem fn_place {Ap : Nat → Nat → Bool} (F : Forest Ap) {n : Nat} (hn : n ≤ 900) (c : Nat → Bool) (k : Nat) : FnK w 2 123 [.list ((chos n c).map fun m => pileD (pileF Ap m)), .int k] (.int (placeN n c k)) := by
  have := fn_bisL2 (w := w) ((chos n c).map (pileF Ap)) k (shown_ok F (by omega) c)
  rw [shown_bisL F] at this
  unfold pilesD at this
  rw [shown_map] at this
  exact this
theorem fn_putL {Ap : Nat → Nat → Bool} (F : Forest Ap) {n k : Nat} (hn : n ≤ 900) (hk : k < n) {c c' : Nat → Bool} (hc : c k = false) (hc' : ∀ m, c' m = (c m || m == k)) : FnM w 3 114 ((chos n c).map fun m => pileD (pileF Ap m)) (pileD (pileF Ap k)) ((chos n c').map fun m => pileD (pileF Ap m)) := by
  have := pileF_len (A := Ap) k
  have := fn_insL (w := w) ((chos n c).map (pileF Ap)) (pileF Ap k) (shown_ok F (by omega) c) (pileF_ne F k) (by omega)
  rw [pileF_lst F, shown_bisL F, shown_map, insAt_map (fun m => pileD (pileF Ap m)), chos_ins hk hc hc'] at this
  exact this
theorem fn_putR {Ap : Nat → Nat → Bool} (F : Forest Ap) {n k : Nat} (hn : n ≤ 900) (hk : k < n) {c c' : Nat → Bool} (hc : c k = false) (hc' : ∀ m, c' m = (c m || m == k)) : FnM w 3 96 ((chos n c).map fun m => pileD (pileF Ap m)) (pileD (pileF Ap k)) ((chos n c').map fun m => pileD (pileF Ap m)) := by
  have := pileF_len (A := Ap) k
  have := fn_insR (w := w) ((chos n c).map (pileF Ap)) (pileF Ap k) (shown_ok F (by omega) c) (pileF_ne F k) (by omega)
  rw [pileF_lst F, shown_bisR F hk hc, shown_map, insAt_map (fun m => pileD (pileF Ap m)), chos_ins hk hc hc'] at this
  exact this
noncomputable def tog (c : Nat → Bool) (k : Nat) : Nat → Bool := fun m => if m = k then !c m else c m
noncomputable def wout (c : Nat → Bool) (k : Nat) : Nat → Bool := fun m => c m && m != k
theorem tog_on {c : Nat → Bool} {k : Nat} (h : c k = false) (m : Nat) : tog c k m = (wout c k m || m == k) := by
  unfold tog wout
  by_cases e : m = k
  · subst e; rw [if_pos rfl, h]; simp
  · rw [if_neg e]; simp only [bne, beq_false_of_ne e, Bool.not_false, Bool.and_true, Bool.or_false]
theorem tog_off {c : Nat → Bool} {k : Nat} (h : c k = true) (m : Nat) : tog c k m = wout c k m := by
  unfold tog wout
  by_cases e : m = k
  · subst e; rw [if_pos rfl, h]; simp
  · rw [if_neg e]; simp [e]
theorem wout_k (c : Nat → Bool) (k : Nat) : wout c k k = false := by unfold wout; simp
theorem wout_same {c : Nat → Bool} {k : Nat} (h : c k = false) (m : Nat) : c m = wout c k m := by
  unfold wout
  by_cases e : m = k
  · subst e; rw [h]; simp
  · simp [e]

theorem ask_turn {Ap : Nat → Nat → Bool} (F : Forest Ap) {n k : Nat} (hn : n ≤ 100) (hk : k < n) {c : Nat → Bool} {held : Bool} (hc : c k = held) {S T : Addr} {W As : D} {back : Bool} (ts : List D) (t : Nat) (hA : OkA 3 A) :
    Run w A (fnSc (topS 19)) ((("k" : Str), D.int k) :: dmI Ap n S T W As back (U Ap n c) held t) (muI Ap n S T c ts) (inner askIn) (fun δ' μ' => μ' = muI Ap n S T (tog c k) ts ∧ Sub (dmI Ap n S T W As back (U Ap n (tog c k)) held t) δ') (fun _ _ => False) (fun _ => False) := by
  have hb : bigL = 100000 := rfl
  have hlen := chos_len n c
  have hle1 := chos_len n (wout c k)
  have hpl : placeN n (wout c k) k = placeN n c k := place_same hk fun m h => by unfold wout; simp [h]
  have hS : (muI Ap n S T c ts).lookup S = some (.lst ((chos n c).map fun m => pileD (pileF Ap m))) := by rw [List.lookup_cons]; simp
  have hS1 : (muI Ap n S T (wout c k) ts).lookup S = some (.lst ((chos n (wout c k)).map fun m => pileD (pileF Ap m))) := by rw [List.lookup_cons]; simp
  have hplk : (pileF Ap k).length ≤ 101 := by have := pileF_len (A := Ap) k; omega
  have hpk : placeN n c k ≤ n := by rw [place_eq hk]; have := chos_len k c; omega
  -- place
  refine Run.cons (Run1.keyed (κ := 2) (P := S) (d := .int (placeN n c k)) (hA.le (by omega)) (by refine ⟨fun _ => rfl, rfl, rfl, rfl, by decide +kernel, by decide +kernel, by decide +kernel, ⟨_, _, _, _, _, rfl⟩, fun _ _ _ _ => by kernel_rfl⟩) (F_bisL w) (glb_of w (by decide +kernel) (by decide +kernel) (by kernel_rfl))
    (by decide +kernel) (by repeat' trivial) hS (by simp) (by decide +kernel) (d2 := .int k) (by repeat' trivial) (by decide +kernel) (fn_place F (by omega) c k) rfl (.inl (by decide +kernel)) ?_)
  -- pop
  refine Run.cons ((Run1.if_ (N := fun δ' μ' => μ' = muI Ap n S T (wout c k) ts ∧ Sub ((("place" : Str), D.int (placeN n c k)) :: (("k" : Str), D.int k) :: dmI Ap n S T W As back (U Ap n c) held t) δ') (b := held) (Tru.val (by repeat' trivial) (fun _ _ => rfl)) (fun q => ?_) (fun q => Run.nil ⟨?_, fun _ _ e => e⟩)).mono (fun δ' μ' ⟨e, sb⟩ => ?_) (fun _ _ q => q) (fun _ q => q))
  · have hlt : placeN n c k < (chos n c).length := by
      rw [place_eq hk, chos_split hk, List.length_append, if_pos (hc.trans q)]; simp
    refine Run.cons (Run1.pop (a := S) (ds := (chos n c).map fun m => pileD (pileF Ap m)) (i := placeN n c k) (by decide +kernel) (by repeat' trivial) (mem_of_look_mu hS) (by repeat' trivial) (by decide +kernel) (by simp; omega) (by simpa using hlt) (by decide +kernel) (Run.nil ⟨?_, fun _ _ e => e⟩))
    rw [popAt_map, chos_pop hk (hc.trans q) (fun m => rfl)]
    simp [setMu]; rfl
  · have : chos n (wout c k) = chos n c := chos_congr fun m _ => (wout_same (hc.trans q) m).symm
    show muI Ap n S T c ts = muI Ap n S T (wout c k) ts
    unfold muI
    rw [this]
  subst e
  refine RunOn.weak ?_ sb
  -- common, from the line ahead
  have hc1 := wout_k c k
  refine Run.cons (Run1.assignF (x := .int (com0 Ap n (wout c k) k)) (Evs.ifexp (b := decide (placeN n c k > 0)) (Tru.cast ?_ (Tru.cmp (x := .int (placeN n c k)) (y := .int 0) (Evs.nameF (by decide +kernel) (by repeat' trivial) rfl) Evs.int rfl (by decide +kernel))) (fun q => ?_) (fun q => ?_)) rfl (.inl (by decide +kernel)) (fun _ _ => rfl) ?_)
  · simp only [decide_eq_decide]; omega
  · have q : placeN n c k > 0 := of_decide_eq_true q
    have hi : placeN n c k - 1 < (chos n (wout c k)).length := by
      rw [← hpl] at q ⊢
      rw [place_eq hk] at q ⊢
      rw [chos_split hk, List.length_append]; omega
    refine Evs.cast (congrArg D.int ?_) (Evs.callFn (hA.le (by omega)) (glb_of w (by decide +kernel) (by decide +kernel) (by kernel_rfl)) (F_bisR w) (fn_pileR (Ap := Ap) (k := k) (by omega) ((chos n (wout c k)).getD (placeN n c k - 1) 0 : Nat))
      (.cons (by decide +kernel) (Evs.item (x := .list ((List.range n).map fun k => pileD (pileF Ap k))) (y := .int k) (Evs.nameF (by decide +kernel) (by repeat' trivial) rfl) (Evs.nameF (by decide +kernel) (by repeat' trivial) rfl) (by decide +kernel) (itemD_list ⟨by omega, by omega⟩ (by rw [Int.toNat_natCast]; exact pilesR_get hk)))
        (.cons (by decide +kernel) (Evs.item (x := pileD (pileF Ap ((chos n (wout c k)).getD (placeN n c k - 1) 0))) (y := .int (-1)) (Evs.item (x := .list ((chos n (wout c k)).map fun m => pileD (pileF Ap m))) (y := .int ((placeN n c k : Int) - 1)) (Evs.nameO (by decide +kernel) (by repeat' trivial) hS1)
          (Evs.bin (x := .int (placeN n c k)) (y := .int 1) (Evs.nameF (by decide +kernel) (by repeat' trivial) rfl) Evs.int rfl) (by decide +kernel) (itemD_list ⟨by omega, by omega⟩ ?_)) (Evs.neg Evs.int) (by decide +kernel) (itemD_last ?_ ?_)) .nil)))
    · unfold com0; rw [hpl, if_pos q]
    · rw [show ((placeN n c k : Int) - 1).toNat = placeN n c k - 1 by omega, List.getElem?_map, List.getElem?_eq_getElem hi, chos_getD hi]; rfl
    · have := pileF_len (A := Ap) ((chos n (wout c k)).getD (placeN n c k - 1) 0)
      have := chos_lt hi
      have := List.length_pos_iff.mpr (pileF_ne F ((chos n (wout c k)).getD (placeN n c k - 1) 0))
      rw [pile_len]; omega
    · rw [pileF_snoc F]; simp
  · have q : ¬ placeN n c k > 0 := of_decide_eq_false q
    refine Evs.cast (congrArg D.int ?_) Evs.int
    unfold com0; rw [hpl, if_neg q]; rfl
  -- common, with the line behind
  refine Run.cons ((Run1.ifF (N := fun δ' μ' => μ' = muI Ap n S T (wout c k) ts ∧ Sub ((("common" : Str), D.int (com1 Ap n (wout c k) k)) :: (("place" : Str), D.int (placeN n c k)) :: (("k" : Str), D.int k) :: dmI Ap n S T W As back (U Ap n c) held t) δ') (b := decide (placeN n c k < (chos n (wout c k)).length))
    (Tru.cast ?_ (Tru.cmp (x := .int (placeN n c k)) (y := .int ((chos n (wout c k)).length)) (Evs.nameF (by decide +kernel) (by repeat' trivial) rfl) (Evs.cast ?_ (Evs.callB hA (blt_len w (by decide +kernel)) (.cons (by decide +kernel) (Evs.nameO (by decide +kernel) (by repeat' trivial) hS1) .nil) (callB_len (by simp; omega)))) rfl (by decide +kernel))) (fun q => ?_) (fun q => Run.nil ⟨rfl, ?_⟩)).mono (fun δ' μ' ⟨e, sb⟩ => ?_) (fun _ _ q => q) (fun _ q => q))
  · simp only [decide_eq_decide]; omega
  · simp
  · have q : placeN n c k < (chos n (wout c k)).length := of_decide_eq_true q
    have hr := chos_lt q
    refine Run.cons (Run1.assignF (x := .int (com1 Ap n (wout c k) k)) (Evs.cast (congrArg D.int ?_) (Evs.callB hA (blt_max w (by decide +kernel)) (.cons (by decide +kernel) (d := .int (com0 Ap n (wout c k) k)) (Evs.nameF (by decide +kernel) (by repeat' trivial) rfl) (.cons (by decide +kernel)
      (Evs.callFn (hA.le (by omega)) (glb_of w (by decide +kernel) (by decide +kernel) (by kernel_rfl)) (F_bisR w) (fn_pileR (Ap := Ap) (k := (chos n (wout c k)).getD (placeN n c k) 0) (by omega) (k : Int))
        (.cons (by decide +kernel) (Evs.item (x := .list ((chos n (wout c k)).map fun m => pileD (pileF Ap m))) (y := .int (placeN n c k)) (Evs.nameO (by decide +kernel) (by repeat' trivial) hS1) (Evs.nameF (by decide +kernel) (by repeat' trivial) rfl) (by decide +kernel) (itemD_list ⟨by omega, by omega⟩ ?_)) (.cons (by decide +kernel) (Evs.nameF (by decide +kernel) (by repeat' trivial) rfl) .nil))) .nil)) callB_max)) rfl (.inl (by decide +kernel)) (fun _ _ => rfl) (Run.nil ⟨rfl, ?_⟩))
    · unfold com1; rw [hpl, if_pos q]; split <;> omega
    · rw [Int.toNat_natCast, List.getElem?_map, List.getElem?_eq_getElem q, chos_getD q]; rfl
    · exact Sub.push (fun _ _ e => by
        revert e
        exact fun e => (show Sub _ _ by repeat' trivial) _ _ e)
  · have q : ¬ placeN n c k < (chos n (wout c k)).length := of_decide_eq_false q
    have : com1 Ap n (wout c k) k = com0 Ap n (wout c k) k := by unfold com1; rw [hpl, if_neg q]
    rw [this]; exact fun _ _ e => e
  subst e
  refine RunOn.weak ?_ sb
  -- total
  have gn := gain F (n := n) (k := k) (c := wout c k) (c' := fun m => wout c k m || m == k) hk hc1 (fun m _ => rfl)
  refine Run.cons (Run1.assign (x := .int (U Ap n (tog c k))) (Evs.cast (congrArg D.int ?_) (Evs.bin (x := .int (U Ap n c)) (y := .int (if held = true then (com1 Ap n (wout c k) k : Int) - (pileF Ap k).length else ((pileF Ap k).length : Int) - com1 Ap n (wout c k) k)) (by repeat' trivial)
    (Evs.ifexp (b := held) (Tru.val (by repeat' trivial) (fun _ _ => rfl)) (fun q => ?_) (fun q => ?_)) rfl)) (.inl (by decide +kernel)) (fun _ _ => rfl) ?_)
  · cases held with
    | true =>
      have e1 : U Ap n (tog c k) = U Ap n (wout c k) := U_congr fun m _ => tog_off hc m
      have e2 : U Ap n c = U Ap n (fun m => wout c k m || m == k) := U_congr fun m _ => by
        unfold wout
        by_cases z : m = k
        · subst z; rw [hc]; simp
        · simp only [bne, beq_false_of_ne z, Bool.not_false, Bool.and_true, Bool.or_false]
      rw [if_pos rfl, e1, e2]; omega
    | false =>
      have e1 : U Ap n (tog c k) = U Ap n (fun m => wout c k m || m == k) := U_congr fun m _ => tog_on hc m
      have e2 : U Ap n c = U Ap n (wout c k) := U_congr fun m _ => wout_same hc m
      rw [if_neg (by decide), e1, e2]; omega
  · rw [if_pos q]
    refine Evs.bin (x := .int (com1 Ap n (wout c k) k)) (y := .int (pileF Ap k).length) (by repeat' trivial) (Evs.cast ?_ (Evs.callB hA (blt_len w (by decide +kernel)) (.cons (by decide +kernel) (Evs.item (x := .list ((List.range n).map fun k => pileD (pileF Ap k))) (y := .int k) (by repeat' trivial) (by repeat' trivial) (by decide +kernel) (itemD_list ⟨by omega, by omega⟩ (by rw [Int.toNat_natCast]; exact pilesR_get hk))) .nil) (callB_len (by rw [pile_len]; omega)))) rfl
    rw [pile_len]
  · rw [if_neg (by rw [q]; decide)]
    refine Evs.bin (x := .int (pileF Ap k).length) (y := .int (com1 Ap n (wout c k) k)) (Evs.cast ?_ (Evs.callB hA (blt_len w (by decide +kernel)) (.cons (by decide +kernel) (Evs.item (x := .list ((List.range n).map fun k => pileD (pileF Ap k))) (y := .int k) (by repeat' trivial) (by repeat' trivial) (by decide +kernel) (itemD_list ⟨by omega, by omega⟩ (by rw [Int.toNat_natCast]; exact pilesR_get hk))) .nil) (callB_len (by rw [pile_len]; omega)))) (by repeat' trivial) rfl
    rw [pile_len]
  -- given
  refine Run.cons (Run1.assign (x := .none) (by repeat' trivial) (.inl (by decide +kernel)) (fun _ _ => rfl) ?_)
  refine Run.cons ((Run1.if_ (N := fun δ' μ' => μ' = muI Ap n S T (tog c k) ts ∧ Sub ((("given" : Str), D.none) :: dmI Ap n S T W As back (U Ap n (tog c k)) held t) δ') (b := !held && ((t : Int).fmod 2 == 0)) (Tru.and (Tru.not (Tru.val (by repeat' trivial) (fun _ _ => rfl))) (fun _ => Tru.cmp (x := .int ((t : Int).fmod 2)) (y := .int 0) (Evs.bin (x := .int t) (y := .int 2) (by repeat' trivial) Evs.int (binD_mod (by omega))) Evs.int rfl (by decide +kernel))) (fun q => ?_) (fun q => ?_)).mono (fun δ' μ' ⟨e, sb⟩ => ?_) (fun _ _ q => q) (fun _ q => q))
  · have hf : held = false := by
      have := (Bool.and_eq_true_iff.mp q).1
      simpa using this
    rw [hf] at hc
    refine Run.cons (Run1.keyedM (κ := 3) (P := S) hA (by refine ⟨fun _ => rfl, rfl, rfl, rfl, by decide +kernel, by decide +kernel, by decide +kernel, ⟨_, _, _, _, _, rfl⟩, fun _ _ _ _ => by kernel_rfl⟩) (F_insL w) (glb_of w (by decide +kernel) (by decide +kernel) (by kernel_rfl))
      (by decide +kernel) (by repeat' trivial) (mem_of_look_mu hS1) (by simp) (by decide +kernel) (d2 := pileD (pileF Ap k)) (Evs.item (x := .list ((List.range n).map fun k => pileD (pileF Ap k))) (y := .int k) (by repeat' trivial) (by repeat' trivial) (by decide +kernel) (itemD_list ⟨by omega, by omega⟩ (by rw [Int.toNat_natCast]; exact pilesR_get hk)))
      (by decide +kernel) (fn_putL F (by omega) hk hc1 (tog_on hc)) (.inl (by decide +kernel)) (Run.nil ⟨?_, ?_⟩))
    · simp [setMu]
    · repeat' trivial
  · refine Run.cons (Run1.if_ (b := !held) (Tru.not (Tru.val (by repeat' trivial) (fun _ _ => rfl))) (fun q2 => ?_) (fun q2 => Run.nil (Run.nil ⟨?_, ?_⟩)))
    · have hf : held = false := by simpa using q2
      rw [hf] at hc
      refine Run.cons (Run1.keyedM (κ := 3) (P := S) hA (by refine ⟨fun _ => rfl, rfl, rfl, rfl, by decide +kernel, by decide +kernel, by decide +kernel, ⟨_, _, _, _, _, rfl⟩, fun _ _ _ _ => by kernel_rfl⟩) (F_insR w) (glb_of w (by decide +kernel) (by decide +kernel) (by kernel_rfl))
        (by decide +kernel) (by repeat' trivial) (mem_of_look_mu hS1) (by simp) (by decide +kernel) (d2 := pileD (pileF Ap k)) (Evs.item (x := .list ((List.range n).map fun k => pileD (pileF Ap k))) (y := .int k) (by repeat' trivial) (by repeat' trivial) (by decide +kernel) (itemD_list ⟨by omega, by omega⟩ (by rw [Int.toNat_natCast]; exact pilesR_get hk)))
        (by decide +kernel) (fn_putR F (by omega) hk hc1 (tog_on hc)) (.inl (by decide +kernel)) (Run.nil (Run.nil ⟨?_, ?_⟩)))
      · simp [setMu]
      · repeat' trivial
    · have hf : held = true := by simpa using q2
      rw [hf] at hc
      have : chos n (tog c k) = chos n (wout c k) := chos_congr fun m _ => tog_off hc m
      show muI Ap n S T (wout c k) ts = muI Ap n S T (tog c k) ts
      unfold muI
      rw [this]
    · repeat' trivial
  subst e
  refine RunOn.weak ?_ sb
  refine Run.cons (Run1.if_ (b := false) (Tru.cmp (x := .none) (y := .none) (by repeat' trivial) (by repeat' trivial) rfl (by decide +kernel)) (fun q => by cases q) fun _ => Run.nil (Run.nil ⟨rfl, ?_⟩))
  repeat' trivial
end
end
-- part B18
section
open PySem PySem.W PyProof.Rows PySem.Calls


/-- the lines that are chosen ahead of turn t -/
noncomputable def cT (ws as : List Str) (t : Nat) (k : Nat) : Bool := ((as.take t).count (ws.getD k "") % 2 == 1)
noncomputable def heldT (as : List Str) (t : Nat) : Bool := ((as.take t).count (as.getD t "") % 2 == 1)
noncomputable def isL (ws as : List Str) (t : Nat) (k : Nat) : Bool := ws.getD k "" == as.getD t ""
noncomputable def orderT (n : Nat) (ws as : List Str) (back : Bool) (t : Nat) : List Nat := if back = true then (chos n (isL ws as t)).reverse else chos n (isL ws as t)
theorem tog_fold_out (k : Nat) : ∀ (l : List Nat) (c : Nat → Bool), k ∉ l → (l.foldl tog c) k = c k
  | [], c, _ => rfl
  | a :: l, c, h => by
    rw [List.foldl_cons, tog_fold_out k l _ fun m => h (List.mem_cons_of_mem _ m)]
    unfold tog
    rw [if_neg fun e => h (by rw [e]; exact List.mem_cons_self)]
theorem tog_fold_in (k : Nat) : ∀ (l : List Nat) (c : Nat → Bool), l.Nodup → k ∈ l → (l.foldl tog c) k = !c k
  | a :: l, c, nd, h => by
    obtain ⟨n1, n2⟩ := List.nodup_cons.mp nd
    rw [List.foldl_cons]
    by_cases e : k = a
    · subst e
      rw [tog_fold_out k l _ n1]
      unfold tog; rw [if_pos rfl]
    · rcases List.mem_cons.mp h with q | q
      · exact absurd q e
      · rw [tog_fold_in k l _ n2 q]
        unfold tog; rw [if_neg e]
theorem order_nodup (n : Nat) (ws as : List Str) (back : Bool) (t : Nat) : (orderT n ws as back t).Nodup := by
  have h : (chos n (isL ws as t)).Nodup := (chos_asc n _).imp fun h e => by omega
  unfold orderT
  split
  · exact ((List.reverse_perm _).nodup_iff).mpr h
  · exact h
theorem order_mem {n : Nat} {ws as : List Str} {back : Bool} {t k : Nat} : k ∈ orderT n ws as back t ↔ k < n ∧ isL ws as t k = true := by
  have h : k ∈ chos n (isL ws as t) ↔ k < n ∧ isL ws as t k = true := by unfold chos; rw [List.mem_filter, List.mem_range]
  unfold orderT
  split
  · rw [List.mem_reverse]; exact h
  · exact h
theorem order_len (n : Nat) (ws as : List Str) (back : Bool) (t : Nat) : (orderT n ws as back t).length ≤ n := by
  have := chos_len n (isL ws as t)
  unfold orderT
  split
  · rw [List.length_reverse]; exact this
  · exact this
theorem held_of {ws as : List Str} {t k : Nat} (h : isL ws as t k = true) : cT ws as t k = heldT as t := by
  unfold cT heldT
  rw [beq_iff_eq.mp h]
theorem cT_succ {n : Nat} {ws as : List Str} {back : Bool} {t : Nat} (ht : t < as.length) (k : Nat) (hk : k < n) : ((orderT n ws as back t).foldl tog (cT ws as t)) k = cT ws as (t + 1) k := by
  have e : (as.take (t + 1)).count (ws.getD k "") = (as.take t).count (ws.getD k "") + if isL ws as t k = true then 1 else 0 := by
    rw [List.take_add_one, List.getElem?_eq_getElem ht, List.count_append]
    have : as.getD t "" = as[t] := by rw [List.getD_eq_getElem?_getD, List.getElem?_eq_getElem ht]; rfl
    unfold isL
    rw [this]
    simp only [Option.toList_some, List.count_singleton]
    congr 1
    by_cases q : ws.getD k "" = as[t]
    · rw [q]
    · rw [if_neg (by simpa using fun z => q z.symm), if_neg (by simpa using q)]
  by_cases m : k ∈ orderT n ws as back t
  · rw [tog_fold_in k _ _ (order_nodup ..) m]
    have := (order_mem.mp m).2
    unfold cT
    rw [e, if_pos this]
    have h2 := Nat.mod_two_eq_zero_or_one ((as.take t).count (ws.getD k ""))
    rcases h2 with h2 | h2
    · rw [h2, show ((as.take t).count (ws.getD k "") + 1) % 2 = 1 by omega]; rfl
    · rw [h2, show ((as.take t).count (ws.getD k "") + 1) % 2 = 0 by omega]; rfl
  · rw [tog_fold_out k _ _ m]
    have : ¬ isL ws as t k = true := fun q => m (order_mem.mpr ⟨hk, q⟩)
    unfold cT
    rw [e, if_neg this]; rfl

section
variable {w : World} {A : Around} {sc scope : Scope} {env : Env} {h0 hb0 hb h hb' h' : Heap} {δ δ' : Dm} {μ μ' : Mu} {pos p pn kp : Pos} {N B : Pm} {R : D → Prop}

theorem ask_body {Ap : Nat → Nat → Bool} (F : Forest Ap) {n : Nat} {ws as : List Str} {back : Bool} (hw : ws.length = n) (hn : n ≤ 100) (ha : as.length ≤ 100) {t : Nat} (ht : t < as.length) {S T : Addr} (hST : S ≠ T) (hA : OkA 3 A) :
    Run w A (fnSc (topS 19)) ((("turn" : Str), D.int t) :: dmO Ap n S T (.list (ws.map .str)) (.list (as.map .str)) back (U Ap n (cT ws as t))) (muI Ap n S T (cT ws as t) ((List.range t).map fun i => .int (U Ap n (cT ws as (i + 1))))) (inner askFor)
      (fun δ' μ' => μ' = muI Ap n S T (cT ws as (t + 1)) ((List.range (t + 1)).map fun i => .int (U Ap n (cT ws as (i + 1)))) ∧ Sub (dmO Ap n S T (.list (ws.map .str)) (.list (as.map .str)) back (U Ap n (cT ws as (t + 1)))) δ') (fun _ _ => False) (fun _ => False) := by
  have hb : bigL = 100000 := rfl
  have hat : (as.map D.str)[t]? = some (.str (as.getD t "")) := by
    rw [List.getElem?_map, List.getElem?_eq_getElem ht, List.getD_eq_getElem?_getD, List.getElem?_eq_getElem ht]; rfl
  refine Run.cons (Run1.assign (x := .bool (heldT as t)) (Evs.cast (congrArg D.bool ?_) (Evs.cmp (x := .int ((((as.take t).countP (· == as.getD t "") : Nat) : Int).fmod 2)) (y := .int 1) (Evs.bin (x := .int ((as.take t).countP (· == as.getD t "") : Nat)) (y := .int 2)
    (Evs.methB (m := "count") (x := .list ((as.take t).map .str)) (ds := [.str (as.getD t "")]) (Evs.slice (x := .list (as.map .str)) (by repeat' trivial) .none (.some (by repeat' trivial)) .none ?_) (by decide +kernel)
      (.cons (by decide +kernel) (Evs.item (x := .list (as.map .str)) (y := .int t) (by repeat' trivial) (by repeat' trivial) (by decide +kernel) (itemD_list ⟨by omega, by omega⟩ (by rw [Int.toNat_natCast]; exact hat))) .nil) ?_ (by decide +kernel) (by decide +kernel)) Evs.int (binD_mod (by omega))) Evs.int rfl (by decide +kernel))) (.inl (by decide +kernel)) (fun _ _ => rfl) ?_)
  · unfold heldT
    rw [show (as.take t).count (as.getD t "") = (as.take t).countP (· == as.getD t "") from rfl]
    generalize (as.take t).countP (· == as.getD t "") = m
    rw [Int.fmod_eq_emod_of_nonneg _ (by omega)]
    by_cases q : m % 2 = 1
    · rw [q]
      have : (m : Int) % 2 = 1 := by omega
      rw [this]; rfl
    · have q : m % 2 = 0 := by omega
      rw [q]
      have : (m : Int) % 2 = 0 := by omega
      rw [this]; rfl
  · show (if _ then _ else _) = _
    rw [if_pos ⟨by simp; omega, by simp⟩, sliceL_take _ (by omega), Int.toNat_natCast, List.map_take]
  · show ((strsOf ((as.take t).map D.str)).bind fun xs => some (D.int (xs.countP (· == as.getD t "") : Nat))) = _
    have := strsOf_map (fun x : Str => x) (as.take t)
    rw [show (as.take t).map D.str = (as.take t).map fun a => D.str a from rfl, this]
    simp
  refine Run.cons (Run1.acompIf (l := List.range n) (inj := fun k : Nat => .int k) (isL ws as t) (fun k : Nat => .int k) hA (In.of (by decide +kernel)) (fun _ _ => rfl) (Evi.cast ?_ (Evi.range hA (a := 0) (b := n) (Evs.range1 (blt_range w (by decide +kernel)) (Evs.cast ?_ (Evs.callB hA (blt_len w (by decide +kernel)) (ds := [.list ((List.range n).map fun k => pileD (pileF Ap k))]) (by repeat' trivial) (callB_len (by simp; omega)))) (by decide +kernel)) ⟨by omega, by omega⟩ ⟨by omega, by omega⟩)) (.inl (by decide +kernel))
    (fun k hk => ?_) (fun k _ _ => by repeat' trivial) (by simp; omega) (by decide +kernel) (by decide +kernel) (by decide +kernel) ?_)
  · unfold rangeD
    rw [show ((n : Int) - 0).toNat = n by omega]
    refine List.map_congr_left fun k _ => ?_
    rw [Int.zero_add]
  · simp
  · have hk := List.mem_range.mp hk
    have hwk : (ws.map D.str)[k]? = some (.str (ws.getD k "")) := by
      have : k < ws.length := by omega
      rw [List.getElem?_map, List.getElem?_eq_getElem this, List.getD_eq_getElem?_getD, List.getElem?_eq_getElem this]; rfl
    exact Tru.cmp (x := .str (ws.getD k "")) (y := .str (as.getD t "")) (Evs.item (x := .list (ws.map .str)) (y := .int k) (by repeat' trivial) (by repeat' trivial) (by decide +kernel) (itemD_list ⟨by omega, by omega⟩ (by rw [Int.toNat_natCast]; exact hwk)))
      (Evs.item (x := .list (as.map .str)) (y := .int t) (by repeat' trivial) (by repeat' trivial) (by decide +kernel) (itemD_list ⟨by omega, by omega⟩ (by rw [Int.toNat_natCast]; exact hat))) rfl (by decide +kernel)
  have hol := order_len n ws as back t
  refine Run.cons (Run1.for_ hA (ds := (orderT n ws as back t).map fun k : Nat => .int k) (fun i δ' μ' => μ' = muI Ap n S T (((orderT n ws as back t).take i).foldl tog (cT ws as t)) ((List.range t).map fun i => .int (U Ap n (cT ws as (i + 1)))) ∧
      Sub (dmI Ap n S T (.list (ws.map .str)) (.list (as.map .str)) back (U Ap n (((orderT n ws as back t).take i).foldl tog (cT ws as t))) (heldT as t) t) δ')
    (Evi.list hA (Evs.ifexp (b := back) (Tru.val (by repeat' trivial) (fun _ _ => rfl)) (fun q => ?_) (fun q => ?_))) (fun _ _ => rfl) (.inl (by decide +kernel)) ?_ ?_ ?_)
  · refine Evs.slice (x := .list ((chos n (isL ws as t)).map fun k : Nat => .int k)) (by repeat' trivial) .none .none (.some (Evs.neg Evs.int)) ?_
    have hl := chos_len n (isL ws as t)
    show (if _ then _ else _) = _
    rw [if_pos ⟨by simp; omega, by simp⟩]
    unfold orderT
    rw [if_pos q, sliceL_rev, List.map_reverse]
  · unfold orderT
    rw [if_neg (by rw [q]; decide)]
    show Evs w A _ _ _ (.list ((chos n (isL ws as t)).map fun k : Nat => .int k))
    exact Evs.name (by decide +kernel) lookup_hd
  · rintro i d δ1 μ1 hd ⟨rfl, sb⟩
    rw [List.getElem?_map] at hd
    obtain ⟨k, hk, rfl⟩ := Option.map_eq_some_iff.mp hd
    obtain ⟨q3, q4⟩ := List.getElem?_eq_some_iff.mp hk
    have hm : k ∈ orderT n ws as back t := List.mem_of_getElem? hk
    obtain ⟨m1, m2⟩ := order_mem.mp hm
    have hnot : k ∉ (orderT n ws as back t).take i := fun m => by
      obtain ⟨j, hj, e⟩ := List.getElem_of_mem m
      rw [List.getElem_take] at e
      rw [List.length_take] at hj
      have := (List.getElem_inj (h₀ := by omega) (h₁ := q3) (order_nodup n ws as back t)).mp (e.trans q4.symm)
      omega
    have hc : (((orderT n ws as back t).take i).foldl tog (cT ws as t)) k = heldT as t := by
      rw [tog_fold_out k _ _ hnot]; exact held_of m2
    have e : ((orderT n ws as back t).take (i + 1)).foldl tog (cT ws as t) = tog (((orderT n ws as back t).take i).foldl tog (cT ws as t)) k := by
      rw [List.take_add_one, hk, List.foldl_append]; rfl
    rw [e]
    exact (ask_turn F hn m1 hc _ t hA).weak sb.push |>.mono (fun _ _ q => q) (fun _ _ q => q.elim) (fun _ q => q)
  · rintro δ1 μ1 ⟨rfl, sb⟩
    rw [List.length_map, List.take_of_length_le (Nat.le_refl _)] at sb ⊢
    have eU : U Ap n ((orderT n ws as back t).foldl tog (cT ws as t)) = U Ap n (cT ws as (t + 1)) := U_congr fun m hm => cT_succ ht m hm
    have eC : chos n ((orderT n ws as back t).foldl tog (cT ws as t)) = chos n (cT ws as (t + 1)) := chos_congr fun m hm => cT_succ ht m hm
    rw [eU] at sb
    unfold muI
    rw [eC]
    refine RunOn.weak ?_ sb
    refine Run.cons (Run1.append (a := T) (ds := (List.range t).map fun i => .int (U Ap n (cT ws as (i + 1)))) (d := .int (U Ap n (cT ws as (t + 1)))) (by decide +kernel) (by repeat' trivial) (by simp) (by repeat' trivial) (by decide +kernel) (by simp; omega) (by decide +kernel) (Run.nil ⟨?_, ?_⟩))
    · simp [setMu, hST, List.range_succ]
    · repeat' trivial
  · refine ⟨rfl, ?_⟩
    repeat' trivial
end
end
-- part B19
section
open PySem PySem.W PyProof.Rows PySem.Calls


section
variable {w : World} {A : Around} {sc scope : Scope} {env : Env} {h0 hb0 hb h hb' h' : Heap} {δ δ' : Dm} {μ μ' : Mu} {pos p pn kp : Pos} {N B : Pm} {R : D → Prop}

/-- only the lists are frozen -/
noncomputable def hbL (hb h : Heap) (μ : Mu) : Heap := only h fun b => (hb.get? b).isSome = true ∨ ∃ ds, (b, Mo.lst ds) ∈ μ
theorem hbL_old (k : Ext hb h) : Ext hb (hbL hb h μ) := fun b o e => by
  unfold hbL; rw [get_only, if_pos (.inl (by rw [e]; rfl))]; exact k b o e
theorem hbL_sub : Ext (hbL hb h μ) h := fun b o e => by
  unfold hbL at e; rw [get_only] at e; split at e
  · exact e
  · cases e
theorem hbL_at {a : Addr} {ds : List D} {o : Obj} (m : (a, Mo.lst ds) ∈ μ) (e : h.get? a = some o) : (hbL hb h μ).get? a = some o := by
  unfold hbL; rw [get_only, if_pos (.inr ⟨ds, m⟩)]; exact e
theorem hbL_inv {b : Addr} {o : Obj} (k : Ext hb h) (e : (hbL hb h μ).get? b = some o) : hb.get? b = some o ∨ ∃ ds, (b, Mo.lst ds) ∈ μ := by
  unfold hbL at e; rw [get_only] at e; split at e
  · rename_i q
    rcases q with q | q
    · obtain ⟨o', h'⟩ := Option.isSome_iff_exists.mp q
      have := k b o' h'
      rw [this] at e; cases e; exact .inl h'
    · exact .inr q
  · cases e
theorem St.frozenL (f : St w sc env h0 hb0 δ μ hb h) : Ctx w sc env (fzD μ δ) (hbL hb h μ) h := by
  refine ⟨f.gd.mono (hbL_old f.step.inn), hbL_sub, ⟨f.rds.ok, fun x d e => ?_, f.rds.cl⟩⟩
  obtain ⟨d0, e0, rfl⟩ := fzD_look δ x d e
  obtain ⟨v, r, hv⟩ := f.rds.rd x d0 e0
  refine ⟨v, r, ?_⟩
  have hv2 := hv.mono (hbL_old (μ := μ) f.step.inn)
  cases d0 with
  | adr a =>
    cases hv
    show Has _ _ (match μ.lookup a with | some (.lst ds) => D.list ds | _ => D.adr a)
    cases q : μ.lookup a with
    | none => exact .adr a
    | some o =>
    cases o with
    | tab => exact .adr a
    | ns _ _ => exact .adr a
    | lst ds =>
      have m := mem_of_look_mu q
      obtain ⟨_, _, _, vs, n, g, l⟩ := f.mu a _ m
      exact .list (hbL_at m g) l.1 (l.mono (hbL_old f.step.inn)).2
  | _ => exact hv2
/-- the table of a def's codes is told apart -/
theorem St.tabbed (f : St w sc env h0 hb0 δ [] hb h) (live : h0.get? PT ≠ none) (pn : hb.get? PT = none) (il : IsMo hb h PT .tab) : St w sc env (only h0 (· ≠ PT)) hb0 δ [(PT, .tab)] hb h := by
  have g0 : ∀ b o, (only h0 (· ≠ PT)).get? b = some o → h0.get? b = some o := fun b o e => by
    rw [get_only] at e; split at e
    · exact e
    · cases e
  have g1 : ∀ b, h0.get? b = none → (only h0 (· ≠ PT)).get? b = none := fun b e => by
    rw [get_only]; split
    · exact e
    · rfl
  refine ⟨⟨fun b o e => f.step.ext b o (g0 b o e), f.step.fz, f.step.inn, fun b o e => (f.step.new b o e).imp id (g1 b)⟩, f.gd, f.rds, f.loc, f.cell, fun a o => ⟨g1 a (f.own a o).1, (f.own a o).2⟩, fun b e m => ?_, List.pairwise_singleton _ _⟩
  have e1 : b = PT := congrArg (·.1) (List.mem_singleton.mp m)
  have e2 : e = .tab := congrArg (·.2) (List.mem_singleton.mp m)
  subst e1 e2
  exact ⟨fun o => live (f.own _ o).1, by rw [get_only, if_neg (by simp)], pn, il⟩

/-- called with ds, the function at a gives d, and may fill the table -/
noncomputable def FnP (w : World) (κ : Nat) (a : Addr) (ds : List D) (d : D) : Prop :=
  ∀ A hb vs, OkA κ A → Gd w hb → ∀ (s : Shared) (Q : Value → Shared → Prop) (E : Value → Shared → Prop), Ext hb s.heap → hb.get? PT = none → IsMo hb s.heap PT .tab → HasL hb vs ds →
    (∀ v hb' h' tk, Chg PT hb s.heap hb' h' → IsMo hb' h' PT .tab → Has hb' v d → Q v { s with heap := h', toks := tk }) → wpAny (model PW w) A (call (.ref a) vs []) Q E s

theorem fn_asked {Ap : Nat → Nat → Bool} (F : Forest Ap) {n : Nat} {ws as : List Str} {back : Bool} (hw : ws.length = n) (hn : n ≤ 100) (ha : as.length ≤ 100) :
    FnP w 4 219 [.list ((List.range n).map fun k => pileD (pileF Ap k)), .list (ws.map .str), .list (as.map .str), .bool back]
      (.list [.list ((List.range as.length).map fun t => .int (U Ap n (cT ws as (t + 1)))), .list ((chos n (cT ws as as.length)).map fun m => pileD (pileF Ap m))]) := by
  intro A hb vs hA gd s Q E hx pn il hv k
  have hbg : bigL = 100000 := rfl
  refine Fn.enter (xs := ["piles", "words", "asked", "back"]) (F_asked w) hA gd hx hv ?_ (by decide +kernel) (own2_of (sc := fnSc (topS 19)) (by decide +kernel)) ?_ rfl s Q E rfl fun env h1 tk E' hA' f => ?_
  · have := hv.1; simpa using this.symm
  · match vs, hv.1 with
    | [a, b, c, d], _ => kernel_rfl
  have live := il.live
  have f := f.tabbed live pn (il.mono (.refl _) fun o e => f.step.ext _ o e)
  show wpAny _ _ (execs (fnBody (topS 19)) env) _ _ _
  -- the first statement
  have r1 : Run1 w (A.deeper env) (fnSc (topS 19)) [(("piles" : Str), .list ((List.range n).map fun k => pileD (pileF Ap k))), (("words" : Str), .list (ws.map .str)), (("asked" : Str), .list (as.map .str)), (("back" : Str), .bool back)] [(PT, .tab)] ((fnBody (topS 19)).getD 0 (.Pass ⟨0, 0, 0, 0⟩))
      (fun δ' μ' => ∃ S T, S ≠ T ∧ μ' = muI Ap n S T (cT ws as 0) [] ∧ Sub (dmO Ap n S T (.list (ws.map .str)) (.list (as.map .str)) back 0) δ') (fun _ _ => False) (fun _ => False) := by
    refine Run1.tupNS (xs := ["shown", "total", "totals"]) (ks := [none, some 0, none]) hA' (.lst (.int (.lst .nil))) (own2_of (sc := fnSc (topS 19)) (by decide +kernel)) rfl (by decide) (fun _ => rfl)
      (fun env ok => sw_names3 ok.bk (ok.lk _ (by decide +kernel)) (ok.lk _ (by decide +kernel)) (ok.lk _ (by decide +kernel)) (by decide +kernel) (by decide +kernel) (by decide +kernel) (by decide +kernel) (by decide +kernel) (by decide +kernel)) (fun ds μn no _ => ?_)
    cases no with
    | @lst a _ _ _ na no =>
    cases no with
    | int no =>
    cases no with
    | @lst b _ _ _ nb no =>
    cases no
    have c0 : ∀ m, cT ws as 0 m = false := fun m => by unfold cT; simp
    have e0 : chos n (cT ws as 0) = [] := by unfold chos; rw [List.filter_eq_nil_iff]; intro m _; rw [c0 m]; decide
    refine ⟨a, b, fun q => na (.lst []) (by rw [q]; exact List.mem_cons_self), ?_, ?_⟩
    · unfold muI; rw [e0]; rfl
    · repeat' trivial
  have r2 : ∀ S T δ', S ≠ T → Sub (dmO Ap n S T (.list (ws.map .str)) (.list (as.map .str)) back 0) δ' → Run1 w (A.deeper env) (fnSc (topS 19)) δ' (muI Ap n S T (cT ws as 0) []) ((fnBody (topS 19)).getD 1 (.Pass ⟨0, 0, 0, 0⟩))
      (fun δ' μ' => μ' = muI Ap n S T (cT ws as as.length) ((List.range as.length).map fun i => .int (U Ap n (cT ws as (i + 1)))) ∧ Sub (dmO Ap n S T (.list (ws.map .str)) (.list (as.map .str)) back (U Ap n (cT ws as as.length))) δ') (fun _ _ => False) (fun _ => False) := by
    intro S T δ' hST sb
    refine RunOn.weak ?_ sb
    have u0 : U Ap n (cT ws as 0) = 0 := by
      unfold U
      refine List.countP_eq_zero.mpr fun j _ q => ?_
      obtain ⟨m, _, h2, _⟩ := cov_iff.mp q
      unfold cT at h2; simp at h2
    refine Run1.for_ hA' (ds := (List.range as.length).map fun i : Nat => .int i) (fun i δ' μ' => μ' = muI Ap n S T (cT ws as i) ((List.range i).map fun i => .int (U Ap n (cT ws as (i + 1)))) ∧ Sub (dmO Ap n S T (.list (ws.map .str)) (.list (as.map .str)) back (U Ap n (cT ws as i))) δ')
      (Evi.cast ?_ (Evi.range hA' (a := 0) (b := as.length) (Evs.range1 (blt_range w (by decide +kernel)) (Evs.cast ?_ (Evs.callB hA' (blt_len w (by decide +kernel)) (ds := [.list (as.map .str)]) (by repeat' trivial) (callB_len (by simp; omega)))) (by decide +kernel)) ⟨by omega, by omega⟩ ⟨by omega, by omega⟩)) (fun _ _ => rfl) (.inr (by decide +kernel)) ?_ ?_ ?_
    · unfold rangeD
      rw [show ((as.length : Int) - 0).toNat = as.length by omega]
      refine List.map_congr_left fun k _ => ?_
      rw [Int.zero_add]
    · simp
    · rintro i d δ1 μ1 hd ⟨rfl, sb⟩
      rw [List.getElem?_map] at hd
      obtain ⟨j, hj, rfl⟩ := Option.map_eq_some_iff.mp hd
      obtain ⟨q3, q4⟩ := List.getElem?_eq_some_iff.mp hj
      rw [List.getElem_range] at q4
      subst q4
      rw [List.length_range] at q3
      exact (ask_body F hw hn ha q3 hST hA').weak sb.push |>.mono (fun _ _ q => q) (fun _ _ q => q.elim) (fun _ q => q.elim)
    · rintro δ1 μ1 ⟨e, sb⟩
      rw [List.length_map, List.length_range] at e sb
      exact ⟨e, sb⟩
    · refine ⟨rfl, ?_⟩
      rw [u0]
      exact fun _ _ e => e
  refine wpAny_execs_cons (r1.go env _ _ _ _ f _ _ _ rfl (fun δ1 μ1 hb1 h2 tk1 ⟨S, T, hST, e1, sb1⟩ g1 f1 => ?_) (fun _ _ _ _ _ e => e.elim) (fun _ _ _ _ _ e => e.elim))
  subst e1
  refine wpAny_execs_cons ((r2 S T δ1 hST sb1).go env _ _ _ _ f1 _ _ _ rfl (fun δ2 μ2 hb2 h3 tk2 ⟨e2, sb2⟩ g2 f2 => ?_) (fun _ _ _ _ _ e => e.elim) (fun _ _ _ _ _ e => e.elim))
  subst e2
  have g := g1.trans g2
  have f2 := f2.weak sb2
  have hlT : (muI Ap n S T (cT ws as as.length) ((List.range as.length).map fun i => .int (U Ap n (cT ws as (i + 1))))).lookup T = some (.lst ((List.range as.length).map fun i => .int (U Ap n (cT ws as (i + 1))))) := by
    rw [List.lookup_cons, beq_false_of_ne (Ne.symm hST), List.lookup_cons]; simp
  have hlS : (muI Ap n S T (cT ws as as.length) ((List.range as.length).map fun i => .int (U Ap n (cT ws as (i + 1))))).lookup S = some (.lst ((chos n (cT ws as as.length)).map fun m => pileD (pileF Ap m))) := by
    rw [List.lookup_cons]; simp
  generalize hμ : muI Ap n S T (cT ws as as.length) ((List.range as.length).map fun i => .int (U Ap n (cT ws as (i + 1)))) = μ2 at g f2 hlT hlS
  have ev : ∀ p1 p2 p3, Evs w (A.deeper env) (fnSc (topS 19)) (fzD μ2 (dmO Ap n S T (.list (ws.map .str)) (.list (as.map .str)) back (U Ap n (cT ws as as.length)))) (.List [.Name "totals" p1, .Name "shown" p2] p3)
      (.list [.list ((List.range as.length).map fun t => .int (U Ap n (cT ws as (t + 1)))), .list ((chos n (cT ws as as.length)).map fun m => pileD (pileF Ap m))]) := fun p1 p2 p3 =>
    Evs.list (.cons rfl (Evs.nameO (by decide +kernel) (by repeat' trivial) hlT) (.cons rfl (Evs.nameO (by decide +kernel) (by repeat' trivial) hlS) .nil)) (by show 2 ≤ 100000; decide)
  refine wpAny_execs_cons (wpAny_Return_some ((ev _ _ _).run env _ h3 f2.frozenL _ _ _ rfl fun v hb3 h4 tk4 st4 hv4 => ?_))
  obtain ⟨no, p0, pb, il2⟩ := f2.mu PT .tab (by rw [← hμ]; simp)
  have k2 : Ext hb2 hb3 := (hbL_old f2.step.inn).trans st4.fz
  have h0of : ∀ b o, b ≠ PT → s.heap.get? b = some o → (only s.heap (· ≠ PT)).get? b = some o := fun b o n e => by rw [get_only, if_pos n]; exact e
  have old1 : ∀ b o, b ≠ PT → s.heap.get? b = some o → h1.get? b = some o := fun b o n e => f.step.ext b o (h0of b o n e)
  have dead : ∀ b, b ≠ PT → h1.get? b = none → s.heap.get? b = none := fun b n e => by
    cases q : s.heap.get? b with
    | none => rfl
    | some o => rw [old1 b o n q] at e; cases e
  refine k v hb3 h4 tk4 ⟨fun b o n e => st4.ext b o (g.keep b o (fun q => ?_) (fun e' q => ?_) (old1 b o n e)), g.fz.trans k2, st4.inn, fun b o e => ?_⟩ (il2.mono k2 fun o e => st4.ext _ o e) hv4
  · have := (f.own b q).1
    rw [h0of b o n e] at this; cases this
  · exact n (congrArg (·.1) (List.mem_singleton.mp q))
  · rcases st4.new b o e with q | q
    · rcases hbL_inv f2.step.inn q with q | ⟨ds, q⟩
      · have n : b ≠ PT := fun z => by rw [z, pb] at q; cases q
        rcases g.new b o q with r | r | ⟨_, r⟩
        · exact .inl r
        · exact .inr (dead b n r)
        · exact absurd (congrArg (·.1) (List.mem_singleton.mp r)) n
      · right
        have n : b ≠ PT := fun z => by
          rw [z] at q
          have q2 : ((PT : Addr), Mo.tab) ∈ μ2 := by rw [← hμ]; simp
          have md := f2.mud
          rw [← hμ] at q md
          simp only [muI, List.mem_cons, Prod.mk.injEq, List.not_mem_nil, or_false, reduceCtorEq, and_false] at q
          have m1 := (List.pairwise_cons.mp md).1 (PT, .tab) (by simp)
          have m2 := (List.pairwise_cons.mp (List.pairwise_cons.mp md).2).1 (PT, .tab) (by simp)
          rcases q with ⟨q, _⟩ | ⟨q, _⟩
          · exact m1 q.symm
          · exact m2 q.symm
        have := (f2.mu b _ q).2.1
        rw [get_only, if_pos n] at this
        exact this
    · right
      have n : b ≠ PT := fun z => il2.live (z ▸ q)
      refine dead b n ?_
      cases z : h1.get? b with
      | none => rfl
      | some o' => exact absurd q (g.live b (by rw [z]; intro z; cases z))
end
end
-- part B20
section
open PySem PySem.W PyProof.Rows PySem.Calls


section
variable {w : World} {A : Around} {sc scope : Scope} {env : Env} {h0 hb0 hb h hb' h' : Heap} {δ δ' : Dm} {μ μ' : Mu} {pos p pn kp : Pos} {N B : Pm} {R : D → Prop}

/-! [x] * n -/
theorem fold_rep (v : Value) : ∀ (k : Nat) (acc : Array Value), List.foldl (fun x1 x2 => x1 ++ x2) acc (List.replicate k #[v]) = acc ++ (List.replicate k v).toArray
  | 0, acc => by simp
  | k + 1, acc => by
    rw [List.replicate_succ, List.foldl_cons, fold_rep v k]
    apply Array.toList_inj.mp
    simp [List.replicate_succ]
theorem mul_one {l : Addr} {v : Value} {k : Nat} {x : Int} {u : Tok} {s : Shared} {E : Value → Shared → Prop} {Q : Value → Shared → Prop} (hl : s.heap.get? l = some { cls := .type "list", data := .seq #[v] k }) (hx : 0 ≤ x ∧ x ≤ 1000)
    (q : Q (.ref s.heap.objs.size) { s with heap := s.heap.push { cls := .type "list", data := .seq (List.replicate x.toNat v).toArray } }) : wpAny (model PW w) A (binaryOp .Mult (.ref l) (.int x u)) Q E s := by
  have e : List.foldl (fun x1 x2 => x1 ++ x2) #[] (List.replicate (if (#[v] : Array Value).isEmpty = true then 0 else x.toNat) #[v]) = (List.replicate x.toNat v).toArray := by
    rw [if_neg (by simp), fold_rep]; simp
  exact wpAny_binaryOp_repeat_ref (T := "list") (U := "int") (by decide) ⟨_, hl, rfl⟩ (fun s' => typeIs_int s' x u) noFill_list_mul F.fills_int_mul F.slot_int_rmul repeat_list F.slot_int_index.lookup
    (call_meets F.slot_int_rmul (typeIs_int s x u) F.entry_int_rmul (F.args_int_rmul_2 _ _) (int___rmul___int_list x u l #[v] k)
      ⟨hl, rfl, ⟨_, hl, rfl⟩, call_meets F.slot_list_mul ⟨_, hl, rfl⟩ F.entry_list_mul (F.args_list_mul_2 _ _)
        (AutoListH.list___mul___list_int_3 l #[v] k x u (by simp [Builtin.List.listFitsIndex]; omega) (by simp; omega) (by simp [Builtin.List.listTooLong, sizeLine]; omega))
        ⟨hl, by rw [e]; exact q⟩⟩)
theorem Evs.mulOne {e f : Expr} {d : D} {k : Int} (he : Evs w A sc δ e (.list [d])) (hf : Evs w A sc δ f (.int k)) (hk : 0 ≤ k ∧ k ≤ 1000) : Evs w A sc δ (.BinOp e .Mult f p) (.list (List.replicate k.toNat d)) :=
  ⟨fun env hb h c s Q E es q => wpAny_BinOp (he.run env hb h c s _ E es fun a hb1 h1 tk st ha => hf.run env hb1 h1 (c.step st) _ _ E rfl fun b hb2 h2 tk2 st2 hb' => by
    obtain ⟨l, vs, n, rfl, e1, l1⟩ := (ha.mono st2.fz).list_inv
    obtain ⟨v, rfl, hv⟩ := l1.one
    obtain ⟨t, rfl⟩ := hb'.int_inv
    refine mul_one (st2.inn _ _ e1) hk ?_
    refine q _ (frz hb2 h2 _) _ tk2 ((st.trans st2).trans (step_frz st2.inn (.push _))) (has_list_push st2.inn ⟨by simp, fun i v' d' a b => ?_⟩)
    have h1 := (List.getElem?_eq_some_iff.mp a).2
    have h2 := (List.getElem?_eq_some_iff.mp b).2
    rw [List.getElem_replicate] at h1 h2
    subst h1 h2; exact hv)⟩

/-! lists of the block's own: made, set -/
theorem HasL.flatten {vs : List Value} {ds : List D} (x : HasL h vs ds) (fl : ∀ d ∈ ds, flat d = true) : HasL h' vs ds := ⟨x.1, fun i v d a b => (x.2 i v d a b).flat (fl d (List.mem_of_getElem? b))⟩
/-- a list that was just made becomes the block's own, under the name y -/
theorem St.own' {vs : List Value} {ds : List D} {y : Str} (f : St w sc env h0 hb0 δ μ hb h) (hv : HasL hb vs ds) (o : own2 sc y) (s : Shared) (Q : Unit → Shared → Prop) (E : Value → Shared → Prop) (es : s.heap = h.push { cls := .type "list", data := .seq vs.toArray })
    (k : ∀ h' tk, (∀ e, (h.objs.size, e) ∉ μ) → Go sc env μ hb h ((h.objs.size, .lst ds) :: μ) hb h' → St w sc env h0 hb0 ((y, .adr h.objs.size) :: δ) ((h.objs.size, .lst ds) :: μ) hb h' → Q () { s with heap := h', toks := tk }) :
    wpAny (model PW w) A (storeName env y (.ref h.objs.size)) Q E s := by
  have st := Step.fresh (o := { cls := .type "list", data := .seq vs.toArray }) f.step.inn
  have f1 := f.after st
  have dead : h.get? h.objs.size = none := size_none _
  have nm : ∀ e, (h.objs.size, e) ∉ μ := fun e m => (f.mu _ e m).2.2.2.live dead
  have hb_none : hb.get? h.objs.size = none := by
    cases e : hb.get? h.objs.size with
    | none => rfl
    | some o => have := f.step.inn _ o e; rw [dead] at this; cases this
  have h0_none : h0.get? h.objs.size = none := by
    cases e : h0.get? h.objs.size with
    | none => rfl
    | some o => have := f.step.ext _ o e; rw [dead] at this; cases this
  have f2 : St w sc env h0 hb0 δ ([(h.objs.size, .lst ds)] ++ μ) hb (h.push { cls := .type "list", data := .seq vs.toArray }) := f1.addMu (List.pairwise_singleton _ _) fun a e m => by
    have := List.mem_singleton.mp m
    have e1 : a = h.objs.size := congrArg (·.1) this
    have e2 : e = .lst ds := congrArg (·.2) this
    subst e1 e2
    exact ⟨fun o => f.live o dead, h0_none, hb_none, ⟨vs, 0, Heap.get?_push_size _ rfl, hv⟩, nm⟩
  have g : Go sc env μ hb h ((h.objs.size, .lst ds) :: μ) hb (h.push { cls := .type "list", data := .seq vs.toArray }) := ⟨fun b o _ _ e => st.ext b o e, fun a e m => by
      rcases List.mem_cons.mp m with m | m
      · have : a = h.objs.size := congrArg (·.1) m
        exact .inr (this ▸ dead)
      · exact .inl ⟨e, m⟩, .refl _, fun _ _ e => .inl e, (Go.step (sc := sc) (env := env) (μ := μ) st).live⟩
  exact f2.store o (.adr _) s Q E es fun h3 tk3 f3 n3 => k h3 tk3 nm (g.trans (Go.store f2 f3 n3)) f3
theorem Run1.newOwn {y : Str} {lp : Pos} (o : own2 sc y) (n : ∀ a, (∀ e, (a, e) ∉ μ) → N ((y, .adr a) :: δ) ((a, .lst []) :: μ)) : Run1 w A sc δ μ (.Assign [.Name y p] (.List [] lp) pos) N B R := ⟨fun env h0 hb0 hb h f s Q E es kN kB kR => by
  subst es
  refine wpAny_Assign_Name (wpAny_List (Calls.spliced_nil ⟨Nat.zero_le _, ?_⟩)) rfl
  exact f.own' (vs := []) (ds := []) .nil o _ _ E rfl fun h' tk nm g f' => kN _ _ hb h' tk (n _ nm) g f'⟩
theorem Run1.catOwn {y : Str} {l r : Expr} {xs ys : List D} {bp : Pos} (hl : Evs w A sc (fzD μ δ) l (.list xs)) (hr : Evs w A sc (fzD μ δ) r (.list ys)) (fl : ∀ d ∈ xs ++ ys, flat d = true) (len : xs.length + ys.length ≤ bigL) (o : own2 sc y)
    (n : ∀ a, (∀ e, (a, e) ∉ μ) → N ((y, .adr a) :: δ) ((a, .lst (xs ++ ys)) :: μ)) : Run1 w A sc δ μ (.Assign [.Name y p] (.BinOp l .Add r bp) pos) N B R := ⟨fun env h0 hb0 hb h f s Q E es kN kB kR => by
  have c := f.frozen
  refine wpAny_Assign_Name (wpAny_BinOp (hl.run env _ h c s _ E es fun a hb1 h1 tk st ha => hr.run env hb1 h1 (c.step st) _ _ E rfl fun b hb2 h2 tk2 st2 hb' => ?_)) rfl
  obtain ⟨a1, vs, n1, rfl, e1, l1⟩ := (ha.mono st2.fz).list_inv
  obtain ⟨a2, us, n2, rfl, e2, l2⟩ := hb'.list_inv
  have f1 := f.after (f.thaw (st.trans st2))
  have cat := (l1.append l2).flatten (h' := hb) fl
  refine P.add_list (st2.inn _ _ e1) (st2.inn _ _ e2) ?_ ?_
  · have := f1.own' (A := A) (vs := vs ++ us) (ds := xs ++ ys) (y := y) cat o { s with heap := h2.push { cls := .type "list", data := .seq (vs.toArray ++ us.toArray) }, toks := tk2 } (fun _ => Q .next) E (by simp) fun h' tk nm g f' => kN _ _ hb h' tk (n _ nm) ((Go.step (f.thaw (st.trans st2))).trans g) f'
    exact this
  · have := l1.1; have := l2.1; simp only [List.size_toArray]; have := bigL_le; omega⟩
/-- x[i] = e on an own list, of flat values -/
theorem Run1.setAt {x : Str} {a : Addr} {ds : List D} {e i : Expr} {k : Nat} {d : D} {px sp : Pos} (hp : plainName x = true) (hx : δ.lookup x = some (.adr a)) (hm : (a, .lst ds) ∈ μ) (he : Evs w A sc (fzD μ δ) e d) (fl : flat d = true) (hi : Evs w A sc δ i (.int k)) (hl : ds.length ≤ bigL) (hk : k < ds.length)
    (sw : ∀ env, swapsWith e (some (.Subscript (.Name x px) i sp)) pos.line env = pure false) (n : N δ (setMu μ a (.lst (ds.set k d)))) : Run1 w A sc δ μ (.Assign [.Subscript (.Name x px) i sp] e pos) N B R := ⟨fun env h0 hb0 hb h f s Q E es kN kB kR => by
  refine wpAny_Assign_Subscript (he.run env _ h f.frozen s _ E es fun v hb1 h1 tk st hv => ?_) (sw env)
  have f1 := f.after (f.thaw st)
  have hv : Has hb v d := hv.flat fl
  refine (Evs.name hp hx).run env hb h1 f1.ctx _ _ E rfl fun u hb2 h2 tk2 st2 hu => ?_
  cases hu
  have f2 := f1.after st2
  refine hi.run env hb2 h2 f2.ctx _ _ E rfl fun j hb3 h3 tk3 st3 hj => ?_
  have f3 := f2.after st3
  obtain ⟨t, rfl⟩ := hj.int_inv
  obtain ⟨no, p0, pb, vs, nn, g, l⟩ := f3.mu a _ hm
  have hb' : bigL = 100000 := rfl
  have hl1 := l.1
  refine ki_setAt (items := vs.toArray) (n := nn) g (by omega) (by omega) (by simp only [List.size_toArray]; omega) ?_
  have g2 := IsL.update (h := h3) (l := a) (items := vs.toArray) (n := nn) g (fun xs => xs.setIfInBounds (k : Int).toNat v)
  have e : vs.toArray.setIfInBounds (k : Int).toNat v = (vs.set k v).toArray := by
    apply Array.toList_inj.mp
    simp
  obtain ⟨m2, g2⟩ : ∃ m, (h3.update a (Obj.mapSeq fun xs => xs.setIfInBounds (k : Int).toNat v)).get? a = some { cls := .type "list", data := .seq (vs.set k v).toArray m } := ⟨_, by rw [← e]; exact g2⟩
  have sb : Heap.SameBut a h3 (h3.update a (Obj.mapSeq fun xs => xs.setIfInBounds (k : Int).toNat v)) := Heap.SameBut.update ..
  have hv3 : Has hb3 v d := (hv.mono st2.fz).mono st3.fz
  have il : IsL' hb3 (h3.update a (Obj.mapSeq fun xs => xs.setIfInBounds (k : Int).toNat v)) a (ds.set k d) := ⟨vs.set k v, _, g2, by simp [hl1], fun i v' d' q1 q2 => by
    rw [List.getElem?_set] at q1 q2
    by_cases z : k = i
    · rw [if_pos z] at q1 q2
      split at q1 <;> split at q2 <;> first | (cases q1; cases q2; exact hv3) | (cases q1; done) | (cases q2; done)
    · rw [if_neg z] at q1 q2; exact l.2 i v' d' q1 q2⟩
  have f4 := f3.change (ds' := .lst (ds.set k d)) hm (fun b o nb e => sb.extBut b o nb e) il
  exact kN _ _ hb3 _ _ n (((Go.step (f.thaw st)).trans (Go.step (st2.trans st3))).trans (Go.change f3 f4 ⟨_, hm⟩ (fun b o nb e => sb.extBut b o nb e) il.live)) f4⟩
/-- an own list is forgotten -/
theorem RunOn.forget {t : Env → Sem Flow} {μ2 : Mu} (sub : ∀ q, q ∈ μ2 → q ∈ μ) (md : μ2.Pairwise fun x y => x.1 ≠ y.1) (r : RunOn w A sc δ μ2 t N B R) : RunOn w A sc δ μ t N B R := ⟨fun env h0 hb0 hb h f s Q E es kN kB kR => by
  have g : Go sc env μ hb h μ2 hb h := ⟨fun _ _ _ _ e => e, fun b e m => .inl ⟨e, sub _ m⟩, .refl _, fun _ _ e => .inl e, fun _ e => e⟩
  exact r.go env h0 hb0 hb h ⟨f.step, f.gd, f.rds, f.loc, f.cell, f.own, fun a e m => f.mu a e (sub _ m), md⟩ s Q E es (fun δ2 μ2 hb2 h2 tk2 n g2 f2 => kN δ2 μ2 hb2 h2 tk2 n (g.trans g2) f2) (fun δ2 μ2 hb2 h2 tk2 n g2 f2 => kB δ2 μ2 hb2 h2 tk2 n (g.trans g2) f2) kR⟩

/-! three names at once -/
theorem Run1.three {a b c : Str} {pa pb pc : Pos} {e : Expr} {d : D} (he : Evs w A sc δ e d) (oa : own2 sc a) (ob : own2 sc b) (oc : own2 sc c) (hw : ∀ env, swappedStores [.Name a pa, .Name b pb, .Name c pc] e env = pure none) (n : N ((c, d) :: (b, d) :: (a, d) :: δ) μ) :
    Run1 w A sc δ μ (.Assign [.Name a pa, .Name b pb, .Name c pc] e pos) N B R := ⟨fun env h0 hb0 hb h f s Q E es kN kB kR => by
  refine wpAny_Assign_three (he.run env hb h f.ctx s _ E es fun v hb1 h1 tk st hv => ?_) rfl (hw env)
  have f1 := f.after st
  refine wpAny_assign_Name (f1.store oa hv _ _ E rfl fun h2 tk2 f2 n2 => ?_)
  refine wpAny_assign_Name (f2.store ob hv _ _ E rfl fun h3 tk3 f3 n3 => ?_)
  refine wpAny_assign_Name (f3.store oc hv _ _ E rfl fun h4 tk4 f4 n4 => ?_)
  exact kN _ _ _ h4 tk4 n ((((Go.step st).trans (Go.store f1 f2 n2)).trans (Go.store f2 f3 n3)).trans (Go.store f3 f4 n4)) f4⟩
end
end
-- part B21
section
open PySem PySem.W PyProof.Rows PySem.Calls


section
variable {w : World} {A : Around} {sc scope : Scope} {env : Env} {h0 hb0 hb h hb' h' : Heap} {δ δ' : Dm} {μ μ' : Mu} {pos p pn kp : Pos} {N B : Pm} {R : D → Prop}

/-! class attributes, tuple(list) -/
theorem ws_reads (P : Params) : readsIn (KF P) 83 (.type "type") = true := by kernel_rfl
noncomputable def cfStr : Option CFound → Option Str
  | some (.val (.str y _)) => some y
  | _ => Option.none
theorem cf_of {r : Option CFound} {y : Str} (h : cfStr r = some y) : ∃ t, r = some (.val (.str y t)) := by
  unfold cfStr at h
  split at h
  · cases h; exact ⟨_, rfl⟩
  · cases h
theorem ws_S (P : Params) : ∃ t, findCls (KF P) (.ref 83) (.type "type") "S" = some (.val (.str " " t)) := cf_of (by kernel_rfl)
theorem ws_T (P : Params) : ∃ t, findCls (KF P) (.ref 83) (.type "type") "T" = some (.val (.str "\t" t)) := cf_of (by kernel_rfl)
theorem Evs.clsStr {x name y : Str} {t : Tok} (g : Glb w sc x (.ref 83)) (e : findCls (KF w.params) (.ref 83) (.type "type") name = some (.val (.str y t))) : Evs w A sc δ (.Attribute (.Name x pn) name p) (.str y) := ⟨fun env hb h c s Q E es q => by
  rw [arm_eval_Attribute, attrBase_plain rfl]
  refine wpAny_bind (g.ok c s _ E es fun v hb1 h1 tk st hv => wpAny_bind (wpAny_standAt (wpAny_bind (wpAny_holding ?_))))
  subst hv
  have c1 := c.step st
  exact cls_value (s := { s with heap := h1, toks := tk }) (c1.gd.k.keeps c1.sub) (ws_reads _) e rfl (wpAny_bind (wpAny_letTemporaryGo (wpAny_pure (q _ hb1 h1 _ st (.str _ _)))))⟩
theorem Evs.tupOf {κ : Nat} {x : Str} {e : Expr} {ds : List D} (hA : OkA κ A) (b : Blt w sc x (.type "tuple")) (he : Evs w A sc δ e (.list ds)) (ns : notStar e = true) (hl : ds.length ≤ bigL) : Evs w A sc δ (.Call (.Name x p) [e] [] pos) (.tup ds) :=
  ⟨fun env hb h c s Q E es' q => Call_Name rfl (b.ok c s _ E es' fun r hb1 h1 tk st hr => by
    subst hr
    have xs : EvsL w A sc δ [e] [.list ds] := .cons ns he .nil
    refine PyProof.Rows.callWith_type (any_star xs.stars) (evalArgs_ok xs (c.step st) _ _ E rfl fun a hb2 h2 tk2 st2 ha => ?_)
    obtain ⟨v, hv, hv2⟩ := ha.2.one
    obtain ⟨l, vs, n, rfl, e1, l1⟩ := hv2.list_inv
    rw [ha.1, hv]
    refine call_tuple_list (items := vs.toArray) ⟨_, st2.inn _ _ e1, rfl, _, rfl⟩ (fun h3 k3 => ?_) (by have := l1.1; have := bigL_le; simp only [List.size_toArray]; omega)
    have hx : Ext h2 (h3.push { cls := .type "tuple", data := .seq vs.toArray }) := fun b o e => Heap.get?_push_of_some _ (k3 b o e)
    have st3 := step_frz (hb := hb2) st2.inn hx
    have dead : h2.get? h3.objs.size = Option.none := by
      cases z : h2.get? h3.objs.size with
      | none => rfl
      | some o => have := k3 _ o z; rw [size_none] at this; cases this
    refine q _ _ _ _ ((st.trans st2).trans st3) (.tup (vs := vs) (n := 0) ?_ l1.1 (l1.mono st3.fz).2)
    rw [frz_new dead]; exact Heap.get?_push_size _ rfl)⟩

/-! attributes that are set -/
theorem Ents.noRef {en : List DictEntry} {es : List (Str × D)} (x : Ents hb en es) : en.any (·.refKey) = false := by
  induction x with
  | nil => rfl
  | cons _ _ ih => rw [List.any_cons, ih]; rfl
theorem Ents.noName {en : List DictEntry} {es : List (Str × D)} {name : Str} (x : Ents hb en es) (nn : name ∉ es.map (·.1)) : ∀ e ∈ en, e.key.isStr name = false := by
  induction x with
  | nil => intro e m; cases m
  | cons _ _ ih =>
    rename_i h x t v d en es _ _
    intro e m
    rcases List.mem_cons.mp m with rfl | m
    · show (x == name) = false
      exact beq_false_of_ne fun q => nn (by rw [q]; exact List.mem_cons_self)
    · exact ih (fun q => nn (List.mem_cons_of_mem _ q)) e m
theorem Ents.len {en : List DictEntry} {es : List (Str × D)} (x : Ents hb en es) : en.length = es.length := by induction x <;> simp_all
theorem Ents.snoc {en : List DictEntry} {es : List (Str × D)} {hh : Int} {name : Str} {t : Tok} {v : Value} {d : D} (x : Ents hb en es) (hv : Has hb v d) : Ents hb (en ++ [⟨hh, .str name t, v⟩]) (es ++ [(name, d)]) := by
  induction x with
  | nil => exact .cons hv .nil
  | cons a _ ih => exact .cons a ih
theorem put_new {en : List DictEntry} {name : Str} {hh : Int} {kv v : Value} {n : Nat} (nn : ∀ e ∈ en, e.key.isStr name = false) :
    Obj.putName name hh kv v { cls := .type "dict", data := .dict en.toArray n } = { cls := .type "dict", data := .dict (en ++ [(⟨hh, kv, v⟩ : DictEntry)]).toArray (n + 1) } := by
  rw [Obj.putName_eq]
  unfold Obj.putNameByArray
  have : en.toArray.findIdx? (fun e => e.key.isStr name) = none := by
    rw [Array.findIdx?_eq_none_iff]
    intro e m
    exact nn e (by simpa using m)
  simp only [this]
  simp
theorem ws_set (P : Params) : findIn (KF P) (.ref 83) "__setattr__" = some (some (.builtin "object.__setattr__")) := by kernel_rfl
theorem ws_over (P : Params) : plainOver (KF P) 83 = true := by kernel_rfl
theorem ws_has (P : Params) : (clsIn (KF P) 83).any (·.hasDict) = true := by kernel_rfl

theorem set_ws {x dx : Addr} {name : Str} {v : Value} {en : List DictEntry} {n : Nat} {s : Shared} {Q : Unit → Shared → Prop} {E : Value → Shared → Prop} (X : (KF w.params).In s.heap) (hx : s.heap.get? x = some (instObj 83 dx)) (D' : s.heap.get? dx = some { cls := .type "dict", data := .dict en.toArray n })
    (ht : takerIn (KF w.params) 83 name = some none) (nn : ∀ e ∈ en, e.key.isStr name = false) (nr : en.any (·.refKey) = false) (hz : en.length ≤ 1000)
    (q : ∀ h' tk hh t, h'.get? dx = some { cls := .type "dict", data := .dict (en ++ [(⟨hh, .str name t, v⟩ : DictEntry)]).toArray (n + 1) } → (∀ b o, b ≠ dx → s.heap.get? b = some o → h'.get? b = some o) → Q () { s with heap := h', toks := tk }) :
    wpAny (model PW w) A (setAttr (.ref x) name v) Q E s := by
  have I : InstAt s.heap x (instObj 83 dx) 83 (some { cls := .type "dict", data := .dict en.toArray n }) := ⟨hx, rfl, rfl, D'⟩
  refine set_plain X I (ws_set _) (osa_open (s := { s with toks := s.toks + 1 }) X I (ws_over _) ht fun b => ?_)
  obtain ⟨cd, hc, hd⟩ := any_some (ws_has w.params)
  refine wpAny_bind (wpAny_pure (wpAny_bind (wpAny_bind (wpAny_loadPart hx (wpAny_bind (Looks.here (s := { s with toks := s.toks + 1 }) (looks_clsIn X hc) ?_))))))
  rw [hd]
  refine wpAny_pure (a := some dx) (wpAny_bind (wpAny_pure (wpAny_bind ?_)))
  unfold nsSet
  refine wpAny_bind (wpAny_bind (wpAny_askSetting (wpAny_pure (wpAny_bind (wpAny_mkText (wpAny_bind (wpAny_loadPart D' ?_)))))))
  dsimp only
  have c : (!en.toArray.any (·.key.isStr name) && en.toArray.any (·.refKey)) = false := by
    have : en.toArray.any (fun x => x.refKey) = false := by rw [← Array.any_toList]; exact nr
    rw [this, Bool.and_false]
  rw [aRefKeyMayBeTheName_at, c]
  refine wpAny_updatePart D' ?_
  have g : (s.heap.update dx (Obj.putName name (PyData.keyHash w.params name) (.str name (s.toks + 1)) v)).get? dx = some { cls := .type "dict", data := .dict (en ++ [(⟨PyData.keyHash w.params name, .str name (s.toks + 1), v⟩ : DictEntry)]).toArray (n + 1) } := by
    rw [← put_new nn]
    exact Heap.get?_update_self _ D' (by rw [put_new nn]; rfl)
  refine wpAny_bind (wpAny_lookBehind g (pastItsLine_dict (by rw [List.size_toArray, List.length_append, sizeLine_eq]; simp; omega)) ?_)
  exact wpAny_pure (q _ _ _ _ g fun b o nb e => (Heap.SameBut.update ..).extBut b o nb e)
theorem Run1.setWs {x dx : Addr} {es : List (Str × D)} {name : Str} {d : D} {e : Expr} {px ap : Pos} (hx : δ.lookup ("self" : Str) = some (.adr x)) (hm : (dx, .ns x es) ∈ μ) (he : Evs w A sc δ e d) (ht : takerIn (KF w.params) 83 name = some none) (nn : name ∉ es.map (·.1)) (hl : es.length ≤ 100)
    (sw : ∀ env, swapsWith e (some (.Attribute (.Name "self" px) name ap)) pos.line env = pure false) (n : N δ (setMu μ dx (.ns x (es ++ [(name, d)])))) : Run1 w A sc δ μ (.Assign [.Attribute (.Name "self" px) name ap] e pos) N B R := ⟨fun env h0 hb0 hb h f s Q E es' kN kB kR => by
  refine plainObj_wpAny_Assign_Attribute (he.run env hb h f.ctx s _ E es' fun v hb1 h1 tk st hv => ?_) (sw env)
  have f1 := f.after st
  refine (Evs.name (by decide +kernel) hx).run env hb1 h1 f1.ctx _ _ E rfl fun u hb2 h2 tk2 st2 hu => ?_
  cases hu
  have f2 := f1.after st2
  obtain ⟨no, p0, pb, ix, en, nn', g, t⟩ := f2.mu dx _ hm
  have gdh := f2.gd.mono f2.step.inn
  refine set_ws (s := { s with heap := h2, toks := tk2 }) gdh.k (f2.step.inn _ _ ix) g ht (t.noName nn) t.noRef (by have := t.len; omega) fun h3 tk3 hh tt g3 keep => ?_
  have il : IsMo hb2 h3 dx (.ns x (es ++ [(name, d)])) := ⟨ix, _, _, g3, t.snoc (hv.mono st2.fz)⟩
  have f3 := f2.change (ds' := .ns x (es ++ [(name, d)])) hm (fun b o nb e => keep b o nb e) il
  exact kN _ _ hb2 h3 tk3 n ((Go.step (st.trans st2)).trans (Go.change f2 f3 ⟨_, hm⟩ (fun b o nb e => keep b o nb e) il.live)) f3⟩

/-! self.raw, looped over -/
theorem iter_str {κ : Nat} (hA : OkA κ A) {x : Str} {t : Str} {u : Tok} (hx : Ext hb h) (s : Shared) (Q : Value → Shared → Prop) (E : Value → Shared → Prop) (es : s.heap = h)
    (k : ∀ it h' tk mt S, IterT w A (.Name x p) it mt hb (signs t) S → S 0 h' → Step hb h hb h' → (∀ b ∈ mt, h.get? b = none ∧ hb.get? b = none) → Q it { s with heap := h', toks := tk }) : wpAny (model PW w) A (pyIter (.str t u)) (fun it s2 => Q it s2) E s := by
  subst es
  have fin : ∀ (ty : String) (S : Nat → Heap → Prop), Walks PW w A s.heap.objs.size [s.heap.objs.size] [s.heap.objs.size] t.cps.size (SignAt t) S → (∀ i h, S i h → h.get? s.heap.objs.size ≠ none) →
      S 0 (s.heap.push { cls := .type ty, data := .fields #[.str t u, .int 0 0] }) → Q (.ref s.heap.objs.size) { s with heap := s.heap.push { cls := .type ty, data := .fields #[.str t u, .int 0 0] } } := by
    intro ty S W live hS
    refine k _ _ s.toks [s.heap.objs.size] S (IterT.ofWalks W (by simp [signs]) (fun b m => .inr m) (fun i h st b m => by obtain rfl := List.mem_singleton.mp m; exact live i h st) fun i v d hp hd => ?_) hS (Step.fresh hx) fun b m => no_in hx b m
    obtain ⟨c, u', e1, rfl⟩ := hp
    rw [signs, List.getElem?_map] at hd
    have : t.cps.toList[i]? = some c := by simpa using e1
    rw [this] at hd; cases hd; exact .str _ _
  cases ha : t.cps.all (· < 128)
  · exact wpAny_pyIter_wide ha (fin _ _ (Walks.strWide hA.hd _ t u) (fun i h ⟨o, e, _⟩ => by rw [e]; intro q; cases q) ⟨_, Heap.get?_push_size _ rfl, rfl, rfl⟩)
  · exact wpAny_pyIter_ascii ha (fin _ _ (Walks.strAscii hA.hd _ t u) (fun i h ⟨o, e, _⟩ => by rw [e]; intro q; cases q) ⟨_, Heap.get?_push_size _ rfl, rfl, rfl⟩)
theorem raw_look {hh : Int} {t : Tok} {v : Value} {n : Nat} : lookIn "raw" { cls := .type "dict", data := .dict [(⟨hh, .str "raw" t, v⟩ : DictEntry)].toArray n } = some (some v) := by kernel_rfl
theorem EvS.raw {κ : Nat} (hA : OkA κ A) {x dx : Addr} {y raw : Str} {px : Pos} (hx : δ.lookup ("self" : Str) = some (.adr x)) (hm : (dx, .ns x [("raw", .str raw)]) ∈ μ) : EvS w A sc δ μ (.Attribute (.Name "self" pn) "raw" p) (.Name y px) (signs raw) := by
  intro env h0 hb0 hb h f s Q E es k
  rw [arm_eval_Attribute, attrBase_plain rfl]
  refine wpAny_bind ((Evs.name (by decide +kernel) hx).run env hb h f.ctx s _ E es fun v hb1 h1 tk st hv => wpAny_bind (wpAny_standAt (wpAny_bind (wpAny_holding ?_))))
  cases hv
  have f1 := f.after st
  obtain ⟨no, p0, pb, ix, en, nn, g, t⟩ := f1.mu dx _ hm
  cases t with
  | cons hr tl =>
  cases tl
  rename_i hh tt vr
  obtain ⟨u, rfl⟩ := hr.str_inv
  have gdh := f1.gd.mono f1.step.inn
  have hf : findObj (KF w.params) 83 (some { cls := .type "dict", data := .dict [(⟨hh, .str "raw" tt, .str raw u⟩ : DictEntry)].toArray nn }) "raw" = some (.value (.str raw u)) := findObj_own (ws_hd _) (ws_no _).1 rfl raw_look
  refine get_value (s := { s with heap := h1, toks := tk }) gdh.k ⟨f1.step.inn _ _ ix, rfl, rfl, g⟩ (ws_ga _) hf rfl (wpAny_bind (wpAny_letTemporaryGo (wpAny_pure ?_)))
  refine iter_str (x := y) (p := px) hA st.inn _ _ E rfl fun it h2 tk2 mt S W hS st2 hmt => ?_
  refine k it hb1 h2 tk2 mt S W hS (st.trans st2) fun b m => ⟨?_, (hmt b m).2⟩
  cases z : h.get? b with
  | none => rfl
  | some o => have := st.ext b o z; rw [(hmt b m).1] at this; cases this
end
end
-- part B22
section
open PySem PySem.W PyProof.Rows PySem.Calls


/-! what Whitespace counts -/
structure WsS where
  c : List Int
  b : Nat
  n : Nat
  nt : Nat
noncomputable def grow (s : WsS) : List Int := if s.b ≥ s.c.length then s.c ++ List.replicate (s.b - s.c.length + 1) 0 else s.c
noncomputable def wsStep (s : WsS) (ch : Nat) : WsS := if ch = 32 then ⟨s.c, s.b + 1, s.n + 1, s.nt⟩ else ⟨(grow s).set s.b ((grow s).getD s.b 0 + 1), 0, s.n + 1, s.nt + 1⟩
noncomputable def wsF (l : List Nat) : WsS := l.foldl wsStep ⟨[], 0, 0, 0⟩
noncomputable def isB (c : Nat) : Bool := c == 32 || c == 9
noncomputable def leadOf (raw : Str) : List Nat := raw.cps.toList.takeWhile isB
noncomputable def wsOf (raw : Str) : Ws := ⟨raw, (wsF (leadOf raw)).n, (wsF (leadOf raw)).nt, (wsF (leadOf raw)).c, (wsF (leadOf raw)).b, decide ((wsF (leadOf raw)).c.length ≤ 1)⟩
theorem grow_len (s : WsS) : s.b < (grow s).length ∧ (grow s).length ≤ max s.c.length (s.b + 1) := by
  unfold grow
  split
  · rw [List.length_append, List.length_replicate]; omega
  · omega
theorem wsF_snoc (l : List Nat) (c : Nat) : wsF (l ++ [c]) = wsStep (wsF l) c := by unfold wsF; rw [List.foldl_append]; rfl
theorem wsF_le (l : List Nat) : (wsF l).c.length ≤ l.length ∧ (wsF l).b ≤ l.length ∧ (wsF l).n ≤ l.length ∧ (wsF l).nt ≤ l.length := by
  have : ∀ (l : List Nat) (s : WsS) (m : Nat), s.c.length ≤ m → s.b ≤ m → s.n ≤ m → s.nt ≤ m → (l.foldl wsStep s).c.length ≤ m + l.length ∧ (l.foldl wsStep s).b ≤ m + l.length ∧ (l.foldl wsStep s).n ≤ m + l.length ∧ (l.foldl wsStep s).nt ≤ m + l.length := by
    intro l
    induction l with
    | nil => intro s m h1 h2 h3 h4; exact ⟨h1, h2, h3, h4⟩
    | cons c l ih =>
      intro s m h1 h2 h3 h4
      have g := grow_len s
      have := ih (wsStep s c) (m + 1) (by unfold wsStep; split <;> simp <;> omega) (by unfold wsStep; split <;> simp <;> omega) (by unfold wsStep; split <;> simp <;> omega) (by unfold wsStep; split <;> simp <;> omega)
      rw [List.foldl_cons, List.length_cons]
      omega
  have := this l ⟨[], 0, 0, 0⟩ 0 (Nat.le_refl _) (Nat.le_refl _) (Nat.le_refl _) (Nat.le_refl _)
  unfold wsF
  omega
theorem lead_take {l : List Nat} {i c : Nat} (h : l[i]? = some c) (hi : i ≤ (l.takeWhile isB).length) : (isB c = true ∧ i + 1 ≤ (l.takeWhile isB).length ∧ (l.takeWhile isB).take (i + 1) = (l.takeWhile isB).take i ++ [c]) ∨ (isB c = false ∧ i = (l.takeWhile isB).length) := by
  by_cases q : i < (l.takeWhile isB).length
  · left
    have pre : (l.takeWhile isB)[i]? = some c := by
      have := (List.takeWhile_prefix isB (l := l)).getElem q
      rw [List.getElem?_eq_getElem q, this]
      rw [← h]
      exact (List.getElem?_eq_getElem _).symm
    have m := List.mem_of_getElem? pre
    have hb : isB c = true := by
      have := List.all_takeWhile (p := isB) (l := l)
      exact List.all_eq_true.mp this c m
    exact ⟨hb, q, by rw [List.take_add_one, pre]; rfl⟩
  · right
    have e : i = (l.takeWhile isB).length := by omega
    refine ⟨?_, e⟩
    have hs : l = l.takeWhile isB ++ l.dropWhile isB := (List.takeWhile_append_dropWhile).symm
    rw [hs, List.getElem?_append_right (by omega), e, Nat.sub_self] at h
    cases z : l.dropWhile isB with
    | nil => rw [z] at h; cases h
    | cons a r =>
      rw [z] at h
      cases h
      have := List.head?_dropWhile_not isB l
      rw [z] at this
      simpa using this
theorem wsOf_ok (raw : Str) (h : raw.length ≤ 500) : (wsOf raw).Ok := by
  have h1 := wsF_le (leadOf raw)
  have h2 : (leadOf raw).length ≤ raw.length := by
    have := (List.takeWhile_prefix isB (l := raw.cps.toList)).length_le
    simpa [leadOf, Str.length] using this
  exact ⟨by show (wsF (leadOf raw)).c.length ≤ 500; omega, by show ((wsF (leadOf raw)).b : Int) ≤ 500; omega⟩

theorem F_init (w : World) : FnAt w 38 (fdAt w 38) := .mk' (s := inS (topS 2) 1) (by decide +kernel) rfl ⟨_, rfl, rfl⟩ ⟨_, _, _, _, rfl, rfl, rfl, rfl⟩ rfl rfl rfl rfl rfl rfl

section
variable {w : World} {A : Around} {sc scope : Scope} {env : Env} {h0 hb0 hb h hb' h' : Heap} {δ δ' : Dm} {μ μ' : Mu} {pos p pn kp : Pos} {N B : Pm} {R : D → Prop}
noncomputable abbrev dmW (x a : Addr) (s : WsS) : Dm := [(("n" : Str), D.int s.n), (("nt" : Str), .int s.nt), (("b" : Str), .int s.b), (("count" : Str), .adr a), (("S" : Str), .str " "), (("T" : Str), .str "\t"), (("self" : Str), .adr x)]
noncomputable abbrev muW (x dx a : Addr) (raw : Str) (s : WsS) : Mu := [(a, .lst (s.c.map .int)), (dx, .ns x [("raw", .str raw)])]
theorem tk_n (P : Params) : takerIn (KF P) 83 "raw" = some none ∧ takerIn (KF P) 83 "n" = some none ∧ takerIn (KF P) 83 "nt" = some none ∧ takerIn (KF P) 83 "norm" = some none ∧ takerIn (KF P) 83 "is_simple" = some none :=
  ⟨by kernel_rfl, by kernel_rfl, by kernel_rfl, by kernel_rfl, by kernel_rfl⟩
theorem flat_ints (l : List Int) : ∀ d ∈ l.map D.int, flat d = true := fun d m => by
  obtain ⟨i, _, rfl⟩ := List.mem_map.mp m; rfl
theorem mu_two {a dx : Addr} {m1 m2 : Mo} (h : a ≠ dx) : List.Pairwise (fun x y => x.1 ≠ y.1) ([(a, m1), (dx, m2)] : Mu) := by
  refine List.pairwise_cons.mpr ⟨fun q m => ?_, List.pairwise_singleton _ _⟩
  rw [List.mem_singleton.mp m]; exact h

theorem setMu_one {a : Addr} {m m' : Mo} : setMu [(a, m)] a m' = [(a, m')] := by simp [setMu]
theorem init_turn {x dx a : Addr} {raw : Str} {s : WsS} {c : Nat} (hA : OkA 0 A) (hne : a ≠ dx) (hs : s.c.length ≤ 500 ∧ s.b ≤ 500) (hc : isB c = true) :
    Run w A (fnSc (inS (topS 2) 1)) ((("ch" : Str), D.str ⟨#[c]⟩) :: dmW x a s) (muW x dx a raw s) (inner ((fnBody (inS (topS 2) 1)).getD 4 (.Pass ⟨0, 0, 0, 0⟩)))
      (fun δ' μ' => ∃ a', a' ≠ dx ∧ μ' = muW x dx a' raw (wsStep s c) ∧ Sub (dmW x a' (wsStep s c)) δ') (fun _ _ => False) (fun _ => False) := by
  have hb : bigL = 100000 := rfl
  refine Run.cons (Run1.if_ (b := c == 32) (Tru.cast ?_ (by repeat' trivial)) (fun q => ?_) (fun q => ?_))
  · rw [str_space, sgn_beq]
  · have q : c = 32 := by simpa using q
    refine Run.cons (Run1.assign (x := .int (s.n + 1 : Nat)) (Evs.cast (a := .int ((s.n : Int) + 1)) rfl (by repeat' trivial)) (.inl (by decide +kernel)) (fun _ _ => rfl) ?_)
    refine Run.cons (Run1.assign (x := .int (s.b + 1 : Nat)) (Evs.cast (a := .int ((s.b : Int) + 1)) rfl (by repeat' trivial)) (.inl (by decide +kernel)) (fun _ _ => rfl) (Run.nil (Run.nil ⟨a, hne, ?_, ?_⟩)))
    · unfold wsStep; rw [if_pos q]
    · unfold wsStep; rw [if_pos q]
      repeat' trivial
  · have q : ¬ c = 32 := by simpa using q
    have q2 : c = 9 := by unfold isB at hc; simpa [q] using hc
    refine Run.cons (Run1.if_ (b := true) (Tru.cast ?_ (by repeat' trivial)) (fun _ => ?_) (fun q => by cases q))
    · rw [str_tab, sgn_beq, q2]; rfl
    refine Run.cons (Run1.assign (x := .int (s.n + 1 : Nat)) (Evs.cast (a := .int ((s.n : Int) + 1)) rfl (by repeat' trivial)) (.inl (by decide +kernel)) (fun _ _ => rfl) ?_)
    refine Run.cons (Run1.assign (x := .int (s.nt + 1 : Nat)) (Evs.cast (a := .int ((s.nt : Int) + 1)) rfl (by repeat' trivial)) (.inl (by decide +kernel)) (fun _ _ => rfl) ?_)
    have hl : (muW x dx a raw s).lookup a = some (.lst (s.c.map .int)) := by rw [List.lookup_cons]; simp
    -- the counts, long enough
    refine Run.cons ((Run1.ifF (N := fun δ' μ' => ∃ a', a' ≠ dx ∧ μ' = [(a', .lst ((grow s).map .int)), (dx, .ns x [("raw", .str raw)])] ∧ Sub (dmW x a' ⟨grow s, s.b, s.n + 1, s.nt + 1⟩) δ') (b := decide (s.b ≥ s.c.length)) (Tru.cast ?_ (Tru.cmp (x := .int s.b) (y := .int s.c.length) (Evs.nameF (by decide +kernel) (by repeat' trivial) rfl)
      (Evs.cast ?_ (Evs.callB hA (blt_len w (by decide +kernel)) (.cons (by decide +kernel) (Evs.nameO (by decide +kernel) (by repeat' trivial) hl) .nil) (callB_len (by simp; omega)))) rfl (by decide +kernel))) (fun q => ?_) (fun q => Run.nil ⟨a, hne, ?_, ?_⟩)).mono (fun δ' μ' ⟨a', hne', e, sb⟩ => ?_) (fun _ _ q => q) (fun _ q => q))
    · simp only [decide_eq_decide]; omega
    · simp
    · have q : s.b ≥ s.c.length := of_decide_eq_true q
      have eg : s.c.map D.int ++ List.replicate (s.b - s.c.length + 1) (D.int 0) = (grow s).map .int := by
        unfold grow; rw [if_pos q, List.map_append, List.map_replicate]
      refine Run.cons (Run1.catOwn (xs := s.c.map .int) (ys := List.replicate (s.b - s.c.length + 1) (.int 0)) (Evs.nameO (by decide +kernel) (by repeat' trivial) hl) (Evs.cast ?_ (Evs.mulOne (d := .int 0) (k := (s.b : Int) - s.c.length + 1) (Evs.list (by repeat' trivial) (by show 1 ≤ 100000; decide))
        (Evs.bin (x := .int ((s.b : Int) - s.c.length)) (y := .int 1) (Evs.bin (x := .int s.b) (y := .int s.c.length) (Evs.nameF (by decide +kernel) (by repeat' trivial) rfl) (Evs.cast ?_ (Evs.callB hA (blt_len w (by decide +kernel)) (.cons (by decide +kernel) (Evs.nameO (by decide +kernel) (by repeat' trivial) hl) .nil) (callB_len (by simp; omega)))) rfl) Evs.int rfl) ⟨by omega, by omega⟩))
        (fun d m => ?_) (by simp; omega) (.inl (by decide +kernel)) (fun a' na => RunOn.forget (μ2 := [(a', .lst ((grow s).map .int)), (dx, .ns x [("raw", .str raw)])]) (fun e m => ?_) (mu_two fun e => na (.ns x [("raw", .str raw)]) (by rw [e]; exact List.mem_cons_of_mem _ List.mem_cons_self)) (Run.nil ⟨a', fun e => na (.ns x [("raw", .str raw)]) (by rw [e]; exact List.mem_cons_of_mem _ List.mem_cons_self), rfl, ?_⟩)))
      · rw [show ((s.b : Int) - s.c.length + 1).toNat = s.b - s.c.length + 1 by omega]
      · simp
      · rcases List.mem_append.mp m with m | m
        · exact flat_ints _ d m
        · rw [List.eq_of_mem_replicate m]; rfl
      · rw [eg]
        rcases List.mem_cons.mp m with m | m
        · rw [m]; exact List.mem_cons_self
        · exact List.mem_cons_of_mem _ (List.mem_cons_of_mem _ m)
      · repeat' trivial
    · have q : ¬ s.b ≥ s.c.length := of_decide_eq_false q
      unfold grow; rw [if_neg q]
    · repeat' trivial
    subst e
    refine RunOn.weak ?_ sb
    have g := grow_len s
    have hl2 : ([(a', .lst ((grow s).map .int)), (dx, .ns x [("raw", .str raw)])] : Mu).lookup a' = some (.lst ((grow s).map .int)) := by rw [List.lookup_cons]; simp
    have hget : ((grow s).map D.int)[s.b]? = some (.int ((grow s).getD s.b 0)) := intsD_get g.1
    refine Run.cons (Run1.setAt (a := a') (ds := (grow s).map .int) (k := s.b) (d := .int ((grow s).getD s.b 0 + 1)) (by decide +kernel) (by repeat' trivial) (mem_of_look_mu hl2) (Evs.bin (x := .int ((grow s).getD s.b 0)) (y := .int 1)
      (Evs.item (x := .list ((grow s).map .int)) (y := .int s.b) (Evs.nameO (by decide +kernel) (by repeat' trivial) hl2) (Evs.nameF (by decide +kernel) (by repeat' trivial) rfl) (by decide +kernel) (itemD_list ⟨by omega, by omega⟩ (by rw [Int.toNat_natCast]; exact hget))) Evs.int rfl) rfl (by repeat' trivial) (by simp; omega) (by simpa using g.1) (fun _ => rfl) ?_)
    refine Run.cons (Run1.assign (x := .int (0 : Nat)) (Evs.cast (a := .int 0) rfl Evs.int) (.inl (by decide +kernel)) (fun _ _ => rfl) (Run.nil (Run.nil (Run.nil ⟨a', hne', ?_, ?_⟩))))
    · unfold wsStep; rw [if_neg q]
      simp [setMu, List.map_set]
    · unfold wsStep; rw [if_neg q]
      repeat' trivial

theorem init_run {x dx : Addr} {raw : Str} (hraw : raw.length ≤ 500) (hA : OkA 0 A) :
    Run w A (fnSc (inS (topS 2) 1)) [(("self" : Str), D.adr x), (("ws" : Str), .str raw)] [(dx, .ns x [])] (fnBody (inS (topS 2) 1))
      (fun _ μ' => μ' = [(dx, .ns x [(("raw" : Str), D.str raw), ("n", .int (wsOf raw).n), ("nt", .int (wsOf raw).nt), ("norm", .tup [.tup ((wsOf raw).c.map .int), .int (wsOf raw).t]), ("is_simple", .bool (wsOf raw).b)])]) (fun _ _ => False) (fun _ => False) := by
  have hb : bigL = 100000 := rfl
  obtain ⟨tk1, tk2, tk3, tk4, tk5⟩ := tk_n w.params
  have hll : (leadOf raw).length ≤ 500 := by
    have := (List.takeWhile_prefix isB (l := raw.cps.toList)).length_le
    have : (leadOf raw).length ≤ raw.length := by simpa [leadOf, Str.length] using this
    omega
  refine Run.cons (Run1.setWs (x := x) (dx := dx) (es := []) (d := .str raw) (by repeat' trivial) List.mem_cons_self (by repeat' trivial) tk1 (by simp) (by simp) (fun _ => rfl) ?_)
  have e1 : setMu [(dx, .ns x [])] dx (.ns x ([] ++ [(("raw" : Str), D.str raw)])) = [(dx, .ns x [("raw", .str raw)])] := by simp [setMu]
  rw [e1]
  obtain ⟨tS, hS⟩ := ws_S w.params
  obtain ⟨tT, hT⟩ := ws_T w.params
  refine Run.cons (Run1.tupS (xs := ["S", "T"]) (ds := [.str " ", .str "\t"]) hA (own2_of (sc := fnSc (inS (topS 2) 1)) (by decide +kernel)) (Evs.tuple (.cons (by decide +kernel) (Evs.clsStr (glb_of w (by decide +kernel) (by decide +kernel) (by kernel_rfl)) hS) (.cons (by decide +kernel) (Evs.clsStr (glb_of w (by decide +kernel) (by decide +kernel) (by kernel_rfl)) hT) .nil)) (by show 2 ≤ 100000; decide)) rfl (fun _ => rfl)
    (fun env ok => sw_names ok.bk (ok.lk _ (by decide +kernel)) (ok.lk _ (by decide +kernel)) (by decide +kernel) (by decide +kernel) (by decide +kernel) (by decide +kernel) (by decide +kernel)) ?_)
  refine Run.cons (Run1.newOwn (.inl (by decide +kernel)) (fun a na => ?_))
  have hne : a ≠ dx := fun e => na (.ns x [("raw", .str raw)]) (by rw [e]; exact List.mem_cons_self)
  refine Run.cons (Run1.three (d := .int 0) Evs.int (.inl (by decide +kernel)) (.inl (by decide +kernel)) (.inl (by decide +kernel)) (fun _ => rfl) ?_)
  refine Run.cons ((Run1.forE (N := fun δ' μ' => ∃ a, a ≠ dx ∧ μ' = muW x dx a raw (wsF (leadOf raw)) ∧ Sub (dmW x a (wsF (leadOf raw))) δ') hA (fun i δ' μ' => i ≤ (leadOf raw).length ∧ ∃ a, a ≠ dx ∧ μ' = muW x dx a raw (wsF ((leadOf raw).take i)) ∧ Sub (dmW x a (wsF ((leadOf raw).take i))) δ')
    (EvS.raw (raw := raw) hA (x := x) (dx := dx) (by repeat' trivial) (by simp)) (fun _ _ => rfl) (.inl (by decide +kernel)) ?_ ?_ ?_).mono (fun δ' μ' ⟨a, hne, e, sb⟩ => ?_) (fun _ _ q => q) (fun _ q => q))
  · rintro i d δ1 μ1 hd ⟨hi, a, hne, rfl, sb⟩
    rw [signs, List.getElem?_map] at hd
    obtain ⟨c, hc, rfl⟩ := Option.map_eq_some_iff.mp hd
    have hsz := wsF_le ((leadOf raw).take i)
    have htl : ((leadOf raw).take i).length ≤ 500 := by rw [List.length_take]; omega
    rcases lead_take hc hi with ⟨q1, q2, q3⟩ | ⟨q1, q2⟩
    · refine ((init_turn hA hne ⟨by omega, by omega⟩ q1).weak sb.push).mono (fun δ' μ' ⟨a', n1, n2, n3⟩ => ?_) (fun _ _ q => q.elim) (fun _ q => q.elim)
      have e : wsF ((leadOf raw).take (i + 1)) = wsStep (wsF ((leadOf raw).take i)) c := by
        unfold leadOf
        rw [q3, wsF_snoc]
      rw [e]
      exact ⟨q2, a', n1, n2, n3⟩
    · have ht : (leadOf raw).take i = leadOf raw := by rw [List.take_of_length_le (by unfold leadOf; omega)]
      rw [ht] at sb ⊢
      have h32 : (c == 32) = false := by
        unfold isB at q1; simp at q1; simp; exact q1.1
      have h9 : (c == 9) = false := by
        unfold isB at q1; simp at q1; simp; exact q1.2
      refine RunOn.weak ?_ sb.push
      refine Run.cons (Run1.if_ (b := false) (Tru.cast ?_ (by repeat' trivial)) (fun q => by cases q) (fun _ => ?_))
      · rw [str_space, sgn_beq, h32]
      refine Run.cons (Run1.if_ (b := false) (Tru.cast ?_ (by repeat' trivial)) (fun q => by cases q) (fun _ => ?_))
      · rw [str_tab, sgn_beq, h9]
      refine Run.cons (Run1.brk ⟨a, hne, rfl, ?_⟩)
      repeat' trivial
  · rintro δ1 μ1 ⟨hi, a, hne, rfl, sb⟩
    have ht : (leadOf raw).take (signs raw).length = leadOf raw := List.take_of_length_le (by
      have := (List.takeWhile_prefix isB (l := raw.cps.toList)).length_le
      simpa [signs, leadOf] using this)
    rw [ht] at sb ⊢
    exact ⟨a, hne, rfl, sb⟩
  · refine ⟨Nat.zero_le _, a, hne, rfl, ?_⟩
    repeat' trivial
  subst e
  refine RunOn.weak ?_ sb
  have hsz := wsF_le (leadOf raw)
  refine RunOn.settle (μ1 := []) (μ2 := [(dx, .ns x [("raw", .str raw)])]) (x := "count") (a := a) (ds := (wsF (leadOf raw)).c.map .int) (by repeat' trivial) ?_
  refine Run.cons (Run1.setWs (x := x) (dx := dx) (es := [("raw", .str raw)]) (d := .int (wsF (leadOf raw)).n) (by repeat' trivial) List.mem_cons_self (by repeat' trivial) tk2 (by show ("n" : Str) ∉ [("raw" : Str)]; decide +kernel) (by simp) (fun _ => rfl) ?_)
  rw [List.nil_append, setMu_one]
  refine Run.cons (Run1.setWs (x := x) (dx := dx) (es := [("raw", .str raw), ("n", .int (wsF (leadOf raw)).n)]) (d := .int (wsF (leadOf raw)).nt) (by repeat' trivial) List.mem_cons_self (by repeat' trivial) tk3 (by show ("nt" : Str) ∉ [("raw" : Str), "n"]; decide +kernel) (by simp) (fun _ => rfl) ?_)
  rw [setMu_one]
  refine Run.cons (Run1.setWs (x := x) (dx := dx) (es := [("raw", .str raw), ("n", .int (wsF (leadOf raw)).n), ("nt", .int (wsF (leadOf raw)).nt)]) (d := .tup [.tup ((wsF (leadOf raw)).c.map .int), .int (wsF (leadOf raw)).b]) (by repeat' trivial) List.mem_cons_self
    (Evs.tuple (.cons (by decide +kernel) (Evs.tupOf hA (blt_tuple w (by decide +kernel)) (by repeat' trivial) (by decide +kernel) (by simp; omega)) (.cons (by decide +kernel) (by repeat' trivial) .nil)) (by show 2 ≤ 100000; decide)) tk4 (by show ("norm" : Str) ∉ [("raw" : Str), "n", "nt"]; decide +kernel) (by simp) (fun _ => rfl) ?_)
  rw [setMu_one]
  refine Run.cons (Run1.setWs (x := x) (dx := dx) (es := [("raw", .str raw), ("n", .int (wsF (leadOf raw)).n), ("nt", .int (wsF (leadOf raw)).nt), ("norm", .tup [.tup ((wsF (leadOf raw)).c.map .int), .int (wsF (leadOf raw)).b])]) (d := .bool (decide ((wsF (leadOf raw)).c.length ≤ 1))) (by repeat' trivial) List.mem_cons_self
    (Evs.cast (a := .bool (decide (((wsF (leadOf raw)).c.length : Int) ≤ 1))) ?_ (Evs.cmp (x := .int (wsF (leadOf raw)).c.length) (y := .int 1) (Evs.cast ?_ (Evs.callB hA (blt_len w (by decide +kernel)) (ds := [.list ((wsF (leadOf raw)).c.map .int)]) (by repeat' trivial) (callB_len (by simp; omega)))) Evs.int rfl (by decide +kernel))) tk5 (by show ("is_simple" : Str) ∉ [("raw" : Str), "n", "nt", "norm"]; decide +kernel) (by simp) (fun _ => rfl) (Run.nil ?_))
  · refine congrArg D.bool ?_
    simp only [decide_eq_decide]; omega
  · simp
  · simp [setMu, wsOf]
end
end
-- part B23
section
open PySem PySem.W PyProof.Rows PySem.Calls


section
variable {w : World} {A : Around} {sc scope : Scope} {env : Env} {h0 hb0 hb h hb' h' : Heap} {δ δ' : Dm} {μ μ' : Mu} {pos p pn kp : Pos} {N B : Pm} {R : D → Prop}

theorem ws_makes (P : Params) : makesIn (KF P) 83 = true := by kernel_rfl
theorem ws_init (P : Params) : findIn (KF P) (.ref 83) "__init__" = some (some (.ref 38)) ∧ typeIn (KF P) (.ref 38) = some (.type "function") := ⟨by kernel_rfl, by kernel_rfl⟩
theorem ws_keep (P : Params) : keepIn (KF P) (.ref 83) = true := by kernel_rfl
theorem tc_units (v : Value) : (Code.builtin "type.__call__" ⟨.ref 83 :: [v], []⟩).cUnits ≤ 8 ∧ (Code.builtin "type.__call__" ⟨.ref 83 :: [v], []⟩).weight = 1 := ⟨Nat.le_of_ble_eq_true (by kernel_rfl), rfl⟩
theorem OkA.under {κ : Nat} (hA : OkA (κ + 1) A) (v : Value) : OkA κ (A.under (.builtin "type.__call__" ⟨.ref 83 :: [v], []⟩)) := by
  obtain ⟨a, b, c⟩ := hA
  obtain ⟨u1, u2⟩ := tc_units v
  exact ⟨a, by show A.depth + (Code.builtin "type.__call__" ⟨.ref 83 :: [v], []⟩).weight + κ < 900; omega, by show A.units + (Code.builtin "type.__call__" ⟨.ref 83 :: [v], []⟩).cUnits + 8 * κ + 200 < cLine; omega⟩

theorem ents5 {dx : Addr} {en : List DictEntry} {raw : Str} {n nt t : Int} {c : List Int} {b : Bool} (x : Ents hb en [(("raw" : Str), D.str raw), ("n", .int n), ("nt", .int nt), ("norm", .tup [.tup (c.map .int), .int t]), ("is_simple", .bool b)]) :
    ∃ vr vn vt vm vs hs ts, en = wsEntries vr vn vt vm vs hs ts ∧ Has hb vr (.str raw) ∧ Has hb vn (.int n) ∧ Has hb vt (.int nt) ∧ Has hb vm (.tup [.tup (c.map .int), .int t]) ∧ Has hb vs (.bool b) := by
  cases x with
  | cons h1 x =>
  cases x with
  | cons h2 x =>
  cases x with
  | cons h3 x =>
  cases x with
  | cons h4 x =>
  cases x with
  | cons h5 x =>
  cases x
  rename_i a1 t1 v1 a2 t2 v2 a3 t3 v3 a4 t4 v4 a5 t5 v5
  exact ⟨v1, v2, v3, v4, v5, [a1, a2, a3, a4, a5], [t1, t2, t3, t4, t5], rfl, h1, h2, h3, h4, h5⟩

theorem make_ws {raw : Str} {vl : Value} (hraw : raw.length ≤ 500) (hA : OkA 2 A) (gd : Gd w hb) (hx : Ext hb h) (hv : Has hb vl (.str raw)) : Tri w A (call (.ref 83) [vl] []) hb h fun v hb' => Has hb' v (wsOf raw).d := by
  intro s Q E es k
  obtain ⟨hh, g, d, t, os⟩ := s
  have es : hh = h := es
  subst es
  have gdh := gd.mono hx
  obtain ⟨i1, i2⟩ := ws_init w.params
  refine wpAny_call (make_core (makes_of gdh.k (ws_makes _)) (looks_findIn gdh.k i1) (fun self => bind_fn gdh.k self i2) (.inl rfl) ?_)
  have hAu := hA.under vl
  generalize A.under (.builtin "type.__call__" ⟨.ref 83 :: [vl], []⟩) = A' at hAu ⊢
  have x1 : Ext hh ((hh.push emptyDict).push (instObj 83 hh.objs.size)) := fun b o e => Heap.get?_push_of_some _ (Heap.get?_push_of_some _ e)
  have gx : ((hh.push emptyDict).push (instObj 83 hh.objs.size)).get? (hh.objs.size + 1) = some (instObj 83 hh.objs.size) := by
    have := Heap.get?_push_size (hh.push emptyDict) (o := instObj 83 hh.objs.size) rfl
    rw [Heap.size_push] at this; exact this
  have gdx : ((hh.push emptyDict).push (instObj 83 hh.objs.size)).get? hh.objs.size = some emptyDict := Heap.get?_push_of_some _ (Heap.get?_push_size _ rfl)
  have dead1 : hh.get? hh.objs.size = none := size_none _
  have dead2 : hh.get? (hh.objs.size + 1) = none := Heap.get?_none_of_le (by omega)
  generalize (hh.push emptyDict).push (instObj 83 hh.objs.size) = H at x1 gx gdx
  generalize hh.objs.size = dx at gx gdx dead1 dead2
  have st0 : Step hb hh hb H := ⟨x1, .refl _, fun b o e => x1 b o (hx b o e), fun _ _ e => .inl e⟩
  have st1 := frzA_step st0 dead2
  have gx2 : (frzA hb H (dx + 1)).get? (dx + 1) = some (instObj 83 dx) := frzA_at gx
  have pb : (frzA hb H (dx + 1)).get? dx = none := by
    unfold frzA; rw [get_only, if_neg]
    rintro (q | q)
    · cases z : hb.get? dx with
      | none => rw [z] at q; cases q
      | some o => have := hx _ o z; rw [dead1] at this; cases this
    · exact absurd (show dx = dx + 1 from q) (Nat.ne_of_lt (Nat.lt_succ_self dx))
  have hvl : Has (frzA hb H (dx + 1)) vl (.str raw) := hv.mono st1.fz
  have gd2 := gd.mono st1.fz
  have hx2 := st1.inn
  have fz0 := st1.fz
  have new0 : ∀ b o, (frzA hb H (dx + 1)).get? b = some o → hb.get? b = some o ∨ hh.get? b = none := st1.new
  generalize frzA hb H (dx + 1) = hb2 at gx2 pb hvl gd2 hx2 fz0 new0
  -- the call of __init__
  obtain ⟨o, ho1, ho2⟩ := (F_init w).fn
  obtain ⟨c, oc, vc, tq, e1, e2, e3, e4⟩ := (F_init w).code
  have code : H.CodeRec (fdAt w 38).code (fdAt w 38).qualname := ⟨c, oc, vc, tq, e1, hx2 _ _ (gd2.k _ _ e2), e3, e4⟩
  have hcell : ∀ p ∈ (fdAt w 38).scope.names, p.2 ≠ .cell := nocell_of (sc := fnSc (inS (topS 2) 1)) (by decide +kernel)
  have hloc' : ∀ x ∈ [(("self" : Str), Value.ref (dx + 1)), (("ws" : Str), vl)], (fdAt w 38).scope.names.lookup x.1 = some .local := loc_of (sc := fnSc (inS (topS 2) 1)) (xs := ["self", "ws"]) (by decide +kernel) rfl
  refine codeAny_call_def (s := ⟨H, g, d, t, os⟩) (by have := hAu.dep; show A'.depth < 1000; omega) (hx2 _ _ (gd2.k _ _ ho1)) ho2 (gd2.nolimit.keeps hx2) code rfl (binds := [(("self" : Str), Value.ref (dx + 1)), (("ws" : Str), vl)]) (BindsTo.of_eq (by kernel_rfl)) hcell hloc' (fun h1 ns ext => ?_) (F_init w).co (F_init w).gen (F_init w).kind
  have noc : ∀ y, (fdAt w 38).scope.names.lookup y ≠ some .cell := fun y e => hcell _ (mem_of_look e) rfl
  have nof : ∀ y, (fdAt w 38).scope.names.lookup y ≠ some .free := fun y e => (F_init w).nofree _ (mem_of_look e) rfl
  have nocl : ∀ y c, (callEnv (fdAt w 38) H.objs.size 38).cells.lookup y ≠ some c := fun y c => by
    show (fdAt w 38).closure.lookup y ≠ _
    rw [(F_init w).clo]; intro q; cases q
  have ownN : ∀ b, Own (fdAt w 38).scope (callEnv (fdAt w 38) H.objs.size 38) b → b = H.objs.size := fun b o => by
    rcases o with rfl | ⟨y, _, e⟩
    · rfl
    · exact absurd e (nocl y b)
  have g0 : ∀ b o, (only H (· ≠ dx)).get? b = some o → H.get? b = some o := fun b o e => by
    rw [get_only] at e; split at e
    · exact e
    · cases e
  have hds : HasL hb2 ([(("self" : Str), Value.ref (dx + 1)), (("ws" : Str), vl)].map (·.2)) [.adr (dx + 1), .str raw] := .cons (.adr _) (.cons hvl .nil)
  have f : St w (fdAt w 38).scope (callEnv (fdAt w 38) H.objs.size 38) (only H (· ≠ dx)) hb2 [(("self" : Str), D.adr (dx + 1)), (("ws" : Str), .str raw)] [(dx, .ns (dx + 1) [])] hb2 h1 := by
    refine ⟨⟨fun b o e => ext b o (g0 b o e), .refl _, fun b o e => ext b o (hx2 b o e), fun _ _ e => .inl e⟩, gd2, ⟨⟨(F_init w).kind, (F_init w).glob, (F_init w).blt, fun y e => e, fun y e => e, fun y e => e, fun y e => absurd e (nof y), fun y e => ?_, fun x y c e => absurd e (nocl x c), (F_init w).asked⟩, fun y d' e => ?_, fun y c e => absurd e (nocl y c)⟩, ⟨_, ns⟩, fun y c k e => absurd e (nocl y c), fun b o => ?_, fun b e m => ?_, List.pairwise_singleton _ _⟩
    · rcases e with e | e
      · exact absurd e (noc y)
      · exact absurd e (nof y)
    · obtain ⟨u, m, hu⟩ := zip_look ["self", "ws"] _ _ y d' hds e
      have m2 : (y, u) ∈ [(("self" : Str), Value.ref (dx + 1)), (("ws" : Str), vl)] := m
      exact ⟨u, .inl ⟨hloc' _ m2, _, ns, lookup_rev _ y u (show (["self", "ws"] : List Str).Nodup by decide +kernel) m2⟩, hu⟩
    · rw [ownN b o]
      refine ⟨?_, ?_⟩
      · rw [get_only]; split
        · exact size_none _
        · rfl
      · exact (new_out (Step.refl hx2) (Nat.le_refl _)).2
    · have e1 : b = dx := congrArg (·.1) (List.mem_singleton.mp m)
      have e2 : e = .ns (dx + 1) [] := congrArg (·.2) (List.mem_singleton.mp m)
      subst e1 e2
      refine ⟨fun o => ?_, by rw [get_only, if_neg (by simp)], pb, gx2, [], 0, ext _ _ gdx, .nil⟩
      have := ownN _ o
      rw [this, size_none] at gdx; cases gdx
  refine (init_run hraw (hAu.deeper _)).go _ _ _ _ _ f _ _ _ rfl (fun δ' μ' hb3 h3 tk e g f' => ?_) (fun _ _ _ _ _ e => e.elim) (fun _ _ _ _ _ e => e.elim)
  subst e
  obtain ⟨_, p0, pn', ix, en, nn, gd3, ents⟩ := f'.mu dx _ List.mem_cons_self
  obtain ⟨vr, vn, vt, vm, vs, hs, ts, rfl, a1, a2, a3, a4, a5⟩ := ents5 (dx := dx) ents
  have st3 := frzA_step (a := dx) f'.step p0
  have old := frzA_old (a := dx) f'.step.inn
  refine ⟨rfl, k (.ref (dx + 1)) (frzA hb3 h3 dx) h3 tk ⟨fun b o e => ?_, fz0.trans st3.fz, st3.inn, fun b o e => ?_⟩ (.ws (old _ _ ix) (frzA_at gd3) (a1.mono old) (a2.mono old) (a3.mono old) (a4.mono old) (a5.mono old))⟩
  · have n : b ≠ dx := fun z => by rw [z, dead1] at e; cases e
    exact f'.step.ext b o (by rw [get_only, if_pos n]; exact x1 b o e)
  · rcases st3.new b o e with q | q
    · exact new0 b o q
    · right
      by_cases z : b = dx
      · rw [z]; exact dead1
      · rw [get_only, if_pos z] at q
        cases z2 : hh.get? b with
        | none => rfl
        | some o' => rw [x1 b o' z2] at q; cases q
theorem Evs.mkWs {x : Str} {e : Expr} {raw : Str} (hraw : raw.length ≤ 500) (hA : OkA 2 A) (b : Glb w sc x (.ref 83)) (he : Evs w A sc δ e (.str raw)) (ns : notStar e = true) : Evs w A sc δ (.Call (.Name x p) [e] [] pos) (wsOf raw).d :=
  ⟨fun env hb h c s Q E es' q => Call_Name rfl (b.ok c s _ E es' fun r hb1 h1 tk st hr => by
    subst hr
    have xs : EvsL w A sc δ [e] [.str raw] := .cons ns he .nil
    refine callWith_of (P := fun h => (KF w.params).In h) (by rw [any_star xs.stars]; rfl) (keeps_K (ws_keep w.params)) (evalArgs_ok xs (c.step st) _ _ E rfl fun a hb2 h2 tk2 st2 ha => ?_)
    have c2 := (c.step st).step st2
    obtain ⟨v, hv, hv2⟩ := ha.2.one
    refine ⟨c2.gd.k.keeps c2.sub, ?_⟩
    rw [ha.1, hv]
    exact make_ws hraw hA c2.gd c2.sub hv2 _ _ E rfl fun v hb3 h3 tk3 st3 hv => q v hb3 h3 tk3 ((st.trans st2).trans st3) hv)⟩
end
end
-- part B24
section
open PySem PySem.W PyProof.Rows PySem.Calls


section
variable {w : World} {A : Around} {sc scope : Scope} {env : Env} {h0 hb0 hb h hb' h' : Heap} {δ δ' : Dm} {μ μ' : Mu} {pos p pn kp : Pos} {N B : Pm} {R : D → Prop}

/-! k in a list of ints -/
theorem ints_are {h : Heap} : ∀ {l : List Int} {vs : List Value}, HasL h vs (l.map .int) → IntsAre vs l
  | [], vs, x => by rw [x.none]; exact .nil
  | i :: l, vs, x => by
    obtain ⟨v, us, rfl, hv, hr⟩ := HasL.uncons x
    obtain ⟨t, rfl⟩ := hv.int_inv
    exact .cons _ _ (ints_are hr)
theorem Evs.inL {e f : Expr} {k : Int} {l : List Int} (he : Evs w A sc δ e (.int k)) (hf : Evs w A sc δ f (.list (l.map .int))) (hm : behindInMarks .In f = false) : Evs w A sc δ (.Compare e [.In] [f] p) (.bool (l.any (· == k))) :=
  ⟨fun env hb h c s Q E es q => wpAny_Compare1 (he.run env hb h c s _ E es fun a hb1 h1 tk st ha => hf.run env hb1 h1 (c.step st) _ _ E rfl fun b hb2 h2 tk2 st2 hb' => by
    obtain ⟨t, rfl⟩ := ha.int_inv
    obtain ⟨a, vs, n, rfl, e1, l1⟩ := hb'.list_inv
    exact in_list_ints ⟨_, st2.inn _ _ e1, rfl, _, rfl⟩ (ints_are l1) (q _ hb2 h2 _ (st.trans st2) (.bool _))) hm⟩

/-! data that equal themselves -/
theorem eqv_refl {n : Nat} {d : D} (p : Pl n d) : PyData.eqv (toP d) (toP d) = true := by
  induction p with
  | none => simp [toP, PyData.eqv]
  | bool => simp [toP, PyData.eqv]
  | int => simp [toP, PyData.eqv]
  | str _ => simp [toP, PyData.eqv]
  | list hl ih =>
    rename_i n l
    simp only [toP, PyData.eqv]
    have : ∀ l : List D, (∀ d ∈ l, PyData.eqv (toP d) (toP d) = true) → PyData.eqvAll (toPs l) (toPs l) = true := by
      intro l
      induction l with
      | nil => intro _; simp [toPs, PyData.eqvAll]
      | cons d r hr =>
        intro hd
        simp only [toPs, PyData.eqvAll, hd d List.mem_cons_self, hr fun d m => hd d (List.mem_cons_of_mem _ m), Bool.and_self]
    exact this l ih
theorem Tru.neSame {κ n : Nat} {l r : Expr} {x : D} (hA : OkA κ A) (hl : Evs w A sc δ l x) (hr : Evs w A sc δ r x) (px : Pl n x) (hn : n ≤ 64) (hb : behindInMarks .NotEq r = false) : Tru w A sc δ (.Compare l [.NotEq] [r] p) false :=
  Tru.neL hA hl hr px px hn hn hb (by rw [eqv_refl px]; rfl)
theorem Evs.eqSame {κ n : Nat} {l r : Expr} {x : D} (hA : OkA κ A) (hl : Evs w A sc δ l x) (hr : Evs w A sc δ r x) (px : Pl n x) (hn : n ≤ 64) (hb : behindInMarks .Eq r = false) : Evs w A sc δ (.Compare l [.Eq] [r] p) (.bool true) :=
  Evs.eqL hA hl hr px px hn hn hb (eqv_refl px)
theorem Pl.lst {α : Type} {n : Nat} {f : α → D} {l : List α} (h : ∀ a ∈ l, Pl n (f a)) : Pl (n + 1) (.list (l.map f)) := .list fun d m => by
  obtain ⟨a, ma, rfl⟩ := List.mem_map.mp m; exact h a ma
theorem Pl.two {n : Nat} {a b : D} (x : Pl n a) (y : Pl n b) : Pl (n + 1) (.list [a, b]) := .list fun d m => by
  rcases List.mem_cons.mp m with rfl | m
  · exact x
  · rw [List.mem_singleton.mp m]; exact y
theorem map_range_getD {α β : Type} (f : α → β) (d : α) : ∀ l : List α, (List.range l.length).map (fun k => f (l.getD k d)) = l.map f := by
  intro l
  refine List.ext_getElem? fun i => ?_
  rw [List.getElem?_map, List.getElem?_map]
  by_cases h : i < l.length
  · rw [List.getElem?_range h, List.getElem?_eq_getElem h, Option.map_some, Option.map_some, List.getD_eq_getElem?_getD, List.getElem?_eq_getElem h]; rfl
  · rw [List.getElem?_eq_none (by simpa using h), List.getElem?_eq_none (by simpa using h)]; rfl
theorem map_get {α : Type} (f : α → D) (d : α) {l : List α} {k : Nat} (h : k < l.length) : (l.map f)[k]? = some (f (l.getD k d)) := by
  rw [List.getElem?_map, List.getElem?_eq_getElem h, List.getD_eq_getElem?_getD, List.getElem?_eq_getElem h]; rfl

/-- x, y = f(..) where the call may fill the table -/
theorem Run1.tupP {κ k : Nat} {ts : List Expr} {xs : List Str} {fnm : Str} {a : Addr} {fd : FuncData} {es : List Expr} {ds vs : List D} {fp cp tp : Pos} (hA : OkA κ A) (ne : NamesE ts xs) (ho : ∀ x ∈ xs, own2 sc x) (b : Glb w sc fnm (.ref a)) (F : FnAt w a fd) (he : EvsL w A sc δ es ds) (mT : (PT, .tab) ∈ μ)
    (fn : FnP w κ a ds (.list vs)) (hl : xs.length = vs.length) (hw : ∀ env, EnvOk sc env → swappedStores [.Tuple ts k tp] (.Call (.Name fnm fp) es [] cp) env = pure none) (n : N (stD xs vs δ) μ) :
    Run1 w A sc δ μ (.Assign [.Tuple ts k tp] (.Call (.Name fnm fp) es [] cp) pos) N B R := ⟨fun env h0 hb0 hb h f s Q E es' kN kB kR => by
  refine PyProof.Rows.Assign_Tuple ?_ rfl (hw env f.rds.ok)
  refine Call_Name rfl (b.ok f.ctx s _ E es' fun r hb1 h1 tk st hr => ?_)
  subst hr
  have f1 := f.after st
  obtain ⟨o, ho1, ho2⟩ := F.fn
  refine Calls.callWith_function (o := o) (fd := fd) (evalArgs_ok he f1.ctx _ _ E rfl fun a hb2 h2 tk2 st2 ha => ?_)
  have f2 := f1.after st2
  refine ⟨⟨f2.step.inn _ _ (f2.gd.k _ _ ho1), ho2⟩, ?_⟩
  rw [ha.1]
  obtain ⟨_, _, pb, il⟩ := f2.mu PT .tab mT
  refine fn A hb2 _ hA f2.gd _ _ E f2.step.inn pb il ha.2 fun v hb3 h3 tk3 c il3 hv => ?_
  have f3 := f2.called (m' := .tab) mT c il3
  have g3 := Go.called (m' := .tab) f2 mT c il3
  rw [setMu_same mT f.mud] at f3 g3
  obtain ⟨a1, a2, tts, a3, a4⟩ := assignEach_names (env := env) ne
  rw [arm_assign_Tuple]
  refine wpAny_bind (wpAny_standAt ?_)
  unfold unpack
  rw [a1, a2, a4]
  refine wpAny_bind (wpAny_holding (unpack_ok hA c.inn (.inr hv) hl _ _ E rfl fun us hb4 h4 tk4 st4 hus => ?_))
  have f4 := f3.after st4
  refine St.stores (fun q => PySem.assign (.Name q.1 q.2) env) (fun x v s Q E q => wpAny_assign_Name q) tts us vs δ h4 _ _ E (fun x m => ho _ (by rw [← a3]; exact List.mem_map.mpr ⟨x, m, rfl⟩)) hus (by rw [← hl, ← a3]; simp) f4 rfl fun h5 tk5 f5 n5 => ?_
  rw [a3] at f5
  exact kN _ _ hb4 h5 tk5 n ((((Go.step (st.trans st2)).trans g3).trans (Go.step st4)).trans (Go.store f4 f5 n5)) f5⟩
end
end
-- part B25
section
open PySem PySem.W PyProof.Rows PySem.Calls

/-! the plain law: what the script builds -/
noncomputable def dig (z k m : Int) : Nat := ((z.fdiv k).fmod m).toNat
theorem dig_eq {z k m : Int} (h : 0 < m) : (z.fdiv k).fmod m = (dig z k m : Nat) ∧ dig z k m < m.toNat := by
  unfold dig
  have h1 := Int.fmod_nonneg_of_pos (z.fdiv k) h
  have h2 := Int.fmod_lt_of_pos (z.fdiv k) h
  omega
noncomputable def firstOf (xs : List Int) : Int := (xs ++ [138]).getD 0 0
noncomputable def drawnOf (xs : List Int) : List Int := if xs.length > 1 then (xs.take 8).drop 1 else [10611, 4214, 136087, 10303, 361829, 10777]
theorem drawn_len (xs : List Int) : (drawnOf xs).length ≤ 7 := by
  unfold drawnOf
  split
  · rw [List.length_drop, List.length_take]; omega
  · decide
noncomputable def nameOf (z : Int) : Str := wordsL.getD (dig z 81 3) ""
noncomputable def wordOf (z : Int) : Str := nameOf z ++ " \t"
noncomputable def blankL : List (List Nat) := [[], [32], [9]]
noncomputable def blank (z : Int) (k : Nat) : List Nat := blankL.getD (dig z (3 ^ k) 3) []
noncomputable def leadL (z : Int) : List Nat := ((List.range 4).map (blank z)).flatten
noncomputable def typedZ (z : Int) : List Nat := typedL (nameOf z) (dig (z.fdiv 243) 1 14) (dig (z.fdiv 243) 14 4) (dig (z.fdiv 243) 56 27)
noncomputable def pageL (z : Int) : List Nat := leadL z ++ typedZ z ++ [32, 9]
noncomputable def strOf (l : List Nat) : Str := ⟨l.toArray⟩
noncomputable def askS (first : Int) (t : Nat) : Str := wordsL.getD (dig first (3 ^ t) 3) "" ++ " \t"
noncomputable def toldZ (z : Int) : Ws := wsOf (strOf (pageL z))
noncomputable def colsZ (z : Int) : List Int := (List.range 5).map fun i : Nat => colF (1 + i) (leadL z)

theorem name_mem (z : Int) : nameOf z ∈ wordsL := by
  have h := (dig_eq (z := z) (k := 81) (m := 3) (by decide)).2
  unfold nameOf
  have : dig z 81 3 < wordsL.length := h
  rw [List.getD_eq_getElem?_getD, List.getElem?_eq_getElem this]
  exact List.getElem_mem this

/-! the leads: finitely many -/
noncomputable def leads31 : List (List Nat) := [[], [32], [9], [32,32], [32,9], [9,32], [9,9],
  [32,32,32], [32,32,9], [32,9,32], [32,9,9], [9,32,32], [9,32,9], [9,9,32], [9,9,9],
  [32,32,32,32], [32,32,32,9], [32,32,9,32], [32,32,9,9], [32,9,32,32], [32,9,32,9], [32,9,9,32], [32,9,9,9],
  [9,32,32,32], [9,32,32,9], [9,32,9,32], [9,32,9,9], [9,9,32,32], [9,9,32,9], [9,9,9,32], [9,9,9,9]]
theorem leads_all : ∀ a ∈ List.range 3, ∀ b ∈ List.range 3, ∀ c ∈ List.range 3, ∀ d ∈ List.range 3, (blankL.getD a [] ++ blankL.getD b [] ++ blankL.getD c [] ++ blankL.getD d []) ∈ leads31 := by decide +kernel
theorem lead_mem (z : Int) : leadL z ∈ leads31 := by
  have h := fun k : Int => (dig_eq (z := z) (k := k) (m := 3) (by decide)).2
  have := leads_all (dig z (3 ^ 0) 3) (List.mem_range.mpr (h _)) (dig z (3 ^ 1) 3) (List.mem_range.mpr (h _)) (dig z (3 ^ 2) 3) (List.mem_range.mpr (h _)) (dig z (3 ^ 3) 3) (List.mem_range.mpr (h _))
  have e : leadL z = blankL.getD (dig z (3 ^ 0) 3) [] ++ blankL.getD (dig z (3 ^ 1) 3) [] ++ blankL.getD (dig z (3 ^ 2) 3) [] ++ blankL.getD (dig z (3 ^ 3) 3) [] := by
    show ([blank z 0, blank z 1, blank z 2, blank z 3] : List (List Nat)).flatten = _
    simp [blank]
  rw [e]; exact this
theorem lead_blank : ∀ l ∈ leads31, l.length ≤ 4 ∧ ∀ c ∈ l, isB c = true := by decide +kernel

/-! the typed names -/
theorem typed0_ok : ∀ nm ∈ wordsL, ∀ f ∈ List.range 14, 1 ≤ (typed0 nm f).length ∧ (typed0 nm f).length ≤ 2 ∧ ∀ c ∈ typed0 nm f, isB c = false ∧ b1k.contains (c : Int) = false := by decide +kernel
theorem noise_ok : ∀ s ∈ List.range 27, isB (noiseOf s) = false ∧ b1k.contains (noiseOf s : Int) = true := by decide +kernel
theorem typedL_mem {nm : Str} {f p s c : Nat} (m : c ∈ typedL nm f p s) : c ∈ typed0 nm f ∨ c = noiseOf s := by
  unfold typedL at m
  split at m
  · exact .inl m
  · rcases List.mem_append.mp m with m | m
    · rcases List.mem_append.mp m with m | m
      · exact .inl (List.mem_of_mem_take m)
      · exact .inr (List.mem_singleton.mp m)
    · exact .inl (List.mem_of_mem_drop m)
theorem typedL_len (nm : Str) (f p s : Nat) : (typed0 nm f).length ≤ (typedL nm f p s).length ∧ (typedL nm f p s).length ≤ (typed0 nm f).length + 1 := by
  unfold typedL
  split
  · omega
  · rw [List.length_append, List.length_append, List.length_take, List.length_drop]
    simp only [List.length_singleton]; omega
structure TypedOk (z : Int) : Prop where
  len : 1 ≤ (typedZ z).length ∧ (typedZ z).length ≤ 3
  blank : ∀ c ∈ typedZ z, isB c = false
theorem typed_ok (z : Int) : TypedOk z := by
  have h1 := (dig_eq (z := z.fdiv 243) (k := 1) (m := 14) (by decide)).2
  have h3 := (dig_eq (z := z.fdiv 243) (k := 56) (m := 27) (by decide)).2
  obtain ⟨a, b, c⟩ := typed0_ok (nameOf z) (name_mem z) (dig (z.fdiv 243) 1 14) (List.mem_range.mpr h1)
  have hl := typedL_len (nameOf z) (dig (z.fdiv 243) 1 14) (dig (z.fdiv 243) 14 4) (dig (z.fdiv 243) 56 27)
  refine ⟨⟨Nat.le_trans a hl.1, Nat.le_trans hl.2 (by omega)⟩, fun x m => ?_⟩
  rcases typedL_mem m with m | rfl
  · exact (c x m).1
  · exact (noise_ok _ (List.mem_range.mpr h3)).1
theorem lead_of (z : Int) : leadOf (strOf (pageL z)) = leadL z := by
  obtain ⟨_, hb⟩ := lead_blank _ (lead_mem z)
  have T := typed_ok z
  have e : (strOf (pageL z)).cps.toList = leadL z ++ (typedZ z ++ [32, 9]) := by simp [strOf, pageL]
  unfold leadOf
  rw [e]
  cases ht : typedZ z with
  | nil => have := T.len.1; rw [ht] at this; simp at this
  | cons c r =>
    have hc := T.blank c (by rw [ht]; exact List.mem_cons_self)
    rw [List.takeWhile_append_of_pos hb, List.cons_append, List.takeWhile_cons_of_neg (by rw [hc]; decide), List.append_nil]
theorem page_len (z : Int) : (strOf (pageL z)).length ≤ 500 := by
  have h1 := (lead_blank _ (lead_mem z)).1
  have h2 := (typed_ok z).len.2
  show (pageL z).toArray.size ≤ 500
  simp only [pageL, List.size_toArray, List.length_append, List.length_cons, List.length_nil]
  omega
theorem told_n (z : Int) : (toldZ z).n = ((leadL z).length : Nat) := by
  have : ∀ (l : List Nat) (s : WsS), (l.foldl wsStep s).n = s.n + l.length := by
    intro l
    induction l with
    | nil => intro s; rfl
    | cons c l ih => intro s; rw [List.foldl_cons, ih, List.length_cons]; unfold wsStep; split <;> simp <;> omega
  show ((wsF (leadOf (strOf (pageL z)))).n : Int) = _
  rw [lead_of]
  have := this (leadL z) ⟨[], 0, 0, 0⟩
  unfold wsF
  rw [this]; simp

/-! prepared, the line is its name -/
noncomputable def en2 : DictEntry → Nat × Str
  | ⟨_, .int k _, .str x _⟩ => (k.toNat, x)
  | _ => (0, "")
noncomputable def nonneg : DictEntry → Bool
  | ⟨_, .int (.ofNat _) _, .str _ _⟩ => true
  | _ => false
theorem b3_nonneg (P : Params) : (b3es P).toList.all nonneg = true := by kernel_rfl
noncomputable def folds (t : List (Nat × Str)) (c : Nat) : Str := match t.find? fun e => Nat.beq e.1 c with
  | some e => e.2
  | none => Txt.lower ⟨#[c]⟩
theorem find_en2 (c : Nat) : ∀ l : List DictEntry, l.all nonneg = true → (match (l.find? fun e => e.key.isInt c).map (·.val) with | some (.str x _) => x | _ => Txt.lower ⟨#[c]⟩) = folds (l.map en2) c
  | [], _ => rfl
  | e :: l, h => by
    obtain ⟨h1, h2⟩ := Bool.and_eq_true_iff.mp (by simpa using h : (nonneg e && l.all nonneg) = true)
    obtain ⟨hh, k, v⟩ := e
    unfold nonneg at h1
    split at h1
    · rename_i hh' k' t x t' e
      cases e
      have ih := find_en2 c l h2
      unfold folds at ih ⊢
      have e1 : (Value.int (Int.ofNat k') t).isInt (c : Int) = Nat.beq k' c := by
        show (Int.ofNat k' == (c : Int)) = _
        by_cases q : k' = c
        · subst q; simp
        · have h3 : Nat.beq k' c = false := by
            cases z : Nat.beq k' c with
            | false => rfl
            | true => exact absurd (Nat.eq_of_beq_eq_true z) q
          rw [h3]
          exact beq_false_of_ne fun z => q (Int.ofNat.inj z)
      rw [List.map_cons, List.find?_cons, List.find?_cons]
      show (match (match (Value.int (Int.ofNat k') t).isInt (c : Int) with | true => _ | false => _ : Option DictEntry).map (·.val) with | some (.str x _) => x | _ => _) = (match (match Nat.beq (Int.ofNat k').toNat c with | true => _ | false => _ : Option (Nat × Str)) with | some e => e.2 | none => _)
      rw [e1, show (Int.ofNat k').toNat = k' from rfl]
      cases Nat.beq k' c with
      | true => rfl
      | false => exact ih
    · cases h1
theorem b3f_folds (P : Params) (c : Nat) : b3f P c = folds ((b3es P).toList.map en2) c := by
  rw [← find_en2 c _ (b3_nonneg P)]
  unfold b3f b3 findBy
  rw [← Array.find?_toList]
  all_goals (generalize Option.map (fun x => x.val) (List.find? (fun e => Value.isInt (c : Int) e.key) (b3es P).toList) = o; revert o; intro o; cases o <;> first | rfl | (rename_i v; cases v <;> rfl))
theorem prep_all (P : Params) : (wordsL.all fun nm => (List.range 14).all fun f => Txt.join "" ((typed0 nm f ++ [32, 9]).map (folds ((b3es P).toList.map en2))) == nm ++ " \t") = true := by kernel_rfl
theorem filter_typed {q : Nat → Bool} {nm : Str} {f p s : Nat} (h : q (noiseOf s) = false) : (typedL nm f p s).filter q = (typed0 nm f).filter q := by
  unfold typedL
  split
  · rfl
  · rw [List.filter_append, List.filter_append, show [noiseOf s].filter q = [] by simp [h], List.append_nil, ← List.filter_append, List.take_append_drop]
theorem prep_word (P : Params) (z : Int) : prepF P (typedZ z ++ [32, 9]) = wordOf z := by
  have h1 := (dig_eq (z := z.fdiv 243) (k := 1) (m := 14) (by decide)).2
  have h3 := (dig_eq (z := z.fdiv 243) (k := 56) (m := 27) (by decide)).2
  obtain ⟨_, _, c⟩ := typed0_ok (nameOf z) (name_mem z) (dig (z.fdiv 243) 1 14) (List.mem_range.mpr h1)
  have e : (typedZ z ++ [32, 9]).filter (fun c : Nat => !b1k.contains (c : Int)) = typed0 (nameOf z) (dig (z.fdiv 243) 1 14) ++ [32, 9] := by
    rw [List.filter_append]
    congr 1
    unfold typedZ
    rw [filter_typed (by simp only [(noise_ok _ (List.mem_range.mpr h3)).2]; rfl), List.filter_eq_self]
    intro x m
    rw [(c x m).2]; rfl
  unfold prepF
  rw [e, show b3f P = folds ((b3es P).toList.map en2) from funext (b3f_folds P)]
  have := List.all_eq_true.mp (prep_all P) (nameOf z) (name_mem z)
  have := List.all_eq_true.mp this (dig (z.fdiv 243) 1 14) (List.mem_range.mpr h1)
  exact beq_iff_eq.mp this

/-! columns -/
noncomputable def wsO (l : List Nat) : Ws := ⟨"", (wsF l).n, (wsF l).nt, (wsF l).c, (wsF l).b, decide ((wsF l).c.length ≤ 1)⟩
theorem told_o (z : Int) : toldZ z = { wsO (leadL z) with raw := strOf (pageL z) } := by
  unfold toldZ wsOf wsO
  rw [lead_of]
theorem ind_all : ∀ l ∈ leads31, ∀ i ∈ List.range 5, (wsO l).ind (1 + i) = colF (1 + (i : Nat)) l := by decide +kernel
theorem told_ind (z : Int) (i : Nat) (h : i < 5) : (toldZ z).ind (1 + i) = colF (1 + (i : Nat)) (leadL z) := by
  rw [told_o]
  exact ind_all _ (lead_mem z) i (List.mem_range.mpr h)
theorem simple_all : ∀ l ∈ leads31, (wsO l).b = !Txt.contains (strOf l) " \t" := by decide +kernel
theorem told_simple (z : Int) : (toldZ z).b = !Txt.contains (strOf (leadL z)) " \t" := by
  rw [told_o]
  exact simple_all _ (lead_mem z)
noncomputable def colsL (l : List Nat) : List Int := (List.range 5).map fun i : Nat => colF (1 + i) l
theorem less_all : ∀ a ∈ leads31, ∀ b ∈ leads31, (wsO a).less (wsO b) = below (colsL a) (colsL b) := by decide +kernel
theorem told_less (z z' : Int) : (toldZ z).less (toldZ z') = below (colsZ z) (colsZ z') := by
  rw [told_o, told_o]
  exact less_all _ (lead_mem z) _ (lead_mem z')

theorem below_iff (a b : List Int) : below a b = true ↔ ∀ (i : Nat) (x y : Int), a[i]? = some x → b[i]? = some y → x < y := by
  unfold below
  rw [decide_eq_true_eq, List.filter_eq_nil_iff]
  constructor
  · intro h i x y h1 h2
    have : (x, y) ∈ a.zip b := List.mem_of_getElem? (i := i) (List.getElem?_zip_eq_some.mpr ⟨h1, h2⟩)
    have := h _ this
    simp only [ge_iff_le, decide_eq_true_eq] at this
    omega
  · rintro h ⟨x, y⟩ m
    obtain ⟨i, hi⟩ := List.mem_iff_getElem?.mp m
    obtain ⟨h1, h2⟩ := List.getElem?_zip_eq_some.mp hi
    have := h i x y h1 h2
    simp only [ge_iff_le, decide_eq_true_eq]
    omega
theorem below_trans {a b c : List Int} (hl : a.length = b.length) (h1 : below a b = true) (h2 : below b c = true) : below a c = true := by
  rw [below_iff] at *
  intro i x z hx hz
  have hi : i < b.length := by rw [← hl]; exact (List.getElem?_eq_some_iff.mp hx).1
  have e := List.getElem?_eq_getElem hi
  have := h1 i x _ hx e
  have := h2 i _ z e hz
  omega

/-! the piles: given off from the top, or picked one by one -/
theorem popP_filter {lt : Nat → Bool} {l : List Nat} (h : l.Pairwise fun i j => lt j = true → lt i = true) : popP lt l = l.filter lt := by
  suffices H : ∀ m, ∀ l : List Nat, l.length = m → (l.Pairwise fun i j => lt j = true → lt i = true) → popP lt l = l.filter lt from H _ l rfl h
  intro m
  induction m with
  | zero => intro l hl _; rw [List.eq_nil_of_length_eq_zero hl]; rfl
  | succ m ih =>
    intro l hl h
    obtain ⟨r, j, rfl⟩ := snoc_of (l := l) (fun e => by rw [e] at hl; cases hl)
    rw [List.pairwise_append] at h
    rw [popP_snoc, List.filter_append]
    by_cases q : lt j = true
    · rw [if_pos q, List.filter_eq_self.mpr fun i mi => h.2.2 i mi j List.mem_cons_self q]
      simp [q]
    · rw [if_neg q, ih r (by simpa using hl) h.1]
      simp [q]
theorem abv_chain (L : List (List Int)) : ∀ k, (abv L k).Pairwise fun i j => below (L.getD i []) (L.getD j []) = true
  | 0 => .nil
  | k + 1 => by
    unfold abv
    refine List.pairwise_append.mpr ⟨(abv_chain L k).filter _, List.pairwise_singleton _ _, fun i mi j mj => ?_⟩
    rw [List.mem_singleton.mp mj]
    exact (List.mem_filter.mp mi).2
structure SameLess (X : List Ws) (L : List (List Int)) (n : Nat) : Prop where
  x : X.length = n
  l : L.length = n
  len : ∀ j, j < n → (L.getD j []).length = 5
  lt : ∀ j k, j < n → k < n → ltW X k j = below (L.getD j []) (L.getD k [])
theorem pls_abv {X : List Ws} {L : List (List Int)} {n : Nat} (S : SameLess X L n) : ∀ k, k ≤ n → pls X k = abv L k
  | 0, _ => rfl
  | k + 1, h => by
    unfold pls abv
    rw [pls_abv S k (by omega), popP_filter]
    · congr 1
      refine List.filter_congr fun j mj => ?_
      have := abv_lt L k j mj
      exact S.lt j k (by omega) (by omega)
    · refine (abv_chain L k).imp_of_mem fun {i j} mi mj hij hj => ?_
      have hi := abv_lt L k i mi
      have hj' := abv_lt L k j mj
      rw [S.lt j k (by omega) (by omega)] at hj
      rw [S.lt i k (by omega) (by omega)]
      exact below_trans ((S.len i (by omega)).trans (S.len j (by omega)).symm) hij hj
noncomputable def anc (L : List (List Int)) (n : Nat) (j k : Nat) : Bool := if k < n then (List.range (k + 1)).all fun m => decide (m ≤ j) || below (L.getD j []) (L.getD m []) else j == k
theorem anc_iff {L : List (List Int)} {n j k : Nat} (h : k < n) : anc L n j k = true ↔ ∀ m, j < m → m ≤ k → below (L.getD j []) (L.getD m []) = true := by
  unfold anc
  rw [if_pos h, List.all_eq_true]
  constructor
  · intro q m h1 h2
    have := q m (List.mem_range.mpr (by omega))
    rcases Bool.or_eq_true_iff.mp this with r | r
    · have := of_decide_eq_true r; omega
    · exact r
  · intro q m hm
    have hm := List.mem_range.mp hm
    by_cases r : m ≤ j
    · rw [decide_eq_true r]; rfl
    · rw [q m (by omega) (by omega), Bool.or_true]
theorem anc_forest {L : List (List Int)} {n : Nat} (len : ∀ j, j < n → (L.getD j []).length = 5) : Forest (anc L n) := by
  refine ⟨fun k => ?_, fun {j p k} h1 h2 h3 => ?_, fun {i j q} h1 h2 h3 h4 => ?_⟩
  · by_cases h : k < n
    · exact (anc_iff h).mpr fun m a b => by omega
    · unfold anc; rw [if_neg h]; simp
  · by_cases h : k < n
    · exact (anc_iff (by omega)).mpr fun m a b => (anc_iff h).mp h1 m a (by omega)
    · unfold anc at h1; rw [if_neg h] at h1
      have e := beq_iff_eq.mp h1
      have : p = k := by omega
      rw [this]; unfold anc; rw [if_neg h]; exact h1
  · by_cases h : q < n
    · refine (anc_iff h).mpr fun m a b => ?_
      by_cases r : m ≤ j
      · exact (anc_iff (by omega)).mp h1 m a r
      · have h5 := (anc_iff h).mp h2 m (by omega) b
        by_cases s : i = j
        · subst s; exact h5
        · have h6 := (anc_iff (L := L) (n := n) (j := i) (k := j) (by omega)).mp h1 j (by omega) (Nat.le_refl _)
          exact below_trans ((len i (by omega)).trans (len j (by omega)).symm) h6 h5
    · unfold anc at h2; rw [if_neg h] at h2
      have e := beq_iff_eq.mp h2
      rw [← e]; exact h1
theorem abv_pile {L : List (List Int)} {n : Nat} : ∀ k, k < n → abv L (k + 1) = pileF (anc L n) k := by
  -- told with an open upper bound
  have H : ∀ k, k ≤ n → abv L k = (List.range k).filter fun j => (List.range k).all fun m => decide (m ≤ j) || below (L.getD j []) (L.getD m []) := by
    intro k
    induction k with
    | zero => intro _; rfl
    | succ k ih =>
      intro h
      show (abv L k).filter _ ++ [k] = _
      rw [ih (by omega), List.filter_filter, List.range_succ, List.filter_append]
      congr 1
      · refine List.filter_congr fun j mj => ?_
        have := List.mem_range.mp mj
        rw [List.all_append]
        have e : decide (k ≤ j) = false := decide_eq_false (by omega)
        simp only [List.all_cons, List.all_nil, e, Bool.false_or, Bool.and_true]
        rw [Bool.and_comm]
      · have : ((List.range k ++ [k]).all fun m => decide (m ≤ k) || below (L.getD k []) (L.getD m [])) = true := by
          rw [List.all_eq_true]
          intro m mm
          have : m ≤ k := by
            rcases List.mem_append.mp mm with q | q
            · have := List.mem_range.mp q; omega
            · rw [List.mem_singleton.mp q]; exact Nat.le_refl _
          rw [decide_eq_true this]; rfl
        simp only [List.filter_cons, List.filter_nil]
        rw [if_pos this]
  intro k hk
  rw [H (k + 1) (by omega)]
  unfold pileF
  refine List.filter_congr fun j _ => ?_
  unfold anc
  rw [if_pos hk]
end
-- part B26
section
open PySem PySem.W PyProof.Rows PySem.Calls


theorem F_law (w : World) : FnAt w 224 (fdAt w 224) := .mk' (s := topS 20) (by decide +kernel) rfl ⟨_, rfl, rfl⟩ ⟨_, _, _, _, rfl, rfl, rfl, rfl⟩ rfl rfl rfl rfl rfl rfl

section
variable {w : World} {A : Around} {sc scope : Scope} {env : Env} {h0 hb0 hb h hb' h' : Heap} {δ δ' : Dm} {μ μ' : Mu} {pos p pn kp : Pos} {N B : Pm} {R : D → Prop}

theorem app_str (a b : List Nat) : strOf a ++ strOf b = strOf (a ++ b) := by
  show (⟨a.toArray ++ b.toArray⟩ : Str) = ⟨(a ++ b).toArray⟩
  rw [List.append_toArray]
theorem bt_str : (" \t" : Str) = strOf [32, 9] := by decide +kernel
theorem strOf_len (l : List Nat) : (strOf l).length = l.length := by show l.toArray.size = _; simp
theorem join_strs {α : Type} (g : α → List Nat) : ∀ l : List α, Txt.join "" (l.map fun a => strOf (g a)) = strOf (l.map g).flatten := by
  intro l
  have e : ∀ xs, Txt.join "" xs = Str.join "" xs := fun xs => StrLaws.glued_eq_join _ _
  have inj : ∀ a b : Str, a.cps.toList = b.cps.toList → a = b := fun a b h => by
    cases a; cases b
    rw [Array.toList_inj] at h
    simp only at h
    rw [h]
  refine inj _ _ ?_
  rw [e]
  have h0 : ("" : Str).cps = #[] := by decide +kernel
  induction l with
  | nil => rfl
  | cons c r ih =>
    cases r with
    | nil => simp [Str.join, strOf]
    | cons d r =>
      show (strOf (g c) ++ "" ++ Str.join "" ((d :: r).map fun a => strOf (g a))).cps.toList = _
      have h : ∀ a b : Str, (a ++ b).cps = a.cps ++ b.cps := fun _ _ => rfl
      rw [h, h, Array.toList_append, Array.toList_append, ih, h0]
      simp [strOf]
theorem word_len : ∀ nm ∈ wordsL, nm.length = 2 ∧ Txt.slice (nm ++ " \t") none (some 2) = nm ∧ (nm ++ " \t").length = 4 := by decide +kernel
theorem words_get {k : Nat} (h : k < 3) : (wordsL.map D.str)[k]? = some (.str (wordsL.getD k "")) := by
  have : k < wordsL.length := h
  rw [List.getElem?_map, List.getElem?_eq_getElem this, List.getD_eq_getElem?_getD, List.getElem?_eq_getElem this]; rfl
theorem words_at {k : Nat} (h : k < 3) : wordsL.getD k "" ∈ wordsL := by
  have : k < wordsL.length := h
  rw [List.getD_eq_getElem?_getD, List.getElem?_eq_getElem this]
  exact List.getElem_mem this
noncomputable def blankS : List Str := ["", " ", "\t"]
theorem blankS_eq : ∀ k ∈ List.range 3, blankS.getD k "" = strOf (blankL.getD k []) := by decide +kernel
theorem blankS_get {k : Nat} (h : k < 3) : (blankS.map D.str)[k]? = some (.str (strOf (blankL.getD k []))) := by
  have : k < blankS.length := h
  rw [← blankS_eq k (List.mem_range.mpr h), List.getElem?_map, List.getElem?_eq_getElem this, List.getD_eq_getElem?_getD, List.getElem?_eq_getElem this]; rfl
theorem pow3 : ∀ k ∈ List.range 4, 1 ≤ (3 : Int) ^ k ∧ (3 : Int) ^ k ≤ 27 := by decide +kernel
theorem rangeD0 (n : Nat) : rangeD 0 n = (List.range n).map fun i : Nat => .int i := by
  unfold rangeD
  rw [show ((n : Int) - 0).toNat = n by omega]
  refine List.map_congr_left fun k _ => ?_
  rw [Int.zero_add]

/-- z // k % m -/
theorem Evs.dig {e f g : Expr} {z k m : Int} {p2 : Pos} (he : Evs w A sc δ e (.int z)) (hf : Evs w A sc δ f (.int k)) (hg : Evs w A sc δ g (.int m)) (hk : 1 ≤ k ∧ k ≤ 1000) (hm : 0 < m) : Evs w A sc δ (.BinOp (.BinOp e .FloorDiv f p2) .Mod g p) (.int (dig z k m)) := by
  refine Evs.cast (congrArg D.int (dig_eq hm).1) (Evs.bin (x := .int (z.fdiv k)) (y := .int m) (Evs.bin (x := .int z) (y := .int k) he hf (binD_div ⟨by omega, by omega, by omega⟩)) hg (binD_mod (by omega)))
theorem Evi.rng {κ : Nat} (hA : OkA κ A) {x : Str} {px cp fp : Pos} {e : Expr} {n : Nat} (he : Evs w A sc δ e (.int n)) (ns : notStar e = true) (hn : n ≤ 1000) (b : Blt w sc "range" (.type "range")) : Evi w A sc δ (.Call (.Name "range" fp) [e] [] cp) (.Name x px) ((List.range n).map fun i : Nat => .int i) :=
  Evi.cast (rangeD0 n) (Evi.range hA (a := 0) (b := n) (Evs.range1 b he ns) ⟨by omega, by omega⟩ ⟨by omega, by omega⟩)

noncomputable abbrev Z1 (xs : List Int) : Dm := [(("drawn" : Str), D.list ((drawnOf xs).map .int)), (("names" : Str), .list (wordsL.map .str)), (("first" : Str), .int (firstOf xs))]
/-- all statements but the last -/
noncomputable abbrev lawB : List Stmt := (fnBody (topS 20)).take 17
/-- the first statements: up to the page -/
theorem law_a {xs : List Int} (hxs : xs.length ≤ 63) (hA : OkA 5 A) {rest : List Stmt} (hr : rest = lawB.drop 6)
    (k : Run w A (fnSc (topS 20)) ((("page" : Str), D.list ((drawnOf xs).map fun z => .str (strOf (pageL z)))) :: (("leads" : Str), .list ((drawnOf xs).map fun z => .str (strOf (leadL z)))) :: (("plain" : Str), .list ((drawnOf xs).map fun z => .str (wordOf z))) :: Z1 xs) μ rest N B R) :
    Run w A (fnSc (topS 20)) [(("script" : Str), D.list (xs.map .int))] μ lawB N B R := by
  subst hr
  have hb : bigL = 100000 := rfl
  have hn := drawn_len xs
  -- first
  refine Run.cons (Run1.assign (x := .int (firstOf xs)) (Evs.item (x := .list (xs.map .int ++ [.int 138])) (y := .int 0) (Evs.bin (x := .list (xs.map .int)) (y := .list [.int 138]) (by repeat' trivial) (Evs.list (by repeat' trivial) (by show 1 ≤ 100000; decide)) (binD_list (by simp; omega))) Evs.int (by decide +kernel) (itemD_list ⟨by omega, by omega⟩ ?_)) (.inr (by decide +kernel)) (fun _ _ => rfl) ?_)
  · cases xs <;> rfl
  -- drawn
  refine Run.cons (Run1.assign (x := .list ((drawnOf xs).map .int)) (Evs.ifexp (b := decide (xs.length > 1)) (Tru.cast ?_ (Tru.cmp (x := .int xs.length) (y := .int 1) (Evs.cast ?_ (Evs.callB hA (blt_len w (by decide +kernel)) (ds := [.list (xs.map .int)]) (by repeat' trivial) (callB_len (by simp; omega)))) Evs.int rfl (by decide +kernel))) (fun q => ?_) (fun q => ?_)) (.inr (by decide +kernel)) (fun _ _ => rfl) ?_)
  · simp only [decide_eq_decide]; omega
  · simp
  · have q : xs.length > 1 := of_decide_eq_true q
    refine Evs.slice (x := .list (xs.map .int)) (by repeat' trivial) (.some Evs.int) (.some Evs.int) .none ?_
    show (if _ then _ else _) = _
    rw [if_pos ⟨by simp; omega, by simp⟩, sliceL_mid _ (by decide) (by decide)]
    unfold drawnOf
    rw [if_pos q, List.map_drop, List.map_take]; rfl
  · have q : ¬ xs.length > 1 := of_decide_eq_false q
    refine Evs.cast ?_ (Evs.list (by repeat' trivial) (by show 6 ≤ 100000; decide))
    unfold drawnOf
    rw [if_neg q]; rfl
  -- names
  refine Run.cons (Run1.assign (x := .list (wordsL.map .str)) (Evs.cast rfl (Evs.list (ds := [.str "st", .str "pa", .str "mw"]) (by repeat' trivial) (by show 3 ≤ 100000; decide))) (.inr (by decide +kernel)) (fun _ _ => rfl) ?_)
  refine RunOn.weak (δ' := Z1 xs) ?_ (by show Sub _ _; repeat' trivial)
  -- plain
  refine Run.cons (Run1.assign (x := .list ((drawnOf xs).map fun z => .str (wordOf z))) (Evs.compAll (l := drawnOf xs) (inj := .int) (fun z => .str (wordOf z)) hA (In.of (by decide +kernel)) (fun _ _ => rfl) (Evi.list hA (by repeat' trivial)) (.inl (by decide +kernel)) (fun z _ => ?_) (by omega)) (.inr (by decide +kernel)) (fun env ok => swaps_cell (by decide +kernel) env ok) ?_)
  · refine Evs.bin (x := .str (nameOf z)) (y := .str " \t") (Evs.item (x := .list (wordsL.map .str)) (y := .int (dig z 81 3)) (by repeat' trivial) (Evs.dig (by repeat' trivial) Evs.int Evs.int (by decide) (by decide)) (by decide +kernel) (itemD_list ⟨by omega, ?_⟩ ?_)) (by repeat' trivial) (binD_str ?_)
    · have := (dig_eq (z := z) (k := 81) (m := 3) (by decide)).2; omega
    · rw [Int.toNat_natCast]; exact words_get (dig_eq (z := z) (k := 81) (m := 3) (by decide)).2
    · have := (word_len _ (name_mem z)).1
      have h2 : (" \t" : Str).length = 2 := by decide +kernel
      omega
  -- leads
  refine Run.cons (Run1.assign (x := .list ((drawnOf xs).map fun z => .str (strOf (leadL z)))) (Evs.compAll (l := drawnOf xs) (inj := .int) (fun z => .str (strOf (leadL z))) hA (In.of (by decide +kernel)) (fun _ _ => rfl) (Evi.list hA (by repeat' trivial)) (.inr (by decide +kernel)) (fun z _ => ?_) (by omega)) (.inr (by decide +kernel)) (fun env ok => swaps_cell (by decide +kernel) env ok) ?_)
  · refine Evs.cast (a := .str (Txt.join "" ((List.range 4).map fun k => strOf (blank z k)))) (by rw [join_strs]; rfl) (Evs.methB (m := "join") (x := .str "") Evs.str (by decide +kernel) (.cons (by decide +kernel) (Evs.compAll (l := List.range 4) (inj := fun k : Nat => .int k) (fun k => .str (strOf (blank z k))) hA (In.of (by decide +kernel)) (fun _ _ => rfl)
      (Evi.rng hA (n := 4) Evs.int (by decide +kernel) (by decide) (blt_range w (by decide +kernel))) (.inl (by decide +kernel)) (fun k hk => ?_) (by decide)) .nil) (methB_join (fun k => strOf (blank z k)) (List.range 4) (join_ok _ 0 (fun x m => ?_) (by simp))) (by decide +kernel) (by decide +kernel))
    · obtain ⟨p1, p2⟩ := pow3 k hk
      have hk := List.mem_range.mp hk
      have hd := (dig_eq (z := z) (k := 3 ^ k) (m := 3) (by decide)).2
      refine Evs.item (x := .list (blankS.map .str)) (y := .int (dig z (3 ^ k) 3)) (Evs.cast rfl (Evs.list (ds := [.str "", .str " ", .str "\t"]) (by repeat' trivial) (by show 3 ≤ 100000; decide))) (Evs.dig (by repeat' trivial) (Evs.cast ?_ (Evs.bin (x := .int 3) (y := .int k) Evs.int (by repeat' trivial) (binD_pow ⟨by omega, by omega, by omega, by omega⟩))) Evs.int ⟨p1, by omega⟩ (by decide)) (by decide +kernel) (itemD_list ⟨by omega, by omega⟩ ?_)
      · rw [Int.toNat_natCast]
      · rw [Int.toNat_natCast]; exact blankS_get hd
    · obtain ⟨k, _, rfl⟩ := List.mem_map.mp m
      rw [strOf_len]
      have hd := (dig_eq (z := z) (k := 3 ^ k) (m := 3) (by decide)).2
      unfold blank
      have : ∀ j ∈ List.range 3, (blankL.getD j []).length ≤ 5 := by decide
      exact this _ (List.mem_range.mpr hd)
  -- page
  refine Run.cons (Run1.assign (x := .list ((drawnOf xs).map fun z => .str (strOf (pageL z)))) (Evs.cast (congrArg D.list (map_range_getD (fun z => D.str (strOf (pageL z))) 0 (drawnOf xs))) (Evs.compAll (l := List.range (drawnOf xs).length) (inj := fun k : Nat => .int k) (fun k => .str (strOf (pageL ((drawnOf xs).getD k 0)))) hA (In.of (by decide +kernel)) (fun _ _ => rfl)
    (Evi.rng hA (n := (drawnOf xs).length) (Evs.cast ?_ (Evs.callB hA (blt_len w (by decide +kernel)) (ds := [.list ((drawnOf xs).map .int)]) (by repeat' trivial) (callB_len (by simp; omega)))) (by decide +kernel) (by omega) (blt_range w (by decide +kernel))) (.inl (by decide +kernel)) (fun k hk => ?_) (by simp; omega))) (.inr (by decide +kernel)) (fun env ok => swaps_cell (by decide +kernel) env ok) ?_)
  · simp
  · have hk := List.mem_range.mp hk
    generalize hz : (drawnOf xs).getD k 0 = z
    obtain ⟨w1, w2, w3⟩ := word_len _ (name_mem z)
    have T := (typed_ok z).len.2
    have l1 := (lead_blank _ (lead_mem z)).1
    have d1 := dig_eq (z := z.fdiv 243) (k := 1) (m := 14) (by decide)
    have d2 := dig_eq (z := z.fdiv 243) (k := 14) (m := 4) (by decide)
    have d3 := dig_eq (z := z.fdiv 243) (k := 56) (m := 27) (by decide)
    have h2 : (" \t" : Str).length = 2 := by decide +kernel
    refine Evs.cast (a := .str (strOf (leadL z) ++ strOf (typedZ z) ++ " \t")) (by rw [bt_str, app_str, app_str]; rfl) (Evs.bin (x := .str (strOf (leadL z) ++ strOf (typedZ z))) (y := .str " \t") (Evs.bin (x := .str (strOf (leadL z))) (y := .str (strOf (typedZ z))) (Evs.item (x := .list ((drawnOf xs).map fun z => .str (strOf (leadL z)))) (y := .int k) (by repeat' trivial) (by repeat' trivial) (by decide +kernel) (itemD_list ⟨by omega, by omega⟩ ?_))
      (Evs.callFn (hA.le (by omega)) (glb_of w (by decide +kernel) (by decide +kernel) (by kernel_rfl)) (F_typed w) (fn_typed w (nameOf z) (name_mem z) (z.fdiv 243) _ _ _ ?_ d2.1 d3.1 d1.2 d2.2 d3.2)
        (.cons (by decide +kernel) (Evs.slice (x := .str (wordOf z)) (Evs.item (x := .list ((drawnOf xs).map fun z => .str (wordOf z))) (y := .int k) (by repeat' trivial) (by repeat' trivial) (by decide +kernel) (itemD_list ⟨by omega, by omega⟩ ?_)) .none (.some Evs.int) .none ?_)
          (.cons (by decide +kernel) (Evs.bin (x := .int z) (y := .int 243) (Evs.item (x := .list ((drawnOf xs).map .int)) (y := .int k) (by repeat' trivial) (by repeat' trivial) (by decide +kernel) (itemD_list ⟨by omega, by omega⟩ ?_)) Evs.int (binD_div (by omega))) .nil))) (binD_str ?_)) Evs.str (binD_str ?_))
    · rw [Int.toNat_natCast, map_get (fun z => D.str (strOf (leadL z))) 0 hk, hz]
    · rw [← d1.1]
      have : (z.fdiv 243).fdiv 1 = z.fdiv 243 := Int.fdiv_one _
      rw [this]
    · rw [Int.toNat_natCast, map_get (fun z => D.str (wordOf z)) 0 hk, hz]
    · show (if _ then _ else _) = _
      unfold wordOf
      rw [if_pos ⟨by omega, rfl⟩, w2]
    · rw [Int.toNat_natCast, map_get D.int 0 hk, hz]
    · rw [strOf_len, strOf_len]; omega
    · have : (strOf (leadL z) ++ strOf (typedZ z)).length = (leadL z).length + (typedZ z).length := by rw [app_str, strOf_len, List.length_append]
      omega
  exact k
end
end
-- part B27
section
open PySem PySem.W PyProof.Rows PySem.Calls


/-! what the second half computes -/
noncomputable def colsOf (xs : List Int) : List (List Int) := (drawnOf xs).map colsZ
noncomputable def wsX (xs : List Int) : List Ws := (drawnOf xs).map toldZ
theorem wsX_get {xs : List Int} {k : Nat} (h : k < (drawnOf xs).length) : (wsX xs).getD k nilW = toldZ ((drawnOf xs).getD k 0) := by
  unfold wsX
  rw [List.getD_eq_getElem?_getD, List.getElem?_map, List.getElem?_eq_getElem h, List.getD_eq_getElem?_getD, List.getElem?_eq_getElem h]; rfl
theorem colsOf_get {xs : List Int} {k : Nat} (h : k < (drawnOf xs).length) : (colsOf xs).getD k [] = colsZ ((drawnOf xs).getD k 0) := by
  unfold colsOf
  rw [List.getD_eq_getElem?_getD, List.getElem?_map, List.getElem?_eq_getElem h, List.getD_eq_getElem?_getD, List.getElem?_eq_getElem h]; rfl
theorem colsZ_len (z : Int) : (colsZ z).length = 5 := by unfold colsZ; simp
theorem same_less (xs : List Int) : SameLess (wsX xs) (colsOf xs) (drawnOf xs).length := by
  refine ⟨by unfold wsX; simp, by unfold colsOf; simp, fun j hj => ?_, fun j k hj hk => ?_⟩
  · rw [colsOf_get hj]; exact colsZ_len _
  · unfold ltW
    rw [wsX_get hj, wsX_get hk, colsOf_get hj, colsOf_get hk]
    exact told_less _ _
noncomputable abbrev aX (xs : List Int) : Nat → Nat → Bool := anc (colsOf xs) (drawnOf xs).length
theorem forest_x (xs : List Int) : Forest (aX xs) := anc_forest fun j hj => by rw [colsOf_get hj]; exact colsZ_len _
theorem pls_pile {xs : List Int} {k : Nat} (h : k < (drawnOf xs).length) : pls (wsX xs) (k + 1) = pileF (aX xs) k := by
  rw [pls_abv (same_less xs) (k + 1) h, abv_pile k h]
theorem abv_pile' {xs : List Int} {k : Nat} (h : k < (drawnOf xs).length) : abv (colsOf xs) (k + 1) = pileF (aX xs) k := abv_pile k h
noncomputable abbrev pilesX (xs : List Int) : D := .list ((List.range (drawnOf xs).length).map fun k => pileD (pileF (aX xs) k))
theorem pls_piles (xs : List Int) : (List.range (wsX xs).length).map (fun k => pileD (pls (wsX xs) (k + 1))) = (List.range (drawnOf xs).length).map fun k => pileD (pileF (aX xs) k) := by
  have : (wsX xs).length = (drawnOf xs).length := by unfold wsX; simp
  rw [this]
  refine List.map_congr_left fun k mk => ?_
  rw [pls_pile (List.mem_range.mp mk)]
theorem abv_piles (xs : List Int) : (List.range (colsOf xs).length).map (fun k => pileD (abv (colsOf xs) (k + 1))) = (List.range (drawnOf xs).length).map fun k => pileD (pileF (aX xs) k) := by
  have : (colsOf xs).length = (drawnOf xs).length := by unfold colsOf; simp
  rw [this]
  refine List.map_congr_left fun k mk => ?_
  rw [abv_pile' (List.mem_range.mp mk)]

section
variable {w : World} {A : Around} {sc scope : Scope} {env : Env} {h0 hb0 hb h hb' h' : Heap} {δ δ' : Dm} {μ μ' : Mu} {pos p pn kp : Pos} {N B : Pm} {R : D → Prop}

theorem told_d (z : Int) : (toldZ z).d = .ws (strOf (pageL z)) (toldZ z).n (toldZ z).nt (toldZ z).c (toldZ z).t (toldZ z).b := rfl
theorem pl_piles {α : Type} (f : α → List Nat) (l : List α) : Pl 2 (.list (l.map fun a => pileD (f a))) := Pl.lst fun a _ => Pl.ints _ _
theorem word_okS : ∀ nm ∈ wordsL, PyData.strOk (nm ++ " \t") = true := by decide +kernel

noncomputable abbrev dmP (xs : List Int) : Dm := (("page" : Str), D.list ((drawnOf xs).map fun z => .str (strOf (pageL z)))) :: (("leads" : Str), .list ((drawnOf xs).map fun z => .str (strOf (leadL z)))) :: (("plain" : Str), .list ((drawnOf xs).map fun z => .str (wordOf z))) :: Z1 xs
noncomputable abbrev dmQ (xs : List Int) : Dm := [(("piles" : Str), pilesX xs), (("plain" : Str), .list ((drawnOf xs).map fun z => .str (wordOf z))), (("names" : Str), .list (wordsL.map .str)), (("first" : Str), .int (firstOf xs))]
/-- the statements that ask of the page: none returns -/
theorem law_b {xs : List Int} (hA : OkA 5 A) {rest : List Stmt} (hr : rest = lawB.drop 13) (k : Run w A (fnSc (topS 20)) (dmQ xs) μ rest N B R) :
    Run w A (fnSc (topS 20)) (dmP xs) μ (lawB.drop 6) N B R := by
  subst hr
  have hb : bigL = 100000 := rfl
  have hn := drawn_len xs
  -- told
  refine Run.cons (Run1.assign (x := .list ((drawnOf xs).map fun z => (toldZ z).d)) (Evs.compAll (l := drawnOf xs) (inj := fun z => .str (strOf (pageL z))) (fun z => (toldZ z).d) hA (In.of (by decide +kernel)) (fun _ _ => rfl) (Evi.list hA (by repeat' trivial)) (.inl (by decide +kernel)) (fun z _ =>
    Evs.mkWs (page_len z) (hA.le (by omega)) (glb_of w (by decide +kernel) (by decide +kernel) (by kernel_rfl)) (by repeat' trivial) (by decide +kernel)) (by omega)) (.inr (by decide +kernel)) (fun env ok => swaps_cell (by decide +kernel) env ok) ?_)
  -- prepared
  refine Run.cons (Run1.if_ (b := false) (Tru.neSame (n := 3) (x := .list ((drawnOf xs).map fun z => .list [.str (wordOf z), .list []])) hA (Evs.cast (congrArg D.list (map_range_getD (fun z => D.list [.str (wordOf z), .list []]) 0 (drawnOf xs))) (Evs.compAll (l := List.range (drawnOf xs).length) (inj := fun k : Nat => .int k) (fun k => .list [.str (wordOf ((drawnOf xs).getD k 0)), .list []]) hA (In.of (by decide +kernel)) (fun _ _ => rfl)
    (Evi.rng hA (n := (drawnOf xs).length) (Evs.cast ?_ (Evs.callB hA (blt_len w (by decide +kernel)) (ds := [.list ((drawnOf xs).map fun z => .str (strOf (pageL z)))]) (by repeat' trivial) (callB_len (by simp; omega)))) (by decide +kernel) (by omega) (blt_range w (by decide +kernel))) (.inl (by decide +kernel)) (fun k hk => ?_) (by simp; omega)))
    (Evs.compAll (l := drawnOf xs) (inj := fun z => .str (wordOf z)) (fun z => .list [.str (wordOf z), .list []]) hA (In.of (by decide +kernel)) (fun _ _ => rfl) (Evi.list hA (by repeat' trivial)) (.inl (by decide +kernel)) (fun z _ => Evs.list (.cons (by decide +kernel) (by repeat' trivial) (.cons (by decide +kernel) (Evs.list .nil (by show 0 ≤ 100000; decide)) .nil)) (by show 2 ≤ 100000; decide)) (by omega))
    (Pl.lst fun z _ => Pl.two (.str (word_okS _ (name_mem z))) Pl.nil) (by decide) (by decide +kernel)) (fun q => by cases q) fun _ => Run.nil ?_)
  · simp
  · have hk := List.mem_range.mp hk
    generalize hz : (drawnOf xs).getD k 0 = z
    have T := (typed_ok z).len.2
    have l1 := (lead_blank _ (lead_mem z)).1
    have hpl : (pageL z).length ≤ 9 := by
      simp only [pageL, List.length_append, List.length_cons, List.length_nil]; omega
    have e0 : (strOf (typedZ z ++ [32, 9])).cps.toList = typedZ z ++ [32, 9] := rfl
    have fp := fn_prep w (strOf (typedZ z ++ [32, 9])) (by rw [strOf_len]; simp; omega)
    rw [e0, prep_word] at fp
    refine Evs.callFn (hA.le (by omega)) (glb_of w (by decide +kernel) (by decide +kernel) (by kernel_rfl)) (F_prep w) fp (.cons (by decide +kernel) (Evs.slice (x := .str (strOf (pageL z))) (Evs.item (x := .list ((drawnOf xs).map fun z => .str (strOf (pageL z)))) (y := .int k) (by repeat' trivial) (by repeat' trivial) (by decide +kernel) (itemD_list ⟨by omega, by omega⟩ ?_))
      (.some (i := ((leadL z).length : Nat)) (Evs.cast (congrArg D.int (told_n z)) (Evs.wsN (raw := (toldZ z).raw) (n := (toldZ z).n) (nt := (toldZ z).nt) (t := (toldZ z).t) (c := (toldZ z).c) (b := (toldZ z).b) (Evs.item (x := .list ((drawnOf xs).map fun z => (toldZ z).d)) (y := .int k) (by repeat' trivial) (by repeat' trivial) (by decide +kernel) (itemD_list ⟨by omega, by omega⟩ ?_)) (by decide +kernel)))) .none .none ?_) .nil)
    · rw [Int.toNat_natCast, map_get (fun z => D.str (strOf (pageL z))) 0 hk, hz]
    · rw [Int.toNat_natCast, map_get (fun z => (toldZ z).d) 0 hk, hz]
    · show (if _ then _ else _) = _
      rw [if_pos ⟨by rw [strOf_len]; omega, rfl⟩, slice_eq, sliceL_drop _ (by omega), Int.toNat_natCast]
      refine congrArg (fun l : List Nat => some (D.str (strOf l))) ?_
      show (pageL z).drop (leadL z).length = _
      unfold pageL
      rw [List.append_assoc, List.drop_left]
  -- columns
  refine Run.cons (Run1.acompAll (l := drawnOf xs) (inj := fun z => .str (strOf (leadL z))) (fun z => .list ((colsZ z).map .int)) hA (In.of (by decide +kernel)) (fun _ _ => rfl) (Evi.list hA (by repeat' trivial)) (.inr (by decide +kernel)) (fun z _ => ?_) (by omega) (by decide +kernel) (by decide +kernel) (by decide +kernel) ?_)
  · refine Evs.cast (a := .list ((List.range 5).map fun i : Nat => .int (colF (1 + i) (leadL z)))) (by unfold colsZ; rw [List.map_map]; rfl) (Evs.compAll (l := List.range 5) (inj := fun i : Nat => .int (1 + i)) (fun i : Nat => .int (colF (1 + i) (leadL z))) hA (In.of (by decide +kernel)) (fun _ _ => rfl)
      (Evi.cast (ds := rangeD 1 6) rfl (Evi.range hA (Evs.range2 (blt_range w (by decide +kernel)) Evs.int (by decide +kernel) Evs.int (by decide +kernel)) (by decide) (by decide))) (.inl (by decide +kernel)) (fun i hi => ?_) (by decide))
    have hi := List.mem_range.mp hi
    exact Evs.callFn (hA.le (by omega)) (glb_of w (by decide +kernel) (by decide +kernel) (by kernel_rfl)) (F_col w) (fn_col w (strOf (leadL z)) (1 + i) (by omega) (by omega)) (by repeat' trivial)
  -- indent levels
  refine Run.cons (Run1.if_ (b := false) (Tru.neSame (n := 2) (x := .list ((drawnOf xs).map fun z => .list ((colsZ z).map .int))) hA (Evs.compAll (l := drawnOf xs) (inj := fun z => (toldZ z).d) (fun z => .list ((colsZ z).map .int)) hA (In.of (by decide +kernel)) (fun _ _ => rfl) (Evi.list hA (by repeat' trivial)) (.inr (by decide +kernel)) (fun z _ => ?_) (by omega)) (by repeat' trivial)
    (Pl.lst fun z _ => Pl.ints (fun i : Int => i) _) (by decide) (by decide +kernel)) (fun q => by cases q) fun _ => Run.nil ?_)
  · refine Evs.cast (a := .list ((List.range 5).map fun i : Nat => .int (colF (1 + i) (leadL z)))) (by unfold colsZ; rw [List.map_map]; rfl) (Evs.compAll (l := List.range 5) (inj := fun i : Nat => .int (1 + i)) (fun i : Nat => .int (colF (1 + i) (leadL z))) hA (In.of (by decide +kernel)) (fun _ _ => rfl)
      (Evi.cast (ds := rangeD 1 6) rfl (Evi.range hA (Evs.range2 (blt_range w (by decide +kernel)) Evs.int (by decide +kernel) Evs.int (by decide +kernel)) (by decide) (by decide))) (.inl (by decide +kernel)) (fun i hi => ?_) (by decide))
    have hi := List.mem_range.mp hi
    have ok := wsOf_ok _ (page_len z)
    have okc : (toldZ z).c.length ≤ 500 := ok.c
    have e : indF (1 + i) (toldZ z).c (toldZ z).t (toldZ z).nt = colF (1 + i) (leadL z) := told_ind z i hi
    refine Evs.cast (congrArg D.int e) (Evs.methWs (κ := 1) (raw := (toldZ z).raw) (n := (toldZ z).n) (nt := (toldZ z).nt) (t := (toldZ z).t) (c := (toldZ z).c) (b := (toldZ z).b) (hA.le (by omega)) (by repeat' trivial) (by decide +kernel) (M_ind w) (F_ind w) (fn_ind w _ _ _ _ _ _ (1 + i) (by omega) (by omega) (by omega)) (.cons (by decide +kernel) (Evs.cast ?_ (by repeat' trivial)) .nil) (by decide +kernel) (by decide +kernel))
    exact congrArg D.int (by omega)
  -- is_simple
  refine Run.cons (Run1.if_ (b := false) (Tru.neSame (n := 1) (x := .list ((drawnOf xs).map fun z => .bool (!Txt.contains (strOf (leadL z)) " \t"))) hA (Evs.compAll (l := drawnOf xs) (inj := fun z => (toldZ z).d) (fun z => .bool (!Txt.contains (strOf (leadL z)) " \t")) hA (In.of (by decide +kernel)) (fun _ _ => rfl) (Evi.list hA (by repeat' trivial)) (.inl (by decide +kernel)) (fun z _ => ?_) (by omega))
    (Evs.compAll (l := drawnOf xs) (inj := fun z => .str (strOf (leadL z))) (fun z => .bool (!Txt.contains (strOf (leadL z)) " \t")) hA (In.of (by decide +kernel)) (fun _ _ => rfl) (Evi.list hA (by repeat' trivial)) (.inl (by decide +kernel)) (fun z _ => Evs.notInStr Evs.str (by repeat' trivial) (by decide +kernel)) (by omega))
    (Pl.lst fun z _ => .bool) (by decide) (by decide +kernel)) (fun q => by cases q) fun _ => Run.nil ?_)
  · exact Evs.cast (congrArg D.bool (told_simple z)) (Evs.wsSimple (raw := (toldZ z).raw) (n := (toldZ z).n) (nt := (toldZ z).nt) (t := (toldZ z).t) (c := (toldZ z).c) (b := (toldZ z).b) (by repeat' trivial) (by decide +kernel))
  -- piles
  have hX : (wsX xs).length = (drawnOf xs).length := by unfold wsX; simp
  have fpi := fn_piles w (wsX xs) (by omega) (fun x m => by
    obtain ⟨z, _, rfl⟩ := List.mem_map.mp m
    exact wsOf_ok _ (page_len z))
  rw [pls_piles] at fpi
  refine Run.cons (Run1.tup (xs := ["piles", "strange"]) (ds := [pilesX xs, .list []]) hA (.cons (.cons .nil)) (own2_of (sc := fnSc (topS 20)) (by decide +kernel)) (.inr (Evs.callFn (hA.le (by omega)) (glb_of w (by decide +kernel) (by decide +kernel) (by kernel_rfl)) (F_piles w) fpi (.cons (by decide +kernel) (Evs.cast ?_ (a := .list ((drawnOf xs).map fun z => (toldZ z).d)) (by repeat' trivial)) .nil))) rfl (fun _ => rfl) (fun _ _ => rfl) ?_)
  · unfold wsX; rw [List.map_map]; rfl
  have fab := fn_above w (colsOf xs) (by unfold colsOf; simp; omega) (fun c m => by
    obtain ⟨z, _, rfl⟩ := List.mem_map.mp m
    rw [colsZ_len]; decide)
  rw [abv_piles] at fab
  refine Run.cons (Run1.if_ (b := false || false) (Tru.or (Tru.neSame (n := 1) (x := .list []) hA (by repeat' trivial) (Evs.list .nil (by show 0 ≤ 100000; decide)) Pl.nil (by decide) (by decide +kernel)) (fun _ => Tru.neSame (n := 2) (x := pilesX xs) hA (by repeat' trivial)
    (Evs.callFn (hA.le (by omega)) (glb_of w (by decide +kernel) (by decide +kernel) (by kernel_rfl)) (F_above w) fab (.cons (by decide +kernel) (Evs.cast ?_ (a := .list ((drawnOf xs).map fun z => .list ((colsZ z).map .int))) (by repeat' trivial)) .nil)) (pl_piles _ _) (by decide) (by decide +kernel))) (fun q => by cases q) fun _ => Run.nil ?_)
  · unfold colsOf colsD; rw [List.map_map]; rfl
  exact RunOn.weak k (by show Sub _ _; repeat' trivial)
end
end
-- part B28
section
open PySem PySem.W PyProof.Rows PySem.Calls


section
variable {w : World} {A : Around} {sc scope : Scope} {env : Env} {h0 hb0 hb h hb' h' : Heap} {δ δ' : Dm} {μ μ' : Mu} {pos p pn kp : Pos} {N B : Pm} {R : D → Prop}

theorem Tru.inL {e f : Expr} {k : Int} {l : List Int} (he : Evs w A sc δ e (.int k)) (hf : Evs w A sc δ f (.list (l.map .int))) (hm : behindInMarks .In f = false) : Tru w A sc δ (.Compare e [.In] [f] p) (l.any (· == k)) :=
  ⟨fun env hb h c s Q E es q => wpAny_isTrue_Compare1 (he.run env hb h c s _ E es fun a hb1 h1 tk st ha => hf.run env hb1 h1 (c.step st) _ _ E rfl fun b hb2 h2 tk2 st2 hb' => by
    obtain ⟨t, rfl⟩ := ha.int_inv
    obtain ⟨a, vs, n, rfl, e1, l1⟩ := hb'.list_inv
    exact in_list_ints ⟨_, st2.inn _ _ e1, rfl, _, rfl⟩ (ints_are l1) (truthy_ok st2.inn _ _ E rfl fun r hb4 h4 tk4 st4 hr => q r hb4 h4 tk4 ((st.trans st2).trans st4) hr)) hm⟩

theorem sliceD_list {l : List D} {lo hi st : Option Int} (h : l.length ≤ bigL ∧ st ≠ some 0) : sliceD (.list l) lo hi st = some (.list (sliceL l lo hi st)) := if_pos h
noncomputable abbrev askL (xs : List Int) : List Str := (List.range 4).map (askS (firstOf xs))
noncomputable abbrev wordL (xs : List Int) : List Str := (drawnOf xs).map wordOf
noncomputable abbrev cX (xs : List Int) (t : Nat) : Nat → Bool := cT (wordL xs) (askL xs) t
noncomputable abbrev uX (xs : List Int) (t : Nat) : Nat := U (aX xs) (drawnOf xs).length (cX xs t)
theorem plain_eq (xs : List Int) : D.list ((drawnOf xs).map fun z => .str (wordOf z)) = .list ((wordL xs).map .str) := by rw [List.map_map]; rfl
noncomputable abbrev dmQ' (xs : List Int) : Dm := [(("piles" : Str), pilesX xs), (("plain" : Str), .list ((wordL xs).map .str)), (("names" : Str), .list (wordsL.map .str)), (("first" : Str), .int (firstOf xs))]
theorem dmQ_eq (xs : List Int) : dmQ xs = dmQ' xs := by
  unfold dmQ dmQ'
  rw [plain_eq]
noncomputable abbrev dmZ (xs : List Int) : Dm := [(("totals" : Str), D.list ((List.range 4).map fun t => .int (uX xs (t + 1)))), (("due" : Str), D.list ((List.range 4).map fun t => .int (uX xs (t + 1)))), (("shown" : Str), .list ((chos (drawnOf xs).length (cX xs 4)).map fun m => pileD (pileF (aX xs) m))),
  (("chosen" : Str), .list ((List.range 5).map fun t => .list ((chos (drawnOf xs).length (cX xs t)).map fun k : Nat => .int k))), (("piles" : Str), pilesX xs)]
theorem asked_eq (xs : List Int) : D.list ((List.range 4).map fun t => .str (askS (firstOf xs) t)) = .list ((askL xs).map .str) := by rw [List.map_map]; rfl
theorem chos_mem {n : Nat} {c : Nat → Bool} {k : Nat} : k ∈ chos n c ↔ k < n ∧ c k = true := by unfold chos; rw [List.mem_filter, List.mem_range]
theorem pileF_mem {Ap : Nat → Nat → Bool} {j k : Nat} : j ∈ pileF Ap k ↔ j ≤ k ∧ Ap j k = true := by unfold pileF; rw [List.mem_filter, List.mem_range]; exact ⟨fun ⟨a, b⟩ => ⟨by omega, b⟩, fun ⟨a, b⟩ => ⟨by omega, b⟩⟩
theorem cov_eq {Ap : Nat → Nat → Bool} {n : Nat} {c : Nat → Bool} (j : Nat) : (!decide ((chos n c).filter (fun k => (intsOf (pileF Ap k)).any (· == (j : Int))) = [])) = cov Ap n c j := by
  have h : ∀ k, ((intsOf (pileF Ap k)).any (· == (j : Int))) = true ↔ j ≤ k ∧ Ap j k = true := fun k => by
    rw [List.any_eq_true, ← pileF_mem]
    constructor
    · rintro ⟨x, m, e⟩
      unfold intsOf at m
      obtain ⟨i, mi, rfl⟩ := List.mem_map.mp m
      have : i = j := by
        have := beq_iff_eq.mp e
        exact Int.ofNat.inj this
      rw [← this]; exact mi
    · intro m
      exact ⟨j, List.mem_map.mpr ⟨j, m, rfl⟩, by simp⟩
  cases hc : cov Ap n c j with
  | true =>
    obtain ⟨m, h1, h2, h3, h4⟩ := cov_iff.mp hc
    rw [Bool.not_eq_true', decide_eq_false_iff_not]
    intro q
    have : m ∈ (chos n c).filter (fun k => (intsOf (pileF Ap k)).any (· == (j : Int))) := List.mem_filter.mpr ⟨chos_mem.mpr ⟨h1, h2⟩, (h m).mpr ⟨h3, h4⟩⟩
    rw [q] at this; cases this
  | false =>
    rw [Bool.not_eq_false', decide_eq_true_eq, List.filter_eq_nil_iff]
    intro m hm q
    obtain ⟨h1, h2⟩ := chos_mem.mp hm
    obtain ⟨h3, h4⟩ := (h m).mp q
    have := cov_iff.mpr ⟨m, h1, h2, h3, h4⟩
    rw [hc] at this; cases this

theorem law_c {xs : List Int} (hA : OkA 5 A) (mT : (PT, .tab) ∈ μ) : Run w A (fnSc (topS 20)) (dmQ xs) μ (lawB.drop 13) (fun δ' μ' => μ' = μ ∧ Sub (dmZ xs) δ') B R := by
  have hb : bigL = 100000 := rfl
  have hn := drawn_len xs
  -- asked
  refine Run.cons (Run1.assign (x := .list ((List.range 4).map fun t => .str (askS (firstOf xs) t))) (Evs.compAll (l := List.range 4) (inj := fun k : Nat => .int k) (fun t => .str (askS (firstOf xs) t)) hA (In.of (by decide +kernel)) (fun _ _ => rfl) (Evi.rng hA (n := 4) Evs.int (by decide +kernel) (by decide) (blt_range w (by decide +kernel))) (.inl (by decide +kernel)) (fun t ht => ?_) (by decide)) (.inr (by decide +kernel)) (fun env ok => swaps_cell (by decide +kernel) env ok) ?_)
  · obtain ⟨p1, p2⟩ := pow3 t ht
    have ht := List.mem_range.mp ht
    have hd := (dig_eq (z := firstOf xs) (k := 3 ^ t) (m := 3) (by decide)).2
    refine Evs.bin (x := .str (wordsL.getD (dig (firstOf xs) (3 ^ t) 3) "")) (y := .str " \t") (Evs.item (x := .list (wordsL.map .str)) (y := .int (dig (firstOf xs) (3 ^ t) 3)) (by repeat' trivial) (Evs.dig (by repeat' trivial) (Evs.cast ?_ (Evs.bin (x := .int 3) (y := .int t) Evs.int (by repeat' trivial) (binD_pow ⟨by omega, by omega, by omega, by omega⟩))) Evs.int ⟨p1, by omega⟩ (by decide)) (by decide +kernel) (itemD_list ⟨by omega, by omega⟩ ?_)) Evs.str (binD_str ?_)
    · rw [Int.toNat_natCast]
    · rw [Int.toNat_natCast]; exact words_get hd
    · have := (word_len _ (words_at hd)).1
      have h2 : (" \t" : Str).length = 2 := by decide +kernel
      omega
  rw [asked_eq, dmQ_eq]
  -- totals, shown
  have back := dig_eq (z := firstOf xs) (k := 81) (m := 2) (by decide)
  refine Run.cons (Run1.tupP (κ := 4) (xs := ["totals", "shown"]) (hA.le (by omega)) (.cons (.cons .nil)) (own2_of (sc := fnSc (topS 20)) (by decide +kernel)) (glb_of w (by decide +kernel) (by decide +kernel) (by kernel_rfl)) (F_asked w)
    (.cons (by decide +kernel) (by repeat' trivial) (.cons (by decide +kernel) (by repeat' trivial) (.cons (by decide +kernel) (by repeat' trivial) (.cons (by decide +kernel) (Evs.cmp (x := .int (dig (firstOf xs) 81 2)) (y := .int 1) (Evs.dig (by repeat' trivial) Evs.int Evs.int (by decide) (by decide)) Evs.int rfl (by decide +kernel)) .nil)))) mT
    (fn_asked (forest_x xs) (n := (drawnOf xs).length) (ws := wordL xs) (as := askL xs) (by simp) (by omega) (by simp)) rfl (fun _ _ => rfl) ?_)
  -- chosen
  have hal : (askL xs).length = 4 := by simp
  have hwl : (wordL xs).length = (drawnOf xs).length := by simp
  rw [hal]
  refine Run.cons (Run1.acompAll (l := List.range 5) (inj := fun k : Nat => .int k) (fun t => .list ((chos (drawnOf xs).length (cX xs t)).map fun k : Nat => .int k)) hA (In.of (by decide +kernel)) (fun _ _ => rfl) (Evi.rng hA (n := 5) Evs.int (by decide +kernel) (by decide) (blt_range w (by decide +kernel))) (.inr (by decide +kernel)) (fun t ht => ?_) (by decide) (by decide +kernel) (by decide +kernel) (by decide +kernel) ?_)
  · have ht := List.mem_range.mp ht
    refine Evs.compIf (l := List.range (drawnOf xs).length) (inj := fun k : Nat => .int k) (cX xs t) (fun k : Nat => .int k) hA (In.of (by decide +kernel)) (fun _ _ => rfl) (Evi.rng hA (n := (drawnOf xs).length) (Evs.cast ?_ (Evs.callB hA (blt_len w (by decide +kernel)) (ds := [.list ((wordL xs).map .str)]) (by repeat' trivial) (callB_len (by simp; omega)))) (by decide +kernel) (by omega) (blt_range w (by decide +kernel))) (.inl (by decide +kernel)) (fun k hk => ?_) (fun k _ _ => by repeat' trivial) (by simp; omega)
    · simp
    · have hk := List.mem_range.mp hk
      refine Tru.cast ?_ (Tru.cmp (x := .int (((((askL xs).take t).countP (· == (wordL xs).getD k "") : Nat) : Int).fmod 2)) (y := .int 1) (Evs.bin (x := .int (((askL xs).take t).countP (· == (wordL xs).getD k "") : Nat)) (y := .int 2)
        (Evs.methB (m := "count") (x := .list (((askL xs).take t).map .str)) (ds := [.str ((wordL xs).getD k "")]) (Evs.slice (x := .list ((askL xs).map .str)) (by repeat' trivial) .none (.some (by repeat' trivial)) .none ?_) (by decide +kernel)
          (.cons (by decide +kernel) (Evs.item (x := .list ((wordL xs).map .str)) (y := .int k) (by repeat' trivial) (by repeat' trivial) (by decide +kernel) (itemD_list ⟨by omega, by omega⟩ ?_)) .nil) ?_ (by decide +kernel) (by decide +kernel)) Evs.int (binD_mod (by omega))) Evs.int rfl (by decide +kernel))
      · unfold cX cT
        rw [show ((askL xs).take t).count ((wordL xs).getD k "") = ((askL xs).take t).countP (· == (wordL xs).getD k "") from rfl]
        generalize ((askL xs).take t).countP (· == (wordL xs).getD k "") = m
        rw [Int.fmod_eq_emod_of_nonneg _ (by omega)]
        by_cases q : m % 2 = 1
        · rw [q]
          have : (m : Int) % 2 = 1 := by omega
          rw [this]; rfl
        · have q : m % 2 = 0 := by omega
          rw [q]
          have : (m : Int) % 2 = 0 := by omega
          rw [this]; rfl
      · rw [sliceD_list ⟨by simp [bigL], by simp⟩, sliceL_take _ (by omega), Int.toNat_natCast, List.map_take]
      · rw [Int.toNat_natCast, map_get D.str "" (by omega)]
      · show ((strsOf (((askL xs).take t).map D.str)).bind fun xs' => some (D.int (xs'.countP (· == (wordL xs).getD k "") : Nat))) = _
        have := strsOf_map (fun x : Str => x) ((askL xs).take t)
        rw [show ((askL xs).take t).map D.str = ((askL xs).take t).map fun a => D.str a from rfl, this, Option.bind_some, List.map_id'' (fun _ => rfl)]
  -- due
  refine Run.cons (Run1.acompAll (l := List.range 4) (inj := fun t : Nat => .list ((chos (drawnOf xs).length (cX xs (t + 1))).map fun k : Nat => .int k)) (fun t => .int (uX xs (t + 1))) hA (In.of (by decide +kernel)) (fun _ _ => rfl) (Evi.list hA (Evs.slice (x := .list ((List.range 5).map fun t => .list ((chos (drawnOf xs).length (cX xs t)).map fun k : Nat => .int k))) (by repeat' trivial) (.some Evs.int) .none .none ?_)) (.inr (by decide +kernel)) (fun t ht => ?_) (by decide) (by decide +kernel) (by decide +kernel) (by decide +kernel) ?_)
  · rw [sliceD_list ⟨by simp [bigL], by simp⟩, sliceL_drop _ (by decide)]
    rfl
  · have hcl := chos_len (drawnOf xs).length (cX xs (t + 1))
    refine Evs.cast ?_ (Evs.callB hA (blt_len w (by decide +kernel)) (.cons (by decide +kernel) (Evs.compIf (l := List.range (drawnOf xs).length) (inj := fun k : Nat => .int k) (cov (aX xs) (drawnOf xs).length (cX xs (t + 1))) (fun k : Nat => .int k) hA (In.of (by decide +kernel)) (fun _ _ => rfl)
      (Evi.rng hA (n := (drawnOf xs).length) (Evs.cast ?_ (Evs.callB hA (blt_len w (by decide +kernel)) (ds := [.list ((wordL xs).map .str)]) (by repeat' trivial) (callB_len (by simp; omega)))) (by decide +kernel) (by omega) (blt_range w (by decide +kernel))) (.inr (by decide +kernel)) (fun j hj => ?_) (fun k _ _ => by repeat' trivial) (by simp; omega)) .nil) (callB_len ?_))
    · rw [List.length_map]
      refine congrArg D.int ?_
      unfold uX U
      rw [List.countP_eq_length_filter]
    · simp
    · have hj := List.mem_range.mp hj
      refine Tru.neL hA (m := 1) (n := 1) (x := .list (((chos (drawnOf xs).length (cX xs (t + 1))).filter (fun k => (intsOf (pileF (aX xs) k)).any (· == (j : Int)))).map fun k : Nat => .int k)) (y := .list []) (Evs.compIf (l := chos (drawnOf xs).length (cX xs (t + 1))) (inj := fun k : Nat => .int k) (fun k => (intsOf (pileF (aX xs) k)).any (· == (j : Int))) (fun k : Nat => .int k) hA (In.of (by decide +kernel)) (fun _ _ => rfl)
        (Evi.list hA (by repeat' trivial)) (.inl (by decide +kernel)) (fun k hk => ?_) (fun k _ _ => by repeat' trivial) (by omega)) (Evs.list .nil (by show 0 ≤ 100000; decide)) (Pl.ints _ _) Pl.nil (by decide) (by decide) (by decide +kernel) (by rw [eqv_nil, cov_eq])
      have hk := (chos_mem.mp hk).1
      exact Tru.inL (by repeat' trivial) (Evs.cast (pile_intsOf _) (Evs.item (x := pilesX xs) (y := .int k) (by repeat' trivial) (by repeat' trivial) (by decide +kernel) (itemD_list ⟨by omega, by omega⟩ (by rw [Int.toNat_natCast]; exact pilesR_get hk)))) (by decide +kernel)
    · have := List.length_filter_le (cov (aX xs) (drawnOf xs).length (cX xs (t + 1))) (List.range (drawnOf xs).length)
      rw [List.length_map]; simp at this; omega
  refine Run.nil ⟨rfl, ?_⟩
  repeat' trivial
/-- the answer -/
theorem law_ret {xs : List Int} (hA : OkA 5 A) : ∃ e p, (fnBody (topS 20)).drop 17 = [.Return (some e) p] ∧ Evs w A (fnSc (topS 20)) (dmZ xs) e (.bool (true && true)) := by
  have hb : bigL = 100000 := rfl
  have hn := drawn_len xs
  have hcl := chos_len (drawnOf xs).length (cX xs 4)
  refine ⟨_, _, rfl, Evs.and (Evs.eqSame (n := 1) (x := .list ((List.range 4).map fun t => .int (uX xs (t + 1)))) hA (by repeat' trivial) (by repeat' trivial) (Pl.ints _ _) (by decide) (by decide +kernel)) (fun _ =>
    Evs.eqSame (n := 2) (x := .list ((chos (drawnOf xs).length (cX xs 4)).map fun m => pileD (pileF (aX xs) m))) hA (by repeat' trivial) (Evs.compAll (l := chos (drawnOf xs).length (cX xs 4)) (inj := fun k : Nat => .int k) (fun m => pileD (pileF (aX xs) m)) hA (In.of (by decide +kernel)) (fun _ _ => rfl)
      (Evi.list hA (Evs.item (x := .list ((List.range 5).map fun t => .list ((chos (drawnOf xs).length (cX xs t)).map fun k : Nat => .int k))) (y := .int 4) (by repeat' trivial) Evs.int (by decide +kernel) (itemD_list ⟨by omega, by omega⟩ rfl))) (.inl (by decide +kernel)) (fun k hk => ?_) (by omega)) (pl_piles _ _) (by decide) (by decide +kernel))⟩
  have hk := (chos_mem.mp hk).1
  exact Evs.item (x := pilesX xs) (y := .int k) (by repeat' trivial) (by repeat' trivial) (by decide +kernel) (itemD_list ⟨by omega, by omega⟩ (by rw [Int.toNat_natCast]; exact pilesR_get hk))

theorem law_run {xs : List Int} (hxs : xs.length ≤ 63) (hA : OkA 5 A) : Run w A (fnSc (topS 20)) [(("script" : Str), D.list (xs.map .int))] [(PT, .tab)] lawB (fun δ' μ' => μ' = [(PT, .tab)] ∧ Sub (dmZ xs) δ') (fun _ _ => False) (fun _ => False) :=
  law_a hxs hA rfl (law_b hA rfl (law_c hA List.mem_cons_self))
end
end
-- part B29
section
open PySem PySem.W PyProof.Rows PySem.Calls

theorem execs_app_wp {w : World} {env : Env} {Q : Flow → Shared → Prop} {E : Value → Shared → Prop} (Γ : PySem.Ctx) (b : List Stmt) : ∀ (a : List Stmt) (p : Pos) (s : Shared),
    Sem.wp (model PW w) Γ (execs a env) (fun f p' s' => match f with | .next => Sem.wp (model PW w) Γ (execs b env) (fun f _ s => Q f s) (fun e _ s => E e s) p' s' | f => Q f s') (fun e _ s => E e s) p s →
    Sem.wp (model PW w) Γ (execs (a ++ b) env) (fun f _ s => Q f s) (fun e _ s => E e s) p s
  | [], p, s, h => by
    rw [show execs ([] : List Stmt) env = pure .next from rfl, Sem.wp_pure'] at h
    exact h
  | st :: rest, p, s, h => by
    rw [execs_cons, Sem.wp_bind'] at h
    rw [List.cons_append, execs_cons, Sem.wp_bind']
    refine Sem.wp_mono (model PW w) Γ _ (fun f p' s' h' => ?_) (fun _ _ _ h' => h') _ _ h
    cases f with
    | next => exact execs_app_wp Γ b rest p' s' h'
    | _ => rw [Sem.wp_pure'] at h' ⊢; exact h'
theorem exec_app {w : World} {A : Around} {env : Env} {Q : Flow → Shared → Prop} {E : Value → Shared → Prop} {a b : List Stmt} {s : Shared}
    (h : wpAny (model PW w) A (execs a env) (fun f s' => match f with | .next => wpAny (model PW w) A (execs b env) Q E s' | f => Q f s') E s) : wpAny (model PW w) A (execs (a ++ b) env) Q E s := fun Γ p hΓ => by
  refine execs_app_wp Γ b a p s (Sem.wp_mono (model PW w) Γ _ (fun f p' s' h' => ?_) (fun _ _ _ h' => h') _ _ (h Γ p hΓ))
  cases f with
  | next => exact h' Γ p' hΓ
  | _ => exact h'

theorem ok_caller : OkA 6 callerA := ⟨rfl, by decide +kernel, by decide +kernel⟩
theorem kf_pt (P : Params) : (KF P).lookup PT = none := by kernel_rfl
theorem kf_names (P : Params) : nsIn (KF P) mainGlobals "law" = some (some (.ref 224)) := by kernel_rfl

theorem law_call {w : World} {s : Shared} {mg mb : Str → Option Value} {xs : List Int} {v : Value} {E : Value → Shared → Prop} (K : (KF w.params).In s.heap) (tab : s.heap.get? PT = some (tabObj #[])) (hg : s.heap.Ns mainGlobals mg) (hbt : s.heap.Ns builtinsNs mb) (hbs : ∀ x : Str, x ≠ "__name__" → mb x = bootBuiltins x)
    (hnl : s.heap.NoLimit) (hbm : ∃ bm ob, mg "__builtins__" = some (.ref bm) ∧ s.heap.get? bm = some ob ∧ ob.cls = .type "module" ∧ ob.dict = some builtinsNs ∧ ob.data = .plain) (hxs : xs.length ≤ 63) (hv : Has s.heap v (.list (xs.map .int))) :
    wpAny (model PW w) callerA (call (.ref 224) [v] []) (fun r s' => r = .bool true ∧ OldK s.heap s'.heap ∧ s'.os = s.os ∧ s'.gens = s.gens) E s := by
  have k0 : ∀ b o, b ≠ PT → s.heap.get? b = some o → (only s.heap (· ≠ PT)).get? b = some o := fun b o n e => by rw [get_only, if_pos n]; exact e
  have hx : Ext (only s.heap (· ≠ PT)) s.heap := fun b o e => by
    rw [get_only] at e; split at e
    · exact e
    · cases e
  have notNs : ∀ {a : Addr} {m : Str → Option Value}, s.heap.Ns a m → a ≠ PT := fun {a m} n q => by
    obtain ⟨o, es, ep, e, d, _⟩ := n
    rw [q, tab] at e; cases e; cases d
  have gd : Gd w (only s.heap (· ≠ PT)) := by
    refine ⟨fun b o e => k0 b o (fun q => ?_) (K b o e), ?_, ⟨mg, hg.at fun o e => k0 _ o (notNs hg) e⟩, ⟨mb, hbt.at fun o e => k0 _ o (notNs hbt) e, hbs⟩, ?_⟩
    · rw [q, kf_pt] at e; cases e
    · obtain ⟨mc, h1, h2⟩ := hnl
      exact ⟨mc, h1.at fun o e => k0 _ o (notNs h1) e, h2⟩
    · obtain ⟨bm, ob, h1, h2, h3, h4, h5⟩ := hbm
      have := mg_of K hg (bt_at w.params)
      rw [h1] at this
      have : bm = 4 := by cases this; rfl
      subst this
      exact ⟨ob, k0 _ _ (by decide) h2, h3, h4, h5⟩
  have pn : (only s.heap (· ≠ PT)).get? PT = none := by rw [get_only, if_neg (by simp)]
  have hv2 : HasL (only s.heap (· ≠ PT)) [v] [.list (xs.map .int)] := by
    refine .cons ?_ .nil
    obtain ⟨a, vs, n, rfl, e, l⟩ := hv.list_inv
    refine .list (n := n) (k0 a _ (fun q => ?_) e) l.1 (l.flatten (flat_ints xs)).2
    rw [q, tab] at e; cases e
  have il : IsMo (only s.heap (· ≠ PT)) s.heap PT .tab := ⟨#[], tab, trivial, fun pos cv e => by cases e⟩
  refine Fn.enter (κ := 5) (xs := ["script"]) (F_law w) ok_caller gd hx hv2 rfl (by decide +kernel) (own2_of (sc := fnSc (topS 20)) (by decide +kernel)) (by kernel_rfl) rfl s _ E rfl fun env h1 tk E' hA' f => ?_
  have f := f.tabbed il.live pn (il.mono (.refl _) fun o e => f.step.ext _ o e)
  show wpAny _ _ (execs (fnBody (topS 20)) env) _ _ _
  rw [show fnBody (topS 20) = lawB ++ (fnBody (topS 20)).drop 17 from (List.take_append_drop 17 _).symm]
  refine exec_app ((law_run hxs hA').go env _ _ _ _ f _ _ _ rfl (fun δ' μ' hb' h' tk' ⟨e, sb⟩ g f' => ?_) (fun _ _ _ _ _ e => e.elim) (fun _ _ _ _ _ e => e.elim))
  subst e
  obtain ⟨e, p, he, ev⟩ := law_ret (w := w) (xs := xs) hA'
  rw [he]
  have f2 := f'.weak sb
  refine wpAny_execs_cons (wpAny_Return_some (ev.run env _ h' f2.ctx _ _ _ rfl fun r hb3 h3 tk3 st3 hr => ?_))
  obtain ⟨no, p0, pb, ps, hps, ht, _⟩ := f2.mu PT .tab List.mem_cons_self
  have hfin : ∀ b o, b ≠ PT → s.heap.get? b = some o → h3.get? b = some o := fun b o n e => st3.ext b o (f2.step.ext b o (k0 b o n e))
  have hfinT : h3.get? PT = some (tabObj ps) := st3.ext _ _ hps
  refine ⟨hr.bool_inv, ⟨fun b o e => ?_, fun b o e => ?_⟩, rfl, rfl⟩
  · by_cases q : b = PT
    · subst q
      rw [tab] at e; cases e
      exact .inr (.inl ⟨((codeHd_of_K K (pt_code _)).tab tab).isCodeTable, rfl, #[], ps, rfl, by rw [hfinT]; simp⟩)
    · exact .inl (hfin b o q e)
  · by_cases q : b = PT
    · exact ⟨_, q ▸ hfinT⟩
    · exact ⟨o, hfin b o q e⟩
end
-- part B30
section
open PySem PySem.W PyProof.Rows PySem.Calls

theorem has_int {d : WData} (h : WShape.has [] d .int = true) : ∃ i, d = .int i := by
  cases d with
  | int i => exact ⟨i, rfl⟩
  | _ => exact nomatch h
theorem items_int : ∀ {xs : List WData}, WShape.hasItems [] xs .int = true → ∃ is : List Int, xs = is.map .int
  | [], _ => ⟨[], rfl⟩
  | x :: xs, h => by
    obtain ⟨h1, h2⟩ := Bool.and_eq_true_iff.mp (show (WShape.has [] x .int && WShape.hasItems [] xs .int) = true from h)
    obtain ⟨i, rfl⟩ := has_int h1
    obtain ⟨is, rfl⟩ := items_int h2
    exact ⟨i :: is, rfl⟩
theorem args_int {args : List WData} (h : WShape.hasAll [] args [.list .int] = true) : ∃ is : List Int, args = [.list (is.map .int)] := by
  cases args with
  | nil => exact nomatch h
  | cons x r =>
    obtain ⟨h1, h2⟩ := Bool.and_eq_true_iff.mp (show (WShape.has [] x (.list .int) && WShape.hasAll [] r []) = true from h)
    cases r with
    | cons y r => exact nomatch h2
    | nil =>
      cases x with
      | list xs =>
        have h1 : WShape.hasItems [] xs .int = true := (Bool.or_false _).symm.trans h1
        obtain ⟨is, rfl⟩ := items_int h1
        exact ⟨is, rfl⟩
      | _ => exact nomatch h1
theorem pre_len {is : List Int} (h : (OpenLaw.pre PySem.Challenge.rw_rw0125_01).holds [] { args := [.list (is.map .int)] } = true) : is.length ≤ 63 := by
  refine Nat.le_of_not_lt fun hlt => ?_
  have e : (OpenLaw.pre PySem.Challenge.rw_rw0125_01).value [] { args := [.list (is.map .int)] } = some (.bool false) := by
    show WTm.value [] (.and (.not (.lt (.lit (.int 63)) (.len (.arg 0)))) (.lit (.bool true))) _ = _
    have hl : (PySem.W.less? (.int 63) (.int ((is.map WData.int).length : Nat))) = some true := by
      show some (decide ((63 : Int) < _)) = _
      rw [List.length_map, decide_eq_true (by omega)]
    simp only [WTm.value, List.getElem?_cons_zero]
    rw [hl]
    rfl
  rw [WTm.holds, e] at h
  exact absurd h (by decide)
theorem hasL_ints {P : Params} {h : Heap} : ∀ {vs : List Value} {is : List Int}, WellAll P h vs (is.map .int) → HasL h vs (is.map .int)
  | [], [], _ => .nil
  | v :: vs, i :: is, x => by
    cases x with
    | cons x y =>
      cases x with
      | int i t => exact .cons (.int i t) (hasL_ints y)
  | [], i :: is, x => nomatch x
  | v :: vs, [], x => nomatch x
noncomputable def lawD : DefRec := ⟨"law", fnPa (topS 20), fnBody (topS 20), fnSc (topS 20), default⟩
theorem law_walk (kwd : List (Str × Expr)) (pos : Pos) : WalkO view lawLoose (XL view []) (Hook.says hookL) rowL ⟨"law", fnPa (topS 20), fnBody (topS 20), fnSc (topS 20), pos⟩ kwd (fun f vs => PySem.call f vs) := by
  intro w s₀ s₁ mg mb G Y a o pm cd doc dV kV ho hd hcd hD hmg hg args vals as hpre hlay hrd hwl hlo
  have K : (KF w.params).In s₁.heap := km_in_of (e := kAs_is) Y
  have tab : s₁.heap.get? PT = some (tabObj #[]) := km_tabs_of (e := kAs_is) Y 216 List.mem_cons_self
  have ha := mg_of K G.T.g (kf_names w.params)
  have ha2 : mg "law" = some (.ref a) := hmg
  rw [ha2] at ha
  obtain rfl : a = 224 := by cases ha; rfl
  obtain ⟨h1, h2⟩ := Bool.and_eq_true_iff.mp (show (WShape.hasAll [] args [.list .int] && (OpenLaw.pre PySem.Challenge.rw_rw0125_01).holds [] { args := args }) = true from hpre)
  obtain ⟨is, rfl⟩ := args_int h1
  have hlen := pre_len h2
  cases hwl with
  | cons x y =>
    cases y
    cases x with
    | list e all =>
      have hv := Has.list (n := 0) e (hasL_ints all).1 (hasL_ints all).2
      obtain ⟨bm, ob, b1, _, b2, b3, b4, b5⟩ := G.T.bmain
      refine wpAny_mono (law_call K tab G.T.g G.T.b G.T.builtins G.T.nolimit ⟨bm, ob, b1, b2, b3, b4, b5⟩ hlen hv (E := fun _ _ => False)) (fun r s' h => ?_) (fun _ _ h => h.elim)
      obtain ⟨rfl, k1, k2, k3⟩ := h
      refine ⟨.inl ⟨.bool true, .bool true, [], rfl, fun cls => rfl, .bool true, ?_, fun _ => ⟨List.nodup_nil, fun a h => nomatch h⟩⟩, k1, k2, .of_eq (k3.trans hg)⟩
      kernel_rfl
end
-- part FIN
section
open PySem PySem.W PyProof.Rows PySem.Calls
noncomputable def fnPos : Stmt → Pos
  | .FunctionDef (pos := p) .. => p
  | _ => default
theorem law_def : defOf view (PySem.Challenge.rw_rw0125_01.row).name = some (⟨"law", fnPa (topS 20), fnBody (topS 20), fnSc (topS 20), fnPos (topS 20)⟩, []) := by kernel_rfl
theorem law_prom : (OpenRow.toRowW PySem.Challenge.rw_rw0125_01.row).promised := by w_witness2
theorem law_holds (said : (PySem.Challenge.rw_rw0125_01.row).wellSaid = true) : (PySem.Challenge.rw_rw0125_01.row).Holds :=
  holds_open (r := PySem.Challenge.rw_rw0125_01.row) (q := view) (loose := lawLoose) (Xt := lawXt) (XP := XL view []) (Yf := Hook.obs hookL) (Ya := Hook.val hookL) (YP := Hook.says hookL) (N := 29102)
    left_all (Hook.of hookL) (Hook.keeps hookL) (fun s e => xl_of s (Bool.and_eq_true_iff.mp e).1) XL.keeps law_def (by kernel_rfl) (by kernel_rfl) (fun s e => recFacts_of (Bool.and_eq_true_iff.mp e).2) (by rfl) said (by decide +kernel)
    is_bare law_prom (law_walk [] (fnPos (topS 20)))
end
end Mine
theorem PySem.Challenge.cw_rw0125_01_holds : PySem.Challenge.rw_rw0125_01.Holds := by
  exact PySem.W.holds_law Mine.law_said fun said => Mine.law_holds said
