import PyProof.Rows.All
import Wide.All
import OpenK.AllK
import Wide.FinOn
import PySem.Challenge.RW_rs0205_01
open PySem PySem.W PyProof.Rows
set_option Elab.async false
set_option linter.unusedVariables false
set_option maxRecDepth 100000
namespace Mine
noncomputable def viewQ : Program := { PySem.Challenge.pw_rs0205_01 with main := { PySem.Challenge.pw_rs0205_01.main with body := ([0, 7, 9, 10, 11, 13, 14, 15, 16, 17] : List Nat).filterMap fun i => PySem.Challenge.pw_rs0205_01.main.body[i]? } }
noncomputable def looseQ : List Str := [Str.ofString "insort_right", Str.ofString "bisect_right", Str.ofString "insort_left", Str.ofString "bisect_left", Str.ofString "Whitespace"]
theorem left_rows {p q : Program} {loose : List Str} {Xt : Shared → Bool} {α : Type} {Yf : Shared → α} {Ya : World → α} {N : Nat} (row : String)
    (hf : ∀ w : World, (fencedOpening treeTable p w N).map (fun s₀ => (topFrom treeTable p (w.withFollow row false) N s₀).map (fun s => (openSeen q loose (importedModules p.main.body) Xt true s, Yf s))) = some (some (openGood q loose, Ya (w.withFollow row false))))
    (ht : ∀ w : World, (fencedOpening treeTable p w N).map (fun s₀ => (topFrom treeTable p (w.withFollow row true) N s₀).map (fun s => (openSeen q loose (importedModules p.main.body) Xt true s, Yf s))) = some (some (openGood q loose, Ya (w.withFollow row true)))) : LeftO p q loose Xt Yf Ya N :=
  LeftO.of_split row fun w => by
    obtain ⟨s₀, a, b⟩ := Option.map_eq_some_iff.mp (hf w)
    obtain ⟨s₁, a', b'⟩ := Option.map_eq_some_iff.mp (ht w)
    rw [a] at a'
    cases a'
    rw [a]
    show some (_, _) = _
    rw [b, b']
theorem holds_open2 {r : OpenRow} {q : Program} {loose : List Str} {Xt : Shared → Bool} {XP : (Str → Option Value) → Heap → Prop} {α : Type} {Yf : Shared → α} {Ya : World → α} {YP : World → Heap → Prop} {d : DefRec} {kwd : List (Str × Expr)} {N : Nat}
    (hY : ∀ w s, Yf s = Ya w → YP w s.heap) (hYk : ∀ w h h', YP w h → (∀ b o, h.get? b = some o → h'.get? b = some o) → YP w h')
    (hX : ∀ s, Xt s = true → XP (s.heap.nsMap mainGlobals) s.heap) (hXk : ∀ mg h h', XP mg h → (∀ b o, h.get? b = some o → h'.get? b = some o) → XP mg h')
    (hdef : defOf q r.name = some (d, kwd)) (hp : r.prog.theDef r.name = some (d.params, d.body, d.scope)) (hk : kwWritten? d.params.kwonlyargs d.params.kw_defaults = some kwd) (hRf : ∀ s, Xt s = true → RecFacts r.records s.heap) (hwr : (!r.writes || r.records.isEmpty) = true)
    (k1 : r.wellSaid = true) (ok : (chainsOk q && opensWell r.prog && (frees r.toRowW && r.within.isEmpty)) = true) (hb : r.prog.bare) (hw : r.toRowW.promised)
    (call : LeftO r.prog q loose Xt Yf Ya N ∧ WalkO q loose XP YP r.toRowW d kwd fun f vs => PySem.call f vs) : r.Holds :=
  holds_open call.1 hY hYk hX hXk hdef hp hk hRf hwr k1 ok hb hw call.2
noncomputable abbrev lawW : RowW := PySem.Challenge.rw_rs0205_01.row.toRowW
noncomputable abbrev topSeen (s : Shared) : Bool := xlAt viewQ [] s && recOk (RowW.records lawW) s
local macro_rules | `(tactic| o_head $H) => do
  let hw := Lean.mkIdent `hw
  let hc := Lean.mkIdent `hc
  `(tactic| (
    refine holds_open2 (q := viewQ) (loose := looseQ) (Xt := fun s => topSeen s) (XP := XL viewQ []) (Yf := Hook.obs $H) (Ya := Hook.val $H) (YP := Hook.says $H) (N := 2042) (Hook.of $H) (Hook.keeps $H) (fun s e => xl_of s (Bool.and_eq_true_iff.mp e).1) XL.keeps (by rfl) (by rfl) (by rfl) (fun s e => recFacts_of (Bool.and_eq_true_iff.mp e).2) (by rfl) (by first | assumption | decide +kernel) (by decide +kernel) ⟨rfl, rfl, rfl, rfl, rfl, by decide +kernel⟩ ?$hw ?$hc))
set_option maxHeartbeats 8000000 in
set_option maxHeartbeats 8000000 in
open_top hd for PySem.Challenge.rw_rs0205_01
noncomputable abbrev hookQ : Hook := kmHook hd.heap_39 [2, 3, 15, 17, 18, 20, 21, 22, 23, 24, 26, 27, 29, 30, 31, 32, 33, 35, 36, 38, 39, 40, 41, 42, 44, 45, 47, 48, 49, 50, 51, 53, 54, 56, 57, 68, 70, 71, 73, 74, 75, 77, 78, 80, 81, 82, 84, 85, 87, 88, 89, 91, 92, 94, 95, 96, 98, 99, 101, 102, 103, 105, 106, 108, 109, 110, 112, 113, 115, 116, 117, 118, 119, 120, 121, 124, 126, 127, 129, 130, 131, 133, 134, 136, 137, 138, 140, 141, 143, 144, 145, 147, 148, 150, 151, 152, 155, 156, 157, 159, 160, 162, 163, 164, 166, 167, 169, 170, 171, 174, 175] (fun _ => by kernel_rfl) [172]
theorem left_f : ∀ w : World, (fencedOpening treeTable lawW.prog w 2042).map (fun s₀ => (topFrom treeTable lawW.prog (w.withFollow "special-get-raises" false) 2042 s₀).map (fun s => (openSeen viewQ looseQ (importedModules lawW.prog.main.body) (fun s => topSeen s) true s, hookQ.obs s))) = some (some (openGood viewQ looseQ, hookQ.val (w.withFollow "special-get-raises" false))) := by
  intro w; kernel_rfl
theorem left_t : ∀ w : World, (fencedOpening treeTable lawW.prog w 2042).map (fun s₀ => (topFrom treeTable lawW.prog (w.withFollow "special-get-raises" true) 2042 s₀).map (fun s => (openSeen viewQ looseQ (importedModules lawW.prog.main.body) (fun s => topSeen s) true s, hookQ.obs s))) = some (some (openGood viewQ looseQ, hookQ.val (w.withFollow "special-get-raises" true))) := by
  intro w; kernel_rfl
theorem left_ok : LeftO lawW.prog viewQ looseQ (fun s => topSeen s) hookQ.obs hookQ.val 2042 := left_rows "special-get-raises" left_f left_t

section

inductive Dt where
  | none
  | bool (b : Bool)
  | int (i : Int)
  | str (s : Str)
  | tup (xs : List Dt)
  | list (xs : List Dt)
  | val (v : Value)
  | obj (c : Addr) (fs : List (Str × Dt))
  | rng (a b c : Int)
  | code (q : Str)
  | lax (xs : List Dt)

mutual
noncomputable def Rd (h : Heap) (H : List Addr) : Dt → Value → Prop
  | .none, v => v = .none
  | .bool b, v => v = .bool b
  | .int i, v => ∃ t, v = .int i t
  | .str s, v => ∃ t, v = .str s t
  | .tup xs, v => ∃ (a : Addr) (vs : List Value) (n : Nat), v = .ref a ∧ a ∉ H ∧ IsT h a vs.toArray n ∧ RdAll h H xs vs
  | .list xs, v => ∃ (a : Addr) (vs : List Value) (n : Nat), v = .ref a ∧ a ∉ H ∧ IsL h a vs.toArray n ∧ RdAll h H xs vs
  | .val u, v => v = u
  | .obj c fs, v => ∃ (a d : Addr) (m : Str → Option Value), v = .ref a ∧ a ∉ H ∧ d ∉ H ∧ h.get? a = some { cls := .ref c, dict := some d, data := .plain } ∧ h.Ns1 d m ∧ d ≠ a ∧ (∀ n, fs.lookup n = none → m n = none) ∧ RdFs h H fs m
  | .rng a b c, v => ∃ (r : Addr) (t u x : Tok), v = .ref r ∧ r ∉ H ∧ IsRange h r a b c t u x
  | .lax xs, v => ∃ (a : Addr) (vs : List Value), v = .ref a ∧ a ∉ H ∧ h.IsList a vs.toArray ∧ RdAll h H xs vs
  | .code q, v => ∃ (c : Addr) (o : Obj) (vs : Array Value) (t : Tok), v = .ref c ∧ c ∉ H ∧ h.get? c = some o ∧ o.data = .fields vs ∧ vs[1]? = some (.str q t)
noncomputable def RdAll (h : Heap) (H : List Addr) : List Dt → List Value → Prop
  | [], vs => vs = []
  | d :: ds, vs => ∃ v rest, vs = v :: rest ∧ Rd h H d v ∧ RdAll h H ds rest
noncomputable def RdFs (h : Heap) (H : List Addr) : List (Str × Dt) → (Str → Option Value) → Prop
  | [], _ => True
  | p :: fs, m => RdF h H p m ∧ RdFs h H fs m
noncomputable def RdF (h : Heap) (H : List Addr) : Str × Dt → (Str → Option Value) → Prop
  | (x, d), m => ∃ v, m x = some v ∧ Rd h H d v
end

mutual
theorem Rd.move {h h' : Heap} {H H' : List Addr} (k : ∀ b o, b ∉ H → h.get? b = some o → h'.get? b = some o ∧ b ∉ H') : ∀ (d : Dt) (v : Value), Rd h H d v → Rd h' H' d v
  | .none, _, r => r
  | .bool _, _, r => r
  | .int _, _, r => r
  | .str _, _, r => r
  | .val _, _, r => r
  | .tup xs, _, r => by
    obtain ⟨a, vs, n, e, ha, ho, r⟩ := r
    exact ⟨a, vs, n, e, (k a _ ha ho).2, (k a _ ha ho).1, RdAll.move k xs vs r⟩
  | .list xs, _, r => by
    obtain ⟨a, vs, n, e, ha, ho, r⟩ := r
    exact ⟨a, vs, n, e, (k a _ ha ho).2, (k a _ ha ho).1, RdAll.move k xs vs r⟩
  | .obj c fs, _, r => by
    obtain ⟨a, d, m, e, ha, hd, ho, hn, hne, hex, r⟩ := r
    obtain ⟨od, es, ep, e1, e2⟩ := id hn
    exact ⟨a, d, m, e, (k a _ ha ho).2, (k d _ hd e1).2, (k a _ ha ho).1, ⟨od, es, ep, (k d _ hd e1).1, e2⟩, hne, hex, RdFs.move k fs m r⟩
  | .rng a b c, _, r => by
    obtain ⟨r, t, u, x, e, hr, ho⟩ := r
    exact ⟨r, t, u, x, e, (k r _ hr ho).2, (k r _ hr ho).1⟩
  | .lax xs, _, r => by
    obtain ⟨a, vs, e, ha, hl, r⟩ := r
    obtain ⟨o, ho, hl⟩ := hl
    exact ⟨a, vs, e, (k a _ ha ho).2, ⟨o, (k a _ ha ho).1, hl⟩, RdAll.move k xs vs r⟩
  | .code q, _, r => by
    obtain ⟨c, o, vs, t, e, hc, ho, r⟩ := r
    exact ⟨c, o, vs, t, e, (k c _ hc ho).2, (k c _ hc ho).1, r⟩
theorem RdAll.move {h h' : Heap} {H H' : List Addr} (k : ∀ b o, b ∉ H → h.get? b = some o → h'.get? b = some o ∧ b ∉ H') : ∀ (ds : List Dt) (vs : List Value), RdAll h H ds vs → RdAll h' H' ds vs
  | [], _, r => r
  | d :: ds, _, r => by
    obtain ⟨v, rest, e, r1, r2⟩ := r
    exact ⟨v, rest, e, Rd.move k d v r1, RdAll.move k ds rest r2⟩
theorem RdFs.move {h h' : Heap} {H H' : List Addr} (k : ∀ b o, b ∉ H → h.get? b = some o → h'.get? b = some o ∧ b ∉ H') : ∀ (fs : List (Str × Dt)) (m : Str → Option Value), RdFs h H fs m → RdFs h' H' fs m
  | [], _, _ => trivial
  | p :: fs, m, r => ⟨RdF.move k p m r.1, RdFs.move k fs m r.2⟩
theorem RdF.move {h h' : Heap} {H H' : List Addr} (k : ∀ b o, b ∉ H → h.get? b = some o → h'.get? b = some o ∧ b ∉ H') : ∀ (p : Str × Dt) (m : Str → Option Value), RdF h H p m → RdF h' H' p m
  | (_, d), _, r => by
    obtain ⟨v, e, r⟩ := r
    exact ⟨v, e, Rd.move k d v r⟩
end

theorem Rd.keeps {h h' : Heap} {H : List Addr} {d : Dt} {v : Value} (r : Rd h H d v) (k : ∀ b o, h.get? b = some o → h'.get? b = some o) : Rd h' H d v :=
  Rd.move (fun b o hb e => ⟨k b o e, hb⟩) d v r
theorem Rd.sub {h : Heap} {H H' : List Addr} {d : Dt} {v : Value} (r : Rd h H d v) (k : ∀ a ∈ H', a ∈ H) : Rd h H' d v :=
  Rd.move (fun b _ hb e => ⟨e, fun q => hb (k b q)⟩) d v r
theorem RdAll.keeps {h h' : Heap} {H : List Addr} {d : List Dt} {v : List Value} (r : RdAll h H d v) (k : ∀ b o, h.get? b = some o → h'.get? b = some o) : RdAll h' H d v :=
  RdAll.move (fun b o hb e => ⟨k b o e, hb⟩) d v r

theorem RdAll.length {h : Heap} {H : List Addr} : ∀ {ds : List Dt} {vs : List Value}, RdAll h H ds vs → vs.length = ds.length
  | [], _, r => by subst r; rfl
  | _ :: ds, _, r => by
    obtain ⟨v, rest, rfl, _, r2⟩ := r
    rw [List.length_cons, List.length_cons, RdAll.length r2]
theorem RdAll.get {h : Heap} {H : List Addr} : ∀ {ds : List Dt} {vs : List Value}, RdAll h H ds vs → ∀ {i : Nat} {d : Dt}, ds[i]? = some d → ∃ v, vs[i]? = some v ∧ Rd h H d v
  | [], _, _, _, _, e => by simp at e
  | d :: ds, _, r, i, d', e => by
    obtain ⟨v, rest, rfl, r1, r2⟩ := r
    cases i with
    | zero => simp at e; subst e; exact ⟨v, rfl, r1⟩
    | succ i => simpa using RdAll.get r2 (by simpa using e)
theorem RdAll.get' {h : Heap} {H : List Addr} : ∀ {ds : List Dt} {vs : List Value}, RdAll h H ds vs → ∀ {i : Nat} {v : Value}, vs[i]? = some v → ∃ d, ds[i]? = some d ∧ Rd h H d v := by
  intro ds vs r i v e
  have hi : i < vs.length := (List.getElem?_eq_some_iff.mp e).1
  rw [r.length] at hi
  obtain ⟨v', e', r'⟩ := r.get (List.getElem?_eq_getElem hi)
  rw [e] at e'; cases e'
  exact ⟨_, List.getElem?_eq_getElem hi, r'⟩
theorem RdAll.mk {h : Heap} {H : List Addr} : ∀ {ds : List Dt} {vs : List Value}, vs.length = ds.length → (∀ (i : Nat) d v, ds[i]? = some d → vs[i]? = some v → Rd h H d v) → RdAll h H ds vs
  | [], vs, e, _ => by
    show vs = []
    cases vs with
    | nil => rfl
    | cons v vs => simp at e
  | d :: ds, vs, e, k => by
    cases vs with
    | nil => simp at e
    | cons v vs => exact ⟨v, vs, rfl, k 0 d v rfl rfl, RdAll.mk (by simpa using e) fun i d' v' e1 e2 => k (i + 1) d' v' (by simpa using e1) (by simpa using e2)⟩
theorem RdAll.append {h : Heap} {H : List Addr} : ∀ {ds : List Dt} {vs : List Value} {es : List Dt} {ws : List Value}, RdAll h H ds vs → RdAll h H es ws → RdAll h H (ds ++ es) (vs ++ ws)
  | [], _, _, _, r, q => by subst r; exact q
  | _ :: ds, _, _, _, r, q => by
    obtain ⟨v, rest, rfl, r1, r2⟩ := r
    exact ⟨v, rest ++ _, rfl, r1, RdAll.append r2 q⟩

theorem keepsRefl (s : Shared) : Keeps s s := ⟨s.heap, s.toks, rfl, fun _ _ e => e⟩
theorem keepsTrans {s s' s'' : Shared} (a : Keeps s s') (b : Keeps s' s'') : Keeps s s'' := by
  obtain ⟨h1, t1, rfl, k1⟩ := a
  obtain ⟨h2, t2, rfl, k2⟩ := b
  exact ⟨h2, t2, rfl, fun b o e => k2 b o (k1 b o e)⟩
theorem keepsHeap {s s' : Shared} (a : Keeps s s') : ∀ b o, s.heap.get? b = some o → s'.heap.get? b = some o := by
  obtain ⟨h1, t1, rfl, k1⟩ := a
  exact k1
theorem keepsTok (s : Shared) (n : Nat) : Keeps s { s with toks := n } := ⟨s.heap, n, rfl, fun _ _ e => e⟩
theorem keepsPush (s : Shared) (o : Obj) (n : Nat) : Keeps s { s with heap := s.heap.push o, toks := n } := ⟨_, n, rfl, fun _ _ e => Heap.get?_push_of_some _ e⟩
theorem keepsPush' (s : Shared) (o : Obj) : Keeps s { s with heap := s.heap.push o } := ⟨_, s.toks, rfl, fun _ _ e => Heap.get?_push_of_some _ e⟩
theorem keepsOf (s : Shared) (h' : Heap) (n : Nat) (k : ∀ b o, s.heap.get? b = some o → h'.get? b = some o) : Keeps s { s with heap := h', toks := n } := ⟨_, n, rfl, k⟩
theorem keepsOf' (s : Shared) (h' : Heap) (k : ∀ b o, s.heap.get? b = some o → h'.get? b = some o) : Keeps s { s with heap := h' } := ⟨_, s.toks, rfl, k⟩

structure Sp where
  P : Shared → Prop
  st : ∀ s s', P s → Keeps s s' → P s'

section
variable (prog : Program) (w : World)
noncomputable def Gv (A : Around) (H : List Addr) (t : Sem Value) (s : Shared) (d : Dt) : Prop :=
  ∀ (Q : Value → Shared → Prop) (E : Value → Shared → Prop), (∀ v s', Keeps s s' → Rd s'.heap H d v → Q v s') → wpAny (model prog w) A t Q E s
noncomputable def Gvs (A : Around) (H : List Addr) (t : Sem (List Value)) (s : Shared) (ds : List Dt) : Prop :=
  ∀ (Q : List Value → Shared → Prop) (E : Value → Shared → Prop), (∀ vs s', Keeps s s' → RdAll s'.heap H ds vs → Q vs s') → wpAny (model prog w) A t Q E s
noncomputable def Gb (A : Around) (t : Sem Bool) (s : Shared) (b : Bool) : Prop :=
  ∀ (Q : Bool → Shared → Prop) (E : Value → Shared → Prop), (∀ s', Keeps s s' → Q b s') → wpAny (model prog w) A t Q E s
structure Ev (A : Around) (Φ : Sp) (H : List Addr) (env : Env) (e : Expr) (d : Dt) : Prop where
  run : ∀ s, Φ.P s → Gv prog w A H (eval e env) s d
structure Evs (A : Around) (Φ : Sp) (H : List Addr) (env : Env) (es : List Expr) (ds : List Dt) : Prop where
  run : ∀ s pos, Φ.P s → Gvs prog w A H (spliced (backTo pos (starEach es env))) s ds
structure Tst (A : Around) (Φ : Sp) (env : Env) (e : Expr) (b : Bool) : Prop where
  run : ∀ s, Φ.P s → Gb prog w A (isTrue e env (eval e env)) s b
structure Cmp (A : Around) (Φ : Sp) (H : List Addr) (op : CmpOp) (d₁ d₂ : Dt) (b : Bool) : Prop where
  run : ∀ s v₁ v₂, Φ.P s → Rd s.heap H d₁ v₁ → Rd s.heap H d₂ v₂ → Gv prog w A H (compareOp op v₁ v₂) s (.bool b)
structure Ex (A : Around) (sts : List Stmt) (env : Env) (Q : Flow → Shared → Prop) (s : Shared) : Prop where
  run : ∀ E, wpAny (model prog w) A (execs sts env) Q E s
end

section
variable {prog : Program} {w : World} {A : Around} {Φ : Sp} {H : List Addr} {env : Env}

theorem Gv.mono {t : Sem Value} {s : Shared} {d : Dt} (g : Gv prog w A H t s d) {Q : Value → Shared → Prop} {E : Value → Shared → Prop} (k : ∀ v s', Keeps s s' → Rd s'.heap H d v → Q v s') : wpAny (model prog w) A t Q E s := g Q E k

theorem Gv.pre {t : Sem Value} {s s₁ : Shared} {d : Dt} (k : Keeps s s₁) (g : Gv prog w A H t s₁ d) {Q : Value → Shared → Prop} {E : Value → Shared → Prop} (q : ∀ v s', Keeps s s' → Rd s'.heap H d v → Q v s') : wpAny (model prog w) A t Q E s₁ :=
  g Q E fun v s' k' r => q v s' (keepsTrans k k') r

theorem ev_int {i : Int} {k : Nat} {pos : Pos} : Ev prog w A Φ H env (.Constant (.int i) k pos) (.int i) := ⟨fun s _ Q E q =>
  wpAny_Constant_int (q _ _ (keepsTok s _) ⟨_, rfl⟩)⟩
theorem ev_str {x : Str} {k : Nat} {pos : Pos} : Ev prog w A Φ H env (.Constant (.str x) k pos) (.str x) := ⟨fun s _ Q E q =>
  wpAny_Constant_str (q _ _ (keepsTok s _) ⟨_, rfl⟩)⟩
theorem ev_none {k : Nat} {pos : Pos} : Ev prog w A Φ H env (.Constant .none k pos) .none := ⟨fun s _ Q E q =>
  wpAny_Constant_none (q _ _ (keepsRefl s) rfl)⟩
theorem ev_bool {b : Bool} {k : Nat} {pos : Pos} : Ev prog w A Φ H env (.Constant (.bool b) k pos) (.bool b) := ⟨fun s _ Q E q =>
  wpAny_Constant_bool (q _ _ (keepsRefl s) rfl)⟩

theorem evs_nil : Evs prog w A Φ H env [] [] := ⟨fun s _ _ Q E q => wpAny_items_nil (q _ _ (keepsRefl s) rfl)⟩
theorem evs_cons {e : Expr} {es : List Expr} {d : Dt} {ds : List Dt} (h : Ev prog w A Φ H env e d) (r : Evs prog w A Φ H env es ds)
    (hst : starEach (e :: es) env = (false, eval e env) :: starEach es env := by rfl) : Evs prog w A Φ H env (e :: es) (d :: ds) := ⟨fun s pos hs Q E q =>
  wpAny_items_cons (h.run s hs _ _ fun v s₁ k₁ r₁ => r.run s₁ pos (Φ.st _ _ hs k₁) _ _ fun vs s₂ k₂ r₂ => q _ _ (keepsTrans k₁ k₂) ⟨v, vs, rfl, r₁.keeps (keepsHeap k₂), r₂⟩) hst⟩

theorem ev_bin {l r : Expr} {op : Operator} {pos : Pos} {d₁ d₂ d : Dt} (h₁ : Ev prog w A Φ H env l d₁) (h₂ : Ev prog w A Φ H env r d₂)
    (o : ∀ s v₁ v₂, Φ.P s → Rd s.heap H d₁ v₁ → Rd s.heap H d₂ v₂ → Gv prog w A H (binaryOp op v₁ v₂) s d) : Ev prog w A Φ H env (.BinOp l op r pos) d := ⟨fun s hs Q E q =>
  wpAny_BinOp (h₁.run s hs _ _ fun v₁ s₁ k₁ r₁ => h₂.run s₁ (Φ.st _ _ hs k₁) _ _ fun v₂ s₂ k₂ r₂ =>
    o s₂ v₁ v₂ (Φ.st _ _ hs (keepsTrans k₁ k₂)) (r₁.keeps (keepsHeap k₂)) r₂ _ _ fun v s₃ k₃ r₃ => q v s₃ (keepsTrans (keepsTrans k₁ k₂) k₃) r₃)⟩

theorem ev_cmp {l r : Expr} {op : CmpOp} {pos : Pos} {d₁ d₂ : Dt} {b : Bool} (h₁ : Ev prog w A Φ H env l d₁) (h₂ : Ev prog w A Φ H env r d₂)
    (o : Cmp prog w A Φ H op d₁ d₂ b) (hm : behindInMarks op r = false := by rfl) : Ev prog w A Φ H env (.Compare l [op] [r] pos) (.bool b) := ⟨fun s hs Q E q =>
  wpAny_Compare1 (h₁.run s hs _ _ fun v₁ s₁ k₁ r₁ => h₂.run s₁ (Φ.st _ _ hs k₁) _ _ fun v₂ s₂ k₂ r₂ =>
    o.run s₂ v₁ v₂ (Φ.st _ _ hs (keepsTrans k₁ k₂)) (r₁.keeps (keepsHeap k₂)) r₂ _ _ fun v s₃ k₃ r₃ => q v s₃ (keepsTrans (keepsTrans k₁ k₂) k₃) r₃) hm⟩

theorem tst_cmp {l r : Expr} {op : CmpOp} {pos : Pos} {d₁ d₂ : Dt} {b : Bool} (h₁ : Ev prog w A Φ H env l d₁) (h₂ : Ev prog w A Φ H env r d₂)
    (o : Cmp prog w A Φ H op d₁ d₂ b) (hm : behindInMarks op r = false := by rfl) : Tst prog w A Φ env (.Compare l [op] [r] pos) b := ⟨fun s hs Q E q =>
  wpAny_isTrue_Compare1 (h₁.run s hs _ _ fun v₁ s₁ k₁ r₁ => h₂.run s₁ (Φ.st _ _ hs k₁) _ _ fun v₂ s₂ k₂ r₂ =>
    o.run s₂ v₁ v₂ (Φ.st _ _ hs (keepsTrans k₁ k₂)) (r₁.keeps (keepsHeap k₂)) r₂ _ _ fun v s₃ k₃ r₃ => by
      obtain rfl : v = .bool b := r₃
      exact wpAny_truthy_bool (q s₃ (keepsTrans (keepsTrans k₁ k₂) k₃))) hm⟩

theorem tst_value {e : Expr} {b : Bool} (h : Ev prog w A Φ H env e (.bool b)) (hv : ∀ whole, isTrue e env whole = (do let v ← whole; standAt e.pos; holding [v] (truthy v)) := by intro _; rfl) : Tst prog w A Φ env e b := ⟨fun s hs Q E q => by
  rw [hv]
  refine wpAny_bind (h.run s hs _ _ fun v s₁ k₁ r₁ => wpAny_bind (wpAny_standAt (wpAny_holding ?_)))
  obtain rfl : v = .bool b := r₁
  exact wpAny_truthy_bool (q _ k₁)⟩

theorem tst_not {e : Expr} {pos : Pos} {b : Bool} (h : Tst prog w A Φ env e b) : Tst prog w A Φ env (.UnaryOp .Not e pos) (!b) := ⟨fun s hs Q E q =>
  wpAny_isTrue_Not (h.run s hs _ _ fun s₁ k₁ => q s₁ k₁)⟩
theorem tst_or2 {x y : Expr} {pos : Pos} {a b : Bool} (h₁ : Tst prog w A Φ env x a) (h₂ : a = false → Tst prog w A Φ env y b) : Tst prog w A Φ env (.BoolOp .Or [x, y] pos) (a || b) := ⟨fun s hs Q E q => by
  refine wpAny_isTrue_BoolOp (wpAny_allTrue_Or_cons (h₁.run s hs _ _ fun s₁ k₁ => ?_))
  cases a with
  | true => first | exact q s₁ k₁ | simpa using q s₁ k₁
  | false =>
    have h := (h₂ rfl).run s₁ (Φ.st _ _ hs k₁)
    first
      | exact wpAny_allTrue_Or_cons (h _ _ fun s₂ k₂ => by cases b with
          | true => exact q s₂ (keepsTrans k₁ k₂)
          | false => exact wpAny_allTrue_Or_nil (q s₂ (keepsTrans k₁ k₂)))
      | (simp only [Bool.false_eq_true, if_false]
         exact wpAny_allTrue_Or_cons (h _ _ fun s₂ k₂ => by
          cases b with
          | true => simpa using q s₂ (keepsTrans k₁ k₂)
          | false => simpa using wpAny_allTrue_Or_nil (q s₂ (keepsTrans k₁ k₂))))⟩
theorem tst_and2 {x y : Expr} {pos : Pos} {a b : Bool} (h₁ : Tst prog w A Φ env x a) (h₂ : a = true → Tst prog w A Φ env y b) : Tst prog w A Φ env (.BoolOp .And [x, y] pos) (a && b) := ⟨fun s hs Q E q => by
  refine wpAny_isTrue_BoolOp (wpAny_allTrue_And_cons (h₁.run s hs _ _ fun s₁ k₁ => ?_))
  cases a with
  | false => first | exact q s₁ k₁ | simpa using q s₁ k₁
  | true =>
    have h := (h₂ rfl).run s₁ (Φ.st _ _ hs k₁)
    first
      | exact wpAny_allTrue_And_cons (h _ _ fun s₂ k₂ => by cases b with
          | false => exact q s₂ (keepsTrans k₁ k₂)
          | true => exact wpAny_allTrue_And_nil (q s₂ (keepsTrans k₁ k₂)))
      | (simp only [if_true]
         exact wpAny_allTrue_And_cons (h _ _ fun s₂ k₂ => by
          cases b with
          | false => simpa using q s₂ (keepsTrans k₁ k₂)
          | true => simpa using wpAny_allTrue_And_nil (q s₂ (keepsTrans k₁ k₂))))⟩

theorem ev_if {t x y : Expr} {pos : Pos} {b : Bool} {d : Dt} (h : Tst prog w A Φ env t b) (h₁ : b = true → Ev prog w A Φ H env x d) (h₂ : b = false → Ev prog w A Φ H env y d) : Ev prog w A Φ H env (.IfExp t x y pos) d := ⟨fun s hs Q E q => by
  refine wpAny_IfExp (h.run s hs _ _ fun s₁ k₁ => ?_)
  cases b with
  | true => exact Gv.pre k₁ ((h₁ rfl).run s₁ (Φ.st _ _ hs k₁)) q
  | false => exact Gv.pre k₁ ((h₂ rfl).run s₁ (Φ.st _ _ hs k₁)) q⟩
end
end

section

inductive Ow where
  | raw (o : Obj)
  | lst (ds : List Dt)
  | tab (q : Str)
  | nsd (fs : List (Str × Dt))
noncomputable def OwAt (h : Heap) (H : List Addr) (a : Addr) : Ow → Prop
  | .raw o => h.get? a = some o
  | .lst ds => ∃ (vs : List Value) (n : Nat), IsL h a vs.toArray n ∧ RdAll h H ds vs
  | .tab q => ∃ ps : Array Value, h.get? a = some (tabObj ps) ∧ TriplesOk ps.toList ∧ ∀ pos v, codeAmong pos ps.toList = some v → Rd h H (.code q) v
  | .nsd fs => ∃ m, h.Ns1 a m ∧ (∀ n, fs.lookup n = none → m n = none) ∧ ∀ x d, fs.lookup x = some d → ∃ v, m x = some v ∧ Rd h H d v
theorem RdAll.of_rd {h h' : Heap} {H H' : List Addr} (m : ∀ d v, Rd h H d v → Rd h' H' d v) : ∀ {ds : List Dt} {vs : List Value}, RdAll h H ds vs → RdAll h' H' ds vs
  | [], _, r => r
  | _ :: _, _, r => by obtain ⟨v, rest, e, r1, r2⟩ := r; exact ⟨v, rest, e, m _ _ r1, RdAll.of_rd m r2⟩
theorem OwAt.mv {h h' : Heap} {H H' : List Addr} {a : Addr} {o : Ow} (m : ∀ d v, Rd h H d v → Rd h' H' d v) (l : ∀ o, h.get? a = some o → h'.get? a = some o) (x : OwAt h H a o) : OwAt h' H' a o := by
  cases o with
  | raw o => exact l o x
  | lst ds => obtain ⟨vs, n, e, r⟩ := x; exact ⟨vs, n, l _ e, RdAll.of_rd m r⟩
  | nsd fs => obtain ⟨m', hn, he, r⟩ := x; exact ⟨m', hn.at l, he, fun y d e => let ⟨v, e1, r1⟩ := r y d e; ⟨v, e1, m _ _ r1⟩⟩
  | tab q => obtain ⟨ps, e, t, r⟩ := x; exact ⟨ps, l _ e, t, fun p v e => m _ _ (r p v e)⟩

structure Base (w : World) (mg mb : Str → Option Value) (h : Heap) : Prop where
  X : (hd.heap_39 w.params).In h
  g : h.Ns mainGlobals mg
  b : h.Ns builtinsNs mb
  nolimit : h.NoLimit
  bi : ∀ x : Str, x ≠ "__name__" → mb x = bootBuiltins x

theorem Base.keeps {w : World} {mg mb : Str → Option Value} {h h' : Heap} (B : Base w mg mb h) (k : ∀ b o, h.get? b = some o → h'.get? b = some o) : Base w mg mb h' :=
  ⟨B.X.keeps k, B.g.keeps k, B.b.keeps k, B.nolimit.keeps k, B.bi⟩

structure Room (A : Around) (n : Nat) : Prop where
  hh : A.handled = none
  dp : A.depth + n < 900
  un : A.units + 100 + 10 * n < 9000

theorem Room.lt {A : Around} {n : Nat} (R : Room A n) : A.depth < recursionLimit := by have := R.dp; show _ < 1000; omega
theorem Room.uc {A : Around} {n : Nat} (R : Room A n) : A.units < cLine := by have := R.un; show _ < 9900; omega
theorem Room.deeper {A : Around} {n : Nat} {env : Env} (R : Room A (n + 1)) : Room (A.deeper env) n :=
  ⟨R.hh, by have := R.dp; show A.depth + 1 + n < 900; omega, by have := R.un; show A.units + 3 + 100 + 10 * n < 9000; omega⟩
theorem Room.less {A : Around} {n m : Nat} (R : Room A n) (h : m ≤ n) : Room A m := ⟨R.hh, by have := R.dp; omega, by have := R.un; omega⟩
theorem Room.in1 {A : Around} {n : Nat} (R : Room A (n + 1)) : Room A.in1 n :=
  ⟨R.hh, by have := R.dp; show A.depth + n < 900; omega, by have := R.un; show A.units + 1 + 100 + 10 * n < 9000; omega⟩

noncomputable def Chg (W : List Addr) (s s' : Shared) : Prop := ∃ h' tk, s' = { s with heap := h', toks := tk } ∧ ∀ b o, b ∉ W → s.heap.get? b = some o → h'.get? b = some o
theorem Chg.refl (W : List Addr) (s : Shared) : Chg W s s := ⟨s.heap, s.toks, rfl, fun _ _ _ e => e⟩
theorem Chg.trans {W : List Addr} {s s' s'' : Shared} (a : Chg W s s') (b : Chg W s' s'') : Chg W s s'' := by
  obtain ⟨h1, t1, rfl, k1⟩ := a
  obtain ⟨h2, t2, rfl, k2⟩ := b
  exact ⟨h2, t2, rfl, fun b o hb e => k2 b o hb (k1 b o hb e)⟩
theorem Chg.more {W W' : List Addr} {s s' : Shared} (a : Chg W s s') (h : ∀ x ∈ W, x ∈ W') : Chg W' s s' := by
  obtain ⟨h1, t1, rfl, k1⟩ := a
  exact ⟨h1, t1, rfl, fun b o hb e => k1 b o (fun q => hb (h b q)) e⟩
theorem Chg.drop {W W' : List Addr} {s s' : Shared} (a : Chg W' s s') (h : ∀ x ∈ W', x ∈ W ∨ s.heap.get? x = none) : Chg W s s' := by
  obtain ⟨h1, t1, rfl, k1⟩ := a
  refine ⟨h1, t1, rfl, fun b o hb e => k1 b o (fun q => ?_) e⟩
  rcases h b q with h | h
  · exact hb h
  · rw [h] at e; cases e
theorem Chg.get {W : List Addr} {s s' : Shared} (a : Chg W s s') {b : Addr} {o : Obj} (hb : b ∉ W) (e : s.heap.get? b = some o) : s'.heap.get? b = some o := by
  obtain ⟨h1, t1, rfl, k1⟩ := a; exact k1 b o hb e
theorem Chg.keeps {W : List Addr} {s s' : Shared} (k : Keeps s s') : Chg W s s' := by
  obtain ⟨h1, t1, rfl, k1⟩ := k
  exact ⟨h1, t1, rfl, fun b o _ e => k1 b o e⟩
theorem Chg.toKeeps {s s' : Shared} (k : Chg [] s s') : Keeps s s' := by
  obtain ⟨h1, t1, rfl, k1⟩ := k
  exact ⟨h1, t1, rfl, fun b o e => k1 b o List.not_mem_nil e⟩
theorem Chg.fresh {W : List Addr} {s s' : Shared} (a : Chg W s s') {b : Addr} (hb : b ∉ W) (e : s'.heap.get? b = none) : s.heap.get? b = none := by
  cases q : s.heap.get? b with
  | none => rfl
  | some o => rw [a.get hb q] at e; cases e
theorem exBut {h h' : Heap} {a b : Addr} (hs : Heap.SameBut b h h') (hb : ∃ o, h'.get? b = some o) (ha : ∃ o, h.get? a = some o) : ∃ o, h'.get? a = some o := by
  by_cases q : a = b
  · exact q ▸ hb
  · obtain ⟨o, e⟩ := ha; exact ⟨o, hs.extBut a o q e⟩
theorem get_size (h : Heap) : h.get? h.objs.size = none := by
  cases q : h.get? h.objs.size with
  | none => rfl
  | some o => exact absurd (Heap.lt_size q) (Nat.lt_irrefl _)

structure FSt (h₀ : Heap) (env : Env) (H : List Addr) (own : List (Addr × Ow)) (pm : List (Str × Dt)) (s : Shared) : Prop where
  base : ∀ b o, h₀.get? b = some o → s.heap.get? b = some o
  locs : ∃ m, s.heap.Ns env.locals m ∧ ∀ x d, pm.lookup x = some d → env.kindOf x = some .local → ∃ v, m x = some v ∧ Rd s.heap H d v
  cells : ∀ x c, env.cells.lookup x = some c → ∃ cv, s.heap.IsCell c cv ∧ ∀ d, pm.lookup x = some d → env.kindOf x ≠ some .local → ∃ v, cv = some v ∧ Rd s.heap H d v
  owns : ∀ p ∈ own, OwAt s.heap H p.1 p.2
  ex : ∀ a ∈ H, ∃ o, s.heap.get? a = some o

structure FOk (h₀ : Heap) (W : List Addr) (env : Env) (H : List Addr) (oa : List Addr) : Prop where
  hid : ∀ a ∈ H, h₀.get? a = none
  WH : ∀ a ∈ W, a ∈ H
  loc : env.locals ∈ W
  cell : ∀ x c, env.cells.lookup x = some c → c ∈ W ∧ c ≠ env.locals
  apart : ∀ x y c, env.cells.lookup x = some c → env.cells.lookup y = some c → x = y
  ownW : ∀ a ∈ oa, a ∈ W ∧ a ≠ env.locals ∧ ∀ x c, env.cells.lookup x = some c → a ≠ c
  ownA : oa.Pairwise fun p q => p ≠ q

structure Nm (env : Env) (nm : List (Str × NameKind)) : Prop where
  names : env.scope.names = nm
  kind : env.scope.kind = .function
  ge : env.globals = mainGlobals
  be : env.builtins = builtinsNs
theorem Nm.of {env : Env} {nm : List (Str × NameKind)} {x : Str} {k : Option NameKind} (N : Nm env nm) (h : nm.lookup x = k) : env.kindOf x = k := by
  unfold Env.kindOf; rw [N.names, h]

section
variable {prog : Program} {w : World} {A : Around} {h₀ : Heap} {s₀ s : Shared} {W : List Addr} {env : Env} {H : List Addr} {own : List (Addr × Ow)} {pm : List (Str × Dt)} {mg mb : Str → Option Value} {nm : List (Str × NameKind)} {oa : List Addr}

theorem FSt.keeps {s' : Shared} (F : FSt h₀ env H own pm s) (k : Keeps s s') : FSt h₀ env H own pm s' := by
  have k1 := keepsHeap k
  refine ⟨fun b o e => k1 b o (F.base b o e), ?_, fun x c e => ?_, fun p hp => (F.owns p hp).mv (fun _ _ r => r.keeps k1) (fun o e => k1 _ _ e), fun a ha => let ⟨o, e⟩ := F.ex a ha; ⟨o, k1 _ _ e⟩⟩
  · obtain ⟨m, hn, hm⟩ := F.locs
    exact ⟨m, hn.keeps k1, fun x d e hk => let ⟨v, e1, r⟩ := hm x d e hk; ⟨v, e1, r.keeps k1⟩⟩
  · obtain ⟨cv, hc, hd⟩ := F.cells x c e
    exact ⟨cv, hc.keeps k1, fun d e hk => let ⟨v, e1, r⟩ := hd d e hk; ⟨v, e1, r.keeps k1⟩⟩

noncomputable def fs (h₀ : Heap) (env : Env) (H : List Addr) (own : List (Addr × Ow)) (pm : List (Str × Dt)) : Sp := ⟨FSt h₀ env H own pm, fun _ _ F k => F.keeps k⟩

theorem FSt.weak {pm' : List (Str × Dt)} (F : FSt h₀ env H own pm s) (h : ∀ x d, pm'.lookup x = some d → pm.lookup x = some d) : FSt h₀ env H own pm' s := by
  refine ⟨F.base, ?_, fun x c e => ?_, F.owns, F.ex⟩
  · obtain ⟨m, hn, hm⟩ := F.locs
    exact ⟨m, hn, fun x d e hk => hm x d (h x d e) hk⟩
  · obtain ⟨cv, hc, hd⟩ := F.cells x c e
    exact ⟨cv, hc, fun d e hk => hd d (h x d e) hk⟩
noncomputable def Cov : List (Str × Dt) → List (Str × Dt) → Prop
  | [], _ => True
  | (x, d) :: r, pm => pm.lookup x = some d ∧ Cov r pm
theorem Cov.look : ∀ {pm' pm : List (Str × Dt)}, Cov pm' pm → ∀ x d, pm'.lookup x = some d → pm.lookup x = some d
  | [], _, _, _, _, e => by cases e
  | (y, d') :: r, pm, c, x, d, e => by
    rw [List.lookup_cons] at e
    cases hb : x == y with
    | true => rw [hb] at e; cases e; rw [eq_of_beq hb]; exact c.1
    | false => rw [hb] at e; exact Cov.look c.2 x d e
theorem FSt.cov {pm' : List (Str × Dt)} (F : FSt h₀ env H own pm s) (h : Cov pm' pm) : FSt h₀ env H own pm' s := F.weak h.look

theorem ev_local {x : Str} {d : Dt} {pos : Pos} {H' : List Addr} (N : Nm env nm) (hl : nm.lookup x = some .local) (hx : pm.lookup x = some d) (hH : ∀ a ∈ H', a ∈ H) (hd : (x == ("__debug__" : Str)) = false) :
    Ev prog w A (fs h₀ env H own pm) H' env (.Name x pos) d := ⟨fun s F Q E q => by
  obtain ⟨m, hn, hm⟩ := F.locs
  obtain ⟨v, e, r⟩ := hm x d hx (N.of hl)
  exact wpAny_Name (wpAny_loadName_local N.kind (N.of hl) hn e (q v s (keepsRefl s) (r.sub hH))) hd⟩

theorem ev_cell {x : Str} {d : Dt} {pos : Pos} {H' : List Addr} {c : Addr} (N : Nm env nm) (hl : nm.lookup x = some .cell) (hc : env.cells.lookup x = some c) (hx : pm.lookup x = some d) (hH : ∀ a ∈ H', a ∈ H) (hd : (x == ("__debug__" : Str)) = false) :
    Ev prog w A (fs h₀ env H own pm) H' env (.Name x pos) d := ⟨fun s F Q E q => by
  obtain ⟨cv, hc', hm⟩ := F.cells x c hc
  obtain ⟨v, rfl, r⟩ := hm d hx (by rw [N.of hl]; decide)
  exact wpAny_Name (wpAny_loadName_cell N.kind (N.of hl) hc hc' (q v s (keepsRefl s) (r.sub hH))) hd⟩

theorem ev_free {x : Str} {d : Dt} {pos : Pos} {H' : List Addr} {c : Addr} (N : Nm env nm) (hl : nm.lookup x = some .free) (hc : env.cells.lookup x = some c) (hx : pm.lookup x = some d) (hH : ∀ a ∈ H', a ∈ H) (hd : (x == ("__debug__" : Str)) = false)
    (hcd : (x == ("__classdict__" : Str)) = false) : Ev prog w A (fs h₀ env H own pm) H' env (.Name x pos) d := ⟨fun s F Q E q => by
  obtain ⟨cv, hc', hm⟩ := F.cells x c hc
  obtain ⟨v, rfl, r⟩ := hm d hx (by rw [N.of hl]; decide)
  exact wpAny_Name (wpAny_loadName_free N.kind (N.of hl) hc hc' (q v s (keepsRefl s) (r.sub hH)) hcd) hd⟩

theorem ev_glob {x : Str} {v : Value} {pos : Pos} {H' : List Addr} (B : Base w mg mb h₀) (N : Nm env nm) (hl : nm.lookup x = some .globalImplicit) (hv : nsIn (hd.heap_39 w.params) mainGlobals x = some (some v)) (hd : (x == ("__debug__" : Str)) = false) :
    Ev prog w A (fs h₀ env H own pm) H' env (.Name x pos) (.val v) := ⟨fun s F Q E q => by
  refine wpAny_Name (ks_loadName_global N.kind (N.of hl) ?_) hd
  unfold loadGlobal
  rw [N.ge]
  refine wpAny_bind (wpAny_nsGet (B.g.keeps F.base) ?_)
  rw [mg_of B.X B.g hv]
  exact wpAny_pure (q v s (keepsRefl s) rfl)⟩

theorem ev_built {x : Str} {v : Value} {pos : Pos} {H' : List Addr} (B : Base w mg mb h₀) (N : Nm env nm) (hl : nm.lookup x = some .globalImplicit) (hv : nsIn (hd.heap_39 w.params) mainGlobals x = some none) (hb : bootBuiltins x = some v) (hn : x ≠ "__name__") (hd : (x == ("__debug__" : Str)) = false) :
    Ev prog w A (fs h₀ env H own pm) H' env (.Name x pos) (.val v) := ⟨fun s F Q E q => by
  refine wpAny_Name (ks_loadName_global N.kind (N.of hl) ?_) hd
  unfold loadGlobal
  rw [N.ge, N.be]
  refine wpAny_bind (wpAny_nsGet (B.g.keeps F.base) ?_)
  rw [mg_none_of B.X B.g hv]
  refine wpAny_bind (wpAny_nsGet (B.b.keeps F.base) ?_)
  rw [B.bi x hn, hb]
  exact wpAny_pure (q v s (keepsRefl s) rfl)⟩

theorem inOa {own : List (Addr × Ow)} {oa : List Addr} (ho : own.map (·.1) = oa) {p : Addr × Ow} (hp : p ∈ own) : p.1 ∈ oa := ho ▸ List.mem_map_of_mem hp
theorem FSt.wrote_local {x : Str} {d : Dt} {v : Value} (O : FOk h₀ W env H oa) (ho : own.map (·.1) = oa) (S : Chg W s₀ s) (F : FSt h₀ env H own pm s) (r : Rd s.heap H d v) {m : Str → Option Value} (hn : s.heap.Ns env.locals m) {h' : Heap} {tk : Nat} (hl : env.kindOf x = some .local)
    (hn' : h'.Ns env.locals (fun y => if y = x then some v else m y)) (hs : Heap.SameBut env.locals s.heap h') : Chg W s₀ { s with heap := h', toks := tk } ∧ FSt h₀ env H own ((x, d) :: pm) { s with heap := h', toks := tk } := by
  have LH := O.WH _ O.loc
  have mv : ∀ {d v}, Rd s.heap H d v → Rd h' H d v := fun r => Rd.move (fun b o hb e => ⟨hs.extBut b o (fun q => hb (q ▸ LH)) e, hb⟩) _ _ r
  refine ⟨S.trans ⟨h', tk, rfl, fun b o hb e => hs.extBut b o (fun q => hb (q ▸ O.loc)) e⟩, fun b o e => hs.extBut b o (fun q => ?_) (F.base b o e), ⟨_, hn', fun y d' e hk => ?_⟩, fun y c e => ?_, fun p hp => (F.owns p hp).mv (fun _ _ r => mv r) (fun o e => hs.extBut _ _ (O.ownW _ (inOa ho hp)).2.1 e), fun a ha => exBut hs (let ⟨o, _, _, e, _⟩ := hn'; ⟨o, e⟩) (F.ex a ha)⟩
  · subst q; rw [O.hid _ LH] at e; cases e
  · rw [List.lookup_cons] at e
    by_cases hy : y = x
    · subst hy
      simp only [beq_self_eq_true] at e
      cases e
      exact ⟨v, by simp, mv r⟩
    · have : (y == x) = false := by simpa using hy
      rw [this] at e
      obtain ⟨m₀, hn₀, hm⟩ := F.locs
      obtain ⟨u, e1, r1⟩ := hm y d' e hk
      have em : m y = m₀ y := by
        obtain ⟨o, es, ep, a1, a2, _, a4⟩ := hn
        obtain ⟨o', es', ep', b1, b2, _, b4⟩ := hn₀
        rw [a1] at b1; cases b1; rw [a2] at b2; cases b2
        rw [← a4, ← b4]
      exact ⟨u, by rw [if_neg hy, em]; exact e1, mv r1⟩
  · obtain ⟨cv, hc, hd⟩ := F.cells y c e
    refine ⟨cv, hc.sameBut hs (O.cell y c e).2, fun d' e' hk => ?_⟩
    rw [List.lookup_cons] at e'
    have hy : (y == x) = false := by
      rw [beq_eq_false_iff_ne]; rintro rfl; exact hk hl
    rw [hy] at e'
    obtain ⟨u, e1, r1⟩ := hd d' e' hk
    exact ⟨u, e1, mv r1⟩

theorem st_local {x : Str} {d : Dt} {v : Value} {Q : Unit → Shared → Prop} {E : Value → Shared → Prop} (N : Nm env nm) (O : FOk h₀ W env H oa) (ho : own.map (·.1) = oa) (S : Chg W s₀ s) (F : FSt h₀ env H own pm s) (r : Rd s.heap H d v) (hl : nm.lookup x = some .local)
    (q : ∀ s', Chg W s₀ s' → FSt h₀ env H own ((x, d) :: pm) s' → Q () s') : wpAny (model prog w) A (storeName env x v) Q E s := by
  obtain ⟨m, hn, _⟩ := F.locs
  exact wpAny_storeName_local (N.of hl) hn (fun h' hn' hs => let ⟨a, b⟩ := F.wrote_local O ho S r hn (N.of hl) hn' hs; q _ a b) (by rw [N.kind]; rfl)

theorem FSt.wrote_cell {x : Str} {c : Addr} {d : Dt} {v : Value} (O : FOk h₀ W env H oa) (ho : own.map (·.1) = oa) (S : Chg W s₀ s) (F : FSt h₀ env H own pm s) (r : Rd s.heap H d v) {h' : Heap} (hl : env.kindOf x ≠ some .local) (hc : env.cells.lookup x = some c)
    (hc' : h'.IsCell c (some v)) (hs : Heap.SameBut c s.heap h') : Chg W s₀ { s with heap := h' } ∧ FSt h₀ env H own ((x, d) :: pm) { s with heap := h' } := by
  obtain ⟨oc1, oc2⟩ := O.cell x c hc
  have CH := O.WH _ oc1
  have mv : ∀ {d v}, Rd s.heap H d v → Rd h' H d v := fun r => Rd.move (fun b o hb e => ⟨hs.extBut b o (fun q => hb (q ▸ CH)) e, hb⟩) _ _ r
  refine ⟨S.trans ⟨h', s.toks, rfl, fun b o hb e => hs.extBut b o (fun q => hb (q ▸ oc1)) e⟩, fun b o e => hs.extBut b o (fun q => ?_) (F.base b o e), ?_, fun y c' e => ?_, fun p hp => (F.owns p hp).mv (fun _ _ r => mv r) (fun o e => hs.extBut _ _ ((O.ownW _ (inOa ho hp)).2.2 x c hc) e), fun a ha => exBut hs (let ⟨o, e, _⟩ := hc'; ⟨o, e⟩) (F.ex a ha)⟩
  · subst q; rw [O.hid _ CH] at e; cases e
  · obtain ⟨m, hn, hm⟩ := F.locs
    refine ⟨m, hn.sameBut hs oc2.symm, fun y d' e hk => ?_⟩
    rw [List.lookup_cons] at e
    have hy : (y == x) = false := by
      rw [beq_eq_false_iff_ne]; rintro rfl; exact hl hk
    rw [hy] at e
    obtain ⟨u, e1, r1⟩ := hm y d' e hk
    exact ⟨u, e1, mv r1⟩
  · by_cases hy : y = x
    · subst hy
      rw [hc] at e; cases e
      refine ⟨_, hc', fun d' e' hk => ?_⟩
      rw [List.lookup_cons] at e'
      simp only [beq_self_eq_true] at e'
      cases e'
      exact ⟨v, rfl, mv r⟩
    · obtain ⟨cv', hcc, hd⟩ := F.cells y c' e
      have hne : c' ≠ c := fun q => hy (O.apart y x c (q ▸ e) hc)
      refine ⟨cv', hcc.sameBut hs hne, fun d' e' hk => ?_⟩
      rw [List.lookup_cons] at e'
      have : (y == x) = false := by simpa using hy
      rw [this] at e'
      obtain ⟨u, e1, r1⟩ := hd d' e' hk
      exact ⟨u, e1, mv r1⟩
theorem st_cell {x : Str} {c : Addr} {d : Dt} {v : Value} {Q : Unit → Shared → Prop} {E : Value → Shared → Prop} (N : Nm env nm) (O : FOk h₀ W env H oa) (ho : own.map (·.1) = oa) (S : Chg W s₀ s) (F : FSt h₀ env H own pm s) (r : Rd s.heap H d v) (hl : nm.lookup x = some .cell) (hc : env.cells.lookup x = some c)
    (q : ∀ s', Chg W s₀ s' → FSt h₀ env H own ((x, d) :: pm) s' → Q () s') : wpAny (model prog w) A (storeName env x v) Q E s := by
  obtain ⟨cv, hcv, _⟩ := F.cells x c hc
  exact wpAny_storeName_cell N.kind (N.of hl) hc hcv fun h' hc' hs => let ⟨a, b⟩ := F.wrote_cell O ho S r (by rw [N.of hl]; decide) hc hc' hs; q _ a b

theorem exBut' {h h' : Heap} {a b : Addr} (hs : ∀ c o, c ≠ b → h.get? c = some o → h'.get? c = some o) (hb : ∃ o, h'.get? b = some o) (ha : ∃ o, h.get? a = some o) : ∃ o, h'.get? a = some o := by
  by_cases q : a = b
  · exact q ▸ hb
  · obtain ⟨o, e⟩ := ha; exact ⟨o, hs a o q e⟩
theorem FSt.wrote_own' {pre post : List (Addr × Ow)} {a : Addr} {o o' : Ow} (O : FOk h₀ W env H oa) (ho : (pre ++ (a, o) :: post).map (·.1) = oa) (S : Chg W s₀ s) (F : FSt h₀ env H (pre ++ (a, o) :: post) pm s) {h' : Heap} {tk : Nat} (hx' : ∃ x, h'.get? a = some x) (ho' : (∀ d v, Rd s.heap H d v → Rd h' H d v) → OwAt h' H a o') (hs : ∀ b o, b ≠ a → s.heap.get? b = some o → h'.get? b = some o) :
    Chg W s₀ { s with heap := h', toks := tk } ∧ FSt h₀ env H (pre ++ (a, o') :: post) pm { s with heap := h', toks := tk } := by
  have ha := O.ownW a (inOa (p := (a, o)) ho (by simp))
  have AH := O.WH _ ha.1
  have mv : ∀ {d v}, Rd s.heap H d v → Rd h' H d v := fun r => Rd.move (fun b o hb e => ⟨hs b o (fun q => hb (q ▸ AH)) e, hb⟩) _ _ r
  have oA := O.ownA
  rw [← ho, List.map_append, List.map_cons] at oA
  have pw := List.pairwise_append.mp oA
  have pc := List.pairwise_cons.mp pw.2.1
  refine ⟨S.trans ⟨h', tk, rfl, fun b o hb e => hs b o (fun q => hb (q ▸ ha.1)) e⟩, fun b o e => hs b o (fun q => ?_) (F.base b o e), ?_, fun y c e => ?_, fun p hp => ?_, fun a ha => exBut' hs hx' (F.ex a ha)⟩
  · subst q; rw [O.hid _ AH] at e; cases e
  · obtain ⟨m, hn, hm⟩ := F.locs
    exact ⟨m, hn.at' fun o e => hs _ o ha.2.1.symm e, fun y d' e hk => let ⟨u, e1, r1⟩ := hm y d' e hk; ⟨u, e1, mv r1⟩⟩
  · obtain ⟨cv, hc, hd⟩ := F.cells y c e
    exact ⟨cv, let ⟨o, e1, e2⟩ := hc; ⟨o, hs _ o (ha.2.2 y c e).symm e1, e2⟩, fun d' e' hk => let ⟨u, e1, r1⟩ := hd d' e' hk; ⟨u, e1, mv r1⟩⟩
  · rcases List.mem_append.mp hp with q | q
    · exact (F.owns p (List.mem_append_left _ q)).mv (fun _ _ r => mv r) fun o e => hs _ _ (pw.2.2 p.1 (List.mem_map_of_mem q) a (.head _)) e
    · rcases List.mem_cons.mp q with rfl | q
      · exact ho' fun _ _ r => mv r
      · exact (F.owns p (List.mem_append_right _ (.tail _ q))).mv (fun _ _ r => mv r) fun o e => hs _ _ (pc.1 p.1 (List.mem_map_of_mem q)).symm e
theorem FSt.wrote_own {pre post : List (Addr × Ow)} {a : Addr} {o o' : Ow} (O : FOk h₀ W env H oa) (ho : (pre ++ (a, o) :: post).map (·.1) = oa) (S : Chg W s₀ s) (F : FSt h₀ env H (pre ++ (a, o) :: post) pm s) {h' : Heap} {tk : Nat} (hx' : ∃ x, h'.get? a = some x) (ho' : (∀ d v, Rd s.heap H d v → Rd h' H d v) → OwAt h' H a o') (hs : Heap.SameBut a s.heap h') :
    Chg W s₀ { s with heap := h', toks := tk } ∧ FSt h₀ env H (pre ++ (a, o') :: post) pm { s with heap := h', toks := tk } :=
  F.wrote_own' O ho S hx' ho' fun b o hb e => hs.extBut b o hb e
end
end

section

section
variable {prog : Program} {w : World} {A : Around} {h₀ : Heap} {s₀ s : Shared} {W : List Addr} {env : Env} {H : List Addr} {own : List (Addr × Ow)} {pm : List (Str × Dt)} {mg mb : Str → Option Value} {nm : List (Str × NameKind)} {oa : List Addr}
  {Q : Flow → Shared → Prop} {E : Value → Shared → Prop} {rest : List Stmt}

theorem wp_app {M : Model} {Γ : Ctx} : ∀ (b r : List Stmt) {Q : Flow → Pos → Shared → Prop} {E : Value → Pos → Shared → Prop} {p : Pos} {s : Shared}, Sem.wp M Γ (execs (b ++ r) env) Q E p s →
    Sem.wp M Γ (execs b env) (fun f p' s' => Sem.wp M Γ (match f with | .next => execs r env | f => pure f) Q E p' s') E p s
  | [], r, Q, E, p, s, h => h
  | st :: b, r, Q, E, p, s, h => by
    rw [List.cons_append, execs_cons, Sem.wp_bind'] at h
    rw [execs_cons, Sem.wp_bind']
    refine Sem.wp_mono M Γ _ (fun f p' s' h' => ?_) (fun _ _ _ e => e) p s h
    cases f with
    | next => exact wp_app b r h'
    | _ => exact h'

theorem x_if {test : Expr} {body orelse : List Stmt} {pos : Pos} {b : Bool} {Φ : Sp} (hs : Φ.P s) (h : Tst prog w A Φ env test b)
    (k₁ : b = true → ∀ s', Keeps s s' → Ex prog w A (body ++ rest) env Q s') (k₂ : b = false → ∀ s', Keeps s s' → Ex prog w A (orelse ++ rest) env Q s') :
    Ex prog w A (.If test body orelse pos :: rest) env Q s := by
  refine ⟨fun E Γ p hΓ => ?_⟩
  rw [execs_cons, Sem.wp_bind', exec_If]
  have g := h.run s hs (fun b' s' => b' = b ∧ Keeps s s') E (fun s' k => ⟨rfl, k⟩)
  show Sem.wp _ Γ (standAt pos >>= fun _ => isTrue test env (eval test env) >>= fun b => if b = true then execs body env else execs orelse env) _ _ p s
  rw [Sem.wp_bind']
  show Sem.wp _ Γ (isTrue test env (eval test env) >>= fun b => if b = true then execs body env else execs orelse env) _ _ _ s
  rw [Sem.wp_bind']
  refine Sem.wp_mono _ Γ _ (fun b' p' s' ⟨e, k⟩ => ?_) (fun _ _ _ e => e) _ s (g Γ _ hΓ)
  subst e
  cases b' with
  | true => exact wp_app body rest ((k₁ rfl s' k).run E Γ p' hΓ)
  | false => exact wp_app orelse rest ((k₂ rfl s' k).run E Γ p' hΓ)

theorem x_asg_local {x : Str} {e : Expr} {px pos : Pos} {d : Dt} (N : Nm env nm) (O : FOk h₀ W env H oa) (S : Chg W s₀ s) (F : FSt h₀ env H own pm s) (h : Ev prog w A (fs h₀ env H own pm) H env e d) (hl : nm.lookup x = some .local)
    (k : ∀ s', Chg W s₀ s' → FSt h₀ env H own ((x, d) :: pm) s' → Ex prog w A rest env Q s') (hsw : swapsWith e (some (.Name x px)) pos.line env = pure false := by rfl) (ho : own.map (·.1) = oa := by rfl) :
    Ex prog w A (.Assign [.Name x px] e pos :: rest) env Q s :=
  ⟨fun E => wpAny_execs_cons (wpAny_Assign_Name (h.run s F _ _ fun v s₁ k₁ r₁ => st_local N O ho (S.trans (Chg.keeps k₁)) (F.keeps k₁) r₁ hl fun s' S' F' => (k s' S' F').run E) hsw)⟩
theorem x_asg_cell {x : Str} {c : Addr} {e : Expr} {px pos : Pos} {d : Dt} (N : Nm env nm) (O : FOk h₀ W env H oa) (S : Chg W s₀ s) (F : FSt h₀ env H own pm s) (h : Ev prog w A (fs h₀ env H own pm) H env e d) (hl : nm.lookup x = some .cell) (hc : env.cells.lookup x = some c)
    (k : ∀ s', Chg W s₀ s' → FSt h₀ env H own ((x, d) :: pm) s' → Ex prog w A rest env Q s') (hsw : swapsWith e (some (.Name x px)) pos.line env = pure false := by rfl) (ho : own.map (·.1) = oa := by rfl) :
    Ex prog w A (.Assign [.Name x px] e pos :: rest) env Q s :=
  ⟨fun E => wpAny_execs_cons (wpAny_Assign_Name (h.run s F _ _ fun v s₁ k₁ r₁ => st_cell N O ho (S.trans (Chg.keeps k₁)) (F.keeps k₁) r₁ hl hc fun s' S' F' => (k s' S' F').run E) hsw)⟩

theorem x_ret {e : Expr} {pos : Pos} {d : Dt} {Φ : Sp} {H' : List Addr} (hs : Φ.P s) (h : Ev prog w A Φ H' env e d) (k : ∀ v s', Keeps s s' → Rd s'.heap H' d v → Q (.ret v) s') : Ex prog w A (.Return (some e) pos :: rest) env Q s :=
  ⟨fun E => wpAny_execs_cons (wpAny_Return_some (h.run s hs _ _ fun v s' k' r => k v s' k' r))⟩
theorem x_nil (h : Q .next s) : Ex prog w A [] env Q s := ⟨fun E => wpAny_execs_nil h⟩
theorem x_brk {pos : Pos} (h : Q .brk s) : Ex prog w A (.Break pos :: rest) env Q s := ⟨fun E => wpAny_execs_cons (wpAny_Break h)⟩

theorem x_while {σ : Type} {test : Expr} {body : List Stmt} {pos : Pos} (pmO : σ → List (Str × Dt)) (I : σ → Prop) (meas : σ → Nat) (cond : σ → Bool) (x₀ : σ) (h0 : I x₀) (S : Chg W s₀ s) (F : FSt h₀ env H own (pmO x₀) s)
    (ht : ∀ x, I x → Tst prog w A (fs h₀ env H own (pmO x)) env test (cond x))
    (hb : ∀ x s₁, I x → cond x = true → FSt h₀ env H own (pmO x) s₁ → Ex prog w A body env (fun fl s' => fl = .next ∧ Chg W s₁ s' ∧ ∃ y, I y ∧ meas y < meas x ∧ FSt h₀ env H own (pmO y) s') s₁)
    (k : ∀ x s', I x → cond x = false → Chg W s₀ s' → FSt h₀ env H own (pmO x) s' → Ex prog w A rest env Q s') :
    Ex prog w A (.While test body [] pos :: rest) env Q s := by
  refine ⟨fun E => wpAny_execs_cons (wpAny_While (codeAny_whileLoop (fun n s' => ∃ x, I x ∧ meas x = n ∧ Chg W s₀ s' ∧ FSt h₀ env H own (pmO x) s') ?_ (meas x₀) ⟨x₀, h0, rfl, S, F⟩))⟩
  rintro n s₁ ⟨x, hx, rfl, S₁, F₁⟩
  refine (ht x hx).run s₁ F₁ _ _ fun s₂ k₂ => ?_
  have S₂ := S₁.trans (Chg.keeps (W := W) k₂)
  have F₂ := F₁.keeps k₂
  cases hc : cond x with
  | true =>
    rw [if_pos rfl]
    refine wpAny_mono ((hb x s₂ hx hc F₂).run (fun _ _ => False)) (fun fl s' h' => ?_) fun _ _ f => f.elim
    obtain ⟨rfl, c, y, hy, hm, F'⟩ := h'
    exact ⟨meas y, hm, y, hy, rfl, S₂.trans c, F'⟩
  | false =>
    rw [if_neg (by decide)]
    exact wpAny_execs_nil ((k x s₂ hx hc S₂ F₂).run E)

noncomputable def It (prog : Program) (w : World) (A : Around) (H : List Addr) (d : Dt) (ds : List Dt) : Prop := ∀ (s : Shared) (v : Value), Rd s.heap H d v → ∀ (Q : Value → Shared → Prop) (E : Value → Shared → Prop),
  (∀ (I : Addr) (fp wr : List Addr) (P : Nat → Value → Prop) (St : Nat → Heap → Prop) (s₂ : Shared), Keeps s s₂ → Walks prog w A I fp wr ds.length P St → St 0 s₂.heap → (∀ b ∈ fp, b ∉ H ∨ s.heap.get? b = none) → (∀ b ∈ fp, ∃ o, s₂.heap.get? b = some o) → (∀ b ∈ wr, s.heap.get? b = none) →
    (∀ i u, P i u → ∃ d', ds[i]? = some d' ∧ Rd s.heap H d' u) → (∀ i h, St i h → ∀ b ∈ wr, ∃ o, h.get? b = some o) → Q (.ref I) s₂) → wpAny (model prog w) A (pyIter v) Q E s

theorem keepsLt {h : Heap} {b : Addr} (e : (h.get? b).isSome) : b < h.objs.size := by
  obtain ⟨o, e⟩ := Option.isSome_iff_exists.mp e
  exact Heap.lt_size e

theorem it_list {xs : List Dt} (hh : A.handled = none) : It prog w A H (.list xs) xs := by
  intro s v ⟨a, vs, n, e, ha, hl, r⟩ Q E q
  subst e
  have hl' : s.heap.IsList a vs.toArray := ⟨_, hl, rfl, _, rfl⟩
  refine wpAny_pyIter_list hl' ?_
  have hne : a ≠ s.heap.objs.size := Nat.ne_of_lt (Heap.lt_size hl)
  have k := keepsPush' s { cls := Value.type "list_iterator", data := Data.fields #[Value.ref a, Value.int 0 0] }
  have W := Walks.list (prog := prog) (w := w) hh s.heap.objs.size a hne vs.toArray
  have hsz : vs.toArray.size = xs.length := by rw [List.size_toArray]; exact r.length
  rw [hsz] at W
  refine q _ _ _ _ _ _ k W ⟨⟨_, Heap.get?_push_size _ rfl, rfl, rfl⟩, ⟨_, Heap.get?_push_of_some _ hl, rfl, _, rfl⟩⟩ (fun b hb => ?_) (fun b hb => ?_) (fun b hb => ?_) (fun i u hu => ?_) (fun i h st b hb => by
      simp only [List.mem_cons, List.not_mem_nil, or_false] at hb
      obtain ⟨o, e, _⟩ := st.1
      exact ⟨o, hb ▸ e⟩)
  · simp only [List.mem_cons, List.not_mem_nil, or_false] at hb
    rcases hb with rfl | rfl
    · exact .inr (get_size _)
    · exact .inl ha
  · simp only [List.mem_cons, List.not_mem_nil, or_false] at hb
    rcases hb with rfl | rfl
    · exact ⟨_, Heap.get?_push_size _ rfl⟩
    · exact ⟨_, Heap.get?_push_of_some _ hl⟩
  · simp only [List.mem_cons, List.not_mem_nil, or_false] at hb
    rw [hb]; exact get_size _
  · obtain ⟨d', e, r'⟩ := r.get' (by simpa using hu)
    exact ⟨d', e, r'⟩

theorem it_rng {a b c : Int} {n : Nat} (hh : A.handled = none) (hs : Builtin.Range.small a b c = true) (hn : Builtin.Range.rangeSize a b c = n) : It prog w A H (.rng a b c) ((List.range n).map fun i : Nat => Dt.int (a + (i : Int) * c)) := by
  intro s v ⟨r, t, u, x, e, hr, ho⟩ Q E q
  subst e
  refine wpAny_pyIter_range ho hs ?_
  rw [hn]
  have k := keepsPush' s { cls := Value.type "range_iterator", data := Data.fields #[rawInt a, rawInt n, rawInt c] }
  have W := Walks.range (prog := prog) (w := w) hh s.heap.objs.size a c n
  have W' := W.bound
  refine q _ _ _ (fun i v => i < n ∧ ∃ t, v = Value.int (a + (i : Int) * c) t) _ _ k (by rw [List.length_map, List.length_range]; exact W') ?_ (fun b hb => ?_) (fun b hb => ?_) (fun b hb => ?_) (fun i u hu => ?_) (fun i h st b hb => by
      simp only [List.mem_cons, List.not_mem_nil, or_false] at hb
      exact ⟨_, hb ▸ st⟩)
  · have e : (s.heap.push { cls := Value.type "range_iterator", data := Data.fields #[rawInt a, rawInt n, rawInt c] }).get? s.heap.objs.size = _ := Heap.get?_push_size _ rfl
    simpa using e
  · simp only [List.mem_cons, List.not_mem_nil, or_false] at hb; rw [hb]; exact .inr (get_size _)
  · simp only [List.mem_cons, List.not_mem_nil, or_false] at hb; rw [hb]
    exact ⟨_, Heap.get?_push_size _ rfl⟩
  · simp only [List.mem_cons, List.not_mem_nil, or_false] at hb; rw [hb]; exact get_size _
  · obtain ⟨hi, t, rfl⟩ := hu
    exact ⟨.int (a + (i : Int) * c), by simp [hi], t, rfl⟩

theorem it_str {x : Str} (hh : A.handled = none) : It prog w A H (.str x) (x.cps.toList.map fun c => Dt.str ⟨#[c]⟩) := by
  intro s v ⟨t, e⟩ Q E q
  subst e
  have fin : ∀ (o : Obj) (ty : String), Walks prog w A s.heap.objs.size [s.heap.objs.size] [s.heap.objs.size] x.cps.size (SignAt x) (fun i h => Heap.IsStrIter h s.heap.objs.size ty x t i) →
      (s.heap.push o).IsStrIter s.heap.objs.size ty x t 0 → Q (.ref s.heap.objs.size) { s with heap := s.heap.push o } := fun o ty W hst => by
    have k := keepsPush' s o
    refine q _ _ _ (fun i v => i < x.cps.size ∧ SignAt x i v) _ _ k (by rw [List.length_map, Array.length_toList]; exact W.bound) hst (fun b hb => ?_) (fun b hb => ?_) (fun b hb => ?_) (fun i u hu => ?_) (fun i h st b hb => ?_)
    · simp only [List.mem_cons, List.not_mem_nil, or_false] at hb; rw [hb]; exact .inr (get_size _)
    · simp only [List.mem_cons, List.not_mem_nil, or_false] at hb; rw [hb]
      exact (let ⟨o', e', _⟩ := hst; ⟨o', e'⟩)
    · simp only [List.mem_cons, List.not_mem_nil, or_false] at hb; rw [hb]; exact get_size _
    · obtain ⟨hi, c, t', hc, rfl⟩ := hu
      refine ⟨.str ⟨#[c]⟩, ?_, t', rfl⟩
      rw [List.getElem?_map, Array.getElem?_toList, hc]; rfl
    · simp only [List.mem_cons, List.not_mem_nil, or_false] at hb
      obtain ⟨o, e, _⟩ := st
      exact ⟨o, hb ▸ e⟩
  cases ha : x.cps.all (· < 128)
  · exact wpAny_pyIter_wide ha (fin _ "str_iterator" (Walks.strWide hh _ x t) ⟨_, Heap.get?_push_size _ rfl, rfl, rfl⟩)
  · exact wpAny_pyIter_ascii ha (fin _ "str_ascii_iterator" (Walks.strAscii hh _ x t) ⟨_, Heap.get?_push_size _ rfl, rfl, rfl⟩)

theorem FSt.hide {H' : List Addr} (F : FSt h₀ env H own pm s) {s₁ : Shared} (old : ∀ b o, s₁.heap.get? b = some o → s.heap.get? b = some o) (F₁ : FSt h₀ env H own pm s₁) (hn : ∀ a ∈ H', a ∈ H ∨ s₁.heap.get? a = none) (hx : ∀ a ∈ H', ∃ o, s.heap.get? a = some o)
    : FSt h₀ env H' own pm s := by
  have mv : ∀ {d v}, Rd s₁.heap H d v → Rd s.heap H' d v := fun r => Rd.move (fun b o hb e => ⟨old b o e, fun q => (hn b q).elim hb fun z => by rw [z] at e; cases e⟩) _ _ r
  refine ⟨F.base, ?_, fun x c e => ?_, fun p hp => (F₁.owns p hp).mv (fun _ _ r => mv r) (fun o e => old _ _ e), hx⟩
  · obtain ⟨m, hn, hm⟩ := F₁.locs
    exact ⟨m, hn.keeps old, fun x d e hk => let ⟨v, e1, r⟩ := hm x d e hk; ⟨v, e1, mv r⟩⟩
  · obtain ⟨cv, hc, hd⟩ := F₁.cells x c e
    exact ⟨cv, hc.keeps old, fun d e hk => let ⟨v, e1, r⟩ := hd d e hk; ⟨v, e1, mv r⟩⟩
theorem FSt.wrote_hid {wr : List Addr} (F : FSt h₀ env H own pm s) (h0 : ∀ a ∈ wr, h₀.get? a = none) (hwr : ∀ a ∈ wr, a ∈ H) (hL : env.locals ∉ wr) (hc : ∀ x c, env.cells.lookup x = some c → c ∉ wr) (ho : ∀ p ∈ own, p.1 ∉ wr) {h' : Heap} {tk : Nat}
    (kk : ∀ b o, b ∉ wr → s.heap.get? b = some o → h'.get? b = some o) (hx : ∀ a ∈ wr, ∃ o, h'.get? a = some o) : FSt h₀ env H own pm { s with heap := h', toks := tk } := by
  have mv : ∀ {d v}, Rd s.heap H d v → Rd h' H d v := fun r => Rd.move (fun b o hb e => ⟨kk b o (fun q => hb (hwr b q)) e, hb⟩) _ _ r
  refine ⟨fun b o e => kk b o (fun q => by rw [h0 b q] at e; cases e) (F.base b o e), ?_, fun x c e => ?_, fun p hp => (F.owns p hp).mv (fun _ _ r => mv r) (fun o e => kk _ _ (ho p hp) e), fun a ha => ?_⟩
  · obtain ⟨m, hn, hm⟩ := F.locs
    exact ⟨m, hn.at' fun o e => kk _ o hL e, fun x d e hk => let ⟨v, e1, r⟩ := hm x d e hk; ⟨v, e1, mv r⟩⟩
  · obtain ⟨cv, hc', hd⟩ := F.cells x c e
    obtain ⟨o, e1, e2⟩ := hc'
    exact ⟨cv, ⟨o, kk c o (hc x c e) e1, e2⟩, fun d e hk => let ⟨v, e1, r⟩ := hd d e hk; ⟨v, e1, mv r⟩⟩
  · by_cases q : a ∈ wr
    · exact hx a q
    · obtain ⟨o, e⟩ := F.ex a ha; exact ⟨o, kk a o q e⟩
theorem FOk.hide {H' : List Addr} (O : FOk h₀ W env H oa) (hs : ∀ a ∈ H, a ∈ H') (hn : ∀ a ∈ H', a ∈ H ∨ h₀.get? a = none) : FOk h₀ W env H' oa :=
  ⟨fun a ha => (hn a ha).elim (O.hid a) id, fun a ha => hs a (O.WH a ha), O.loc, O.cell, O.apart, O.ownW, O.ownA⟩
theorem FSt.show {H' : List Addr} (F : FSt h₀ env H own pm s) (hs : ∀ a ∈ H', a ∈ H) : FSt h₀ env H' own pm s := by
  refine ⟨F.base, ?_, fun x c e => ?_, fun p hp => (F.owns p hp).mv (fun _ _ r => r.sub hs) (fun o e => e), fun a ha => F.ex a (hs a ha)⟩
  · obtain ⟨m, hn, hm⟩ := F.locs
    exact ⟨m, hn, fun x d e hk => let ⟨v, e1, r⟩ := hm x d e hk; ⟨v, e1, r.sub hs⟩⟩
  · obtain ⟨cv, hc', hd⟩ := F.cells x c e
    exact ⟨cv, hc', fun d e hk => let ⟨v, e1, r⟩ := hd d e hk; ⟨v, e1, r.sub hs⟩⟩

structure Sto (prog : Program) (w : World) (A : Around) (h₀ : Heap) (W : List Addr) (env : Env) (oa : List Addr) (x : Str) : Prop where
  run : ∀ (s : Shared) (H : List Addr) (own : List (Addr × Ow)) (pm : List (Str × Dt)) (v : Value) (d : Dt) (Q : Unit → Shared → Prop) (E : Value → Shared → Prop), FOk h₀ W env H oa → own.map (·.1) = oa → FSt h₀ env H own pm s → Rd s.heap H d v →
    (∀ s', Chg W s s' → FSt h₀ env H own ((x, d) :: pm) s' → Q () s') → wpAny (model prog w) A (storeName env x v) Q E s
theorem sto_local {x : Str} (N : Nm env nm) (hl : nm.lookup x = some .local) : Sto prog w A h₀ W env oa x := ⟨fun s H own pm v d Q E O ho F r q => st_local N O ho (Chg.refl W s) F r hl q⟩
theorem sto_cell {x : Str} {c : Addr} (N : Nm env nm) (hl : nm.lookup x = some .cell) (hc : env.cells.lookup x = some c) : Sto prog w A h₀ W env oa x := ⟨fun s H own pm v d Q E O ho F r q => st_cell N O ho (Chg.refl W s) F r hl hc q⟩

theorem x_forS {x : Str} {px pos : Pos} {iter : Expr} {body : List Stmt} {ds : List Dt} {dsrc : Dt} (pmO : Nat → List (Str × Dt)) (ownO : Nat → List (Addr × Ow)) (C Cb : Nat → Prop) (Rr : Value → Shared → Prop) (N : Nm env nm) (O : FOk h₀ W env H oa) (S : Chg W s₀ s) (F : FSt h₀ env H (ownO 0) (pmO 0) s) (h0 : C 0)
    (hi : Ev prog w A (fs h₀ env H (ownO 0) (pmO 0)) H env iter dsrc) (src : It prog w A H dsrc ds) (hst₀ : Sto prog w A h₀ W env oa x)
    (hb : ∀ i d s₁ H', ds[i]? = some d → C i → (∀ a ∈ H, a ∈ H') → FOk h₀ W env H' oa → FSt h₀ env H' (ownO i) ((x, d) :: pmO i) s₁ → Ex prog w A body env (fun fl s' => Chg W s₁ s' ∧ (match fl with
      | .next => C (i + 1) ∧ FSt h₀ env H' (ownO (i + 1)) (pmO (i + 1)) s'
      | .cont => C (i + 1) ∧ FSt h₀ env H' (ownO (i + 1)) (pmO (i + 1)) s'
      | .brk => Cb i ∧ FSt h₀ env H' (ownO i) (pmO i) s'
      | .ret v => Rr v s')) s₁)
    (kr : ∀ v s', Chg W s₀ s' → Rr v s' → Q (.ret v) s')
    (kb : ∀ i s', i < ds.length → Cb i → Chg W s₀ s' → FSt h₀ env H (ownO i) (pmO i) s' → Ex prog w A rest env Q s')
    (k : ∀ s', C ds.length → Chg W s₀ s' → FSt h₀ env H (ownO ds.length) (pmO ds.length) s' → Ex prog w A rest env Q s')
    (hoa : ∀ i, (ownO i).map (·.1) = oa := by intro _; rfl) (hs : ∀ x, foldedSetIterable iter env x = pure x := by intro _; rfl) :
    Ex prog w A (.For (.Name x px) iter body [] pos :: rest) env Q s := by
  refine ⟨fun E => wpAny_execs_cons (wpAny_For (hi.run s F _ _ fun v s₁ k₁ r₁ => src s₁ v r₁ _ _ fun I fp wr P St s₂ k₂ WK hst hfp hlt hwr hP hSx => ?_) hs)⟩
  have F₁ := F.keeps k₁
  have kh := keepsHeap k₂
  have S₂ : Chg W s₀ s₂ := (S.trans (Chg.keeps k₁)).trans (Chg.keeps k₂)
  have hne : ∀ a ∈ H, a ∉ wr := fun a ha q => by
    obtain ⟨o, e⟩ := F₁.ex a ha
    rw [hwr a q] at e; cases e
  have hfpH : ∀ b ∈ fp, b ∉ H := fun b hb q => by
    rcases hfp b hb with h | h
    · exact h q
    · obtain ⟨o, e⟩ := F₁.ex b q
      rw [h] at e; cases e
  have h0wr : ∀ a ∈ wr, h₀.get? a = none := fun a ha => by
    cases q : h₀.get? a with
    | none => rfl
    | some o => have := F₁.base a o q; rw [hwr a ha] at this; cases this
  have hoW : ∀ i, ∀ p ∈ ownO i, p.1 ∉ wr := fun i p hp => hne _ (O.WH _ (O.ownW _ (inOa (hoa i) hp)).1)
  have O' : FOk h₀ W env (wr ++ H) oa := O.hide (fun a ha => List.mem_append_right _ ha) fun a ha => (List.mem_append.mp ha).elim (fun q => .inr (h0wr a q)) .inl
  have F₂ : FSt h₀ env (wr ++ H) (ownO 0) (pmO 0) s₂ := (F₁.keeps k₂).hide kh F₁ (fun a ha => (List.mem_append.mp ha).elim (fun q => .inr (hwr a q)) .inl)
    fun a ha => (List.mem_append.mp ha).elim (hSx 0 _ hst a) fun q => let ⟨o, e⟩ := F₁.ex a q; ⟨o, kh a o e⟩
  refine codeAny_forLoop (fun n s' => ∃ i, n = ds.length - i ∧ i ≤ ds.length ∧ C i ∧ Chg W s₀ s' ∧ Chg (W ++ wr) s₂ s' ∧ St i s'.heap ∧ FSt h₀ env (wr ++ H) (ownO i) (pmO i) s') ?_ ds.length ⟨0, rfl, Nat.zero_le _, h0, S₂, Chg.refl _ _, hst, F₂⟩ (fun _ => rfl)
  rintro n s₃ ⟨i, rfl, hi', hC, S₃, T₃, hst₃, F₃⟩
  have chgS : ∀ h' tk, (∀ b o, b ∉ wr → s₃.heap.get? b = some o → h'.get? b = some o) → Chg W s₀ { s₃ with heap := h', toks := tk } := fun h' tk kk => by
    obtain ⟨h3, t3, rfl, c3⟩ := S₃
    have S₁ := S.trans (Chg.keeps k₁)
    obtain ⟨h4, t4, e4, c4⟩ := T₃
    obtain ⟨h1, t1, e1, c1⟩ := S₁
    subst e1
    refine ⟨h', tk, rfl, fun b o hb e => kk b o (fun q => ?_) (c3 b o hb e)⟩
    have := c1 b o hb e
    rw [show h1.get? b = none from hwr b q] at this; cases this
  by_cases hlt' : i < ds.length
  · refine WK.item i s₃ _ _ hlt' hst₃ fun u h' tk hu hst' kk => ?_
    obtain ⟨d, hd, rd⟩ := hP i u hu
    have hx' : ∀ a ∈ wr, ∃ o, h'.get? a = some o := hSx (i + 1) h' hst'
    have F₄ : FSt h₀ env (wr ++ H) (ownO i) (pmO i) { s₃ with heap := h', toks := tk } := F₃.wrote_hid h0wr (fun a ha => List.mem_append_left _ ha) (hne _ (O.WH _ O.loc)) (fun x c e => hne _ (O.WH _ (O.cell x c e).1)) (hoW i) kk hx'
    have S₄ := chgS h' tk kk
    have T₄ : Chg (W ++ wr) s₂ { s₃ with heap := h', toks := tk } := T₃.trans ⟨h', tk, rfl, fun b o hb e => kk b o (fun q => hb (List.mem_append_right _ q)) e⟩
    have rd' : Rd h' (wr ++ H) d u := Rd.move (fun b o hb e => by
      have hbwr : b ∉ wr := fun q => by rw [hwr b q] at e; cases e
      have hbW : b ∉ W := fun q => hb (O.WH b q)
      exact ⟨T₄.get (fun q => (List.mem_append.mp q).elim hbW hbwr) (kh b o e), fun q => (List.mem_append.mp q).elim hbwr hb⟩) d u rd
    refine wpAny_assign_Name (hst₀.run { s₃ with heap := h', toks := tk } (wr ++ H) (ownO i) (pmO i) u d _ _ O' (hoa i) F₄ rd' fun s₅ S₅ F₅ => ?_)
    refine wpAny_mono (hb i d s₅ (wr ++ H) hd hC (fun a ha => List.mem_append_right _ ha) O' F₅ |>.run (fun _ _ => False)) (fun fl s' h' => ?_) fun _ _ f => f.elim
    have stF : ∀ {s' : Shared}, Chg W s₅ s' → St (i + 1) s'.heap := fun c => WK.frame _ _ _ hst' fun b hb o e => (S₅.trans c).get (fun q => hfpH b hb (O.WH b q)) e
    cases fl with
    | next =>
      obtain ⟨c, hC', F'⟩ := h'
      exact ⟨ds.length - (i + 1), by omega, i + 1, rfl, hlt', hC', S₄.trans (S₅.trans c), T₄.trans ((S₅.trans c).more fun a ha => List.mem_append_left _ ha), stF c, F'⟩
    | cont =>
      obtain ⟨c, hC', F'⟩ := h'
      exact ⟨ds.length - (i + 1), by omega, i + 1, rfl, hlt', hC', S₄.trans (S₅.trans c), T₄.trans ((S₅.trans c).more fun a ha => List.mem_append_left _ ha), stF c, F'⟩
    | brk =>
      obtain ⟨c, hC', F'⟩ := h'
      exact (kb i s' hlt' hC' (S₄.trans (S₅.trans c)) (F'.show fun a ha => List.mem_append_right _ ha)).run E
    | ret v =>
      obtain ⟨c, r⟩ := h'
      exact kr v s' (S₄.trans (S₅.trans c)) r
  · have hi : i = ds.length := by omega
    subst hi
    refine WK.done s₃ _ _ hst₃ fun h' tk kk => wpAny_execs_nil ((k _ hC (chgS h' tk kk) ?_).run E)
    have mv : ∀ {d v}, Rd s₃.heap (wr ++ H) d v → Rd h' H d v := fun r => Rd.move (fun b o hb e => ⟨kk b o (fun q => hb (List.mem_append_left _ q)) e, fun q => hb (List.mem_append_right _ q)⟩) _ _ r
    refine ⟨fun b o e => kk b o (fun q => by rw [h0wr b q] at e; cases e) (F₃.base b o e), ?_, fun y c e => ?_, fun p hp => (F₃.owns p hp).mv (fun _ _ r => mv r) (fun o e => kk _ _ (hoW _ p hp) e), fun a ha => let ⟨o, e⟩ := F₃.ex a (List.mem_append_right _ ha); ⟨o, kk a o (hne a ha) e⟩⟩
    · obtain ⟨m, hn, hm⟩ := F₃.locs
      exact ⟨m, hn.at' fun o e => kk _ o (hne _ (O.WH _ O.loc)) e, fun y d e hk => let ⟨v, e1, r1⟩ := hm y d e hk; ⟨v, e1, mv r1⟩⟩
    · obtain ⟨cv, ⟨o, e1, e2⟩, hd⟩ := F₃.cells y c e
      exact ⟨cv, ⟨o, kk c o (hne _ (O.WH _ (O.cell y c e).1)) e1, e2⟩, fun d e' hk => let ⟨v, e3, r1⟩ := hd d e' hk; ⟨v, e3, mv r1⟩⟩
theorem x_for {x : Str} {px pos : Pos} {iter : Expr} {body : List Stmt} {ds : List Dt} {dsrc : Dt} (pmO : Nat → List (Str × Dt)) (ownO : Nat → List (Addr × Ow)) (C Cb : Nat → Prop) (Rr : Value → Shared → Prop) (N : Nm env nm) (O : FOk h₀ W env H oa) (S : Chg W s₀ s) (F : FSt h₀ env H (ownO 0) (pmO 0) s) (h0 : C 0)
    (hi : Ev prog w A (fs h₀ env H (ownO 0) (pmO 0)) H env iter dsrc) (src : It prog w A H dsrc ds) (hl : nm.lookup x = some .local)
    (hb : ∀ i d s₁ H', ds[i]? = some d → C i → (∀ a ∈ H, a ∈ H') → FOk h₀ W env H' oa → FSt h₀ env H' (ownO i) ((x, d) :: pmO i) s₁ → Ex prog w A body env (fun fl s' => Chg W s₁ s' ∧ (match fl with
      | .next => C (i + 1) ∧ FSt h₀ env H' (ownO (i + 1)) (pmO (i + 1)) s'
      | .cont => C (i + 1) ∧ FSt h₀ env H' (ownO (i + 1)) (pmO (i + 1)) s'
      | .brk => Cb i ∧ FSt h₀ env H' (ownO i) (pmO i) s'
      | .ret v => Rr v s')) s₁)
    (kr : ∀ v s', Chg W s₀ s' → Rr v s' → Q (.ret v) s')
    (kb : ∀ i s', i < ds.length → Cb i → Chg W s₀ s' → FSt h₀ env H (ownO i) (pmO i) s' → Ex prog w A rest env Q s')
    (k : ∀ s', C ds.length → Chg W s₀ s' → FSt h₀ env H (ownO ds.length) (pmO ds.length) s' → Ex prog w A rest env Q s')
    (hoa : ∀ i, (ownO i).map (·.1) = oa := by intro _; rfl) (hs : ∀ x, foldedSetIterable iter env x = pure x := by intro _; rfl) :
    Ex prog w A (.For (.Name x px) iter body [] pos :: rest) env Q s :=
  x_forS pmO ownO C Cb Rr N O S F h0 hi src (sto_local N hl) hb kr kb k hoa hs
end
end

section

noncomputable def RdB (h : Heap) (H : List Addr) : List (Str × Value) → List (Str × Dt) → Prop
  | [], ps => ps = []
  | (x, v) :: bs, ps => ∃ d r, ps = (x, d) :: r ∧ Rd h H d v ∧ RdB h H bs r
theorem RdB.look {h : Heap} {H : List Addr} : ∀ {bs : List (Str × Value)} {ps : List (Str × Dt)}, RdB h H bs ps → ∀ {x : Str} {d : Dt}, ps.lookup x = some d → ∃ v, bs.lookup x = some v ∧ Rd h H d v
  | [], _, r, x, d, e => by subst r; cases e
  | (y, v) :: bs, _, r, x, d, e => by
    obtain ⟨d', r', rfl, r1, r2⟩ := r
    rw [List.lookup_cons] at e ⊢
    cases hb : x == y with
    | true => rw [hb] at e; cases e; exact ⟨v, rfl, r1⟩
    | false => rw [hb] at e; exact RdB.look r2 e
theorem rdb_nil {h : Heap} {H : List Addr} : RdB h H [] [] := rfl
theorem rdb_cons {h : Heap} {H : List Addr} {x : Str} {v : Value} {d : Dt} {bs : List (Str × Value)} {ps : List (Str × Dt)} (r : Rd h H d v) (q : RdB h H bs ps) : RdB h H ((x, v) :: bs) ((x, d) :: ps) := ⟨d, ps, rfl, r, q⟩

noncomputable def Post (R : Result → Shared → Prop) : Flow → Shared → Prop := fun f s' => R (.ok (.ret (match f with | .ret v => v | _ => .none))) s'

section
variable {prog : Program} {w : World} {A : Around} {h₀ : Heap} {s : Shared} {H : List Addr} {own : List (Addr × Ow)} {oa : List Addr} {mg mb : Str → Option Value}

theorem call_fn {n : Nat} {R : Result → Shared → Prop} {fd : FuncData} {f : Addr} {oc : Value} {od : Option Addr} {osl : Array (Option Value)} {args : Args} {binds : List (Str × Value)} {body : List Stmt} (pm : List (Str × Dt))
    (Rm : Room A n) (B : Base w mg mb h₀) (hb : ∀ b o, h₀.get? b = some o → s.heap.get? b = some o) (h0 : ∀ a ∈ H, h₀.get? a = none) (hx : ∀ a ∈ H, ∃ o, s.heap.get? a = some o)
    (hl : (hd.heap_39 w.params).lookup f = some ⟨oc, od, .func fd, osl⟩) (hcd : codeIn (hd.heap_39 w.params) fd.code fd.qualname = true) (hbody : fd.body = .stmts body) (hge : fd.globals = mainGlobals) (hclo : fd.closure = []) (hbe : fd.builtins = builtinsNs)
    (hbind : ∀ S, peek (hd.heap_39 w.params) S (bindArgs fd args) = some binds) (hcell : (fd.scope.names.all fun x => decide (x.2 ≠ .cell)) = true) (hloc : (binds.all fun x => decide (fd.scope.names.lookup x.1 = some .local)) = true)
    (hown : ∀ p ∈ own, OwAt s.heap H p.1 p.2) (hoH : ∀ a ∈ oa, a ∈ H) (hoA : oa.Pairwise fun p q => p ≠ q) (hoe : own.map (·.1) = oa)
    (hpm : RdB s.heap H binds.reverse pm)
    (k : ∀ env s₁ L, Nm env fd.scope.names → env.locals = L → s.heap.get? L = none → FOk h₀ (L :: oa) env (L :: H) oa → FSt h₀ env (L :: H) own pm s₁ → Chg [] s s₁ → binds.length ≤ s₁.toks →
      Ex prog w (A.deeper env) body env (Post R) s₁)
    (hco : fd.scope.isCoroutine = false) (hgen : fd.scope.isGenerator = false) (hk : fd.scope.kind = .function) : codeAny (model prog w) A (.call (.ref f) args) R s := by
  have X := B.X.keeps hb
  refine codeAny_call_def (fd := fd) (body := body) (binds := binds) Rm.lt (X _ _ hl) rfl (B.nolimit.keeps hb) (codeRec_of X hcd) hbody (kp_binds X hbind) (fun x hx => of_decide_eq_true (List.all_eq_true.mp hcell x hx)) (locs hloc) (fun h₁ hns hk₁ => ?_) hco hgen hk
  have hL : s.heap.get? s.heap.objs.size = none := get_size _
  have LH : s.heap.objs.size ∉ H := fun q => by obtain ⟨o, e⟩ := hx _ q; rw [hL] at e; cases e
  have h0L : h₀.get? s.heap.objs.size = none := by
    cases q : h₀.get? s.heap.objs.size with
    | none => rfl
    | some o => rw [hb _ _ q] at hL; cases hL
  have mv : ∀ {d v}, Rd s.heap H d v → Rd h₁ (s.heap.objs.size :: H) d v := fun r => Rd.move (fun b o hb' e => ⟨hk₁ b o e, fun q => (List.mem_cons.mp q).elim (fun z => by rw [z, hL] at e; cases e) hb'⟩) _ _ r
  refine wpAny_mono ((k (callEnv fd s.heap.objs.size f) { s with heap := h₁, toks := s.toks + binds.length } s.heap.objs.size ⟨rfl, hk, hge, hbe⟩ rfl hL ⟨fun a ha => ?_, fun a ha => ?_, .head _, fun x c e => ?_, fun x y c e => ?_, fun a ha => ?_, hoA⟩
    ⟨fun b o e => hk₁ b o (hb b o e), ⟨_, hns, fun x d e _ => ?_⟩, fun x c e => ?_, fun p hp => (hown p hp).mv (fun _ _ r => mv r) (fun o e => hk₁ _ _ e), fun a ha => ?_⟩ ⟨h₁, _, rfl, fun b o _ e => hk₁ b o e⟩ (Nat.le_add_left _ _)).run (fun _ _ => False)) (fun _ _ x => x) fun _ _ x => x.elim
  · rcases List.mem_cons.mp ha with rfl | ha
    · exact h0L
    · exact h0 a ha
  · rcases List.mem_cons.mp ha with rfl | ha
    · exact .head _
    · exact .tail _ (hoH a ha)
  · rw [show (callEnv fd s.heap.objs.size f).cells = [] from hclo] at e; cases e
  · rw [show (callEnv fd s.heap.objs.size f).cells = [] from hclo] at e; cases e
  · refine ⟨.tail _ ha, fun q => LH (by have q2 : a = s.heap.objs.size := q; rw [← q2]; exact hoH a ha), fun x c e => ?_⟩
    rw [show (callEnv fd s.heap.objs.size f).cells = [] from hclo] at e; cases e
  · obtain ⟨v, e1, r⟩ := hpm.look e
    exact ⟨v, e1, mv r⟩
  · rw [show (callEnv fd s.heap.objs.size f).cells = [] from hclo] at e; cases e
  · rcases List.mem_cons.mp ha with rfl | ha
    · obtain ⟨o, _, _, e, _⟩ := hns; exact ⟨o, e⟩
    · obtain ⟨o, e⟩ := hx a ha; exact ⟨o, hk₁ a o e⟩
end
end

section
section
variable {prog : Program} {w : World} {A : Around} {Φ : Sp} {H : List Addr} {env : Env} {l r : Expr} {pos : Pos} {a b : Int} {x y : Str}

theorem ev_add (h₁ : Ev prog w A Φ H env l (.int a)) (h₂ : Ev prog w A Φ H env r (.int b)) : Ev prog w A Φ H env (.BinOp l .Add r pos) (.int (a + b)) :=
  ev_bin h₁ h₂ fun s v₁ v₂ _ ⟨t, e₁⟩ ⟨u, e₂⟩ Q E q => by subst e₁; subst e₂; exact P.add_int (q _ _ (keepsTok s _) ⟨_, rfl⟩)
theorem ev_sub (h₁ : Ev prog w A Φ H env l (.int a)) (h₂ : Ev prog w A Φ H env r (.int b)) : Ev prog w A Φ H env (.BinOp l .Sub r pos) (.int (a - b)) :=
  ev_bin h₁ h₂ fun s v₁ v₂ _ ⟨t, e₁⟩ ⟨u, e₂⟩ Q E q => by subst e₁; subst e₂; exact P.sub_int (q _ _ (keepsTok s _) ⟨_, rfl⟩)
theorem ev_mul (h₁ : Ev prog w A Φ H env l (.int a)) (h₂ : Ev prog w A Φ H env r (.int b)) (ha : a.natAbs < 2 ^ 60) : Ev prog w A Φ H env (.BinOp l .Mult r pos) (.int (a * b)) :=
  ev_bin h₁ h₂ fun s v₁ v₂ _ ⟨t, e₁⟩ ⟨u, e₂⟩ Q E q => by
    subst e₁; subst e₂
    exact P.mul_int (q _ _ (keepsTok s _) ⟨_, rfl⟩) (IntMulOk.of_left (intBits_le_64 (by omega) (by omega)))
theorem ev_fdiv (h₁ : Ev prog w A Φ H env l (.int a)) (h₂ : Ev prog w A Φ H env r (.int b)) (h0 : 0 < b) (hs : b < 1000000000) : Ev prog w A Φ H env (.BinOp l .FloorDiv r pos) (.int (a / b)) :=
  ev_bin h₁ h₂ fun s v₁ v₂ _ ⟨t, e₁⟩ ⟨u, e₂⟩ Q E q => by
    subst e₁; subst e₂
    refine floordiv_int (by omega) ?_ (.inl (PyProof.noPylong_small (by omega)))
    rw [Int.fdiv_eq_ediv_of_nonneg _ (by omega)]
    exact q _ _ (keepsTok s _) ⟨_, rfl⟩
theorem ev_mod (h₁ : Ev prog w A Φ H env l (.int a)) (h₂ : Ev prog w A Φ H env r (.int b)) (h0 : 0 < b) : Ev prog w A Φ H env (.BinOp l .Mod r pos) (.int (a % b)) :=
  ev_bin h₁ h₂ fun s v₁ v₂ _ ⟨t, e₁⟩ ⟨u, e₂⟩ Q E q => by
    subst e₁; subst e₂
    refine mod_int' (by omega) ?_
    rw [Int.fmod_eq_emod_of_nonneg _ (by omega)]
    exact q _ _ (keepsTok s _) ⟨_, rfl⟩
theorem ev_pow (h₁ : Ev prog w A Φ H env l (.int a)) (h₂ : Ev prog w A Φ H env r (.int b)) (h0 : 0 ≤ b) (h1 : b ≤ 1000000) (h2 : a.natAbs < 2 ^ 64) : Ev prog w A Φ H env (.BinOp l .Pow r pos) (.int (a ^ b.toNat)) :=
  ev_bin h₁ h₂ fun s v₁ v₂ _ ⟨t, e₁⟩ ⟨u, e₂⟩ Q E q => by
    subst e₁; subst e₂
    exact pow_int_small h0 h1 h2 (q _ _ (keepsTok s _) ⟨_, rfl⟩)

theorem cmp_lt : Cmp prog w A Φ H .Lt (.int a) (.int b) (decide (a < b)) := ⟨fun s v₁ v₂ _ ⟨t, e₁⟩ ⟨u, e₂⟩ Q E q => by
  subst e₁; subst e₂; exact P.lt_int (q _ _ (keepsRefl s) rfl)⟩
theorem cmp_le : Cmp prog w A Φ H .LtE (.int a) (.int b) (decide (a ≤ b)) := ⟨fun s v₁ v₂ _ ⟨t, e₁⟩ ⟨u, e₂⟩ Q E q => by
  subst e₁; subst e₂; exact P.le_int (q _ _ (keepsRefl s) rfl)⟩
theorem cmp_gt : Cmp prog w A Φ H .Gt (.int a) (.int b) (decide (a > b)) := ⟨fun s v₁ v₂ _ ⟨t, e₁⟩ ⟨u, e₂⟩ Q E q => by
  subst e₁; subst e₂; exact P.gt_int (q _ _ (keepsRefl s) rfl)⟩
theorem cmp_ge : Cmp prog w A Φ H .GtE (.int a) (.int b) (decide (a ≥ b)) := ⟨fun s v₁ v₂ _ ⟨t, e₁⟩ ⟨u, e₂⟩ Q E q => by
  subst e₁; subst e₂; exact P.ge_int (q _ _ (keepsRefl s) rfl)⟩
theorem cmp_eq : Cmp prog w A Φ H .Eq (.int a) (.int b) (a == b) := ⟨fun s v₁ v₂ _ ⟨t, e₁⟩ ⟨u, e₂⟩ Q E q => by
  subst e₁; subst e₂; exact P.eq_int (q _ _ (keepsRefl s) rfl)⟩
theorem cmp_eq_str : Cmp prog w A Φ H .Eq (.str x) (.str y) (x == y) := ⟨fun s v₁ v₂ _ ⟨t, e₁⟩ ⟨u, e₂⟩ Q E q => by
  subst e₁; subst e₂; exact PyProof.Rows.eq_str (q _ _ (keepsRefl s) rfl)⟩
theorem cmp_lt_str : Cmp prog w A Φ H .Lt (.str x) (.str y) (decide (x.cps.toList < y.cps.toList)) := ⟨fun s v₁ v₂ _ ⟨t, e₁⟩ ⟨u, e₂⟩ Q E q => by
  subst e₁; subst e₂; exact P.lt_str (q _ _ (keepsRefl s) rfl)⟩
noncomputable def Dt.isNone : Dt → Bool
  | .none => true
  | .val v => v == .none
  | _ => false
theorem cmp_is_none {d : Dt} : Cmp prog w A Φ H .Is d .none d.isNone := ⟨fun s v₁ v₂ _ r₁ r₂ Q E q => by
  obtain rfl : v₂ = .none := r₂
  refine is_none ?_
  have : (v₁ == Value.none) = d.isNone := by
    cases d with
    | none => rw [show v₁ = .none from r₁]; rfl
    | val v => rw [show v₁ = v from r₁]; rfl
    | bool b => rw [show v₁ = .bool b from r₁]; rfl
    | int i => obtain ⟨t, rfl⟩ := r₁; rfl
    | str i => obtain ⟨t, rfl⟩ := r₁; rfl
    | tup xs => obtain ⟨a, vs, n, rfl, _⟩ := r₁; rfl
    | list xs => obtain ⟨a, vs, n, rfl, _⟩ := r₁; rfl
    | obj c fs => obtain ⟨a, vs, n, rfl, _⟩ := r₁; rfl
    | rng a b c => obtain ⟨a, vs, n, x, rfl, _⟩ := r₁; rfl
    | code q => obtain ⟨a, vs, n, x, rfl, _⟩ := r₁; rfl
    | lax xs => obtain ⟨a, vs, rfl, _⟩ := r₁; rfl
  rw [this]
  exact q _ _ (keepsRefl s) rfl⟩
theorem cmp_is_bool {b c : Bool} : Cmp prog w A Φ H .Is (.bool b) (.bool c) (b == c) := ⟨fun s v₁ v₂ _ r₁ r₂ Q E q => by
  obtain rfl : v₁ = .bool b := r₁
  obtain rfl : v₂ = .bool c := r₂
  refine wpAny_is_plain (by cases b <;> cases c <;> rfl) ?_
  rw [show (Value.bool b == Value.bool c) = (b == c) by cases b <;> cases c <;> rfl]
  exact q _ _ (keepsRefl s) rfl⟩
theorem cmp_isnot_bool {b c : Bool} : Cmp prog w A Φ H .IsNot (.bool b) (.bool c) (b != c) := ⟨fun s v₁ v₂ _ r₁ r₂ Q E q => by
  obtain rfl : v₁ = .bool b := r₁
  obtain rfl : v₂ = .bool c := r₂
  refine wpAny_isNot_plain (by cases b <;> cases c <;> rfl) ?_
  rw [show (!(Value.bool b == Value.bool c)) = (b != c) by cases b <;> cases c <;> rfl]
  exact q _ _ (keepsRefl s) rfl⟩

theorem ev_add_str (h₁ : Ev prog w A Φ H env l (.str x)) (h₂ : Ev prog w A Φ H env r (.str y)) (hz : x.length + y.length ≤ 1000) : Ev prog w A Φ H env (.BinOp l .Add r pos) (.str (x ++ y)) :=
  ev_bin h₁ h₂ fun s v₁ v₂ _ ⟨t, e₁⟩ ⟨u, e₂⟩ Q E q => by
    subst e₁; subst e₂
    exact PyProof.Rows.add_str (fun t' k => q _ _ (keepsTok s _) ⟨_, rfl⟩) (by rw [sizeLine_eq]; omega)
end
end

section
section
variable {prog : Program} {w : World} {A : Around} {Φ : Sp} {H : List Addr} {env : Env} {pos : Pos} {ds : List Dt} {es : List Expr}
  {h₀ : Heap} {own : List (Addr × Ow)} {pm : List (Str × Dt)} {mg mb : Str → Option Value}

structure Hx (Φ : Sp) (H : List Addr) : Prop where
  ex : ∀ s, Φ.P s → ∀ a ∈ H, ∃ o, s.heap.get? a = some o
theorem hx_fs {H' : List Addr} (h : ∀ a ∈ H', a ∈ H) : Hx (fs h₀ env H own pm) H' := ⟨fun s F a ha => F.ex a (h a ha)⟩
theorem Hx.new {s s' : Shared} (X : Hx Φ H) (hs : Φ.P s) (k : Keeps s s') : s'.heap.objs.size ∉ H := fun q => by
  obtain ⟨o, e⟩ := X.ex s hs _ q
  have e' := keepsHeap k _ _ e
  rw [get_size] at e'; cases e'

theorem gv_newTuple {s s₀ : Shared} {vs : List Value} (X : Hx Φ H) (hs : Φ.P s₀) (k : Keeps s₀ s) (r : RdAll s.heap H ds vs) (hz : ds.length ≤ 1000) : Gv prog w A H (newTuple vs) s (.tup ds) := fun Q E q => by
  refine wpAny_newTuple (q _ _ (keepsPush' s _) ⟨_, vs, 0, rfl, X.new hs k, Heap.get?_push_size _ rfl, r.keeps (keepsHeap (keepsPush' s _))⟩) ?_
  rw [r.length, sizeLine_eq]; omega
theorem gv_newList {s s₀ : Shared} {vs : List Value} (X : Hx Φ H) (hs : Φ.P s₀) (k : Keeps s₀ s) (r : RdAll s.heap H ds vs) (hz : ds.length ≤ 1000) : Gv prog w A H (newList vs) s (.list ds) := fun Q E q => by
  refine wpAny_newList (q _ _ (keepsPush' s _) ⟨_, vs, 0, rfl, X.new hs k, Heap.get?_push_size _ rfl, r.keeps (keepsHeap (keepsPush' s _))⟩) ?_
  rw [r.length, sizeLine_eq]; omega

theorem ev_tuple {k : Nat} (X : Hx Φ H) (h : Evs prog w A Φ H env es ds) (hz : ds.length ≤ 1000) : Ev prog w A Φ H env (.Tuple es k pos) (.tup ds) := ⟨fun s hs Q E q =>
  Tuple_ (h.run s pos hs _ _ fun vs s₁ k₁ r₁ => gv_newTuple X hs k₁ r₁ hz _ _ fun v s₂ k₂ r₂ => q v s₂ (keepsTrans k₁ k₂) r₂)⟩
theorem ev_list (X : Hx Φ H) (h : Evs prog w A Φ H env es ds) (hz : ds.length ≤ 1000) : Ev prog w A Φ H env (.List es pos) (.list ds) := ⟨fun s hs Q E q =>
  List_ (h.run s pos hs _ _ fun vs s₁ k₁ r₁ => gv_newList X hs k₁ r₁ hz _ _ fun v s₂ k₂ r₂ => q v s₂ (keepsTrans k₁ k₂) r₂)⟩

structure Itm (prog : Program) (w : World) (A : Around) (Φ : Sp) (H : List Addr) (d₁ d₂ d : Dt) : Prop where
  run : ∀ s v₁ v₂ value slice, Φ.P s → Rd s.heap H d₁ v₁ → Rd s.heap H d₂ v₂ → (∀ i, subscripted slice false v₁ i = operate [v₁, i] (getItem v₁ i)) → Gv prog w A H (subscriptTail value slice v₁ v₂) s d
theorem ev_sub_ {value slice : Expr} {d₁ d₂ d : Dt} (h₁ : Ev prog w A Φ H env value d₁) (h₂ : Ev prog w A Φ H env slice d₂) (o : Itm prog w A Φ H d₁ d₂ d)
    (hsl : ∀ v i, subscripted slice false v i = operate [v, i] (getItem v i) := by intro _ _; rfl) : Ev prog w A Φ H env (.Subscript value slice pos) d := ⟨fun s hs Q E q =>
  Subscript_ (h₁.run s hs _ _ fun v₁ s₁ k₁ r₁ => h₂.run s₁ (Φ.st _ _ hs k₁) _ _ fun v₂ s₂ k₂ r₂ =>
    o.run s₂ v₁ v₂ value slice (Φ.st _ _ hs (keepsTrans k₁ k₂)) (r₁.keeps (keepsHeap k₂)) r₂ (fun i => hsl _ _) _ _ fun v s₃ k₃ r₃ => q v s₃ (keepsTrans (keepsTrans k₁ k₂) k₃) r₃)⟩

theorem itm_list {k : Int} {d : Dt} (h0 : 0 ≤ k) (hk : ds[k.toNat]? = some d) (hz : k < 2 ^ 60) : Itm prog w A Φ H (.list ds) (.int k) d := ⟨fun s v₁ v₂ value slice hs r₁ r₂ hsl Q E q => by
  obtain ⟨a, vs, n, rfl, ha, hl, r⟩ := r₁
  obtain ⟨t, rfl⟩ := r₂
  obtain ⟨v, e, rv⟩ := r.get hk
  have hl' : s.heap.IsList a vs.toArray := ⟨_, hl, rfl, _, rfl⟩
  exact tail_any hl'.typeIs slot_list_getitem.lookup (wpAny_getItem_list hl' h0 (by omega) (by simpa using e) (q v s (keepsRefl s) rv)) (hsl _)⟩
theorem itm_list_last {d : Dt} (hk : ds.getLast? = some d) (hz : ds.length ≤ 1000) : Itm prog w A Φ H (.list ds) (.int (-1)) d := ⟨fun s v₁ v₂ value slice hs r₁ r₂ hsl Q E q => by
  obtain ⟨a, vs, n, rfl, ha, hl, r⟩ := r₁
  obtain ⟨t, rfl⟩ := r₂
  have hpos : 0 < ds.length := by cases ds with | nil => cases hk | cons _ _ => simp
  obtain ⟨v, e, rv⟩ := r.get (i := ds.length - 1) (d := d) (by rw [← List.getLast?_eq_getElem?]; exact hk)
  have hl' : s.heap.IsList a vs.toArray := ⟨_, hl, rfl, _, rfl⟩
  have hlen := r.length
  refine tail_any hl'.typeIs slot_list_getitem.lookup (wpAny_getItem_list_neg hl' (by omega) (by rw [List.size_toArray]; omega) (by decide) (x := v) ?_ (q v s (keepsRefl s) rv)) (hsl _)
  rw [List.size_toArray, hlen, List.getElem?_toArray, show (-1 + (ds.length : Int)).toNat = ds.length - 1 by omega]
  exact e⟩
theorem itm_tup {k : Int} {d : Dt} (h0 : 0 ≤ k) (hk : ds[k.toNat]? = some d) (hz : k < 2 ^ 60) : Itm prog w A Φ H (.tup ds) (.int k) d := ⟨fun s v₁ v₂ value slice hs r₁ r₂ hsl Q E q => by
  obtain ⟨a, vs, n, rfl, ha, hl, r⟩ := r₁
  obtain ⟨t, rfl⟩ := r₂
  obtain ⟨v, e, rv⟩ := r.get hk
  have hlt : k.toNat < vs.length := (List.getElem?_eq_some_iff.mp e).1
  refine tail_any (T := "tuple") ⟨_, hl, rfl⟩ slot_tuple_getitem.lookup (P.getItem_tuple hl (k := k.toNat) (by omega) (by omega) ?_ (by simpa using e) (q v s (keepsRefl s) rv)) (hsl _)
  unfold seqIndex?
  rw [List.size_toArray, if_neg (show ¬ k < 0 by omega), if_pos (by simp; omega)]⟩
theorem itm_str {x : Str} {k : Int} {c : Nat} (h0 : 0 ≤ k) (hk : x.cps.toList[k.toNat]? = some c) (hz : k < 2 ^ 60) : Itm prog w A Φ H (.str x) (.int k) (.str ⟨#[c]⟩) := ⟨fun s v₁ v₂ value slice hs r₁ r₂ hsl Q E q => by
  obtain ⟨t, rfl⟩ := r₁
  obtain ⟨u, rfl⟩ := r₂
  have hlt : k.toNat < x.cps.size := by have := (List.getElem?_eq_some_iff.mp hk).1; rwa [Array.length_toList] at this
  refine tail_any (T := "str") ?_ slot_str_getitem.lookup (P.getItem_str (c := c) (by simp; omega) ?_ (q _ _ (keepsTok s _) ⟨_, rfl⟩)) (hsl _)
  · exact rfl
  · unfold seqIndex?
    rw [if_neg (show ¬ k < 0 by omega), if_pos (by rw [Bool.and_eq_true]; exact ⟨decide_eq_true h0, decide_eq_true (by show k < (x.cps.size : Int); omega)⟩)]
    rw [Array.getElem?_toList] at hk
    exact hk⟩

theorem RdAll.drop {h : Heap} : ∀ {ds : List Dt} {vs : List Value} (k : Nat), RdAll h H ds vs → RdAll h H (ds.drop k) (vs.drop k)
  | ds, vs, 0, r => r
  | [], vs, k + 1, r => by subst r; exact rfl
  | d :: ds, vs, k + 1, r => by obtain ⟨v, rest, rfl, _, r2⟩ := r; exact RdAll.drop k r2
theorem RdAll.take {h : Heap} : ∀ {ds : List Dt} {vs : List Value} (k : Nat), RdAll h H ds vs → RdAll h H (ds.take k) (vs.take k)
  | ds, vs, 0, r => by simp only [List.take_zero]; exact rfl
  | [], vs, k + 1, r => by subst r; exact rfl
  | d :: ds, vs, k + 1, r => by obtain ⟨v, rest, rfl, r1, r2⟩ := r; exact ⟨v, rest.take k, rfl, r1, RdAll.take k r2⟩
theorem RdAll.rev {h : Heap} : ∀ {ds : List Dt} {vs : List Value}, RdAll h H ds vs → RdAll h H ds.reverse vs.reverse
  | [], vs, r => by subst r; exact rfl
  | d :: ds, vs, r => by
    obtain ⟨v, rest, rfl, r1, r2⟩ := r
    rw [List.reverse_cons, List.reverse_cons]
    exact RdAll.append (RdAll.rev r2) ⟨v, [], rfl, r1, rfl⟩

structure EvP (prog : Program) (w : World) (A : Around) (Φ : Sp) (env : Env) (e : Option Expr) (k : Option Int) : Prop where
  run : ∀ s, Φ.P s → ∀ (Q : Value → Shared → Prop) (E : Value → Shared → Prop), (∀ v s', Keeps s s' → IsPart v k → Q v s') → wpAny (model prog w) A (evalPart e env) Q E s
theorem evp_none : EvP prog w A Φ env none none := ⟨fun s _ Q E q => wpAny_pure (q _ _ (keepsRefl s) .none)⟩
theorem evp_some {e : Expr} {k : Int} (h : Ev prog w A Φ H env e (.int k)) : EvP prog w A Φ env (some e) (some k) := ⟨fun s hs Q E q => h.run s hs _ _ fun v s₁ k₁ ⟨t, e⟩ => by subst e; exact q _ _ k₁ (.int _ _)⟩

theorem ev_slice {value : Expr} {lo up st : Option Expr} {l u p : Option Int} {pp : Pos} {es : List Dt} (f : List Value → List Value) (X : Hx Φ H) (hv : Ev prog w A Φ H env value (.list ds)) (hl : EvP prog w A Φ env lo l) (hu : EvP prog w A Φ env up u) (hst : EvP prog w A Φ env st p)
    (hp : p ≠ some 0) (hf : ∀ vs : List Value, vs.length = ds.length → (slicePick vs.toArray l u p).toList = f vs) (hr : ∀ h vs, RdAll h H ds vs → RdAll h H es (f vs)) (hz : ds.length ≤ 1000) :
    Ev prog w A Φ H env (.Subscript value (.Slice lo up st pp) pos) (.list es) := ⟨fun s hs Q E q => by
  refine Subscript_ (hv.run s hs _ _ fun v s₁ k₁ r₁ => wpAny_Slice (hl.run s₁ (Φ.st _ _ hs k₁) _ _ fun vl s₂ k₂ p₂ => hu.run s₂ (Φ.st _ _ hs (keepsTrans k₁ k₂)) _ _ fun vu s₃ k₃ p₃ => hst.run s₃ (Φ.st _ _ hs (keepsTrans (keepsTrans k₁ k₂) k₃)) _ _ fun vp s₄ k₄ p₄ => ?_))
  have k14 := keepsTrans (keepsTrans k₂ k₃) k₄
  have k5 := keepsPush' s₄ { cls := .type "slice", data := .fields #[vl, vu, vp] }
  have r₅ := r₁.keeps (keepsHeap (keepsTrans k14 k5))
  obtain ⟨a, vs, n, rfl, ha, hls, r⟩ := r₅
  have hl' : Heap.IsList (s₄.heap.push { cls := .type "slice", data := .fields #[vl, vu, vp] }) a vs.toArray := ⟨_, hls, rfl, _, rfl⟩
  have k15 := keepsTrans (keepsTrans k₁ k14) k5
  refine tail_any (s := { s₄ with heap := s₄.heap.push { cls := .type "slice", data := .fields #[vl, vu, vp] } }) (T := "list") (id := "list.__getitem__") ⟨_, hls, rfl⟩ slot_list_getitem.lookup (wpAny_getItem_list_slice hl' (Heap.IsSliceOf.new _ _ _ _) p₂ p₃ p₄ hp ?_ ?_) (ops := match st with | none => [Value.ref s₄.heap.objs.size, Value.ref a] | some _ => [Value.ref a, Value.ref s₄.heap.objs.size]) ?_
  · refine q _ _ (keepsTrans k15 (keepsPush' _ _)) ⟨_, f vs, 0, rfl, X.new hs k15, ?_, (hr _ _ r).keeps (keepsHeap (keepsPush' _ _))⟩
    rw [← hf vs r.length]
    exact Heap.get?_push_size _ rfl
  · rw [List.size_toArray, r.length, sizeLine_eq]; omega
  · cases st <;> rfl⟩
theorem ev_slice_from {value lo : Expr} {k : Nat} {pp : Pos} (X : Hx Φ H) (hv : Ev prog w A Φ H env value (.list ds)) (hl : Ev prog w A Φ H env lo (.int k)) (hz : ds.length ≤ 1000) :
    Ev prog w A Φ H env (.Subscript value (.Slice (some lo) none none pp) pos) (.list (ds.drop k)) :=
  ev_slice (fun vs => vs.drop k) X hv (evp_some hl) evp_none evp_none (fun h => nomatch h) (fun vs _ => by rw [slicePick_from']) (fun h vs r => r.drop k) hz
theorem ev_slice_upto {value up : Expr} {k : Nat} {pp : Pos} (X : Hx Φ H) (hv : Ev prog w A Φ H env value (.list ds)) (hu : Ev prog w A Φ H env up (.int k)) (hz : ds.length ≤ 1000) :
    Ev prog w A Φ H env (.Subscript value (.Slice none (some up) none pp) pos) (.list (ds.take k)) :=
  ev_slice (fun vs => vs.take k) X hv evp_none (evp_some hu) evp_none (fun h => nomatch h) (fun vs _ => by rw [slicePick_upto']) (fun h vs r => r.take k) hz
theorem ev_slice_run {value lo up : Expr} {a b : Nat} {pp : Pos} (X : Hx Φ H) (hv : Ev prog w A Φ H env value (.list ds)) (hl : Ev prog w A Φ H env lo (.int a)) (hu : Ev prog w A Φ H env up (.int b)) (hab : a ≤ b) (hb : b ≤ ds.length) (hz : ds.length ≤ 1000) :
    Ev prog w A Φ H env (.Subscript value (.Slice (some lo) (some up) none pp) pos) (.list ((ds.drop a).take (b - a))) :=
  ev_slice (fun vs => (vs.drop a).take (b - a)) X hv (evp_some hl) (evp_some hu) evp_none (fun h => nomatch h) (fun vs e => by rw [slicePick_run _ _ _ (by rw [List.size_toArray]; omega) hab]) (fun h vs r => (r.drop a).take _) hz
theorem ev_slice_butLast {value up : Expr} {pp : Pos} (X : Hx Φ H) (hv : Ev prog w A Φ H env value (.list ds)) (hu : Ev prog w A Φ H env up (.int (-1))) (hz : ds.length ≤ 1000) :
    Ev prog w A Φ H env (.Subscript value (.Slice none (some up) none pp) pos) (.list (ds.take (ds.length - 1))) :=
  ev_slice (fun vs => vs.take (ds.length - 1)) X hv evp_none (evp_some hu) evp_none (fun h => nomatch h) (fun vs e => by
    have := slicePick_butLast vs.toArray 1 (Nat.le_refl _)
    rw [show (-((1 : Nat) : Int)) = -1 from rfl] at this
    rw [this, List.size_toArray, e]) (fun h vs r => r.take _) hz
end
end

section
section
variable {prog : Program} {w : World} {A : Around} {Φ : Sp} {H : List Addr} {env : Env} {pos : Pos} {ds : List Dt} {d : Dt} {es : List Expr}
  {h₀ : Heap} {own : List (Addr × Ow)} {pm : List (Str × Dt)} {mg mb : Str → Option Value}

structure Cl (prog : Program) (w : World) (A : Around) (Φ : Sp) (H : List Addr) (f : Value) (ds : List Dt) (d : Dt) : Prop where
  run : ∀ s vs, Φ.P s → RdAll s.heap H ds vs → Gv prog w A H (call f vs) s d

theorem ev_call_b {func e : Expr} {id : String} (hf : Ev prog w A Φ H env func (.val (.builtin id))) (ha : Evs prog w A Φ H env (e :: es) ds) (o : Cl prog w A Φ H (.builtin id) ds d)
    (hc : eval (.Call func (e :: es) [] pos) env = (do callWith pos (← eval func env) [] (backTo pos (starEach (e :: es) env)) (backToKw pos (keywordEach [] env))) := by rfl)
    (he : starEach (e :: es) env = (false, eval e env) :: starEach es env := by rfl) (hp : (backTo pos (starEach es env)).any (·.1) = false := by rfl) : Ev prog w A Φ H env (.Call func (e :: es) [] pos) d := ⟨fun s hs Q E q =>
  Call_ (hf.run s hs _ _ fun f s₁ k₁ r₁ => by
    obtain rfl : f = .builtin id := r₁
    exact PyProof.Rows.callWith_builtin1 (ha.run s₁ pos (Φ.st _ _ hs k₁) _ _ fun vs s₂ k₂ r₂ => o.run s₂ vs (Φ.st _ _ hs (keepsTrans k₁ k₂)) r₂ _ _ fun v s₃ k₃ r₃ => q v s₃ (keepsTrans (keepsTrans k₁ k₂) k₃) r₃) he hp) hc⟩
theorem ev_call_t {func e : Expr} {T : String} (hf : Ev prog w A Φ H env func (.val (.type T))) (ha : Evs prog w A Φ H env (e :: es) ds) (o : Cl prog w A Φ H (.type T) ds d)
    (hc : eval (.Call func (e :: es) [] pos) env = (do callWith pos (← eval func env) [] (backTo pos (starEach (e :: es) env)) (backToKw pos (keywordEach [] env))) := by rfl)
    (he : starEach (e :: es) env = (false, eval e env) :: starEach es env := by rfl) (hp : (backTo pos (starEach es env)).any (·.1) = false := by rfl) : Ev prog w A Φ H env (.Call func (e :: es) [] pos) d := ⟨fun s hs Q E q =>
  Call_ (hf.run s hs _ _ fun f s₁ k₁ r₁ => by
    obtain rfl : f = .type T := r₁
    exact PyProof.Rows.callWith_type1 (ha.run s₁ pos (Φ.st _ _ hs k₁) _ _ fun vs s₂ k₂ r₂ => o.run s₂ vs (Φ.st _ _ hs (keepsTrans k₁ k₂)) r₂ _ _ fun v s₃ k₃ r₃ => q v s₃ (keepsTrans (keepsTrans k₁ k₂) k₃) r₃) he hp) hc⟩
structure Fa (Φ : Sp) (f : Addr) : Prop where
  at' : ∀ s, Φ.P s → FnAt f s.heap
theorem fa_fs {f : Addr} {oc : Value} {od : Option Addr} {fd : FuncData} {sl : Array (Option Value)} (B : Base w mg mb h₀) (hl : (hd.heap_39 w.params).lookup f = some ⟨oc, od, .func fd, sl⟩) : Fa (fs h₀ env H own pm) f :=
  ⟨fun s F => ⟨oc, od, fd, sl, F.base _ _ (B.X _ _ hl)⟩⟩
theorem ev_call_d {func e : Expr} {f : Addr} (fa : Fa Φ f) (hf : Ev prog w A Φ H env func (.val (.ref f))) (ha : Evs prog w A Φ H env (e :: es) ds) (o : Cl prog w A Φ H (.ref f) ds d)
    (hc : eval (.Call func (e :: es) [] pos) env = (do callWith pos (← eval func env) [] (backTo pos (starEach (e :: es) env)) (backToKw pos (keywordEach [] env))) := by rfl)
    (he : starEach (e :: es) env = (false, eval e env) :: starEach es env := by rfl) (hp : (backTo pos (starEach es env)).any (·.1) = false := by rfl) : Ev prog w A Φ H env (.Call func (e :: es) [] pos) d := ⟨fun s hs Q E q =>
  Call_ (hf.run s hs _ _ fun g s₁ k₁ r₁ => by
    obtain rfl : g = .ref f := r₁
    exact callWith_F (fa.at' _ (Φ.st _ _ hs k₁)) (ha.run s₁ pos (Φ.st _ _ hs k₁) _ _ fun vs s₂ k₂ r₂ => ⟨fa.at' _ (Φ.st _ _ hs (keepsTrans k₁ k₂)), o.run s₂ vs (Φ.st _ _ hs (keepsTrans k₁ k₂)) r₂ _ _ fun v s₃ k₃ r₃ => q v s₃ (keepsTrans (keepsTrans k₁ k₂) k₃) r₃⟩) he hp) hc⟩

structure Gm (prog : Program) (w : World) (A : Around) (Φ : Sp) (H : List Addr) (d₀ : Dt) (name : Str) (id : String) : Prop where
  run : ∀ s v pl (Q : Value × List Value → Shared → Prop) E, Φ.P s → Rd s.heap H d₀ v → Q (.builtin id, [v]) s → wpAny (model prog w) A (getMethod v name pl) Q E s
theorem gm_str {x : Str} {name : Str} {id : String} (sl : Slot "str" name id) (ty : typeOf (.builtin id) = pure (.type "method_descriptor")) : Gm prog w A Φ H (.str x) name id := ⟨fun s v pl Q E hs r q => by
  obtain ⟨t, rfl⟩ := r
  exact GM.of (.str x t) (typeIs_str _ _ _) sl ty (fun a e => nomatch e) q⟩
theorem noDict_of {h : Heap} {a : Addr} {vs : Array Value} {n : Nat} (hl : IsL h a vs n) : h.NoDictAt (.ref a) := by
  first
    | exact ⟨_, hl, rfl⟩
    | (intro b e; cases e; exact ⟨_, hl, rfl⟩)
    | (show ∃ o, h.get? a = some o ∧ o.dict = none; exact ⟨_, hl, rfl⟩)
theorem gm_list {name : Str} {id : String} (sl : Slot "list" name id) (ty : typeOf (.builtin id) = pure (.type "method_descriptor")) : Gm prog w A Φ H (.list ds) name id := ⟨fun s v pl Q E hs r q => by
  obtain ⟨a, vs, n, rfl, ha, hl, r⟩ := r
  exact getMethod_list_of sl ty ⟨_, hl, rfl, _, rfl⟩ (noDict_of hl) q⟩
theorem ev_meth {o e : Expr} {pl : Sem Bool} {apos : Pos} {name : Str} {id : String} {d₀ : Dt} (ho : Ev prog w A Φ H env o d₀) (gm : Gm prog w A Φ H d₀ name id) (ha : Evs prog w A Φ H env (e :: es) ds) (c : Cl prog w A Φ H (.builtin id) (d₀ :: ds) d)
    (hc : eval (.Call (.Attribute o name apos) (e :: es) [] pos) env = (do
      let ov ← eval o env
      standAt apos.atName
      let (f, first) ← holding [ov] (getMethod ov name pl)
      callWith pos f first (backTo pos (starEach (e :: es) env)) []) := by rfl)
    (he : starEach (e :: es) env = (false, eval e env) :: starEach es env := by rfl) (hp : (backTo pos (starEach es env)).any (·.1) = false := by rfl) : Ev prog w A Φ H env (.Call (.Attribute o name apos) (e :: es) [] pos) d := ⟨fun s hs Q E q => by
  refine MethodCall_ (pl := pl) (ho.run s hs _ _ fun v s₁ k₁ r₁ => gm.run s₁ v _ _ _ (Φ.st _ _ hs k₁) r₁ ?_) ?_
  · exact callWith_method1 (ha.run s₁ pos (Φ.st _ _ hs k₁) _ _ fun vs s₂ k₂ r₂ => c.run s₂ (v :: vs) (Φ.st _ _ hs (keepsTrans k₁ k₂)) ⟨v, vs, rfl, r₁.keeps (keepsHeap k₂), r₂⟩ _ _ fun u s₃ k₃ r₃ => q u s₃ (keepsTrans (keepsTrans k₁ k₂) k₃) r₃) he hp
  · exact hc⟩
end
end

section
noncomputable def dInts (ns : List Int) : List Dt := ns.map Dt.int
noncomputable def dStrs (xs : List Str) : List Dt := xs.map Dt.str

section
variable {prog : Program} {w : World} {A : Around} {Φ : Sp} {H : List Addr} {env : Env} {pos : Pos} {ds es : List Dt} {d : Dt} {ns : List Int}
  {h₀ : Heap} {own : List (Addr × Ow)} {pm : List (Str × Dt)} {mg mb : Str → Option Value}

theorem rd1 {h : Heap} {d : Dt} {vs : List Value} (r : RdAll h H [d] vs) : ∃ v, vs = [v] ∧ Rd h H d v := by
  obtain ⟨v, rest, rfl, r1, r2⟩ := r
  obtain rfl : rest = [] := r2
  exact ⟨v, rfl, r1⟩
theorem rd2 {h : Heap} {d e : Dt} {vs : List Value} (r : RdAll h H [d, e] vs) : ∃ v u, vs = [v, u] ∧ Rd h H d v ∧ Rd h H e u := by
  obtain ⟨v, rest, rfl, r1, r2⟩ := r
  obtain ⟨u, rfl, r3⟩ := rd1 r2
  exact ⟨v, u, rfl, r1, r3⟩
theorem rd3 {h : Heap} {d e f : Dt} {vs : List Value} (r : RdAll h H [d, e, f] vs) : ∃ v u x, vs = [v, u, x] ∧ Rd h H d v ∧ Rd h H e u ∧ Rd h H f x := by
  obtain ⟨v, rest, rfl, r1, r2⟩ := r
  obtain ⟨u, x, rfl, r3, r4⟩ := rd2 r2
  exact ⟨v, u, x, rfl, r1, r3, r4⟩
theorem rd_ints {h : Heap} : ∀ {ns : List Int} {vs : List Value}, RdAll h H (dInts ns) vs → IntsAre vs ns
  | [], vs, r => by obtain rfl : vs = [] := r; exact .nil
  | n :: ns, vs, r => by
    obtain ⟨v, rest, rfl, ⟨t, rfl⟩, r2⟩ := r
    exact .cons _ _ (rd_ints r2)
theorem ints_all : ∀ {vs : List Value} {ns : List Int}, IntsAre vs ns → AllInts vs.toArray ∧ numsOf vs = ns
  | _, _, .nil => ⟨fun v hv => by simp at hv, rfl⟩
  | _, _, .cons n t h => by
    obtain ⟨a, b⟩ := ints_all h
    refine ⟨fun v hv => ?_, by simp [numsOf, b]⟩
    rw [List.mem_toArray] at hv
    rcases List.mem_cons.mp hv with rfl | q
    · exact ⟨n, t, rfl⟩
    · exact a v (by simpa using q)

theorem cl_len_list (hz : ds.length ≤ 1000) : Cl prog w A Φ H (.builtin "len") [.list ds] (.int ds.length) := ⟨fun s vs hs r Q E q => by
  obtain ⟨v, rfl, a, us, n, rfl, ha, hl, r⟩ := rd1 r
  refine len_list ⟨_, hl, rfl, _, rfl⟩ (by rw [List.size_toArray, r.length]; omega) ?_
  rw [List.size_toArray, r.length]
  exact q _ _ (keepsTok s _) ⟨_, rfl⟩⟩
theorem cl_len_str {x : Str} (hz : x.cps.size ≤ 1000) : Cl prog w A Φ H (.builtin "len") [.str x] (.int x.cps.size) := ⟨fun s vs hs r Q E q => by
  obtain ⟨v, rfl, t, rfl⟩ := rd1 r
  exact P.len_str (by show ¬ ((x.cps.size : Int) ≥ 2 ^ 63); omega) (q _ _ (keepsTok s _) ⟨_, rfl⟩)⟩
theorem cl_sum (hh : A.handled = none) : Cl prog w A Φ H (.builtin "sum") [.list (dInts ns)] (.int ns.sum) := ⟨fun s vs hs r Q E q => by
  obtain ⟨v, rfl, a, us, n, rfl, ha, hl, r⟩ := rd1 r
  obtain ⟨hall, hn⟩ := ints_all (rd_ints r)
  obtain ⟨xs, hxs⟩ := hall.items
  rw [hxs] at hl
  refine sum_intListG hh ⟨_, hl, rfl, _, rfl⟩ fun h' tk t' k => ?_
  have e : preSum (numAt xs) xs.size = ns.sum := by
    rw [preSum_eq, List.take_of_length_le (by simp), ← nums_intItems, ← hxs, List.toList_toArray, hn]
  rw [e]
  exact q _ _ (keepsOf s h' tk k) ⟨_, rfl⟩⟩
theorem cl_max {M : Int} (hh : A.handled = none) (h1 : M ∈ ns) (h2 : ∀ a ∈ ns, a ≤ M) : Cl prog w A Φ H (.builtin "max") [.list (dInts ns)] (.int M) := ⟨fun s vs hs r Q E q => by
  obtain ⟨v, rfl, a, us, n, rfl, ha, hl, r⟩ := rd1 r
  obtain ⟨hall, hn⟩ := ints_all (rd_ints r)
  obtain ⟨xs, hxs⟩ := hall.items
  rw [hxs] at hl
  have en : xs.toList.map (·.1) = ns := by rw [← nums_intItems, ← hxs, List.toList_toArray, hn]
  have hlen : xs.size = ns.length := by rw [← en]; simp
  have hpos : 0 < ns.length := List.length_pos_of_mem h1
  refine max_intList hh ⟨_, hl, rfl, _, rfl⟩ (by omega) fun v h' tk hv k => ?_
  obtain ⟨t, rfl⟩ := intItems_at hv
  obtain ⟨g1, g2⟩ := argBest_gt (numAt xs) (xs.size - 1)
  have e : numAt xs (argBest (fun i j => decide (numAt xs i > numAt xs j)) (xs.size - 1)) = M := by
    apply Int.le_antisymm
    · apply h2
      rw [numAt_eq, en]; exact getD_mem (by omega)
    · obtain ⟨j, hj, rfl⟩ := mem_getD h1
      have := g2 j (by omega)
      rwa [numAt_eq xs j, en] at this
  rw [e]
  exact q _ _ (keepsOf s h' tk k) ⟨_, rfl⟩⟩
theorem cl_min {M : Int} (hh : A.handled = none) (h1 : M ∈ ns) (h2 : ∀ a ∈ ns, M ≤ a) : Cl prog w A Φ H (.builtin "min") [.list (dInts ns)] (.int M) := ⟨fun s vs hs r Q E q => by
  obtain ⟨v, rfl, a, us, n, rfl, ha, hl, r⟩ := rd1 r
  obtain ⟨hall, hn⟩ := ints_all (rd_ints r)
  obtain ⟨xs, hxs⟩ := hall.items
  rw [hxs] at hl
  have en : xs.toList.map (·.1) = ns := by rw [← nums_intItems, ← hxs, List.toList_toArray, hn]
  have hlen : xs.size = ns.length := by rw [← en]; simp
  have hpos : 0 < ns.length := List.length_pos_of_mem h1
  refine min_intList hh ⟨_, hl, rfl, _, rfl⟩ (by omega) fun v h' tk hv k => ?_
  obtain ⟨t, rfl⟩ := intItems_at hv
  obtain ⟨g1, g2⟩ := argBest_lt (numAt xs) (xs.size - 1)
  have e : numAt xs (argBest (fun i j => decide (numAt xs i < numAt xs j)) (xs.size - 1)) = M := by
    apply Int.le_antisymm
    · obtain ⟨j, hj, rfl⟩ := mem_getD h1
      have := g2 j (by omega)
      rwa [numAt_eq xs j, en] at this
    · apply h2
      rw [numAt_eq, en]; exact getD_mem (by omega)
  rw [e]
  exact q _ _ (keepsOf s h' tk k) ⟨_, rfl⟩⟩
theorem cl_max2 {a b : Int} (hh : A.handled = none) : Cl prog w A Φ H (.builtin "max") [.int a, .int b] (.int (max a b)) := ⟨fun s vs hs r Q E q => by
  obtain ⟨v, u, rfl, ⟨t, rfl⟩, ⟨t', rfl⟩⟩ := rd2 r
  refine max_two_ints hh fun h' tk k => ?_
  split
  · rename_i h; rw [Int.max_eq_right (by omega)] at q; exact q _ _ (keepsOf s h' tk k) ⟨_, rfl⟩
  · rename_i h; rw [Int.max_eq_left (by omega)] at q; exact q _ _ (keepsOf s h' tk k) ⟨_, rfl⟩⟩
theorem cl_range1 {n : Int} (X : Hx Φ H) : Cl prog w A Φ H (.type "range") [.int n] (.rng 0 n 1) := ⟨fun s vs hs r Q E q => by
  obtain ⟨v, rfl, t, rfl⟩ := rd1 r
  exact call_range_1 (q _ _ (keepsPush s _ _) ⟨_, _, _, _, rfl, X.new hs (keepsRefl s), Heap.get?_push_size _ rfl⟩)⟩
theorem cl_range2 {a b : Int} (X : Hx Φ H) : Cl prog w A Φ H (.type "range") [.int a, .int b] (.rng a b 1) := ⟨fun s vs hs r Q E q => by
  obtain ⟨v, u, rfl, ⟨t, rfl⟩, ⟨t', rfl⟩⟩ := rd2 r
  exact call_range_2 (q _ _ (keepsPush s _ _) ⟨_, _, _, _, rfl, X.new hs (keepsRefl s), Heap.get?_push_size _ rfl⟩)⟩
theorem cl_range3 {a b c : Int} (X : Hx Φ H) (h0 : c ≠ 0) (hc : c.natAbs < 1000) : Cl prog w A Φ H (.type "range") [.int a, .int b, .int c] (.rng a b c) := ⟨fun s vs hs r Q E q => by
  obtain ⟨v, u, x, rfl, ⟨t, rfl⟩, ⟨t', rfl⟩, ⟨t'', rfl⟩⟩ := rd3 r
  exact call_range_3 h0 (q _ _ (keepsPush' s _) ⟨_, _, _, _, rfl, X.new hs (keepsRefl s), Heap.get?_push_size _ rfl⟩) (.inl (PyProof.noPylong_small (by omega)))⟩
theorem cl_tuple (X : Hx Φ H) (hz : ds.length ≤ 1000) : Cl prog w A Φ H (.type "tuple") [.list ds] (.tup ds) := ⟨fun s vs hs r Q E q => by
  obtain ⟨v, rfl, a, us, n, rfl, ha, hl, r⟩ := rd1 r
  refine call_tuple_list ⟨_, hl, rfl, _, rfl⟩ (fun h' k => ?_) (by rw [List.size_toArray, r.length, sizeLine_eq]; omega)
  have k' := keepsOf' s h' k
  have k2 : Keeps s { s with heap := h'.push { cls := Value.type "tuple", data := Data.seq us.toArray } } := keepsTrans k' (keepsPush' { s with heap := h' } _)
  exact q _ _ k2 ⟨_, us, 0, rfl, X.new hs k', Heap.get?_push_size _ rfl, r.keeps (keepsHeap k2)⟩⟩
theorem ev_add_list {l r : Expr} (X : Hx Φ H) (h₁ : Ev prog w A Φ H env l (.list ds)) (h₂ : Ev prog w A Φ H env r (.list es)) (hz : ds.length + es.length ≤ 1000) : Ev prog w A Φ H env (.BinOp l .Add r pos) (.list (ds ++ es)) :=
  ev_bin h₁ h₂ fun s v₁ v₂ hs r₁ r₂ Q E q => by
    obtain ⟨a, us, n, rfl, ha, hl, r1⟩ := r₁
    obtain ⟨b, ws, m, rfl, hb, hm, r2⟩ := r₂
    refine P.add_list hl hm (q _ _ (keepsPush' s _) ⟨_, us ++ ws, 0, rfl, X.new hs (keepsRefl s), ?_, (r1.append r2).keeps (keepsHeap (keepsPush' s _))⟩) (by rw [List.size_toArray, List.size_toArray, r1.length, r2.length, sizeLine_eq]; omega)
    have e : us.toArray ++ ws.toArray = (us ++ ws).toArray := by simp
    rw [e]
    exact Heap.get?_push_size _ rfl

theorem rd_strs {h : Heap} : ∀ {xs : List Str} {vs : List Value}, RdAll h H (dStrs xs) vs → ∃ l : List (Str × Tok), vs = strValues l ∧ l.map (·.1) = xs
  | [], vs, r => by obtain rfl : vs = [] := r; exact ⟨[], rfl, rfl⟩
  | x :: xs, vs, r => by
    obtain ⟨v, rest, rfl, ⟨t, rfl⟩, r2⟩ := r
    obtain ⟨l, rfl, e⟩ := rd_strs r2
    exact ⟨(x, t) :: l, rfl, by simp [e]⟩
theorem cl_join {x : Str} {xs : List Str} (hj : JoinOk x xs = true) : Cl prog w A Φ H (.builtin "str.join") [.str x, .list (dStrs xs)] (.str (Txt.join x xs)) := ⟨fun s vs hs r Q E q => by
  obtain ⟨v, u, rfl, ⟨t, rfl⟩, a, us, n, rfl, ha, hl, r⟩ := rd2 r
  obtain ⟨l, rfl, e⟩ := rd_strs r
  exact SC.join ⟨_, hl, rfl, _, rfl⟩ e hj fun t' k => q _ _ (keepsTok s _) ⟨_, rfl⟩⟩
theorem cl_count {k : Int} : Cl prog w A Φ H (.builtin "list.count") [.list (dInts ns), .int k] (.int (ns.count k)) := ⟨fun s vs hs r Q E q => by
  obtain ⟨v, u, rfl, ⟨a, us, n, rfl, ha, hl, r'⟩, ⟨t, rfl⟩⟩ := rd2 r
  exact count_list_ints ⟨_, hl, rfl, _, rfl⟩ (rd_ints r') (q _ _ (keepsTok s _) ⟨_, rfl⟩)⟩
end
end

section

noncomputable def relab (names nm : List (Str × NameKind)) : List (Str × NameKind) := names.map fun (n, k) => if (k == .free && nm.lookup n == some .cell) then (n, .cell) else (n, k)
theorem nm_comp {scope : Scope} {cl : List (Str × Addr)} {C : Addr} {env : Env} {nm : List (Str × NameKind)} (N : Nm env nm) (hk : scope.kind = .function) : Nm (compEnvC scope cl C env) (relab scope.names nm) where
  names := by
    show (relabel scope env).names = _
    unfold relabel relab
    simp only
    congr 1
    funext p
    obtain ⟨n, k⟩ := p
    simp only
    rw [N.kind, N.of rfl]
    simp
  kind := hk
  ge := N.ge
  be := N.be

noncomputable def closOf (cells : List (Str × Addr)) : List (Str × NameKind) → List (Str × Addr) → Option (List (Str × Addr))
  | [], acc => some acc
  | (n, k) :: r, acc => if k == .free then (match cells.lookup n with | some c => closOf cells r ((n, c) :: acc) | none => none) else closOf cells r acc
theorem clos_go {env : Env} (f : Str × NameKind → List (Str × Addr) → Sem (ForInStep (List (Str × Addr))))
    (hf : ∀ name kind cs, f (name, kind) cs = if kind == .free then (do let c ← cellOf env name; pure (.yield ((name, c) :: cs))) else pure (.yield cs)) :
    ∀ (l : List (Str × NameKind)) (acc cl : List (Str × Addr)), closOf env.cells l acc = some cl → forIn l acc f = (pure cl : Sem _)
  | [], acc, cl, e => by cases e; rfl
  | (n, k) :: r, acc, cl, e => by
    rw [List.forIn_cons, hf]
    unfold closOf at e
    cases hk : (k == NameKind.free) with
    | true =>
      rw [hk] at e
      simp only [if_true] at e ⊢
      split at e
      · rename_i c hc
        unfold cellOf
        rw [hc]
        exact clos_go f hf r _ _ e
      · cases e
    | false =>
      rw [hk] at e
      simp only [Bool.false_eq_true, if_false] at e ⊢
      exact clos_go f hf r _ _ e
theorem closureFor_of {env : Env} {scope : Scope} {cl : List (Str × Addr)} (h : closOf env.cells scope.names [] = some cl) : closureFor scope env = pure cl := by
  unfold closureFor
  simp only
  rw [clos_go _ (fun name kind cs => by cases hkc : kind == NameKind.free <;> simp [hkc]) _ _ _ h]
  rfl
theorem clos_look {cells : List (Str × Addr)} : ∀ (l : List (Str × NameKind)) (acc cl : List (Str × Addr)), closOf cells l acc = some cl → (∀ y c, acc.lookup y = some c → cells.lookup y = some c) → ∀ y c, cl.lookup y = some c → cells.lookup y = some c
  | [], acc, cl, e, h => by cases e; exact h
  | (n, k) :: r, acc, cl, e, h => by
    unfold closOf at e
    split at e
    · split at e
      · rename_i c hc
        refine clos_look r _ cl e fun y c' hy => ?_
        rw [List.lookup_cons] at hy
        cases hb : y == n with
        | true => rw [hb] at hy; cases hy; rw [eq_of_beq hb]; exact hc
        | false => rw [hb] at hy; exact h y c' hy
      · cases e
    · exact clos_look r acc cl e h

section
variable {prog : Program} {w : World} {A : Around} {h₀ : Heap} {env : Env} {H : List Addr} {own : List (Addr × Ow)} {pm : List (Str × Dt)} {mg mb : Str → Option Value} {nm : List (Str × NameKind)} {E : Value → Shared → Prop} {s₁ s₂ : Shared}

structure Ifs (prog : Program) (w : World) (A : Around) (Φ : Sp) (env : Env) (ifs : List Expr) (b : Bool) : Prop where
  run : ∀ s, Φ.P s → ∀ (Q : Bool → Shared → Prop) (E : Value → Shared → Prop), (∀ s', Keeps s s' → Q b s') → wpAny (model prog w) A (forIn ifs true fun c r => if r = true then do let ok ← isTrue c env (eval c env); pure (ForInStep.yield ok) else pure (ForInStep.yield r)) Q E s
theorem ifs_nil {Φ : Sp} : Ifs prog w A Φ env [] true := ⟨fun s hs Q E q => by
  rw [List.forIn_nil]; exact wpAny_pure (q s (keepsRefl s))⟩
theorem ifs_one {Φ : Sp} {c : Expr} {b : Bool} (h : Tst prog w A Φ env c b) : Ifs prog w A Φ env [c] b := ⟨fun s hs Q E q => by
  rw [List.forIn_cons, if_pos rfl]
  refine wpAny_bind (wpAny_bind (h.run s hs _ _ fun s' k => wpAny_pure ?_))
  show wpAny _ _ (forIn [] b _) _ _ _
  rw [List.forIn_nil]
  exact wpAny_pure (q s' k)⟩

noncomputable def CovC (nm nmc : List (Str × NameKind)) (pm : List (Str × Dt)) : List (Str × Dt) → Prop
  | [] => True
  | (y, d) :: r => pm.lookup y = some d ∧ nm.lookup y ≠ some .local ∧ nmc.lookup y ≠ some .local ∧ CovC nm nmc pm r
theorem CovC.look {nm nmc : List (Str × NameKind)} {pm : List (Str × Dt)} : ∀ {pf : List (Str × Dt)}, CovC nm nmc pm pf → ∀ y d, pf.lookup y = some d → pm.lookup y = some d ∧ nm.lookup y ≠ some .local ∧ nmc.lookup y ≠ some .local
  | [], _, _, _, e => by cases e
  | (z, d') :: r, c, y, d, e => by
    rw [List.lookup_cons] at e
    cases hb : y == z with
    | true => rw [hb] at e; cases e; rw [eq_of_beq hb]; exact ⟨c.1, c.2.1, c.2.2.1⟩
    | false => rw [hb] at e; exact CovC.look c.2.2.2 y d e

structure Elt (prog : Program) (w : World) (A : Around) (h₀ : Heap) (env : Env) (H : List Addr) (own : List (Addr × Ow)) (pmf : List (Str × Dt)) (nm : List (Str × NameKind)) (x : Str) (ifs : List Expr) (elt : Expr) (scope : Scope) (cl : List (Str × Addr)) (d : Dt) (r : Option Dt) : Prop where
  run : ∀ (C : Addr) (H' : List Addr), (∀ a ∈ H, a ∈ H') → Nm (compEnvC scope cl C env) (relab scope.names nm) →
    Ifs prog w A (fs h₀ (compEnvC scope cl C env) H' own ((x, d) :: pmf)) (compEnvC scope cl C env) ifs r.isSome ∧
    ∀ e, r = some e → Ev prog w A (fs h₀ (compEnvC scope cl C env) H' own ((x, d) :: pmf)) H' (compEnvC scope cl C env) elt e

theorem comp_core {elt iter : Expr} {x : Str} {px : Pos} {ifs : List Expr} {scope : Scope} {cl : List (Str × Addr)} {pos : Pos} {ds : List Dt} {I : Addr} {fp wr : List Addr} {P : Nat → Value → Prop} {St : Nat → Heap → Prop} {pmf : List (Str × Dt)} (g : Nat → Option Dt) {RR : Value → Addr → Result → Shared → Prop}
    (N : Nm env nm) (hcell : ∀ y ∈ scope.names, y.2 ≠ .cell) (hkind : scope.kind = .function) (hx : scope.names.lookup x = some .local) (hcl : ∀ y c, cl.lookup y = some c → env.cells.lookup y = some c)
    (F₁ : FSt h₀ env H own pm s₁) (k₂ : Keeps s₁ s₂) (WK : Walks prog w A I fp wr ds.length P St) (hst : St 0 s₂.heap) (hfp : ∀ b ∈ fp, b ∉ H ∨ s₁.heap.get? b = none) (hlt : ∀ b ∈ fp, b < s₂.heap.objs.size) (hwr : ∀ b ∈ wr, s₁.heap.get? b = none)
    (hP : ∀ i u, P i u → ∃ d', ds[i]? = some d' ∧ Rd s₁.heap H d' u) (hSx : ∀ i h, St i h → ∀ b ∈ wr, ∃ o, h.get? b = some o) (hz : ds.length ≤ 1000)
    (hpm : CovC nm (relab scope.names nm) pm pmf)
    (he : ∀ i d, ds[i]? = some d → Elt prog w A h₀ env H own pmf nm x ifs elt scope cl d (g i))
    (done : ∀ D C h' tk m' vs n H', s₂.heap.get? D = none → s₂.heap.get? C = none → D ≠ C → D ∉ H → h'.Ns C m' → IsL h' D vs.toArray n → (∀ a ∈ H, a ∈ H') → C ∈ H' → RdAll h' H' ((List.range ds.length).filterMap g) vs →
      (∀ b o, b ∉ wr → s₂.heap.get? b = some o → h'.get? b = some o) → RR (.ref D) C (.ok .next) { s₂ with heap := h', toks := tk }) :
    wpAny (model prog w) A (newList []) (fun acc s₃ => wpAny (model prog w) A (newFunctionEnv scope env.globals cl [] env.qual none .none (some env)) (fun cenv s₄ =>
      codeAny (model prog w) A (.compStart (.ListComp elt [⟨.Name x px, iter, ifs, 0⟩] scope pos) 0 (.ref I) acc { cenv with scope := relabel scope env }) (RR acc cenv.locals) s₄) E s₃) E s₂ := by
  refine wpAny_newList (wpAny_newFunctionEnv hcell (by intro y hy; simp at hy) (fun h₁ hns₁ hsb₁ => ?_) hkind) (Nat.zero_le _)
  dsimp only at hns₁ hsb₁ ⊢
  have kh := keepsHeap k₂
  generalize hH2 : s₂.heap.push { cls := .type "list", dict := none, data := .seq ([] : List Value).toArray } = H2 at hns₁ hsb₁ ⊢
  have hC : H2.objs.size = s₂.heap.objs.size + 1 := by rw [← hH2, Heap.size_push]
  have hDC : s₂.heap.objs.size ≠ H2.objs.size := by rw [hC]; exact Nat.ne_of_lt (Nat.lt_succ_self _)
  have fresh : ∀ a, s₂.heap.objs.size ≤ a → s₂.heap.get? a = none := fun a ha => by
    cases e : s₂.heap.get? a with
    | none => rfl
    | some o' => exact absurd (Heap.lt_size e) (Nat.not_lt.mpr ha)
  have fD : s₂.heap.get? s₂.heap.objs.size = none := fresh _ (Nat.le_refl _)
  have fC : s₂.heap.get? H2.objs.size = none := fresh _ (by rw [hC]; exact Nat.le_succ _)
  have old : ∀ b o, s₂.heap.get? b = some o → h₁.get? b = some o := fun b o e => hsb₁.extBut b o (fun q => by rw [q, fC] at e; cases e) (Heap.get?_push_of_some _ (hH2 ▸ Heap.get?_push_of_some _ e))
  have hD1 : IsL h₁ s₂.heap.objs.size ([] : List Value).toArray 0 := hsb₁.extBut _ _ hDC (Heap.get?_push_of_some _ (hH2 ▸ Heap.get?_push_size _ rfl))
  have exH : ∀ a ∈ H, ∃ o, s₁.heap.get? a = some o := F₁.ex
  have neH : ∀ a ∈ H, ∀ b, s₂.heap.get? b = none → a ≠ b := fun a ha b hb q => by
    obtain ⟨o, e⟩ := exH a ha
    have := kh _ _ e
    rw [q, hb] at this; cases this
  have hne : ∀ a ∈ H, a ∉ wr := fun a ha q => by
    obtain ⟨o, e⟩ := exH a ha
    rw [hwr a q] at e; cases e
  have hfpD : ∀ b ∈ fp, b ≠ s₂.heap.objs.size := fun b hb => Nat.ne_of_lt (hlt b hb)
  have hfpC : ∀ b ∈ fp, b ≠ H2.objs.size := fun b hb => by rw [hC]; exact Nat.ne_of_lt (Nat.lt_succ_of_lt (hlt b hb))
  have hwrD : s₂.heap.objs.size ∉ wr := fun q => hfpD _ (WK.sub _ q) rfl
  have hwrC : H2.objs.size ∉ wr := fun q => hfpC _ (WK.sub _ q) rfl
  have h0no : ∀ a, s₁.heap.get? a = none → h₀.get? a = none := fun a e => by
    cases q : h₀.get? a with
    | none => rfl
    | some o => rw [F₁.base a o q] at e; cases e
  have s1no : ∀ a, s₂.heap.get? a = none → s₁.heap.get? a = none := fun a e => by
    cases q : s₁.heap.get? a with
    | none => rfl
    | some o => rw [kh a o q] at e; cases e
  generalize hHH : s₂.heap.objs.size :: H2.objs.size :: (wr ++ H) = H'
  have memH : ∀ a ∈ H, a ∈ H' := fun a ha => by rw [← hHH]; simp [ha]
  have outH' : ∀ b o, s₁.heap.get? b = some o → b ∉ H → b ∉ H' := fun b o e hb q => by
    rw [← hHH] at q
    simp only [List.mem_cons, List.mem_append] at q
    have e2 := kh b o e
    rcases q with q | q | q | q
    · rw [q, fD] at e2; cases e2
    · rw [q, fC] at e2; cases e2
    · rw [hwr b q] at e; cases e
    · exact hb q
  have NC := nm_comp (scope := scope) (cl := cl) (C := H2.objs.size) N hkind
  have hxl : (compEnvC scope cl H2.objs.size env).kindOf x = some .local := lookup_relabel_local hx
  -- the state within the loop
  have mkF : ∀ (s : Shared) (m : Str → Option Value) (d : Dt) (v : Value), (∀ b o, b ∉ wr → s₂.heap.get? b = some o → s.heap.get? b = some o) → (∀ b ∈ wr, ∃ o, s.heap.get? b = some o) → (∃ o, s.heap.get? s₂.heap.objs.size = some o) → s.heap.Ns H2.objs.size m → m x = some v → Rd s.heap H' d v →
      FSt h₀ (compEnvC scope cl H2.objs.size env) H' own ((x, d) :: pmf) s := fun s m d v hk hwx hDx hn hm hd => by
    have up : ∀ b o, s₁.heap.get? b = some o → s.heap.get? b = some o := fun b o e => hk b o (fun q => by rw [hwr b q] at e; cases e) (kh b o e)
    have mv : ∀ {d v}, Rd s₁.heap H d v → Rd s.heap H' d v := fun r => Rd.move (fun b o hb e => ⟨up b o e, outH' b o e hb⟩) _ _ r
    refine ⟨fun b o e => up b o (F₁.base b o e), ⟨m, hn, fun y d' e hl => ?_⟩, fun y c e => ?_, fun p hp => (F₁.owns p hp).mv (fun _ _ r => mv r) (fun o e => up _ _ e), fun a ha => ?_⟩
    · rw [List.lookup_cons] at e
      cases hb : y == x with
      | true => rw [hb] at e; cases e; rw [eq_of_beq hb]; exact ⟨v, hm, hd⟩
      | false =>
        rw [hb] at e
        have := (hpm.look y d' e).2.2
        rw [NC.of rfl] at hl
        exact absurd hl this
    · obtain ⟨cv, ⟨o, e1, e2⟩, hd'⟩ := F₁.cells y c (hcl y c e)
      refine ⟨cv, ⟨o, up _ _ e1, e2⟩, fun d' e' hl => ?_⟩
      rw [List.lookup_cons] at e'
      cases hb : y == x with
      | true => rw [eq_of_beq hb] at hl; exact absurd hxl hl
      | false =>
        rw [hb] at e'
        obtain ⟨p1, p2, p3⟩ := hpm.look y d' e'
        obtain ⟨u, u1, u2⟩ := hd' d' p1 (by rw [N.of rfl]; exact p2)
        exact ⟨u, u1, mv u2⟩
    · rw [← hHH] at ha
      simp only [List.mem_cons, List.mem_append] at ha
      rcases ha with rfl | rfl | ha | ha
      · exact hDx
      · obtain ⟨o, _, _, e, _⟩ := hn; exact ⟨o, e⟩
      · exact hwx a ha
      · obtain ⟨o, e⟩ := exH a ha; exact ⟨o, up _ _ e⟩
  have hst₁ : St 0 h₁ := WK.frame _ _ _ hst fun b _ o e => old b o e
  have range_succ : ∀ i, (List.range (i + 1)).filterMap g = (List.range i).filterMap g ++ (g i).toList := fun i => by
    rw [List.range_succ, List.filterMap_append]; cases hg : g i <;> simp [hg]
  have loop : ∀ s₃ : Shared, s₃ = { s₂ with heap := h₁, toks := s₂.toks + ([] : List (Str × Value)).length } → codeAny (model prog w) A (.compLoop (.ListComp elt [⟨.Name x px, iter, ifs, 0⟩] scope pos) 0 (.ref I) (.ref s₂.heap.objs.size) (compEnvC scope cl H2.objs.size env)) (RR (.ref s₂.heap.objs.size) H2.objs.size) s₃ := by
    rintro s₃ rfl
    focus
      refine codeAny_compLoop_tests (fun k s' => ∃ i h' tk m' vs nD, s' = { s₂ with heap := h', toks := tk } ∧ k = ds.length - i ∧ i ≤ ds.length ∧ St i h' ∧ IsL h' s₂.heap.objs.size (List.toArray vs) nD ∧ h'.Ns H2.objs.size m' ∧
          RdAll h' H' ((List.range i).filterMap g) vs ∧ (∀ b o, b ∉ wr → s₂.heap.get? b = some o → h'.get? b = some o)) ?_ ds.length ⟨0, h₁, _, _, [], 0, rfl, rfl, Nat.zero_le _, hst₁, hD1, hns₁, rfl, fun b o _ e => old b o e⟩ (fun _ => rfl)
      rintro k s₃ ⟨i, h', tk, m', vs, nD, rfl, rfl, hi, hst', hD', hn', hr, hk⟩
      by_cases hlt' : i < ds.length
      · refine WK.item i _ _ _ hlt' hst' fun u h4 tk4 hu hst4 kk => ?_
        obtain ⟨d, hd, rd⟩ := hP i u hu
        obtain ⟨hifs, helt⟩ := (he i d hd).run H2.objs.size H' memH NC
        have up4 : ∀ b o, b ∉ wr → s₂.heap.get? b = some o → h4.get? b = some o := fun b o hb e => kk b o hb (hk b o hb e)
        have hn4 : h4.Ns H2.objs.size m' := hn'.at' fun o e => kk _ o hwrC e
        have hD4 : IsL h4 s₂.heap.objs.size (List.toArray vs) nD := kk _ _ hwrD hD'
        have hr4 : RdAll h4 H' ((List.range i).filterMap g) vs := RdAll.move (fun b o hb e => ⟨kk b o (fun q => hb (by rw [← hHH]; simp [q])) e, hb⟩) _ _ hr
        refine wpAny_assign_Name (wpAny_storeName_local hxl hn4 (fun h5 hn5 hs5 => ?_) (by simp [compEnvC, relabel, hkind]))
        replace hs5 : Heap.SameBut H2.objs.size h4 h5 := hs5
        replace hn5 : h5.Ns H2.objs.size (fun z => if z = x then some u else m' z) := hn5
        have up5 : ∀ b o, b ∉ wr → s₂.heap.get? b = some o → h5.get? b = some o := fun b o hb e => hs5.extBut b o (fun q => by rw [q, fC] at e; cases e) (up4 b o hb e)
        have hst5 : St (i + 1) h5 := WK.frame _ _ _ hst4 fun b hb o e => hs5.extBut b o (hfpC b hb) e
        have hD5 : IsL h5 s₂.heap.objs.size (List.toArray vs) nD := hs5.extBut _ _ hDC hD4
        have CH' : H2.objs.size ∈ H' := by rw [← hHH]; simp
        have hr5 : RdAll h5 H' ((List.range i).filterMap g) vs := RdAll.move (fun b o hb e => ⟨hs5.extBut b o (fun q => hb (q ▸ CH')) e, hb⟩) _ _ hr4
        have rd5 : Rd h5 H' d u := Rd.move (fun b o hb e => ⟨up5 b o (fun q => by rw [hwr b q] at e; cases e) (kh b o e), outH' b o e hb⟩) _ _ rd
        have F5 := mkF { s₂ with heap := h5, toks := tk4 + 1 } _ d u up5 (hSx _ _ hst5) ⟨_, hD5⟩ hn5 (by simp) rd5
        refine hifs.run _ F5 _ _ fun s6 k6 => ?_
        have kh6 := keepsHeap k6
        obtain ⟨h6, tk6, rfl, kk6⟩ := k6
        have step : ∀ (h7 : Heap) (tk7 : Nat) (vs' : List Value) (n' : Nat), (∀ b o, b ≠ s₂.heap.objs.size → h6.get? b = some o → h7.get? b = some o) → IsL h7 s₂.heap.objs.size (List.toArray vs') n' → RdAll h7 H' ((List.range (i + 1)).filterMap g) vs' →
            ∃ m, m < ds.length - i ∧ ∃ i h' tk m' vs nD, ({ s₂ with heap := h7, toks := tk7 } : Shared) = { s₂ with heap := h', toks := tk } ∧ m = ds.length - i ∧ i ≤ ds.length ∧ St i h' ∧ IsL h' s₂.heap.objs.size (List.toArray vs) nD ∧ h'.Ns H2.objs.size m' ∧
              RdAll h' H' ((List.range i).filterMap g) vs ∧ (∀ b o, b ∉ wr → s₂.heap.get? b = some o → h'.get? b = some o) := fun h7 tk7 vs' n' kk7 hD7 hr7 => by
          refine ⟨ds.length - (i + 1), by omega, i + 1, h7, tk7, (fun z => if z = x then some u else m' z), vs', n', rfl, rfl, hlt', ?_, hD7, ?_, hr7, fun b o hb e => kk7 b o (fun q => by rw [q, fD] at e; cases e) (kh6 b o (up5 b o hb e))⟩
          · exact WK.frame _ _ _ hst5 fun b hb o e => kk7 b o (hfpD b hb) (kh6 b o e)
          · exact (hn5.keeps kh6).at' fun o e => kk7 _ o hDC.symm e
        cases hg : g i with
        | none =>
          rw [if_neg (by simp)]
          refine step h6 tk6 vs nD (fun b o _ e => e) (kh6 _ _ hD5) ?_
          rw [range_succ, hg]
          simpa using hr5.keeps kh6
        | some r =>
          rw [if_pos (show (some r).isSome = true from rfl)]
          refine (helt r hg).run _ (F5.keeps ⟨h6, tk6, rfl, kk6⟩) _ _ fun y s7 k7 r7 => ?_
          have kh7 := keepsHeap k7
          obtain ⟨h7, tk7, rfl, kk7⟩ := k7
          have hD7 : IsL h7 s₂.heap.objs.size (List.toArray vs) nD := kh7 _ _ (kh6 _ _ hD5)
          have hr7 : RdAll h7 H' ((List.range i).filterMap g) vs := (hr5.keeps kh6).keeps kh7
          have DH' : s₂.heap.objs.size ∈ H' := by rw [← hHH]; simp
          refine wpAny_list_append_plain ⟨nD, hD7⟩ (fun h8 hl8 hs8 => ?_) ?_
          · obtain ⟨n8, hl8⟩ := hl8
            have mv8 : ∀ {d v}, Rd h7 H' d v → Rd h8 H' d v := fun r => Rd.move (fun b o hb e => ⟨hs8.extBut b o (fun q => hb (q ▸ DH')) e, hb⟩) _ _ r
            refine step h8 tk7 (vs ++ [y]) n8 (fun b o hb e => hs8.extBut b o hb (kh7 b o e)) ?_ ?_
            · have e : (List.toArray vs).push y = (vs ++ [y]).toArray := by simp
              rw [← e]; exact hl8
            · rw [range_succ, hg]
              refine RdAll.append (RdAll.move (fun b o hb e => ⟨hs8.extBut b o (fun q => hb (q ▸ DH')) e, hb⟩) _ _ hr7) ⟨y, [], rfl, mv8 r7, rfl⟩
          · have hl := hr7.length
            have h2 : ((List.range i).filterMap g).length ≤ (List.range i).length := List.length_filterMap_le _ _
            rw [List.length_range] at h2
            rw [List.size_toArray, sizeLine_eq]; omega
      · have e : i = ds.length := by omega
        subst e
        refine WK.done _ _ _ hst' fun h4 tk4 kk => ?_
        refine done s₂.heap.objs.size H2.objs.size h4 tk4 m' vs nD H' fD fC hDC (fun q => neH _ q _ fD rfl) (hn'.at' fun o e => kk _ o hwrC e) (kk _ _ hwrD hD') memH (by rw [← hHH]; simp) ?_ fun b o hb e => kk b o hb (hk b o hb e)
        exact RdAll.move (fun b o hb e => ⟨kk b o (fun q => hb (by rw [← hHH]; simp [q])) e, hb⟩) _ _ hr
  exact codeAny_compStart_list (loop _ rfl) (WK.self 0 _ _ _ hst₁ (loop _ rfl))

structure ScOk (scope : Scope) (x : Str) : Prop where
  cell : ∀ y ∈ scope.names, y.2 ≠ .cell
  kind : scope.kind = .function
  names : ∀ y ∈ scope.names, y.2 = .local → scope.names.lookup y.1 = some .local
  x : scope.names.lookup x = some .local

theorem ev_comp {elt iter : Expr} {x : Str} {px : Pos} {ifs : List Expr} {scope : Scope} {cl : List (Str × Addr)} {pos : Pos} {ds : List Dt} {dsrc : Dt} {pmf : List (Str × Dt)} (g : Nat → Option Dt)
    (N : Nm env nm) (so : ScOk scope x) (hcl : closOf env.cells scope.names [] = some cl) (hi : Ev prog w A (fs h₀ env H own pm) H env iter dsrc) (src : It prog w A H dsrc ds) (hz : ds.length ≤ 1000)
    (hpm : CovC nm (relab scope.names nm) pm pmf) (he : ∀ i d, ds[i]? = some d → Elt prog w A h₀ env H own pmf nm x ifs elt scope cl d (g i)) (hs : ∀ x, foldedSetIterable iter env x = pure x := by intro _; rfl) :
    Ev prog w A (fs h₀ env H own pm) H env (.ListComp elt [⟨.Name x px, iter, ifs, 0⟩] scope pos) (.list ((List.range ds.length).filterMap g)) := ⟨fun s F Q E q => by
  rw [eval_ListComp]
  refine wpAny_comprehension_free (use := none) rfl hs (closureFor_of hcl) so.kind so.names (hi.run s F _ _ fun v s₁ k₁ r₁ => src s₁ v r₁ _ _ fun I fp wr P St s₂ k₂ WK hst hfp hlt hwr hP hSx => ?_)
  refine comp_core (RR := fun acc C => compPost (model prog w) A E none Q acc C) g N so.cell so.kind so.x (clos_look _ _ _ hcl fun _ _ e => nomatch e) (F.keeps k₁) k₂ WK hst hfp (fun b hb => let ⟨o, e⟩ := hlt b hb; Heap.lt_size e) hwr hP hSx hz hpm he ?_
  intro D C h' tk m' vs n H' hD hC hDC hDH hn hl hsub hCH hr hk
  refine ⟨m', hn, fun h'' hs'' => ?_⟩
  have kh2 := keepsHeap k₂
  have k3 : Keeps s₁ { s₂ with heap := h'', toks := tk } := by
    obtain ⟨h2, t2, rfl, kk2⟩ := k₂
    refine ⟨h'', tk, rfl, fun b o e => hs''.extBut b o (fun q => ?_) (hk b o (fun q => by rw [hwr b q] at e; cases e) (kk2 b o e))⟩
    have := kk2 b o e
    rw [q, hC] at this; cases this
  refine q _ _ (keepsTrans k₁ k3) ⟨D, vs, n, rfl, hDH, hs''.extBut _ _ hDC hl, RdAll.move (fun b o hb e => ⟨hs''.extBut b o (fun q => hb (q ▸ hCH)) e, fun q => hb (hsub b q)⟩) _ _ hr⟩⟩

noncomputable def ownName (scope : Scope) (x : Str) : Bool := scope.names.any fun p => p.1 == x && (p.2 == .local || p.2 == .cell)
theorem swaps_comp {elt : Expr} {gens : List Comprehension} {scope : Scope} {cp : Pos} {x : Str} {px : Pos} {line : Nat} (N : Nm env nm) :
    swapsWith (.ListComp elt gens scope cp) (some (.Name x px)) line env = pure (nm.lookup x == some .local && px.line == cp.line && !ownName scope x) := by
  have hb : env.blockKind = .function := by unfold Env.blockKind; rw [N.kind]; rfl
  have e : swapsWith (.ListComp elt gens scope cp) (some (.Name x px)) line env = pure (env.blockKind == .function && env.kindOf x == some .local && px.line == cp.line && !ownName scope x) := by
    unfold swapsWith
    simp only [Expr.pos]
    rfl
  rw [e, hb, N.of rfl]
  simp

theorem x_asg_comp {s₀ s : Shared} {W : List Addr} {oa : List Addr} {rest : List Stmt} {Q : Flow → Shared → Prop} {elt iter : Expr} {x y : Str} {px py : Pos} {ifs : List Expr} {scope : Scope} {cl : List (Str × Addr)} {pos spos : Pos} {ds : List Dt} {dsrc : Dt} {pmf : List (Str × Dt)} (g : Nat → Option Dt)
    (N : Nm env nm) (O : FOk h₀ W env H oa) (S : Chg W s₀ s) (F : FSt h₀ env H own pm s) (so : ScOk scope x) (hcl : closOf env.cells scope.names [] = some cl) (hi : Ev prog w A (fs h₀ env H own pm) H env iter dsrc) (src : It prog w A H dsrc ds) (hz : ds.length ≤ 1000)
    (hpm : CovC nm (relab scope.names nm) pm pmf) (he : ∀ i d, ds[i]? = some d → Elt prog w A h₀ env H own pmf nm x ifs elt scope cl d (g i))
    (hy : nm.lookup y = some .local) (hline : py.line = pos.line) (hyn : ownName scope y = false)
    (k : ∀ s', Chg W s₀ s' → FSt h₀ env H own ((y, .list ((List.range ds.length).filterMap g)) :: pm) s' → Ex prog w A rest env Q s')
    (hs : ∀ x, foldedSetIterable iter env x = pure x := by intro _; rfl) (ho : own.map (·.1) = oa := by rfl) :
    Ex prog w A (.Assign [.Name y py] (.ListComp elt [⟨.Name x px, iter, ifs, 0⟩] scope pos) spos :: rest) env Q s := ⟨fun E => by
  refine wpAny_execs_cons ?_
  rw [exec_Assign_Name_used _ _ _ _ (by rw [swaps_comp N, hy, hline, hyn]; simp)]
  refine wpAny_bind (wpAny_standAt (wpAny_bind ?_))
  show wpAny _ A (do let _ ← comprehension (.ListComp elt [⟨.Name x px, iter, ifs, 0⟩] scope pos) scope env _ (newList []) false (eval iter env) (some (assign (.Name y py) env))) _ _ s
  refine wpAny_bind (wpAny_mono (wpAny_comprehension_free (use := some (assign (.Name y py) env)) (Q := fun _ s' => wpAny (model prog w) A (execs rest env) Q E s') rfl hs (closureFor_of hcl) so.kind so.names
    (hi.run s F _ _ fun v s₁ k₁ r₁ => src s₁ v r₁ _ _ fun I fp wr P St s₂ k₂ WK hst hfp hlt hwr hP hSx => ?_)) (fun _ s' hq => wpAny_pure (wpAny_pure hq)) fun _ _ e => e)
  have F₁ := F.keeps k₁
  refine comp_core (RR := fun acc C => compPost (model prog w) A E (some (assign (.Name y py) env)) (fun _ s' => wpAny (model prog w) A (execs rest env) Q E s') acc C) g N so.cell so.kind so.x (clos_look _ _ _ hcl fun _ _ e => nomatch e) F₁ k₂ WK hst hfp (fun b hb => let ⟨o, e⟩ := hlt b hb; Heap.lt_size e) hwr hP hSx hz hpm he ?_
  intro D C h' tk m' vs n H' hD hC hDC hDH hn hl hsub hCH hr hk
  have kh2 := keepsHeap k₂
  have k3 : Keeps s₁ { s₂ with heap := h', toks := tk } := by
    obtain ⟨h2, t2, rfl, kk2⟩ := k₂
    exact ⟨h', tk, rfl, fun b o e => hk b o (fun q => by rw [hwr b q] at e; cases e) (kk2 b o e)⟩
  have hC1 : s₁.heap.get? C = none := by
    cases q : s₁.heap.get? C with
    | none => rfl
    | some o => have := kh2 C o q; rw [hC] at this; cases this
  have hCnH : C ∉ H := fun q => by obtain ⟨o, e⟩ := F₁.ex C q; rw [hC1] at e; cases e
  show wpAny _ A (assign (.Name y py) env (.ref D)) _ _ _
  -- the frame's own dict is written; C is let go of
  have rD : Rd h' H (.list ((List.range ds.length).filterMap g)) (.ref D) := ⟨D, vs, n, rfl, hDH, hl, RdAll.move (fun b o hb e => ⟨e, fun q => hb (hsub b q)⟩) _ _ hr⟩
  have rD' : Rd h' (C :: H) (.list ((List.range ds.length).filterMap g)) (.ref D) := ⟨D, vs, n, rfl, fun q => (List.mem_cons.mp q).elim hDC hDH, hl, RdAll.move (fun b o hb e => ⟨e, fun q => hb ((List.mem_cons.mp q).elim (fun z => z ▸ hCH) (hsub b))⟩) _ _ hr⟩
  have F₃ : FSt h₀ env H own pm { s₂ with heap := h', toks := tk } := F₁.keeps k3
  have F₃' : FSt h₀ env (C :: H) own pm { s₂ with heap := h', toks := tk } := F₃.hide (keepsHeap k3) F₁ (fun a ha => (List.mem_cons.mp ha).elim (fun z => .inr (z ▸ hC1)) .inl)
    fun a ha => (List.mem_cons.mp ha).elim (fun z => by obtain ⟨o, _, _, e, _⟩ := hn; exact ⟨o, z ▸ e⟩) (F₃.ex a)
  have O' : FOk h₀ W env (C :: H) oa := O.hide (fun a ha => .tail _ ha) fun a ha => (List.mem_cons.mp ha).elim (fun z => .inr (by
    cases q : h₀.get? a with
    | none => rfl
    | some o => have := F₁.base a o q; rw [z, hC1] at this; cases this)) .inl
  refine wpAny_assign_Name (st_local N O' ho (Chg.refl W { s₂ with heap := h', toks := tk }) F₃' rD' hy fun s₅ S₅ F₅ => ?_)
  have hCW : C ∉ W := fun q => hCnH (O.WH C q)
  have hnC : s₅.heap.Ns C m' := hn.at' fun o e => S₅.get hCW e
  refine ⟨m', hnC, fun h'' hs'' => ?_⟩
  have T : Chg W s₀ { s₅ with heap := h'' } := by
    have S3 : Chg W s₀ s₅ := ((S.trans (Chg.keeps k₁)).trans (Chg.keeps k3)).trans S₅
    obtain ⟨h6, t6, rfl, kk6⟩ := S3
    refine ⟨h'', t6, rfl, fun b o hb e => hs''.extBut b o (fun q => ?_) (kk6 b o hb e)⟩
    have := (S.trans (Chg.keeps k₁)).get hb e
    rw [q, hC1] at this; cases this
  refine (k _ T ?_).run E
  have hCx : ∀ x c, env.cells.lookup x = some c → c ≠ C := fun x c e q => hCW (q ▸ (O.cell x c e).1)
  have mv : ∀ {d v}, Rd s₅.heap (C :: H) d v → Rd h'' H d v := fun r => Rd.move (fun b o hb e => ⟨hs''.extBut b o (fun q => hb (q ▸ .head _)) e, fun q => hb (.tail _ q)⟩) _ _ r
  have hLC : env.locals ≠ C := fun q => hCW (q ▸ O.loc)
  refine ⟨fun b o e => hs''.extBut b o (fun q => by rw [q, O'.hid C (.head _)] at e; cases e) (F₅.base b o e), ?_, fun z c e => ?_, fun p hp => (F₅.owns p hp).mv (fun _ _ r => mv r) (fun o e => hs''.extBut _ _ (fun q => hCW (q ▸ (O.ownW _ (inOa ho hp)).1)) e), fun a ha => ?_⟩
  · obtain ⟨m, hn5, hm⟩ := F₅.locs
    exact ⟨m, hn5.sameBut hs'' hLC, fun z d e hk => let ⟨v, e1, r1⟩ := hm z d e hk; ⟨v, e1, mv r1⟩⟩
  · obtain ⟨cv, hc', hd⟩ := F₅.cells z c e
    exact ⟨cv, hc'.sameBut hs'' (hCx z c e), fun d e' hk => let ⟨v, e1, r1⟩ := hd d e' hk; ⟨v, e1, mv r1⟩⟩
  · obtain ⟨o, e⟩ := F₅.ex a (.tail _ ha)
    exact ⟨o, hs''.extBut _ _ (fun q => hCnH (q ▸ ha)) e⟩⟩
end
end

section

noncomputable def RdK (h : Heap) (H : List Addr) : List (Str × Dt) → List (Str × Value) → Prop
  | [], vs => vs = []
  | (x, d) :: ks, vs => ∃ v rest, vs = (x, v) :: rest ∧ Rd h H d v ∧ RdK h H ks rest

structure PC (w : World) (mg mb : Str → Option Value) (h₀ : Heap) (f : Value) (n : Nat) (ds : List Dt) (ks : List (Str × Dt)) (d : Dt) : Prop where
  run : ∀ (prog : Program) (A : Around) (s : Shared) (H : List Addr) (args : List Value) (kws : List (Str × Value)), Room A n → (∀ b o, h₀.get? b = some o → s.heap.get? b = some o) → (∀ a ∈ H, h₀.get? a = none) → (∀ a ∈ H, ∃ o, s.heap.get? a = some o) →
    RdAll s.heap H ds args → RdK s.heap H ks kws → Gv prog w A H (call f args kws) s d

section
variable {prog : Program} {w : World} {A : Around} {h₀ : Heap} {env : Env} {H H' W : List Addr} {own : List (Addr × Ow)} {oa : List Addr} {pm : List (Str × Dt)} {mg mb : Str → Option Value} {n m : Nat} {f : Value} {ds : List Dt} {d : Dt}
theorem cl_pc (P : PC w mg mb h₀ f n ds [] d) (Rm : Room A m) (hnm : n ≤ m) (h0 : ∀ a ∈ H, h₀.get? a = none) (hH : ∀ a ∈ H', a ∈ H) : Cl prog w A (fs h₀ env H own pm) H' f ds d :=
  ⟨fun s vs F r => P.run prog A s H' vs [] (Rm.less hnm) F.base (fun a ha => h0 a (hH a ha)) (fun a ha => F.ex a (hH a ha)) r rfl⟩

theorem pc_fn {f : Addr} {fd : FuncData} {oc : Value} {od : Option Addr} {osl : Array (Option Value)} {body : List Stmt} {ks : List (Str × Dt)} (pm : List (Str × Dt)) (B : Base w mg mb h₀)
    (hl : (hd.heap_39 w.params).lookup f = some ⟨oc, od, .func fd, osl⟩) (hcd : codeIn (hd.heap_39 w.params) fd.code fd.qualname = true) (hbody : fd.body = .stmts body) (hge : fd.globals = mainGlobals) (hclo : fd.closure = []) (hbe : fd.builtins = builtinsNs)
    (hcell : (fd.scope.names.all fun x => decide (x.2 ≠ .cell)) = true) (hco : fd.scope.isCoroutine = false) (hgen : fd.scope.isGenerator = false) (hk : fd.scope.kind = .function)
    (hb : ∀ h H args kws, RdAll h H ds args → RdK h H ks kws → ∃ binds, (∀ S, peek (hd.heap_39 w.params) S (bindArgs fd ⟨args, kws⟩) = some binds) ∧ (binds.all fun x => decide (fd.scope.names.lookup x.1 = some .local)) = true ∧ RdB h H binds.reverse pm)
    (k : ∀ (prog : Program) A env s₁ L H, Room A n → Nm env fd.scope.names → (∀ a ∈ H, h₀.get? a = none) → FOk h₀ [L] env (L :: H) [] → FSt h₀ env (L :: H) [] pm s₁ →
      Ex prog w A body env (fun fl s' => ∃ v, fl = .ret v ∧ Chg [L] s₁ s' ∧ Rd s'.heap (L :: H) d v) s₁) : PC w mg mb h₀ (.ref f) (n + 1) ds ks d := ⟨fun prog A s H args kws Rm hbs h0 hx r rk Q E q => by
  obtain ⟨binds, b1, b2, b3⟩ := hb s.heap H args kws r rk
  refine wpAny_call (call_fn pm Rm B hbs h0 hx hl hcd hbody hge hclo hbe b1 hcell b2 (own := []) (oa := []) (fun p hp => nomatch hp) (fun a ha => nomatch ha) .nil rfl b3 (fun env s₁ L N eL hL O F C _ => ?_) hco hgen hk)
  refine ⟨fun E => wpAny_mono ((k prog _ env s₁ L H Rm.deeper N h0 O F).run E) (fun fl s' h' => ?_) fun _ _ e => e⟩
  obtain ⟨v, rfl, c, rv⟩ := h'
  refine q v s' ?_ (rv.sub fun a ha => .tail _ ha)
  exact ((C.more fun a ha => nomatch ha).trans c |>.drop (W := []) fun a ha => .inr (by rw [List.mem_singleton.mp ha]; exact hL)).toKeeps⟩

variable {nm : List (Str × NameKind)} {s₀ s : Shared} {Q : Flow → Shared → Prop} {rest : List Stmt}
theorem y_if {test : Expr} {body orelse : List Stmt} {pos : Pos} {b : Bool} (S : Chg W s₀ s) (F : FSt h₀ env H own pm s) (h : Tst prog w A (fs h₀ env H own pm) env test b)
    (k₁ : b = true → ∀ s', Chg W s₀ s' → FSt h₀ env H own pm s' → Ex prog w A (body ++ rest) env Q s') (k₂ : b = false → ∀ s', Chg W s₀ s' → FSt h₀ env H own pm s' → Ex prog w A (orelse ++ rest) env Q s') :
    Ex prog w A (.If test body orelse pos :: rest) env Q s :=
  x_if (Φ := fs h₀ env H own pm) F h (fun e s' k => k₁ e s' (S.trans (Chg.keeps k)) (F.keeps k)) fun e s' k => k₂ e s' (S.trans (Chg.keeps k)) (F.keeps k)
theorem y_ret {e : Expr} {pos : Pos} {d : Dt} {H' : List Addr} (S : Chg W s₀ s) (F : FSt h₀ env H own pm s) (h : Ev prog w A (fs h₀ env H own pm) H' env e d) (k : ∀ v s', Chg W s₀ s' → FSt h₀ env H own pm s' → Rd s'.heap H' d v → Q (.ret v) s') : Ex prog w A (.Return (some e) pos :: rest) env Q s :=
  x_ret (Φ := fs h₀ env H own pm) F h fun v s' k' r => k v s' (S.trans (Chg.keeps k')) (F.keeps k') r
theorem ev_len {pos : Pos} (B : Base w mg mb h₀) (N : Nm env nm) (hl : nm.lookup (Str.ofString "len") = some .globalImplicit) : Ev prog w A (fs h₀ env H own pm) H' env (.Name (Str.ofString "len") pos) (.val (.builtin "len")) :=
  ev_built B N hl (by kernel_rfl) (by kernel_rfl) (by decide +kernel) (by decide)
theorem ev_sum {pos : Pos} (B : Base w mg mb h₀) (N : Nm env nm) (hl : nm.lookup (Str.ofString "sum") = some .globalImplicit) : Ev prog w A (fs h₀ env H own pm) H' env (.Name (Str.ofString "sum") pos) (.val (.builtin "sum")) :=
  ev_built B N hl (by kernel_rfl) (by kernel_rfl) (by decide +kernel) (by decide)
theorem ev_max {pos : Pos} (B : Base w mg mb h₀) (N : Nm env nm) (hl : nm.lookup (Str.ofString "max") = some .globalImplicit) : Ev prog w A (fs h₀ env H own pm) H' env (.Name (Str.ofString "max") pos) (.val (.builtin "max")) :=
  ev_built B N hl (by kernel_rfl) (by kernel_rfl) (by decide +kernel) (by decide)
theorem ev_min {pos : Pos} (B : Base w mg mb h₀) (N : Nm env nm) (hl : nm.lookup (Str.ofString "min") = some .globalImplicit) : Ev prog w A (fs h₀ env H own pm) H' env (.Name (Str.ofString "min") pos) (.val (.builtin "min")) :=
  ev_built B N hl (by kernel_rfl) (by kernel_rfl) (by decide +kernel) (by decide)
theorem ev_range {pos : Pos} (B : Base w mg mb h₀) (N : Nm env nm) (hl : nm.lookup (Str.ofString "range") = some .globalImplicit) : Ev prog w A (fs h₀ env H own pm) H' env (.Name (Str.ofString "range") pos) (.val (.type "range")) :=
  ev_built B N hl (by kernel_rfl) (by kernel_rfl) (by decide +kernel) (by decide)
theorem ev_sorted {pos : Pos} (B : Base w mg mb h₀) (N : Nm env nm) (hl : nm.lookup (Str.ofString "sorted") = some .globalImplicit) : Ev prog w A (fs h₀ env H own pm) H' env (.Name (Str.ofString "sorted") pos) (.val (.builtin "sorted")) :=
  ev_built B N hl (by kernel_rfl) (by kernel_rfl) (by decide +kernel) (by decide)
theorem ev_tupleT {pos : Pos} (B : Base w mg mb h₀) (N : Nm env nm) (hl : nm.lookup (Str.ofString "tuple") = some .globalImplicit) : Ev prog w A (fs h₀ env H own pm) H' env (.Name (Str.ofString "tuple") pos) (.val (.type "tuple")) :=
  ev_built B N hl (by kernel_rfl) (by kernel_rfl) (by decide +kernel) (by decide)
theorem ev_g_insort_right {pos : Pos} (B : Base w mg mb h₀) (N : Nm env nm) (hl : nm.lookup (Str.ofString "insort_right") = some .globalImplicit) : Ev prog w A (fs h₀ env H own pm) H' env (.Name (Str.ofString "insort_right") pos) (.val (.ref 30)) :=
  ev_glob B N hl (by kernel_rfl) (by decide)
theorem fa_insort_right (B : Base w mg mb h₀) : Fa (fs h₀ env H own pm) 30 := fa_fs B (by rfl)
theorem ev_g_bisect_right {pos : Pos} (B : Base w mg mb h₀) (N : Nm env nm) (hl : nm.lookup (Str.ofString "bisect_right") = some .globalImplicit) : Ev prog w A (fs h₀ env H own pm) H' env (.Name (Str.ofString "bisect_right") pos) (.val (.ref 39)) :=
  ev_glob B N hl (by kernel_rfl) (by decide)
theorem fa_bisect_right (B : Base w mg mb h₀) : Fa (fs h₀ env H own pm) 39 := fa_fs B (by rfl)
theorem ev_g_insort_left {pos : Pos} (B : Base w mg mb h₀) (N : Nm env nm) (hl : nm.lookup (Str.ofString "insort_left") = some .globalImplicit) : Ev prog w A (fs h₀ env H own pm) H' env (.Name (Str.ofString "insort_left") pos) (.val (.ref 48)) :=
  ev_glob B N hl (by kernel_rfl) (by decide)
theorem fa_insort_left (B : Base w mg mb h₀) : Fa (fs h₀ env H own pm) 48 := fa_fs B (by rfl)
theorem ev_g_bisect_left {pos : Pos} (B : Base w mg mb h₀) (N : Nm env nm) (hl : nm.lookup (Str.ofString "bisect_left") = some .globalImplicit) : Ev prog w A (fs h₀ env H own pm) H' env (.Name (Str.ofString "bisect_left") pos) (.val (.ref 57)) :=
  ev_glob B N hl (by kernel_rfl) (by decide)
theorem fa_bisect_left (B : Base w mg mb h₀) : Fa (fs h₀ env H own pm) 57 := fa_fs B (by rfl)
theorem ev_g_Whitespace {pos : Pos} (B : Base w mg mb h₀) (N : Nm env nm) (hl : nm.lookup (Str.ofString "Whitespace") = some .globalImplicit) : Ev prog w A (fs h₀ env H own pm) H' env (.Name (Str.ofString "Whitespace") pos) (.val (.ref 119)) :=
  ev_glob B N hl (by kernel_rfl) (by decide)
theorem ev_g_escape_cdata {pos : Pos} (B : Base w mg mb h₀) (N : Nm env nm) (hl : nm.lookup (Str.ofString "_escape_cdata") = some .globalImplicit) : Ev prog w A (fs h₀ env H own pm) H' env (.Name (Str.ofString "_escape_cdata") pos) (.val (.ref 137)) :=
  ev_glob B N hl (by kernel_rfl) (by decide)
theorem fa_escape_cdata (B : Base w mg mb h₀) : Fa (fs h₀ env H own pm) 137 := fa_fs B (by rfl)
theorem ev_g_escape_attrib {pos : Pos} (B : Base w mg mb h₀) (N : Nm env nm) (hl : nm.lookup (Str.ofString "_escape_attrib") = some .globalImplicit) : Ev prog w A (fs h₀ env H own pm) H' env (.Name (Str.ofString "_escape_attrib") pos) (.val (.ref 144)) :=
  ev_glob B N hl (by kernel_rfl) (by decide)
theorem fa_escape_attrib (B : Base w mg mb h₀) : Fa (fs h₀ env H own pm) 144 := fa_fs B (by rfl)
theorem ev_g_law_spelled {pos : Pos} (B : Base w mg mb h₀) (N : Nm env nm) (hl : nm.lookup (Str.ofString "_law_spelled") = some .globalImplicit) : Ev prog w A (fs h₀ env H own pm) H' env (.Name (Str.ofString "_law_spelled") pos) (.val (.ref 151)) :=
  ev_glob B N hl (by kernel_rfl) (by decide)
theorem fa_law_spelled (B : Base w mg mb h₀) : Fa (fs h₀ env H own pm) 151 := fa_fs B (by rfl)
theorem ev_g_law_is_even {pos : Pos} (B : Base w mg mb h₀) (N : Nm env nm) (hl : nm.lookup (Str.ofString "_law_is_even") = some .globalImplicit) : Ev prog w A (fs h₀ env H own pm) H' env (.Name (Str.ofString "_law_is_even") pos) (.val (.ref 156)) :=
  ev_glob B N hl (by kernel_rfl) (by decide)
theorem fa_law_is_even (B : Base w mg mb h₀) : Fa (fs h₀ env H own pm) 156 := fa_fs B (by rfl)
theorem ev_g_law_column {pos : Pos} (B : Base w mg mb h₀) (N : Nm env nm) (hl : nm.lookup (Str.ofString "_law_column") = some .globalImplicit) : Ev prog w A (fs h₀ env H own pm) H' env (.Name (Str.ofString "_law_column") pos) (.val (.ref 163)) :=
  ev_glob B N hl (by kernel_rfl) (by decide)
theorem fa_law_column (B : Base w mg mb h₀) : Fa (fs h₀ env H own pm) 163 := fa_fs B (by rfl)
theorem ev_g_law_back {pos : Pos} (B : Base w mg mb h₀) (N : Nm env nm) (hl : nm.lookup (Str.ofString "_law_back") = some .globalImplicit) : Ev prog w A (fs h₀ env H own pm) H' env (.Name (Str.ofString "_law_back") pos) (.val (.ref 170)) :=
  ev_glob B N hl (by kernel_rfl) (by decide)
theorem fa_law_back (B : Base w mg mb h₀) : Fa (fs h₀ env H own pm) 170 := fa_fs B (by rfl)
theorem itm_listN {Φ : Sp} {k : Nat} (hk : ds[k]? = some d) (hz : k < 1000000) : Itm prog w A Φ H (.list ds) (.int (k : Int)) d := itm_list (by omega) (by rw [Int.toNat_natCast]; exact hk) (by omega)
theorem itm_tupN {Φ : Sp} {k : Nat} (hk : ds[k]? = some d) (hz : k < 1000000) : Itm prog w A Φ H (.tup ds) (.int (k : Int)) d := itm_tup (by omega) (by rw [Int.toNat_natCast]; exact hk) (by omega)
theorem itm_strN {Φ : Sp} {x : Str} {k : Nat} {c : Nat} (hk : x.cps.toList[k]? = some c) (hz : k < 1000000) : Itm prog w A Φ H (.str x) (.int (k : Int)) (.str ⟨#[c]⟩) := itm_str (by omega) (by rw [Int.toNat_natCast]; exact hk) (by omega)
theorem dStrs_get {xs : List Str} {i : Nat} {y : Str} (h : xs[i]? = some y) : (dStrs xs)[i]? = some (.str y) := by unfold dStrs; rw [List.getElem?_map, h]; rfl
theorem dInts_get {xs : List Int} {i : Nat} {y : Int} (h : xs[i]? = some y) : (dInts xs)[i]? = some (.int y) := by unfold dInts; rw [List.getElem?_map, h]; rfl
theorem dStrs_len {xs : List Str} : (dStrs xs).length = xs.length := by simp [dStrs]
theorem dInts_len {xs : List Int} : (dInts xs).length = xs.length := by simp [dInts]
theorem cl_len {Φ : Sp} {k : Int} (hn : (ds.length : Int) = k) (hz : k ≤ 1000) : Cl prog w A Φ H (.builtin "len") [.list ds] (.int k) := by
  subst hn; exact cl_len_list (by omega)
theorem cl_lenS {Φ : Sp} {x : Str} {k : Int} (hn : (x.cps.size : Int) = k) (hz : k ≤ 1000) : Cl prog w A Φ H (.builtin "len") [.str x] (.int k) := by
  subst hn; exact cl_len_str (by omega)
end
end

local macro_rules | `(tactic| walk_at "EV") => `(tactic| repeat' (first
  | exact ev_int | exact ev_str | exact ev_none | exact ev_bool
  | exact ev_local (by assumption) (by rfl) (by rfl) (fun _ h => h) (by decide)
  | exact ev_local (by assumption) (by rfl) (by rfl) (by assumption) (by decide)
  | exact cmp_lt | exact cmp_gt | exact cmp_ge | exact cmp_le | exact cmp_eq_str | exact cmp_eq | exact cmp_is_none | exact cmp_lt_str | exact cmp_is_bool | exact cmp_isnot_bool
  | exact ev_len (by assumption) (by assumption) (by rfl) | refine' ev_call_b (ev_len (by assumption) (by assumption) (by rfl)) ?_ ?_
  | refine' ev_add ?_ ?_ | refine' ev_sub ?_ ?_ | refine' tst_cmp ?_ ?_ ?_ | exact evs_nil | refine' evs_cons ?_ ?_
  | fail "EV"))

section
noncomputable def colStep (size : Int) (at' : Int) (c : Nat) : Int := if c = 32 then at' + 1 else at' / size * size + size
noncomputable def column (xs : List Nat) (size : Int) : Int := xs.foldl (colStep size) 0

theorem col_take (size : Int) (xs : List Nat) (i : Nat) (c : Nat) (h : xs[i]? = some c) : column (xs.take (i + 1)) size = colStep size (column (xs.take i) size) c := by
  unfold column
  rw [List.take_add_one, h, List.foldl_append]; rfl

theorem pc_column {w : World} {mg mb : Str → Option Value} {h₀ : Heap} (B : Base w mg mb h₀) {x : Str} {size : Int} (hx : x.cps.size ≤ 100) (h1 : 1 ≤ size) (h2 : size ≤ 1000) :
    PC w mg mb h₀ (.ref 163) 1 [.str x, .int size] [] (.int (column x.cps.toList size)) := by
  refine pc_fn [(Str.ofString "size", .int size), (Str.ofString "lead", .str x)] B (hl := rfl) (hcd := by kernel_rfl) (hbody := rfl) (hge := rfl) (hclo := rfl) (hbe := rfl) (hcell := by decide +kernel) (hco := rfl) (hgen := rfl) (hk := rfl) ?_ ?_
  · intro h H args kws r rk
    obtain ⟨v, u, rfl, r1, r2⟩ := rd2 r
    obtain rfl : kws = [] := rk
    exact ⟨[(Str.ofString "lead", v), (Str.ofString "size", u)], fun S => by kernel_rfl, by kernel_rfl, rdb_cons r2 (rdb_cons r1 rdb_nil)⟩
  · intro prog A env s₁ L H Rm N h0 O F
    dsimp only at N
    have S := Chg.refl [L] s₁
    refine x_asg_local N O S F (by walk_at "EV") rfl fun s₂ S F => ?_
    refine x_for (fun i => [(Str.ofString "at", .int (column (x.cps.toList.take i) size)), (Str.ofString "size", .int size), (Str.ofString "lead", .str x)]) (fun _ => []) (fun i => i ≤ x.cps.size ∧ 0 ≤ column (x.cps.toList.take i) size ∧ column (x.cps.toList.take i) size ≤ 1000 * i) (fun _ => False) (fun _ _ => False) N O S (F.cov ⟨rfl, rfl, rfl, trivial⟩) ⟨Nat.zero_le _, Int.le_refl _, Int.le_refl _⟩ (by walk_at "EV") (it_str Rm.hh) rfl ?_ (fun _ _ _ f => f.elim) (fun _ _ _ f => f.elim) ?_
    · intro i d s₃ H' hd hC _ O' F'
      rw [List.getElem?_map] at hd
      obtain ⟨c, hc, rfl⟩ := Option.map_eq_some_iff.mp hd
      have hi : i < x.cps.size := by have := (List.getElem?_eq_some_iff.mp hc).1; rwa [Array.length_toList] at this
      refine x_asg_local N O' (Chg.refl [L] s₃) F' (d := .int (colStep size (column (x.cps.toList.take i) size) c)) ?_ rfl (fun s₄ S₄ F₄ => x_nil ⟨S₄, ⟨hi, ?_, ?_⟩, F₄.cov ⟨by rw [col_take _ _ _ _ hc]; rfl, rfl, rfl, trivial⟩⟩)
      · have hb : ((Str.mk #[c]) == Str.ofString " ") = decide (c = 32) := by
          rw [show Str.ofString " " = Str.mk #[32] from by decide +kernel, Bool.eq_iff_iff]
          simp
        refine ev_if (b := decide (c = 32)) (by rw [← hb]; walk_at "EV") (fun h => ?_) (fun h => ?_)
        · rw [show colStep size (column (x.cps.toList.take i) size) c = column (x.cps.toList.take i) size + 1 from if_pos (of_decide_eq_true h)]
          walk_at "EV"
        · rw [show colStep size (column (x.cps.toList.take i) size) c = column (x.cps.toList.take i) size / size * size + size from if_neg (of_decide_eq_false h)]
          have hq : column (x.cps.toList.take i) size / size ≤ column (x.cps.toList.take i) size := Int.ediv_le_self _ hC.2.1
          have hq0 : 0 ≤ column (x.cps.toList.take i) size / size := Int.ediv_nonneg hC.2.1 (by omega)
          exact ev_add (ev_mul (ev_fdiv (by walk_at "EV") (by walk_at "EV") (by omega) (by omega)) (by walk_at "EV") (by omega)) (by walk_at "EV")
      all_goals
        rw [col_take _ _ _ _ hc]
        unfold colStep
        split
        · omega
        · have hm := Int.ediv_mul_le (column (x.cps.toList.take i) size) (b := size) (by omega)
          have hq0 : 0 ≤ column (x.cps.toList.take i) size / size := Int.ediv_nonneg hC.2.1 (by omega)
          have hq1 : 0 ≤ column (x.cps.toList.take i) size / size * size := Int.mul_nonneg hq0 (by omega)
          omega
    · intro s' hC S' F'
      rw [List.length_map, Array.length_toList] at F'
      refine y_ret (H' := L :: H) S' F' (by walk_at "EV") fun v s'' S'' F'' r => ⟨v, rfl, S'', ?_⟩
      rw [List.take_of_length_le (by simp)] at r
      exact r
end

section
noncomputable def nmBis : List (Str × NameKind) := [(Str.ofString "a", .local), (Str.ofString "x", .local), (Str.ofString "lo", .local), (Str.ofString "hi", .local), (Str.ofString "key", .local), (Str.ofString "len", .globalImplicit), (Str.ofString "mid", .local)]

section
variable {w : World} {mg mb : Str → Option Value} {h₀ : Heap}
abbrev S' (x : String) : Str := Str.ofString x

theorem FnAt.keep {h h' : Heap} {f : Addr} (k : ∀ b o, h.get? b = some o → h'.get? b = some o) (x : FnAt f h) : FnAt f h' := let ⟨oc, od, fd, sl, e⟩ := x; ⟨oc, od, fd, sl, k _ _ e⟩
theorem pc_bisect_left (B : Base w mg mb h₀) {xs : List Str} {x : Str} {k : Nat} (hz : xs.length ≤ 1000) (hk : k ≤ xs.length) (hp : ∀ (i : Nat) (y : Str), xs[i]? = some y → decide (y.cps.toList < x.cps.toList) = decide (i < k)) :
    PC w mg mb h₀ (.ref 57) 1 [.list (dStrs xs), .str x] [] (.int k) := by
  refine pc_fn [(S' "key", .none), (S' "hi", .none), (S' "lo", .int 0), (S' "x", .str x), (S' "a", .list (dStrs xs))] B (hl := rfl) (hcd := by kernel_rfl) (hbody := rfl) (hge := rfl) (hclo := rfl) (hbe := rfl) (hcell := by decide +kernel) (hco := rfl) (hgen := rfl) (hk := rfl) ?_ ?_
  · intro h H args kws r rk
    obtain ⟨v, u, rfl, r1, r2⟩ := rd2 r
    obtain rfl : kws = [] := rk
    exact ⟨[(S' "a", v), (S' "x", u), (S' "lo", .int 0 236), (S' "hi", .none), (S' "key", .none)], fun S => by kernel_rfl, by kernel_rfl, rdb_cons rfl (rdb_cons rfl (rdb_cons ⟨_, rfl⟩ (rdb_cons r2 (rdb_cons r1 rdb_nil))))⟩
  · intro prog A env s₁ L H Rm N h0 O F
    dsimp only at N
    have S := Chg.refl [L] s₁
    refine y_if S F (by walk_at "EV") (fun e => by cases e) fun _ s₂ S F => ?_
    dsimp only [List.nil_append]
    refine y_if S F (by walk_at "EV") (fun _ s₂ S F => ?_) (fun e => by cases e)
    dsimp only [List.cons_append, List.nil_append]
    refine x_asg_local N O S F (d := .int xs.length) ?_ rfl fun s₂ S F => ?_
    · walk_at "EV"
      exact cl_len (by simp [dStrs]) (by omega)
    refine y_if S F (by walk_at "EV") (fun _ s₂ S F => ?_) (fun e => by cases e)
    dsimp only [List.cons_append, List.nil_append]
    refine x_while (σ := Nat × Nat) (fun p => [(S' "lo", .int p.1), (S' "hi", .int p.2), (S' "x", .str x), (S' "a", .list (dStrs xs))]) (fun p => p.1 ≤ k ∧ k ≤ p.2 ∧ p.2 ≤ xs.length) (fun p => p.2 - p.1) (fun p => decide ((p.1 : Int) < p.2)) (0, xs.length) ⟨Nat.zero_le _, hk, Nat.le_refl _⟩ S (F.cov ⟨rfl, rfl, rfl, rfl, trivial⟩) (fun p _ => by walk_at "EV") ?_ ?_
    · rintro ⟨lo, hi⟩ s₃ ⟨h1, h2, h3⟩ hc F
      dsimp only at *
      have hlt : lo < hi := by have := of_decide_eq_true hc; omega
      have S := Chg.refl [L] s₃
      have em : ((lo : Int) + hi) / 2 = (((lo + hi) / 2 : Nat) : Int) := by omega
      obtain ⟨y, hy⟩ : ∃ y, xs[(lo + hi) / 2]? = some y := ⟨_, List.getElem?_eq_getElem (by omega)⟩
      refine x_asg_local N O S F (d := .int (((lo + hi) / 2 : Nat) : Int)) (by rw [← em]; refine ev_fdiv ?_ ?_ (by decide) (by decide) <;> walk_at "EV") rfl fun s₄ S F => ?_
      refine y_if S F (b := decide (y.cps.toList < x.cps.toList)) ?_ (fun e s₅ S F => ?_) (fun e s₅ S F => ?_)
      · refine' tst_cmp (d₁ := .str y) (d₂ := .str x) (H := L :: H) (ev_sub_ (d₁ := .list (dStrs xs)) (d₂ := .int (((lo + hi) / 2 : Nat) : Int)) ?_ ?_ (itm_listN (dStrs_get hy) (by omega))) ?_ cmp_lt_str <;> walk_at "EV"
      · rw [hp _ _ hy] at e
        have e' := of_decide_eq_true e
        refine x_asg_local N O S F (d := .int (((lo + hi) / 2 + 1 : Nat) : Int)) (by rw [Int.natCast_add]; walk_at "EV") rfl fun s₆ S F => x_nil ⟨rfl, S, ((lo + hi) / 2 + 1, hi), ⟨by omega, h2, h3⟩, by simp only; omega, F.cov ⟨rfl, rfl, rfl, rfl, trivial⟩⟩
      · rw [hp _ _ hy] at e
        have e' := of_decide_eq_false e
        refine x_asg_local N O S F (d := .int (((lo + hi) / 2 : Nat) : Int)) (by walk_at "EV") rfl fun s₆ S F => x_nil ⟨rfl, S, (lo, (lo + hi) / 2), ⟨h1, by omega, by omega⟩, by simp only; omega, F.cov ⟨rfl, rfl, rfl, rfl, trivial⟩⟩
    · rintro ⟨lo, hi⟩ s₃ ⟨h1, h2, h3⟩ hc S F
      dsimp only at *
      have hge := of_decide_eq_false hc
      have : lo = k := by omega
      subst this
      exact y_ret (H' := L :: H) S F (by walk_at "EV") fun v s'' S'' F'' r => ⟨v, rfl, S'', r⟩

noncomputable def fdAt (w : World) (a : Addr) : FuncData := match (hd.heap_39 w.params).lookup a with
  | some ⟨_, _, .func fd, _⟩ => fd
  | _ => default
noncomputable def Binds (w : World) (a : Addr) (ds : List Dt) (ks pm : List (Str × Dt)) : Prop :=
  ∀ h H args kws, RdAll h H ds args → RdK h H ks kws → ∃ binds, (∀ S, peek (hd.heap_39 w.params) S (bindArgs (fdAt w a) ⟨args, kws⟩) = some binds) ∧ (binds.all fun x => decide ((fdAt w a).scope.names.lookup x.1 = some .local)) = true ∧ RdB h H binds.reverse pm

theorem rdk1 {h : Heap} {H : List Addr} {x : Str} {d : Dt} {kws : List (Str × Value)} (r : RdK h H [(x, d)] kws) : ∃ v, kws = [(x, v)] ∧ Rd h H d v := by
  obtain ⟨v, rest, rfl, r1, r2⟩ := r
  obtain rfl : rest = [] := r2
  exact ⟨v, rfl, r1⟩
theorem rd4 {h : Heap} {H : List Addr} {d e f g : Dt} {vs : List Value} (r : RdAll h H [d, e, f, g] vs) : ∃ v u x y, vs = [v, u, x, y] ∧ Rd h H d v ∧ Rd h H e u ∧ Rd h H f x ∧ Rd h H g y := by
  obtain ⟨v, rest, rfl, r1, r2⟩ := r
  obtain ⟨u, x, y, rfl, r3, r4, r5⟩ := rd3 r2
  exact ⟨v, u, x, y, rfl, r1, r3, r4, r5⟩

theorem pc_bisect_left4 (B : Base w mg mb h₀) {xs : List Str} {x : Str} {k : Nat} (hz : xs.length ≤ 1000) (hk : k ≤ xs.length) (hp : ∀ (i : Nat) (y : Str), xs[i]? = some y → decide (y.cps.toList < x.cps.toList) = decide (i < k)) :
    PC w mg mb h₀ (.ref 57) 1 [.list (dStrs xs), .str x, .int 0, .none] [] (.int k) := by
  refine pc_fn [(S' "key", .none), (S' "hi", .none), (S' "lo", .int 0), (S' "x", .str x), (S' "a", .list (dStrs xs))] B (hl := rfl) (hcd := by kernel_rfl) (hbody := rfl) (hge := rfl) (hclo := rfl) (hbe := rfl) (hcell := by decide +kernel) (hco := rfl) (hgen := rfl) (hk := rfl) ?_ ?_
  · intro h H args kws r rk
    obtain ⟨v, u, y, z, rfl, r1, r2, r3, r4⟩ := rd4 r
    obtain rfl : kws = [] := rk
    exact ⟨[(S' "a", v), (S' "x", u), (S' "lo", y), (S' "hi", z), (S' "key", .none)], fun S => by kernel_rfl, by kernel_rfl, rdb_cons rfl (rdb_cons r4 (rdb_cons r3 (rdb_cons r2 (rdb_cons r1 rdb_nil))))⟩
  · intro prog A env s₁ L H Rm N h0 O F
    dsimp only at N
    have S := Chg.refl [L] s₁
    refine y_if S F (by walk_at "EV") (fun e => by cases e) fun _ s₂ S F => ?_
    dsimp only [List.nil_append]
    refine y_if S F (by walk_at "EV") (fun _ s₂ S F => ?_) (fun e => by cases e)
    dsimp only [List.cons_append, List.nil_append]
    refine x_asg_local N O S F (d := .int xs.length) ?_ rfl fun s₂ S F => ?_
    · walk_at "EV"
      exact cl_len (by simp [dStrs]) (by omega)
    refine y_if S F (by walk_at "EV") (fun _ s₂ S F => ?_) (fun e => by cases e)
    dsimp only [List.cons_append, List.nil_append]
    refine x_while (σ := Nat × Nat) (fun p => [(S' "lo", .int p.1), (S' "hi", .int p.2), (S' "x", .str x), (S' "a", .list (dStrs xs))]) (fun p => p.1 ≤ k ∧ k ≤ p.2 ∧ p.2 ≤ xs.length) (fun p => p.2 - p.1) (fun p => decide ((p.1 : Int) < p.2)) (0, xs.length) ⟨Nat.zero_le _, hk, Nat.le_refl _⟩ S (F.cov ⟨rfl, rfl, rfl, rfl, trivial⟩) (fun p _ => by walk_at "EV") ?_ ?_
    · rintro ⟨lo, hi⟩ s₃ ⟨h1, h2, h3⟩ hc F
      dsimp only at *
      have hlt : lo < hi := by have := of_decide_eq_true hc; omega
      have S := Chg.refl [L] s₃
      have em : ((lo : Int) + hi) / 2 = (((lo + hi) / 2 : Nat) : Int) := by omega
      obtain ⟨y, hy⟩ : ∃ y, xs[(lo + hi) / 2]? = some y := ⟨_, List.getElem?_eq_getElem (by omega)⟩
      refine x_asg_local N O S F (d := .int (((lo + hi) / 2 : Nat) : Int)) (by rw [← em]; refine ev_fdiv ?_ ?_ (by decide) (by decide) <;> walk_at "EV") rfl fun s₄ S F => ?_
      refine y_if S F (b := decide (y.cps.toList < x.cps.toList)) ?_ (fun e s₅ S F => ?_) (fun e s₅ S F => ?_)
      · refine' tst_cmp (d₁ := .str y) (d₂ := .str x) (H := L :: H) (ev_sub_ (d₁ := .list (dStrs xs)) (d₂ := .int (((lo + hi) / 2 : Nat) : Int)) ?_ ?_ (itm_listN (dStrs_get hy) (by omega))) ?_ cmp_lt_str <;> walk_at "EV"
      · rw [hp _ _ hy] at e
        have e' := of_decide_eq_true e
        refine x_asg_local N O S F (d := .int (((lo + hi) / 2 + 1 : Nat) : Int)) (by rw [Int.natCast_add]; walk_at "EV") rfl fun s₆ S F => x_nil ⟨rfl, S, ((lo + hi) / 2 + 1, hi), ⟨by omega, h2, h3⟩, by simp only; omega, F.cov ⟨rfl, rfl, rfl, rfl, trivial⟩⟩
      · rw [hp _ _ hy] at e
        have e' := of_decide_eq_false e
        refine x_asg_local N O S F (d := .int (((lo + hi) / 2 : Nat) : Int)) (by walk_at "EV") rfl fun s₆ S F => x_nil ⟨rfl, S, (lo, (lo + hi) / 2), ⟨h1, by omega, by omega⟩, by simp only; omega, F.cov ⟨rfl, rfl, rfl, rfl, trivial⟩⟩
    · rintro ⟨lo, hi⟩ s₃ ⟨h1, h2, h3⟩ hc S F
      dsimp only at *
      have hge := of_decide_eq_false hc
      have : lo = k := by omega
      subst this
      exact y_ret (H' := L :: H) S F (by walk_at "EV") fun v s'' S'' F'' r => ⟨v, rfl, S'', r⟩

theorem pc_bisect_left_key (B : Base w mg mb h₀) {f : Addr} {ds : List Dt} {ys : List Str} {x : Str} {k : Nat} (hf : FnAt f h₀) (hz : ds.length ≤ 1000) (hl : ys.length = ds.length) (hk : k ≤ ds.length)
    (hkey : ∀ (i : Nat) (d : Dt) (y : Str), ds[i]? = some d → ys[i]? = some y → PC w mg mb h₀ (.ref f) 1 [d] [] (.str y))
    (hp : ∀ (i : Nat) (y : Str), ys[i]? = some y → decide (y.cps.toList < x.cps.toList) = decide (i < k)) :
    PC w mg mb h₀ (.ref 57) 2 [.list ds, .str x, .int 0, .none] [(S' "key", .val (.ref f))] (.int k) := by
  refine pc_fn [(S' "key", .val (.ref f)), (S' "hi", .none), (S' "lo", .int 0), (S' "x", .str x), (S' "a", .list ds)] B (hl := rfl) (hcd := by kernel_rfl) (hbody := rfl) (hge := rfl) (hclo := rfl) (hbe := rfl) (hcell := by decide +kernel) (hco := rfl) (hgen := rfl) (hk := rfl) ?_ ?_
  · intro h H args kws r rk
    obtain ⟨v, u, y, z, rfl, r1, r2, r3, r4⟩ := rd4 r
    obtain ⟨kv, rfl, r5⟩ := rdk1 rk
    exact ⟨[(S' "a", v), (S' "x", u), (S' "lo", y), (S' "hi", z), (S' "key", kv)], fun S => by kernel_rfl, by kernel_rfl, rdb_cons r5 (rdb_cons r4 (rdb_cons r3 (rdb_cons r2 (rdb_cons r1 rdb_nil))))⟩
  · intro prog A env s₁ L H Rm N h0 O F
    dsimp only at N
    have S := Chg.refl [L] s₁
    refine y_if S F (by walk_at "EV") (fun e => by cases e) fun _ s₂ S F => ?_
    dsimp only [List.nil_append]
    refine y_if S F (by walk_at "EV") (fun _ s₂ S F => ?_) (fun e => by cases e)
    dsimp only [List.cons_append, List.nil_append]
    refine x_asg_local N O S F (d := .int ds.length) (by walk_at "EV"; exact cl_len rfl (by omega)) rfl fun s₂ S F => ?_
    refine y_if S F (by walk_at "EV") (fun e => by cases e) fun _ s₂ S F => ?_
    dsimp only [List.cons_append, List.nil_append]
    refine x_while (σ := Nat × Nat) (fun p => [(S' "lo", .int p.1), (S' "hi", .int p.2), (S' "key", .val (.ref f)), (S' "x", .str x), (S' "a", .list ds)]) (fun p => p.1 ≤ k ∧ k ≤ p.2 ∧ p.2 ≤ ds.length) (fun p => p.2 - p.1) (fun p => decide ((p.1 : Int) < p.2)) (0, ds.length) ⟨Nat.zero_le _, hk, Nat.le_refl _⟩ S (F.cov ⟨rfl, rfl, rfl, rfl, rfl, trivial⟩) (fun p _ => by walk_at "EV") ?_ ?_
    · rintro ⟨lo, hi⟩ s₃ ⟨h1, h2, h3⟩ hc F
      dsimp only at *
      have hlt : lo < hi := by have := of_decide_eq_true hc; omega
      have S := Chg.refl [L] s₃
      have em : ((lo : Int) + hi) / 2 = (((lo + hi) / 2 : Nat) : Int) := by omega
      obtain ⟨d, hd⟩ : ∃ d, ds[(lo + hi) / 2]? = some d := ⟨_, List.getElem?_eq_getElem (by omega)⟩
      obtain ⟨y, hy⟩ : ∃ y, ys[(lo + hi) / 2]? = some y := ⟨_, List.getElem?_eq_getElem (by omega)⟩
      refine x_asg_local N O S F (d := .int (((lo + hi) / 2 : Nat) : Int)) (by rw [← em]; refine ev_fdiv ?_ ?_ (by decide) (by decide) <;> walk_at "EV") rfl fun s₄ S F => ?_
      refine y_if S F (b := decide (y.cps.toList < x.cps.toList)) ?_ (fun e s₅ S F => ?_) (fun e s₅ S F => ?_)
      · refine' tst_cmp (d₁ := .str y) (d₂ := .str x) (H := L :: H) (ev_call_d (f := f) (ds := [d]) ⟨fun s F => FnAt.keep F.base hf⟩ ?_ (evs_cons (ev_sub_ (d₁ := .list ds) (d₂ := .int (((lo + hi) / 2 : Nat) : Int)) ?_ ?_ (itm_listN hd (by omega))) evs_nil) (cl_pc (hkey _ _ _ hd hy) Rm (Nat.le_refl _) O.hid (fun _ h => h))) ?_ cmp_lt_str <;> walk_at "EV"
      · rw [hp _ _ hy] at e
        have e' := of_decide_eq_true e
        refine x_asg_local N O S F (d := .int (((lo + hi) / 2 + 1 : Nat) : Int)) (by rw [Int.natCast_add]; walk_at "EV") rfl fun s₆ S F => x_nil ⟨rfl, S, ((lo + hi) / 2 + 1, hi), ⟨by omega, h2, h3⟩, by simp only; omega, F.cov ⟨rfl, rfl, rfl, rfl, rfl, trivial⟩⟩
      · rw [hp _ _ hy] at e
        have e' := of_decide_eq_false e
        refine x_asg_local N O S F (d := .int (((lo + hi) / 2 : Nat) : Int)) (by walk_at "EV") rfl fun s₆ S F => x_nil ⟨rfl, S, (lo, (lo + hi) / 2), ⟨h1, by omega, by omega⟩, by simp only; omega, F.cov ⟨rfl, rfl, rfl, rfl, rfl, trivial⟩⟩
    · rintro ⟨lo, hi⟩ s₃ ⟨h1, h2, h3⟩ hc S F
      dsimp only at *
      have hge := of_decide_eq_false hc
      have : lo = k := by omega
      subst this
      exact y_ret (H' := L :: H) S F (by walk_at "EV") fun v s'' S'' F'' r => ⟨v, rfl, S'', r⟩
theorem pc_bisect_right_key (B : Base w mg mb h₀) {f : Addr} {ds : List Dt} {ys : List Str} {x : Str} {k : Nat} (hf : FnAt f h₀) (hz : ds.length ≤ 1000) (hl : ys.length = ds.length) (hk : k ≤ ds.length)
    (hkey : ∀ (i : Nat) (d : Dt) (y : Str), ds[i]? = some d → ys[i]? = some y → PC w mg mb h₀ (.ref f) 1 [d] [] (.str y))
    (hp : ∀ (i : Nat) (y : Str), ys[i]? = some y → decide (x.cps.toList < y.cps.toList) = decide (k ≤ i)) :
    PC w mg mb h₀ (.ref 39) 2 [.list ds, .str x, .int 0, .none] [(S' "key", .val (.ref f))] (.int k) := by
  refine pc_fn [(S' "key", .val (.ref f)), (S' "hi", .none), (S' "lo", .int 0), (S' "x", .str x), (S' "a", .list ds)] B (hl := rfl) (hcd := by kernel_rfl) (hbody := rfl) (hge := rfl) (hclo := rfl) (hbe := rfl) (hcell := by decide +kernel) (hco := rfl) (hgen := rfl) (hk := rfl) ?_ ?_
  · intro h H args kws r rk
    obtain ⟨v, u, y, z, rfl, r1, r2, r3, r4⟩ := rd4 r
    obtain ⟨kv, rfl, r5⟩ := rdk1 rk
    exact ⟨[(S' "a", v), (S' "x", u), (S' "lo", y), (S' "hi", z), (S' "key", kv)], fun S => by kernel_rfl, by kernel_rfl, rdb_cons r5 (rdb_cons r4 (rdb_cons r3 (rdb_cons r2 (rdb_cons r1 rdb_nil))))⟩
  · intro prog A env s₁ L H Rm N h0 O F
    dsimp only at N
    have S := Chg.refl [L] s₁
    refine y_if S F (by walk_at "EV") (fun e => by cases e) fun _ s₂ S F => ?_
    dsimp only [List.nil_append]
    refine y_if S F (by walk_at "EV") (fun _ s₂ S F => ?_) (fun e => by cases e)
    dsimp only [List.cons_append, List.nil_append]
    refine x_asg_local N O S F (d := .int ds.length) (by walk_at "EV"; exact cl_len rfl (by omega)) rfl fun s₂ S F => ?_
    refine y_if S F (by walk_at "EV") (fun e => by cases e) fun _ s₂ S F => ?_
    dsimp only [List.cons_append, List.nil_append]
    refine x_while (σ := Nat × Nat) (fun p => [(S' "lo", .int p.1), (S' "hi", .int p.2), (S' "key", .val (.ref f)), (S' "x", .str x), (S' "a", .list ds)]) (fun p => p.1 ≤ k ∧ k ≤ p.2 ∧ p.2 ≤ ds.length) (fun p => p.2 - p.1) (fun p => decide ((p.1 : Int) < p.2)) (0, ds.length) ⟨Nat.zero_le _, hk, Nat.le_refl _⟩ S (F.cov ⟨rfl, rfl, rfl, rfl, rfl, trivial⟩) (fun p _ => by walk_at "EV") ?_ ?_
    · rintro ⟨lo, hi⟩ s₃ ⟨h1, h2, h3⟩ hc F
      dsimp only at *
      have hlt : lo < hi := by have := of_decide_eq_true hc; omega
      have S := Chg.refl [L] s₃
      have em : ((lo : Int) + hi) / 2 = (((lo + hi) / 2 : Nat) : Int) := by omega
      obtain ⟨d, hd⟩ : ∃ d, ds[(lo + hi) / 2]? = some d := ⟨_, List.getElem?_eq_getElem (by omega)⟩
      obtain ⟨y, hy⟩ : ∃ y, ys[(lo + hi) / 2]? = some y := ⟨_, List.getElem?_eq_getElem (by omega)⟩
      refine x_asg_local N O S F (d := .int (((lo + hi) / 2 : Nat) : Int)) (by rw [← em]; refine ev_fdiv ?_ ?_ (by decide) (by decide) <;> walk_at "EV") rfl fun s₄ S F => ?_
      refine y_if S F (b := decide (x.cps.toList < y.cps.toList)) ?_ (fun e s₅ S F => ?_) (fun e s₅ S F => ?_)
      · refine' tst_cmp (d₁ := .str x) (d₂ := .str y) (H := L :: H) ?_ (ev_call_d (f := f) (ds := [d]) ⟨fun s F => FnAt.keep F.base hf⟩ ?_ (evs_cons (ev_sub_ (d₁ := .list ds) (d₂ := .int (((lo + hi) / 2 : Nat) : Int)) ?_ ?_ (itm_listN hd (by omega))) evs_nil) (cl_pc (hkey _ _ _ hd hy) Rm (Nat.le_refl _) O.hid (fun _ h => h))) cmp_lt_str <;> walk_at "EV"
      · rw [hp _ _ hy] at e
        have e' := of_decide_eq_true e
        refine x_asg_local N O S F (d := .int (((lo + hi) / 2 : Nat) : Int)) (by walk_at "EV") rfl fun s₆ S F => x_nil ⟨rfl, S, (lo, (lo + hi) / 2), ⟨h1, by omega, by omega⟩, by simp only; omega, F.cov ⟨rfl, rfl, rfl, rfl, rfl, trivial⟩⟩
      · rw [hp _ _ hy] at e
        have e' := of_decide_eq_false e
        refine x_asg_local N O S F (d := .int (((lo + hi) / 2 + 1 : Nat) : Int)) (by rw [Int.natCast_add]; walk_at "EV") rfl fun s₆ S F => x_nil ⟨rfl, S, ((lo + hi) / 2 + 1, hi), ⟨by omega, h2, h3⟩, by simp only; omega, F.cov ⟨rfl, rfl, rfl, rfl, rfl, trivial⟩⟩
    · rintro ⟨lo, hi⟩ s₃ ⟨h1, h2, h3⟩ hc S F
      dsimp only at *
      have hge := of_decide_eq_false hc
      have : lo = k := by omega
      subst this
      exact y_ret (H' := L :: H) S F (by walk_at "EV") fun v s'' S'' F'' r => ⟨v, rfl, S'', r⟩
end
end

section
section
variable {prog : Program} {w : World} {A : Around} {Φ : Sp} {H H' : List Addr} {env : Env} {pos p : Pos} {ds : List Dt} {d : Dt} {es : List Expr} {nm : List (Str × NameKind)}
  {h₀ : Heap} {own : List (Addr × Ow)} {pm : List (Str × Dt)} {mg mb : Str → Option Value} {W : List Addr} {oa : List Addr} {s₀ s : Shared} {Q : Flow → Shared → Prop} {rest : List Stmt} {e e₁ e₂ e₃ : Expr}
theorem ev_lenL {k : Int} (B : Base w mg mb h₀) (N : Nm env nm) (hl : nm.lookup (Str.ofString "len") = some .globalImplicit) (h : Ev prog w A (fs h₀ env H own pm) H' env e (.list ds)) (hn : (ds.length : Int) = k) (hz : ds.length ≤ 1000)
    (hc : eval (.Call (.Name (Str.ofString "len") p) [e] [] pos) env = (do callWith pos (← eval (.Name (Str.ofString "len") p) env) [] (backTo pos (starEach [e] env)) (backToKw pos (keywordEach [] env))) := by rfl) (st0 : starEach [e] env = (false, eval e env) :: starEach [] env := by rfl) (hp : (backTo pos (starEach [] env)).any (·.1) = false := by rfl) :
    Ev prog w A (fs h₀ env H own pm) H' env (.Call (.Name (Str.ofString "len") p) [e] [] pos) (.int k) :=
  ev_call_b (ev_len B N hl) (evs_cons h evs_nil st0) (cl_len hn (by omega)) hc st0 hp
theorem ev_lenS {k : Int} {x : Str} (B : Base w mg mb h₀) (N : Nm env nm) (hl : nm.lookup (Str.ofString "len") = some .globalImplicit) (h : Ev prog w A (fs h₀ env H own pm) H' env e (.str x)) (hn : (x.cps.size : Int) = k) (hz : x.cps.size ≤ 1000)
    (hc : eval (.Call (.Name (Str.ofString "len") p) [e] [] pos) env = (do callWith pos (← eval (.Name (Str.ofString "len") p) env) [] (backTo pos (starEach [e] env)) (backToKw pos (keywordEach [] env))) := by rfl) (st0 : starEach [e] env = (false, eval e env) :: starEach [] env := by rfl) (hp : (backTo pos (starEach [] env)).any (·.1) = false := by rfl) :
    Ev prog w A (fs h₀ env H own pm) H' env (.Call (.Name (Str.ofString "len") p) [e] [] pos) (.int k) :=
  ev_call_b (ev_len B N hl) (evs_cons h evs_nil st0) (cl_lenS hn (by omega)) hc st0 hp
theorem ev_sumL {ns : List Int} (B : Base w mg mb h₀) (N : Nm env nm) (hl : nm.lookup (Str.ofString "sum") = some .globalImplicit) (h : Ev prog w A (fs h₀ env H own pm) H' env e (.list (dInts ns))) (hh : A.handled = none)
    (hc : eval (.Call (.Name (Str.ofString "sum") p) [e] [] pos) env = (do callWith pos (← eval (.Name (Str.ofString "sum") p) env) [] (backTo pos (starEach [e] env)) (backToKw pos (keywordEach [] env))) := by rfl) (st0 : starEach [e] env = (false, eval e env) :: starEach [] env := by rfl) (hp : (backTo pos (starEach [] env)).any (·.1) = false := by rfl) :
    Ev prog w A (fs h₀ env H own pm) H' env (.Call (.Name (Str.ofString "sum") p) [e] [] pos) (.int ns.sum) :=
  ev_call_b (ev_sum B N hl) (evs_cons h evs_nil st0) (cl_sum hh) hc st0 hp
theorem ev_maxL {ns : List Int} {M : Int} (B : Base w mg mb h₀) (N : Nm env nm) (hl : nm.lookup (Str.ofString "max") = some .globalImplicit) (h : Ev prog w A (fs h₀ env H own pm) H' env e (.list (dInts ns))) (hh : A.handled = none) (h1 : M ∈ ns) (h2 : ∀ a ∈ ns, a ≤ M)
    (hc : eval (.Call (.Name (Str.ofString "max") p) [e] [] pos) env = (do callWith pos (← eval (.Name (Str.ofString "max") p) env) [] (backTo pos (starEach [e] env)) (backToKw pos (keywordEach [] env))) := by rfl) (st0 : starEach [e] env = (false, eval e env) :: starEach [] env := by rfl) (hp : (backTo pos (starEach [] env)).any (·.1) = false := by rfl) :
    Ev prog w A (fs h₀ env H own pm) H' env (.Call (.Name (Str.ofString "max") p) [e] [] pos) (.int M) :=
  ev_call_b (ev_max B N hl) (evs_cons h evs_nil st0) (cl_max hh h1 h2) hc st0 hp
theorem ev_minL {ns : List Int} {M : Int} (B : Base w mg mb h₀) (N : Nm env nm) (hl : nm.lookup (Str.ofString "min") = some .globalImplicit) (h : Ev prog w A (fs h₀ env H own pm) H' env e (.list (dInts ns))) (hh : A.handled = none) (h1 : M ∈ ns) (h2 : ∀ a ∈ ns, M ≤ a)
    (hc : eval (.Call (.Name (Str.ofString "min") p) [e] [] pos) env = (do callWith pos (← eval (.Name (Str.ofString "min") p) env) [] (backTo pos (starEach [e] env)) (backToKw pos (keywordEach [] env))) := by rfl) (st0 : starEach [e] env = (false, eval e env) :: starEach [] env := by rfl) (hp : (backTo pos (starEach [] env)).any (·.1) = false := by rfl) :
    Ev prog w A (fs h₀ env H own pm) H' env (.Call (.Name (Str.ofString "min") p) [e] [] pos) (.int M) :=
  ev_call_b (ev_min B N hl) (evs_cons h evs_nil st0) (cl_min hh h1 h2) hc st0 hp
theorem ev_max2 {a b : Int} (B : Base w mg mb h₀) (N : Nm env nm) (hl : nm.lookup (Str.ofString "max") = some .globalImplicit) (h : Ev prog w A (fs h₀ env H own pm) H' env e₁ (.int a)) (h' : Ev prog w A (fs h₀ env H own pm) H' env e₂ (.int b)) (hh : A.handled = none)
    (hc : eval (.Call (.Name (Str.ofString "max") p) [e₁, e₂] [] pos) env = (do callWith pos (← eval (.Name (Str.ofString "max") p) env) [] (backTo pos (starEach [e₁, e₂] env)) (backToKw pos (keywordEach [] env))) := by rfl) (st0 : starEach [e₁, e₂] env = (false, eval e₁ env) :: starEach [e₂] env := by rfl) (st1 : starEach [e₂] env = (false, eval e₂ env) :: starEach [] env := by rfl) (hp : (backTo pos (starEach [e₂] env)).any (·.1) = false := by rfl) :
    Ev prog w A (fs h₀ env H own pm) H' env (.Call (.Name (Str.ofString "max") p) [e₁, e₂] [] pos) (.int (max a b)) :=
  ev_call_b (ev_max B N hl) (evs_cons h (evs_cons h' evs_nil st1) st0) (cl_max2 hh) hc st0 hp
theorem ev_range1 {b : Int} (B : Base w mg mb h₀) (N : Nm env nm) (hl : nm.lookup (Str.ofString "range") = some .globalImplicit) (hs : ∀ a ∈ H', a ∈ H) (h : Ev prog w A (fs h₀ env H own pm) H' env e₁ (.int b))
    (hc : eval (.Call (.Name (Str.ofString "range") p) [e₁] [] pos) env = (do callWith pos (← eval (.Name (Str.ofString "range") p) env) [] (backTo pos (starEach [e₁] env)) (backToKw pos (keywordEach [] env))) := by rfl) (st0 : starEach [e₁] env = (false, eval e₁ env) :: starEach [] env := by rfl) (hp : (backTo pos (starEach [] env)).any (·.1) = false := by rfl) :
    Ev prog w A (fs h₀ env H own pm) H' env (.Call (.Name (Str.ofString "range") p) [e₁] [] pos) (.rng 0 b 1) :=
  ev_call_t (ev_range B N hl) (evs_cons h evs_nil st0) (cl_range1 (hx_fs hs)) hc st0 hp
theorem ev_range2 {a b : Int} (B : Base w mg mb h₀) (N : Nm env nm) (hl : nm.lookup (Str.ofString "range") = some .globalImplicit) (hs : ∀ a ∈ H', a ∈ H) (h : Ev prog w A (fs h₀ env H own pm) H' env e₁ (.int a)) (h' : Ev prog w A (fs h₀ env H own pm) H' env e₂ (.int b))
    (hc : eval (.Call (.Name (Str.ofString "range") p) [e₁, e₂] [] pos) env = (do callWith pos (← eval (.Name (Str.ofString "range") p) env) [] (backTo pos (starEach [e₁, e₂] env)) (backToKw pos (keywordEach [] env))) := by rfl) (st0 : starEach [e₁, e₂] env = (false, eval e₁ env) :: starEach [e₂] env := by rfl) (st1 : starEach [e₂] env = (false, eval e₂ env) :: starEach [] env := by rfl) (hp : (backTo pos (starEach [e₂] env)).any (·.1) = false := by rfl) :
    Ev prog w A (fs h₀ env H own pm) H' env (.Call (.Name (Str.ofString "range") p) [e₁, e₂] [] pos) (.rng a b 1) :=
  ev_call_t (ev_range B N hl) (evs_cons h (evs_cons h' evs_nil st1) st0) (cl_range2 (hx_fs hs)) hc st0 hp
theorem ev_range3 {a b c : Int} (B : Base w mg mb h₀) (N : Nm env nm) (hl : nm.lookup (Str.ofString "range") = some .globalImplicit) (hs : ∀ a ∈ H', a ∈ H) (h : Ev prog w A (fs h₀ env H own pm) H' env e₁ (.int a)) (h' : Ev prog w A (fs h₀ env H own pm) H' env e₂ (.int b)) (h'' : Ev prog w A (fs h₀ env H own pm) H' env e₃ (.int c)) (h0 : c ≠ 0) (hc0 : c.natAbs < 1000)
    (hc : eval (.Call (.Name (Str.ofString "range") p) [e₁, e₂, e₃] [] pos) env = (do callWith pos (← eval (.Name (Str.ofString "range") p) env) [] (backTo pos (starEach [e₁, e₂, e₃] env)) (backToKw pos (keywordEach [] env))) := by rfl) (st0 : starEach [e₁, e₂, e₃] env = (false, eval e₁ env) :: starEach [e₂, e₃] env := by rfl) (st1 : starEach [e₂, e₃] env = (false, eval e₂ env) :: starEach [e₃] env := by rfl) (st2 : starEach [e₃] env = (false, eval e₃ env) :: starEach [] env := by rfl) (hp : (backTo pos (starEach [e₂, e₃] env)).any (·.1) = false := by rfl) :
    Ev prog w A (fs h₀ env H own pm) H' env (.Call (.Name (Str.ofString "range") p) [e₁, e₂, e₃] [] pos) (.rng a b c) :=
  ev_call_t (ev_range B N hl) (evs_cons h (evs_cons h' (evs_cons h'' evs_nil st2) st1) st0) (cl_range3 (hx_fs hs) h0 hc0) hc st0 hp
theorem rng_fits {a : Int} (h : a.natAbs ≤ 100000) : Builtin.Range.rangeFitsLong a = true := by
  unfold Builtin.Range.rangeFitsLong
  simp
  omega
theorem rng_small {a b : Int} (ha : a.natAbs ≤ 10000) (hb : b.natAbs ≤ 10000) : Builtin.Range.small a b 1 = true := by
  unfold Builtin.Range.small
  rw [rangeSize_nat, rng_fits (by omega), rng_fits (by omega), rng_fits (by omega), rng_fits (by omega), if_pos (by decide), rng_fits (by omega)]
  simp
theorem rng_small_down {a : Int} (ha : a.natAbs ≤ 10000) : Builtin.Range.small a (-1) (-1) = true := by
  have h : Builtin.Range.rangeSize a (-1) (-1) = if a > -1 then a + 1 else 0 := by
    unfold Builtin.Range.rangeSize
    rw [if_neg (by decide)]
    split
    · rw [show (-(-1 : Int)) = 1 from rfl, Int.ediv_one]; omega
    · rfl
  unfold Builtin.Range.small
  rw [rng_fits (a := a) (by omega), rng_fits (a := -1) (by decide), h, if_neg (show ¬ ((-1 : Int) > 0) by decide), rng_fits (a := -1 + (-1 + 1)) (by decide), rng_fits (a := if a > -1 then a + 1 else 0) (by split <;> omega)]
  simp
theorem range_size {n : Nat} : Builtin.Range.rangeSize 0 (n : Int) 1 = (n : Int) := by rw [rangeSize_nat]; omega
theorem it_range {n : Nat} (hh : A.handled = none) (hn : n ≤ 1000) : It prog w A H (.rng 0 (n : Int) 1) ((List.range n).map fun i : Nat => Dt.int i) := by
  have h := it_rng (prog := prog) (w := w) (A := A) (H := H) (a := 0) (b := (n : Int)) (c := 1) hh (rng_small (by decide) (by omega)) range_size
  have e : ((List.range n).map fun i : Nat => Dt.int (0 + (i : Int) * 1)) = (List.range n).map fun i : Nat => Dt.int i := by
    congr 1; funext i; congr 1; omega
  rw [e] at h
  exact h
theorem it_range_from {a b : Nat} (hh : A.handled = none) (hn : a ≤ 1000) (hb : b ≤ 1000) : It prog w A H (.rng (a : Int) (b : Int) 1) ((List.range (b - a)).map fun i : Nat => Dt.int ((a + i : Nat) : Int)) := by
  have h := it_rng (prog := prog) (w := w) (A := A) (H := H) (a := (a : Int)) (b := (b : Int)) (c := 1) (n := b - a) hh (rng_small (by omega) (by omega)) (by rw [rangeSize_nat]; omega)
  have e : ((List.range (b - a)).map fun i : Nat => Dt.int ((a : Int) + (i : Int) * 1)) = (List.range (b - a)).map fun i : Nat => Dt.int ((a + i : Nat) : Int) := by
    congr 1; funext i; congr 1; omega
  rw [e] at h
  exact h
theorem range_get {n i : Nat} {f : Nat → Dt} {d : Dt} (h : ((List.range n).map f)[i]? = some d) : i < n ∧ d = f i := by
  rw [List.getElem?_map] at h
  obtain ⟨i', hi', rfl⟩ := Option.map_eq_some_iff.mp h
  by_cases hlt : i < n
  · rw [List.getElem?_range hlt] at hi'; cases hi'; exact ⟨hlt, rfl⟩
  · rw [List.getElem?_eq_none (by simp; omega)] at hi'; cases hi'
theorem filterMap_some {α β : Type} (f : α → β) : ∀ l : List α, l.filterMap (fun a => some (f a)) = l.map f
  | [] => rfl
  | a :: l => by rw [List.filterMap_cons, List.map_cons, filterMap_some f l]
theorem Ev.int_eq {a b : Int} {Φ : Sp} (h : Ev prog w A Φ H env e (.int a)) (q : a = b) : Ev prog w A Φ H env e (.int b) := q ▸ h
theorem Ev.to {d d' : Dt} {Φ : Sp} (h : Ev prog w A Φ H env e d) (q : d = d') : Ev prog w A Φ H env e d' := q ▸ h
end
end

section
section
variable {prog : Program} {w : World} {A : Around} {Φ : Sp} {H H' : List Addr} {env : Env} {pos : Pos} {ds : List Dt} {d : Dt} {es : List Expr} {nm : List (Str × NameKind)}
  {h₀ : Heap} {own : List (Addr × Ow)} {pm : List (Str × Dt)} {mg mb : Str → Option Value} {W : List Addr} {oa : List Addr} {s₀ s : Shared} {Q : Flow → Shared → Prop} {rest : List Stmt} {e : Expr}

theorem Ev.int_any {i : Int} (h : Ev prog w A Φ H' env e (.int i)) : Ev prog w A Φ H env e (.int i) := ⟨fun s hs Q E q => h.run s hs Q E q⟩
theorem Ev.str_any {i : Str} (h : Ev prog w A Φ H' env e (.str i)) : Ev prog w A Φ H env e (.str i) := ⟨fun s hs Q E q => h.run s hs Q E q⟩
theorem Ev.val_any {i : Value} (h : Ev prog w A Φ H' env e (.val i)) : Ev prog w A Φ H env e (.val i) := ⟨fun s hs Q E q => h.run s hs Q E q⟩
theorem Ev.none_any (h : Ev prog w A Φ H' env e .none) : Ev prog w A Φ H env e .none := ⟨fun s hs Q E q => h.run s hs Q E q⟩
theorem Ev.bool_any {b : Bool} (h : Ev prog w A Φ H' env e (.bool b)) : Ev prog w A Φ H env e (.bool b) := ⟨fun s hs Q E q => h.run s hs Q E q⟩
theorem Ev.sub {d : Dt} (h : Ev prog w A Φ H env e d) (k : ∀ a ∈ H', a ∈ H) : Ev prog w A Φ H' env e d := ⟨fun s hs Q E q => h.run s hs Q E fun v s' k' r => q v s' k' (r.sub k)⟩

theorem ev_owned {l : Addr} (h : Ev prog w A (fs h₀ env H own pm) H env e (.val (.ref l))) (hm : (l, Ow.lst ds) ∈ own) (hl : l ∉ H') (hH : ∀ a ∈ H', a ∈ H) : Ev prog w A (fs h₀ env H own pm) H' env e (.list ds) := ⟨fun s F Q E q =>
  h.run s F Q E fun v s' k r => by
    obtain rfl : v = .ref l := r
    obtain ⟨vs, n, hL, rr⟩ := (F.keeps k).owns _ hm
    exact q _ s' k ⟨l, vs, n, rfl, hl, hL, RdAll.move (fun b o hb e => ⟨e, fun z => hb (hH b z)⟩) _ _ rr⟩⟩

structure ClK (prog : Program) (w : World) (A : Around) (Φ : Sp) (H : List Addr) (f : Value) (ds : List Dt) (ks : List (Str × Dt)) (d : Dt) : Prop where
  run : ∀ s vs kvs, Φ.P s → RdAll s.heap H ds vs → RdK s.heap H ks kvs → Gv prog w A H (call f vs kvs) s d
theorem clk_pc {n m : Nat} {f : Value} {ks : List (Str × Dt)} (P : PC w mg mb h₀ f n ds ks d) (Rm : Room A m) (hnm : n ≤ m) (h0 : ∀ a ∈ H, h₀.get? a = none) (hH : ∀ a ∈ H', a ∈ H) : ClK prog w A (fs h₀ env H own pm) H' f ds ks d :=
  ⟨fun s vs kvs F r rk => P.run prog A s H' vs kvs (Rm.less hnm) F.base (fun a ha => h0 a (hH a ha)) (fun a ha => F.ex a (hH a ha)) r rk⟩

theorem ev_call_dk {func kv : Expr} {f : Addr} {k : Str} {kp : Pos} {dk : Dt} (fa : Fa Φ f) (hf : Ev prog w A Φ H env func (.val (.ref f))) (ha : Evs prog w A Φ H env (e :: es) ds) (hk : Ev prog w A Φ H env kv dk) (o : ClK prog w A Φ H (.ref f) ds [(k, dk)] d)
    (hc : eval (.Call func (e :: es) [⟨some k, kv, kp⟩] pos) env = (do callWith pos (← eval func env) [] (backTo pos (starEach (e :: es) env)) (backToKw pos (keywordEach [⟨some k, kv, kp⟩] env))) := by rfl)
    (he : starEach (e :: es) env = (false, eval e env) :: starEach es env := by rfl) : Ev prog w A Φ H env (.Call func (e :: es) [⟨some k, kv, kp⟩] pos) d := ⟨fun s hs Q E q =>
by
  rw [hc]
  refine wpAny_bind (hf.run s hs _ _ fun g s₁ k₁ r₁ => ?_)
  obtain rfl : g = .ref f := r₁
  obtain ⟨oc, od, fd, sl, e₀⟩ := fa.at' _ (Φ.st _ _ hs k₁)
  refine callWith_def_kw (o := ⟨oc, od, .func fd, sl⟩) (fd := fd) rfl (evalArgs_kw2 rfl (ha.run s₁ pos (Φ.st _ _ hs k₁) _ _ fun vs s₂ k₂ r₂ => kwAll_cons (hk.run s₂ (Φ.st _ _ hs (keepsTrans k₁ k₂)) _ _ fun u s₃ k₃ r₃ => kwAll_nil ?_)) he)
  exact ⟨keepsHeap k₃ _ _ (keepsHeap k₂ _ _ e₀), o.run s₃ vs [(k, u)] (Φ.st _ _ hs (keepsTrans (keepsTrans k₁ k₂) k₃)) (r₂.keeps (keepsHeap k₃)) ⟨u, [], rfl, r₃, rfl⟩ _ _ fun v s₄ k₄ r₄ => q v s₄ (keepsTrans (keepsTrans (keepsTrans k₁ k₂) k₃) k₄) r₄⟩⟩

structure Mu (prog : Program) (w : World) (A : Around) (id : String) (es₀ ds es₁ : List Dt) : Prop where
  run : ∀ s l H vs (Q : Value → Shared → Prop) E, OwAt s.heap H l (.lst es₀) → RdAll s.heap H ds vs → (∀ h', (∃ x, h'.get? l = some x) → ((∀ d v, Rd s.heap H d v → Rd h' H d v) → OwAt h' H l (.lst es₁)) → Heap.SameBut l s.heap h' → Q .none { s with heap := h' }) →
    wpAny (model prog w) A (call (.builtin id) (.ref l :: vs)) Q E s

theorem x_mut {o : Expr} {name : Str} {id : String} {l : Addr} {pre post : List (Addr × Ow)} {es₀ es₁ : List Dt} {pl : Sem Bool} {apos pos' : Pos} (N : Nm env nm) (O : FOk h₀ W env H oa) (S : Chg W s₀ s) (F : FSt h₀ env H (pre ++ (l, .lst es₀) :: post) pm s) (ho : (pre ++ (l, Ow.lst es₀) :: post).map (·.1) = oa)
    (hx : Ev prog w A (fs h₀ env H (pre ++ (l, .lst es₀) :: post) pm) H env o (.val (.ref l))) (slot : Slot "list" name id) (ty : typeOf (.builtin id) = pure (.type "method_descriptor")) (ha : Evs prog w A (fs h₀ env H (pre ++ (l, .lst es₀) :: post) pm) H env (e :: es) ds) (op : Mu prog w A id es₀ ds es₁)
    (k : ∀ s', Chg W s₀ s' → FSt h₀ env H (pre ++ (l, .lst es₁) :: post) pm s' → Ex prog w A rest env Q s')
    (hc : eval (.Call (.Attribute o name apos) (e :: es) [] pos) env = (do
      let ov ← eval o env
      standAt apos.atName
      let (f, first) ← holding [ov] (getMethod ov name pl)
      callWith pos f first (backTo pos (starEach (e :: es) env)) []) := by rfl)
    (he : starEach (e :: es) env = (false, eval e env) :: starEach es env := by rfl) (hp : (backTo pos (starEach es env)).any (·.1) = false := by rfl)
    (hsw : swapsWith (.Call (.Attribute o name apos) (e :: es) [] pos) none pos'.line env = pure false := by rfl) :
    Ex prog w A (.Expr (.Call (.Attribute o name apos) (e :: es) [] pos) pos' :: rest) env Q s := ⟨fun E => by
  have hi : interactive env = false := by unfold interactive; rw [N.kind]; rfl
  refine wpAny_execs_cons (wpAny_Expr (MethodCall_ (pl := pl) (hx.run s F _ _ fun v s₁ k₁ r₁ => ?_) hc) hi hsw)
  obtain rfl : v = .ref l := r₁
  have F₁ := F.keeps k₁
  obtain ⟨vs, n, hL, rr⟩ := F₁.owns (l, .lst es₀) (by simp)
  refine getMethod_list_of slot ty ⟨_, hL, rfl, _, rfl⟩ (noDict_of hL) (callWith_method1 (ha.run s₁ pos F₁ _ _ fun us s₂ k₂ r₂ => ?_) he hp)
  have F₂ := F₁.keeps k₂
  refine op.run s₂ l H us _ _ (F₂.owns (l, .lst es₀) (by simp)) r₂ fun h' hx' ho' hs => ?_
  obtain ⟨S', F'⟩ := F₂.wrote_own (tk := s₂.toks) O ho ((S.trans (Chg.keeps k₁)).trans (Chg.keeps k₂)) hx' ho' hs
  exact (k _ S' F').run E⟩

theorem mu_insert {k : Nat} {d : Dt} (hk : k ≤ ds.length) (hz : ds.length ≤ 1000) : Mu prog w A "list.insert" ds [.int k, d] (ds.take k ++ d :: ds.drop k) := ⟨fun s l H vs Q E ow r q => by
  obtain ⟨its, n, hL, rr⟩ := ow
  obtain ⟨v, u, rfl, ⟨t, rfl⟩, r2⟩ := rd2 r
  have hlen := rr.length
  obtain ⟨x, hx⟩ : ∃ x : Int, (k : Int) = x := ⟨_, rfl⟩
  rw [hx]
  have hf : Builtin.List.listFitsIndex x = true := by
    unfold Builtin.List.listFitsIndex
    simp; omega
  have hsz : its.toArray.size ≤ sizeLine := by rw [List.size_toArray, sizeLine_eq]; omega
  refine call_meets PySem.F.slot_list_insert ⟨_, hL, rfl⟩ PySem.F.entry_list_insert (PySem.F.args_list_insert_3 _ _ _) (PySem.AutoSeq1.list_insert_list_int_val_1 l _ n x t u (by simp [hf]) hsz) ⟨hL, ?_⟩
  have e : (if x < 0 then (x + (its.toArray.size : Int)).toNat else min x.toNat its.toArray.size) = k := by
    rw [if_neg (by omega), List.size_toArray, ← hx, Int.toNat_natCast]; omega
  obtain ⟨n', up⟩ : ∃ n', IsL (s.heap.update l (Obj.mapSeq fun xs : Array Value => (xs.extract 0 (if x < 0 then (x + (xs.size : Int)).toNat else min x.toNat xs.size)).push u ++ xs.extract (if x < 0 then (x + (xs.size : Int)).toNat else min x.toNat xs.size))) l (its.take k ++ u :: its.drop k).toArray n' := by
    have up := hL.update fun xs : Array Value => (xs.extract 0 (if x < 0 then (x + (xs.size : Int)).toNat else min x.toNat xs.size)).push u ++ xs.extract (if x < 0 then (x + (xs.size : Int)).toNat else min x.toNat xs.size)
    rw [e, kl_ins_eq] at up
    exact ⟨_, up⟩
  exact q _ ⟨_, up⟩ (fun mv => ⟨its.take k ++ u :: its.drop k, n', up, RdAll.append (RdAll.of_rd mv (rr.take k)) ⟨u, its.drop k, rfl, mv _ _ r2, RdAll.of_rd mv (rr.drop k)⟩⟩) (Heap.SameBut.update ..)⟩
theorem mu_append {d : Dt} (hz : ds.length ≤ 1000) : Mu prog w A "list.append" ds [d] (ds ++ [d]) := ⟨fun s l H vs Q E ow r q => by
  obtain ⟨its, n, hL, rr⟩ := ow
  obtain ⟨u, rfl, r2⟩ := rd1 r
  have hlen := rr.length
  refine call_meets PySem.F.slot_list_append ⟨_, hL, rfl⟩ PySem.F.entry_list_append (PySem.F.args_list_append_2 _ _) (list_append l _ n u (by rw [List.size_toArray]; rw [sizeLine_eq]; omega)) ⟨hL, ?_⟩
  have up := hL.update fun xs : Array Value => xs.push u
  obtain ⟨n', up'⟩ : ∃ n', IsL (s.heap.update l (Obj.mapSeq fun xs : Array Value => xs.push u)) l (its ++ [u]).toArray n' := ⟨_, by rw [← List.push_toArray]; exact up⟩
  refine q _ ⟨_, up⟩ (fun mv => ⟨its ++ [u], n', up', ?_⟩) (Heap.SameBut.update ..)
  have r3 : RdAll (s.heap.update l (Obj.mapSeq fun x_1 => x_1.push u)) H [d] [u] := ⟨u, [], rfl, mv _ _ r2, rfl⟩
  exact RdAll.append (RdAll.of_rd mv rr) r3⟩
end
end

section

structure MC (w : World) (mg mb : Str → Option Value) (h₀ : Heap) (f : Value) (n : Nat) (ds₀ as : List Dt) (ks : List (Str × Dt)) (ds₁ : List Dt) : Prop where
  run : ∀ (prog : Program) (A : Around) (s : Shared) (H : List Addr) (l : Addr) (vs : List Value) (kvs : List (Str × Value)), Room A n → (∀ b o, h₀.get? b = some o → s.heap.get? b = some o) → (∀ a ∈ H, h₀.get? a = none) → (∀ a ∈ H, ∃ o, s.heap.get? a = some o) →
    l ∈ H → OwAt s.heap H l (.lst ds₀) → RdAll s.heap H as vs → RdK s.heap H ks kvs → ∀ (Q : Value → Shared → Prop) (E : Value → Shared → Prop), (∀ s', Chg [l] s s' → OwAt s'.heap H l (.lst ds₁) → Q .none s') → wpAny (model prog w) A (call f (.ref l :: vs) kvs) Q E s

section
variable {w : World} {mg mb : Str → Option Value} {h₀ : Heap} {n : Nat} {ds₀ as ds₁ : List Dt}

theorem mc_fn {f : Addr} {fd : FuncData} {oc : Value} {od : Option Addr} {osl : Array (Option Value)} {body : List Stmt} {ks : List (Str × Dt)} (pm : Addr → List (Str × Dt)) (B : Base w mg mb h₀)
    (hl : (hd.heap_39 w.params).lookup f = some ⟨oc, od, .func fd, osl⟩) (hcd : codeIn (hd.heap_39 w.params) fd.code fd.qualname = true) (hbody : fd.body = .stmts body) (hge : fd.globals = mainGlobals) (hclo : fd.closure = []) (hbe : fd.builtins = builtinsNs)
    (hcell : (fd.scope.names.all fun x => decide (x.2 ≠ .cell)) = true) (hco : fd.scope.isCoroutine = false) (hgen : fd.scope.isGenerator = false) (hk : fd.scope.kind = .function)
    (hb : ∀ h H l args kws, RdAll h H as args → RdK h H ks kws → ∃ binds, (∀ S, peek (hd.heap_39 w.params) S (bindArgs fd ⟨.ref l :: args, kws⟩) = some binds) ∧ (binds.all fun x => decide (fd.scope.names.lookup x.1 = some .local)) = true ∧ RdB h H binds.reverse (pm l))
    (k : ∀ (prog : Program) A env s₁ L l H, Room A n → Nm env fd.scope.names → (∀ a ∈ H, h₀.get? a = none) → FOk h₀ [L, l] env (L :: H) [l] → FSt h₀ env (L :: H) [(l, .lst ds₀)] (pm l) s₁ →
      Ex prog w A body env (fun fl s' => (fl = .next ∨ fl = .ret .none) ∧ Chg [L, l] s₁ s' ∧ OwAt s'.heap (L :: H) l (.lst ds₁)) s₁) : MC w mg mb h₀ (.ref f) (n + 1) ds₀ as ks ds₁ := ⟨fun prog A s H l args kws Rm hbs h0 hx lH ow r rk Q E q => by
  obtain ⟨binds, b1, b2, b3⟩ := hb s.heap H l args kws r rk
  refine wpAny_call (call_fn (pm l) Rm B hbs h0 hx hl hcd hbody hge hclo hbe b1 hcell b2 (own := [(l, .lst ds₀)]) (oa := [l]) (fun p hp => by rw [List.mem_singleton.mp hp]; exact ow) (fun a ha => by rw [List.mem_singleton.mp ha]; exact lH) (List.pairwise_singleton ..) rfl b3 (fun env s₁ L N eL hL O F C _ => ?_) hco hgen hk)
  refine ⟨fun E => wpAny_mono ((k prog _ env s₁ L l H Rm.deeper N h0 O F).run E) (fun fl s' h' => ?_) fun _ _ e => e⟩
  obtain ⟨hfl, c, rv⟩ := h'
  have hv : Q .none s' := by
    refine q s' ?_ (rv.mv (fun _ _ r => r.sub fun a ha => .tail _ ha) fun _ e => e)
    refine (C.more fun a ha => nomatch ha).trans c |>.drop fun a ha => ?_
    rcases List.mem_cons.mp ha with rfl | ha
    · exact .inr hL
    · exact .inl ha
  rcases hfl with rfl | rfl <;> exact hv⟩

noncomputable def vis (l : Addr) (H : List Addr) : List Addr := H.filter fun a => decide (a ≠ l)
theorem vis_sub {l : Addr} {H : List Addr} : ∀ a ∈ vis l H, a ∈ H := fun a h => (List.mem_filter.mp h).1
theorem vis_not {l : Addr} {H : List Addr} : l ∉ vis l H := fun h => of_decide_eq_true (List.mem_filter.mp h).2 rfl

theorem mc_insort_right_key (B : Base w mg mb h₀) {f : Addr} {ds : List Dt} {d : Dt} {ys : List Str} {x : Str} {k : Nat} (hf : FnAt f h₀) (hz : ds.length ≤ 1000) (hl : ys.length = ds.length) (hk : k ≤ ds.length)
    (hkey : ∀ (i : Nat) (d : Dt) (y : Str), ds[i]? = some d → ys[i]? = some y → PC w mg mb h₀ (.ref f) 1 [d] [] (.str y)) (hkd : PC w mg mb h₀ (.ref f) 1 [d] [] (.str x))
    (hp : ∀ (i : Nat) (y : Str), ys[i]? = some y → decide (x.cps.toList < y.cps.toList) = decide (k ≤ i)) :
    MC w mg mb h₀ (.ref 30) 3 ds [d] [(S' "key", .val (.ref f))] (ds.take k ++ d :: ds.drop k) := by
  refine mc_fn (fun l => [(S' "key", .val (.ref f)), (S' "hi", .none), (S' "lo", .int 0), (S' "x", d), (S' "a", .val (.ref l))]) B (hl := rfl) (hcd := by kernel_rfl) (hbody := rfl) (hge := rfl) (hclo := rfl) (hbe := rfl) (hcell := by decide +kernel) (hco := rfl) (hgen := rfl) (hk := rfl) ?_ ?_
  · intro h H l args kws r rk
    obtain ⟨v, rfl, r1⟩ := rd1 r
    obtain ⟨kv, rfl, r5⟩ := rdk1 rk
    exact ⟨[(S' "a", .ref l), (S' "x", v), (S' "lo", .int 0 196), (S' "hi", .none), (S' "key", kv)], fun S => by kernel_rfl, by kernel_rfl, rdb_cons r5 (rdb_cons rfl (rdb_cons ⟨_, rfl⟩ (rdb_cons r1 (rdb_cons rfl rdb_nil))))⟩
  · intro prog A env s₁ L l H Rm N h0 O F
    dsimp only at N
    have S := Chg.refl [L, l] s₁
    have hs : ∀ a ∈ vis l (L :: H), a ∈ L :: H := vis_sub
    refine y_if S F (by walk_at "EV") (fun e => by cases e) fun _ s₂ S F => ?_
    dsimp only [List.cons_append, List.nil_append]
    refine x_asg_local N O S F (d := .int k) ?_ rfl fun s₃ S F => ?_
    · refine Ev.int_any (H' := vis l (L :: H)) (ev_call_dk (f := 39) (ds := [.list ds, .str x, .int 0, .none]) (dk := .val (.ref f)) (fa_bisect_right B) (ev_g_bisect_right B N rfl) ?_ ?_ (clk_pc (pc_bisect_right_key B hf hz hl hk hkey hp) Rm (Nat.le_refl _) O.hid hs))
      · refine evs_cons (ev_owned (l := l) ?_ (.head _) vis_not hs) (evs_cons (ev_call_d (f := f) (ds := [d]) ⟨fun s F => FnAt.keep F.base hf⟩ ?_ (evs_cons ?_ evs_nil) (cl_pc hkd Rm (by decide) O.hid hs)) (evs_cons ?_ (evs_cons ?_ evs_nil))) <;> walk_at "EV"
      · walk_at "EV"
    refine x_mut (pre := []) (post := []) (es₀ := ds) (es₁ := ds.take k ++ d :: ds.drop k) (l := l) (id := "list.insert") (ds := [.int k, d]) N O S F rfl ?_ PySem.F.slot_list_insert PySem.F.type_list_insert ?_ (mu_insert hk hz) (fun s₄ S F => ?_)
    · walk_at "EV"
    · walk_at "EV"
    · exact x_nil ⟨.inl rfl, S, F.owns _ (.head _)⟩
theorem mc_insort_left_key (B : Base w mg mb h₀) {f : Addr} {ds : List Dt} {d : Dt} {ys : List Str} {x : Str} {k : Nat} (hf : FnAt f h₀) (hz : ds.length ≤ 1000) (hl : ys.length = ds.length) (hk : k ≤ ds.length)
    (hkey : ∀ (i : Nat) (d : Dt) (y : Str), ds[i]? = some d → ys[i]? = some y → PC w mg mb h₀ (.ref f) 1 [d] [] (.str y)) (hkd : PC w mg mb h₀ (.ref f) 1 [d] [] (.str x))
    (hp : ∀ (i : Nat) (y : Str), ys[i]? = some y → decide (y.cps.toList < x.cps.toList) = decide (i < k)) :
    MC w mg mb h₀ (.ref 48) 3 ds [d] [(S' "key", .val (.ref f))] (ds.take k ++ d :: ds.drop k) := by
  refine mc_fn (fun l => [(S' "key", .val (.ref f)), (S' "hi", .none), (S' "lo", .int 0), (S' "x", d), (S' "a", .val (.ref l))]) B (hl := rfl) (hcd := by kernel_rfl) (hbody := rfl) (hge := rfl) (hclo := rfl) (hbe := rfl) (hcell := by decide +kernel) (hco := rfl) (hgen := rfl) (hk := rfl) ?_ ?_
  · intro h H l args kws r rk
    obtain ⟨v, rfl, r1⟩ := rd1 r
    obtain ⟨kv, rfl, r5⟩ := rdk1 rk
    exact ⟨[(S' "a", .ref l), (S' "x", v), (S' "lo", .int 0 223), (S' "hi", .none), (S' "key", kv)], fun S => by kernel_rfl, by kernel_rfl, rdb_cons r5 (rdb_cons rfl (rdb_cons ⟨_, rfl⟩ (rdb_cons r1 (rdb_cons rfl rdb_nil))))⟩
  · intro prog A env s₁ L l H Rm N h0 O F
    dsimp only at N
    have S := Chg.refl [L, l] s₁
    have hs : ∀ a ∈ vis l (L :: H), a ∈ L :: H := vis_sub
    refine y_if S F (by walk_at "EV") (fun e => by cases e) fun _ s₂ S F => ?_
    dsimp only [List.cons_append, List.nil_append]
    refine x_asg_local N O S F (d := .int k) ?_ rfl fun s₃ S F => ?_
    · refine Ev.int_any (H' := vis l (L :: H)) (ev_call_dk (f := 57) (ds := [.list ds, .str x, .int 0, .none]) (dk := .val (.ref f)) (fa_bisect_left B) (ev_g_bisect_left B N rfl) ?_ ?_ (clk_pc (pc_bisect_left_key B hf hz hl hk hkey hp) Rm (Nat.le_refl _) O.hid hs))
      · refine evs_cons (ev_owned (l := l) ?_ (.head _) vis_not hs) (evs_cons (ev_call_d (f := f) (ds := [d]) ⟨fun s F => FnAt.keep F.base hf⟩ ?_ (evs_cons ?_ evs_nil) (cl_pc hkd Rm (by decide) O.hid hs)) (evs_cons ?_ (evs_cons ?_ evs_nil))) <;> walk_at "EV"
      · walk_at "EV"
    refine x_mut (pre := []) (post := []) (es₀ := ds) (es₁ := ds.take k ++ d :: ds.drop k) (l := l) (id := "list.insert") (ds := [.int k, d]) N O S F rfl ?_ PySem.F.slot_list_insert PySem.F.type_list_insert ?_ (mu_insert hk hz) (fun s₄ S F => ?_)
    · walk_at "EV"
    · walk_at "EV"
    · exact x_nil ⟨.inl rfl, S, F.owns _ (.head _)⟩
theorem mc_insort_left (B : Base w mg mb h₀) {xs : List Str} {x : Str} {k : Nat} (hz : xs.length ≤ 1000) (hk : k ≤ xs.length) (hp : ∀ (i : Nat) (y : Str), xs[i]? = some y → decide (y.cps.toList < x.cps.toList) = decide (i < k)) :
    MC w mg mb h₀ (.ref 48) 2 (dStrs xs) [.str x] [] ((dStrs xs).take k ++ .str x :: (dStrs xs).drop k) := by
  refine mc_fn (fun l => [(S' "key", .none), (S' "hi", .none), (S' "lo", .int 0), (S' "x", .str x), (S' "a", .val (.ref l))]) B (hl := rfl) (hcd := by kernel_rfl) (hbody := rfl) (hge := rfl) (hclo := rfl) (hbe := rfl) (hcell := by decide +kernel) (hco := rfl) (hgen := rfl) (hk := rfl) ?_ ?_
  · intro h H l args kws r rk
    obtain ⟨v, rfl, r1⟩ := rd1 r
    obtain rfl : kws = [] := rk
    exact ⟨[(S' "a", .ref l), (S' "x", v), (S' "lo", .int 0 223), (S' "hi", .none), (S' "key", .none)], fun S => by kernel_rfl, by kernel_rfl, rdb_cons rfl (rdb_cons rfl (rdb_cons ⟨_, rfl⟩ (rdb_cons r1 (rdb_cons rfl rdb_nil))))⟩
  · intro prog A env s₁ L l H Rm N h0 O F
    dsimp only at N
    have S := Chg.refl [L, l] s₁
    have hs : ∀ a ∈ vis l (L :: H), a ∈ L :: H := vis_sub
    refine y_if S F (by walk_at "EV") (fun _ s₂ S F => ?_) (fun e => by cases e)
    dsimp only [List.cons_append, List.nil_append]
    refine x_asg_local N O S F (d := .int k) ?_ rfl fun s₃ S F => ?_
    · refine Ev.int_any (H' := vis l (L :: H)) (ev_call_d (f := 57) (ds := [.list (dStrs xs), .str x, .int 0, .none]) (fa_bisect_left B) (ev_g_bisect_left B N rfl) ?_ (cl_pc (pc_bisect_left4 B hz hk hp) Rm (Nat.le_refl _) O.hid hs))
      refine evs_cons (ev_owned (l := l) ?_ (.head _) vis_not hs) (evs_cons ?_ (evs_cons ?_ (evs_cons ?_ evs_nil))) <;> walk_at "EV"
    refine x_mut (pre := []) (post := []) (es₀ := dStrs xs) (es₁ := (dStrs xs).take k ++ .str x :: (dStrs xs).drop k) (l := l) (id := "list.insert") (ds := [.int k, .str x]) N O S F rfl ?_ PySem.F.slot_list_insert PySem.F.type_list_insert ?_ (mu_insert (by rw [dStrs_len]; exact hk) (by rw [dStrs_len]; exact hz)) (fun s₄ S F => ?_)
    · walk_at "EV"
    · walk_at "EV"
    · exact x_nil ⟨.inl rfl, S, F.owns _ (.head _)⟩
end
end

section
section
variable {prog : Program} {w : World} {A : Around} {Φ : Sp} {H H' : List Addr} {env : Env} {pos : Pos} {ds : List Dt} {d : Dt} {es : List Expr} {nm : List (Str × NameKind)}
  {h₀ : Heap} {own : List (Addr × Ow)} {pm : List (Str × Dt)} {mg mb : Str → Option Value} {W : List Addr} {oa : List Addr} {s₀ s : Shared} {Q : Flow → Shared → Prop} {rest : List Stmt} {e : Expr}

theorem own_new {a : Addr} {ow : Ow} {s₁ : Shared} (O : FOk h₀ W env H oa) (S : Chg W s₀ s) (F : FSt h₀ env H own pm s) (k : Keeps s s₁) (ha : s.heap.get? a = none) (hx : ∃ o, s₁.heap.get? a = some o) (how : OwAt s₁.heap (a :: H) a ow) :
    FOk h₀ (a :: W) env (a :: H) (a :: oa) ∧ Chg (a :: W) s₀ s₁ ∧ FSt h₀ env (a :: H) ((a, ow) :: own) pm s₁ ∧ s₀.heap.get? a = none ∧ a ∉ H := by
  have haH : a ∉ H := fun q => by obtain ⟨o, e⟩ := F.ex a q; rw [ha] at e; cases e
  have haW : a ∉ W := fun q => haH (O.WH a q)
  have ha0 : h₀.get? a = none := by
    cases q : h₀.get? a with
    | none => rfl
    | some o => have := F.base a o q; rw [ha] at this; cases this
  refine ⟨⟨fun b hb => ?_, fun b hb => ?_, .tail _ O.loc, fun x c e => ⟨.tail _ (O.cell x c e).1, (O.cell x c e).2⟩, O.apart, fun b hb => ?_, ?_⟩, (S.trans (Chg.keeps k)).more fun b hb => .tail _ hb, ?_, S.fresh haW ha, haH⟩
  · rcases List.mem_cons.mp hb with rfl | hb
    · exact ha0
    · exact O.hid b hb
  · rcases List.mem_cons.mp hb with rfl | hb
    · exact .head _
    · exact .tail _ (O.WH b hb)
  · rcases List.mem_cons.mp hb with rfl | hb
    · exact ⟨.head _, fun q => haW (q ▸ O.loc), fun x c e q => haW (q ▸ (O.cell x c e).1)⟩
    · exact ⟨.tail _ (O.ownW b hb).1, (O.ownW b hb).2⟩
  · exact List.pairwise_cons.mpr ⟨fun b hb q => haW (q ▸ (O.ownW b hb).1), O.ownA⟩
  · have F₁ := (F.keeps k).hide (keepsHeap k) F (H' := a :: H) (fun b hb => (List.mem_cons.mp hb).elim (fun z => .inr (z ▸ ha)) .inl) fun b hb => (List.mem_cons.mp hb).elim (fun z => z ▸ hx) ((F.keeps k).ex b)
    exact ⟨F₁.base, F₁.locs, F₁.cells, fun p hp => (List.mem_cons.mp hp).elim (fun z => z ▸ how) (F₁.owns p), F₁.ex⟩

structure Mk (prog : Program) (w : World) (A : Around) (Φ : Sp) (env : Env) (e : Expr) (P : Addr → Ow → Prop) : Prop where
  run : ∀ s, Φ.P s → ∀ (Q : Value → Shared → Prop) (E : Value → Shared → Prop), (∀ a ow s₁, Keeps s s₁ → s.heap.get? a = none → (∃ o, s₁.heap.get? a = some o) → (∀ H, OwAt s₁.heap H a ow) → P a ow → Q (.ref a) s₁) → wpAny (model prog w) A (eval e env) Q E s

theorem x_new_local {x : Str} {px : Pos} {P : Addr → Ow → Prop} (N : Nm env nm) (O : FOk h₀ W env H oa) (S : Chg W s₀ s) (F : FSt h₀ env H own pm s) (h : Mk prog w A (fs h₀ env H own pm) env e P) (hl : nm.lookup x = some .local)
    (k : ∀ a ow s', P a ow → s₀.heap.get? a = none → a ∉ H → FOk h₀ (a :: W) env (a :: H) (a :: oa) → Chg (a :: W) s₀ s' → FSt h₀ env (a :: H) ((a, ow) :: own) ((x, .val (.ref a)) :: pm) s' → Ex prog w A rest env Q s') (hsw : swapsWith e (some (.Name x px)) pos.line env = pure false := by rfl) (ho : own.map (·.1) = oa := by rfl) :
    Ex prog w A (.Assign [.Name x px] e pos :: rest) env Q s :=
  ⟨fun E => wpAny_execs_cons (wpAny_Assign_Name (h.run s F _ _ fun a ow s₁ k₁ ha hx how hP => by
    obtain ⟨O₁, S₁, F₁, h1, h2⟩ := own_new O S F k₁ ha hx (how _)
    exact st_local (own := (a, ow) :: own) N O₁ (by simp [ho]) S₁ F₁ (d := .val (.ref a)) rfl hl fun s' S' F' => (k a ow s' hP h1 h2 O₁ S' F').run E) hsw)⟩

theorem mk_nil {pos : Pos} : Mk prog w A Φ env (.List [] pos) fun _ ow => ow = .lst [] := ⟨fun s hs Q E q => by
  exact PyProof.Rows.List_ ((evs_nil (H := [])).run s pos hs _ _ fun vs s₁ k₁ r₁ => by
    obtain rfl : vs = [] := r₁
    have k₂ := keepsHeap k₁
    refine wpAny_newList ?_
    refine q _ (.lst []) _ (keepsTrans k₁ (keepsPush' s₁ _)) ?_ ⟨_, Heap.get?_push_size _ rfl⟩ (fun H => ⟨[], 0, Heap.get?_push_size _ rfl, rfl⟩) rfl
    cases e : s.heap.get? s₁.heap.objs.size with
    | none => rfl
    | some o => have := k₂ _ _ e; rw [get_size] at this; cases this)⟩

theorem mk_dict (B : Base w mg mb h₀) {keys : List (Option Expr)} {values : List Expr} {D : List (PyData × PyData)} (hD : litPairs keys values = some D) (hs : strKeyed D = true) (hn : (strKeysOf D).Nodup)
    (hall : keys.all (·.isSome) = true) (hl : keys.length = values.length) (h0 : keys ≠ []) (hlen : keys.length ≤ 15) : Mk prog w A (fs h₀ env H own pm) env (.Dict keys values pos) fun a ow => (a == sysModules) = false ∧ ∃ o, ow = .raw o ∧ TabObj (strKind prog w) PyData.str D o := ⟨fun s F Q E q => by
  refine Dict_lits_str hD hs hn hall hl h0 hlen fun a o h₁ tk hge ho ht hk => ?_
  have hn0 : (a == sysModules) = false := by
    have := modules_low (B.nolimit.keeps F.base)
    rw [beq_eq_false_iff_ne]
    rintro rfl
    exact absurd hge (Nat.not_le.mpr this)
  exact q a (.raw o) _ ⟨h₁, tk, rfl, hk⟩ (by
    cases e : s.heap.get? a with
    | none => rfl
    | some o => exact absurd (Heap.lt_size e) (Nat.not_lt.mpr hge)) ⟨o, ho⟩ (fun H => ho) ⟨hn0, o, rfl, ht⟩⟩
end
end

section
section
variable {prog : Program} {w : World} {A : Around} {Φ : Sp} {H H' : List Addr} {env : Env} {pos : Pos} {ds : List Dt} {d : Dt} {es : List Expr} {nm : List (Str × NameKind)}
  {h₀ : Heap} {own : List (Addr × Ow)} {pm : List (Str × Dt)} {mg mb : Str → Option Value} {W : List Addr} {oa : List Addr} {s₀ s : Shared} {Q : Flow → Shared → Prop} {rest : List Stmt} {e : Expr}

theorem strTab_own {a : Addr} {o : Obj} {D : List (PyData × PyData)} (F : FSt h₀ env H own pm s) (hm : (a, Ow.raw o) ∈ own) (lo : (a == sysModules) = false) (T : TabObj (strKind prog w) PyData.str D o) : StrTab prog w s.heap a D := by
  obtain ⟨kvs, hd, hf⟩ := T
  exact TabAt.ofObj lo (F.owns _ hm) hd hf
theorem gm_dict {a : Addr} {o : Obj} {D : List (PyData × PyData)} {name : Str} {id : String} (hm : (a, Ow.raw o) ∈ own) (lo : (a == sysModules) = false) (T : TabObj (strKind prog w) PyData.str D o) (sl : Slot "dict" name id) (ty : typeOf (.builtin id) = pure (.type "method_descriptor")) :
    Gm prog w A (fs h₀ env H own pm) H' (.val (.ref a)) name id := ⟨fun s v pl Q E F r q => by
  obtain rfl : v = .ref a := r
  exact getMethod_tab sl ty (strTab_own F hm lo T) q⟩
theorem cl_get {a : Addr} {o : Obj} {D : List (PyData × PyData)} {x y z : Str} (hm : (a, Ow.raw o) ∈ own) (lo : (a == sysModules) = false) (T : TabObj (strKind prog w) PyData.str D o) (hz : (PySem.Spec.lookup (.str x) D).getD (.str y) = .str z) :
    Cl prog w A (fs h₀ env H own pm) H' (.builtin "dict.get") [.val (.ref a), .str x, .str y] (.str z) := ⟨fun s vs F r Q E q => by
  obtain ⟨v, u, t, rfl, r1, ⟨t1, rfl⟩, ⟨t2, rfl⟩⟩ := rd3 r
  obtain rfl : v = .ref a := r1
  refine call_get2_strTab (strTab_own F hm lo T) (PyProof.V.Flat.str y t2) fun v hv => ?_
  rw [hz] at hv
  obtain ⟨t3, rfl⟩ := hv.str_inv
  exact q _ _ (keepsTok s _) ⟨_, rfl⟩⟩

theorem x_dict_update {o : Expr} {a : Addr} {pre post : List (Addr × Ow)} {ob : Obj} {D D₂ : List (PyData × PyData)} {pl : Sem Bool} {apos pos' pd : Pos} {keys : List (Option Expr)} {values : List Expr} (B : Base w mg mb h₀) (N : Nm env nm) (O : FOk h₀ W env H oa) (S : Chg W s₀ s) (F : FSt h₀ env H (pre ++ (a, .raw ob) :: post) pm s) (ho : (pre ++ (a, Ow.raw ob) :: post).map (·.1) = oa)
    (hx : Ev prog w A (fs h₀ env H (pre ++ (a, .raw ob) :: post) pm) H env o (.val (.ref a))) (lo : (a == sysModules) = false) (T : TabObj (strKind prog w) PyData.str D ob)
    (hD : litPairs keys values = some D₂) (hs : strKeyed D₂ = true) (hn : (strKeysOf D₂).Nodup) (hall : keys.all (·.isSome) = true) (hl : keys.length = values.length) (h0 : keys ≠ []) (hlen : keys.length ≤ 15) (hsz : D.length + D₂.length ≤ 1000)
    (k : ∀ s' ob', TabObj (strKind prog w) PyData.str (ktMergeD D D₂) ob' → Chg W s₀ s' → FSt h₀ env H (pre ++ (a, .raw ob') :: post) pm s' → Ex prog w A rest env Q s')
    (hc : eval (.Call (.Attribute o (Str.ofString "update") apos) [.Dict keys values pd] [] pos) env = (do
      let ov ← eval o env
      standAt apos.atName
      let (f, first) ← holding [ov] (getMethod ov (Str.ofString "update") pl)
      callWith pos f first (backTo pos (starEach [.Dict keys values pd] env)) []) := by rfl)
    (he : starEach [.Dict keys values pd] env = (false, eval (.Dict keys values pd) env) :: starEach [] env := by rfl) (hp : (backTo pos (starEach [] env)).any (·.1) = false := by rfl)
    (hsw : swapsWith (.Call (.Attribute o (Str.ofString "update") apos) [.Dict keys values pd] [] pos) none pos'.line env = pure false := by rfl) :
    Ex prog w A (.Expr (.Call (.Attribute o (Str.ofString "update") apos) [.Dict keys values pd] [] pos) pos' :: rest) env Q s := ⟨fun E => by
  have hi : interactive env = false := by unfold interactive; rw [N.kind]; rfl
  refine wpAny_execs_cons (wpAny_Expr (MethodCall_ (pl := pl) (hx.run s F _ _ fun v s₁ k₁ r₁ => ?_) hc) hi hsw)
  obtain rfl : v = .ref a := r₁
  have F₁ := F.keeps k₁
  refine getMethod_tab PySem.F.slot_dict_update PySem.F.type_dict_update (strTab_own F₁ (by simp) lo T) (callWith_method1 (wpAny_items_cons ((mk_dict B hD hs hn hall hl h0 hlen).run s₁ F₁ _ _ fun b ow s₂ k₂ hb hbx how hP => wpAny_items_nil ?_) he) he hp)
  obtain ⟨lo₂, o₂, rfl, T₂⟩ := hP
  have F₂ := F₁.keeps k₂
  obtain ⟨kvs, hd, hf⟩ := id T
  obtain ⟨more, hd₂, hf₂⟩ := id T₂
  have ha : s₂.heap.get? a = some ob := F₂.owns (a, .raw ob) (by simp)
  have hb2 : s₂.heap.get? b = some o₂ := how []
  have hD1 : s₂.heap.DictOf (strKind prog w) a kvs := Heap.dictOf_iff.mpr ⟨ob, ha, hd⟩
  have hD2 : s₂.heap.DictOf (strKind prog w) b more := Heap.dictOf_iff.mpr ⟨o₂, hb2, hd₂⟩
  have hne : a ≠ b := fun q => by
    have := F₁.owns (a, .raw ob) (by simp)
    have : s₁.heap.get? a = some ob := this
    rw [q, hb] at this; cases this
  refine call_meetsIn PySem.F.slot_dict_update hD1.typeIs PySem.F.entry_dict_update (PySem.F.args_dict_update_2 _ _) (meets_dict_update (strKind prog w) a b hne lo₂) ⟨kvs, more, hD1, hD2, ?_, fun h' hmm _ hsb => ?_⟩
  · rw [sizeLine_eq, ← hf.length, ← hf₂.length]; omega
  obtain ⟨o', ho', hd'⟩ := Heap.dictOf_iff.mp hmm
  obtain ⟨S', F'⟩ := F₂.wrote_own (o' := .raw o') (tk := s₂.toks) O ho ((S.trans (Chg.keeps k₁)).trans (Chg.keeps k₂)) ⟨_, ho'⟩ (fun _ => ho') hsb
  exact (k _ o' ⟨_, hd', kt_merged (fun a b => PyProof.V.same_str a b) hf₂ hf⟩ S' F').run E⟩

noncomputable def marksC : List (PyData × PyData) := [(.str (S' "&"), .str (S' "&amp;")), (.str (S' "<"), .str (S' "&lt;")), (.str (S' ">"), .str (S' "&gt;"))]
noncomputable def marksA : List (PyData × PyData) := [(.str (S' "\""), .str (S' "&quot;")), (.str (S' "\r"), .str (S' "&#13;")), (.str (S' "\n"), .str (S' "&#10;")), (.str (S' "\t"), .str (S' "&#09;"))]
end
section
variable {w : World} {mg mb : Str → Option Value} {h₀ : Heap}
theorem pc_spelled (B : Base w mg mb h₀) {x z : Str} {b : Bool} (hz : (PySem.Spec.lookup (.str x) (if b then ktMergeD marksC marksA else marksC)).getD (.str x) = .str z) :
    PC w mg mb h₀ (.ref 151) 1 [.str x, .bool b] [] (.str z) := by
  refine pc_fn [(S' "whole", .bool b), (S' "sign", .str x)] B (hl := rfl) (hcd := by kernel_rfl) (hbody := rfl) (hge := rfl) (hclo := rfl) (hbe := rfl) (hcell := by decide +kernel) (hco := rfl) (hgen := rfl) (hk := rfl) ?_ ?_
  · intro h H args kws r rk
    obtain ⟨v, u, rfl, r1, r2⟩ := rd2 r
    obtain rfl : kws = [] := rk
    exact ⟨[(S' "sign", v), (S' "whole", u)], fun S => by kernel_rfl, by kernel_rfl, rdb_cons r2 (rdb_cons r1 rdb_nil)⟩
  · intro prog A env s₁ L H Rm N h0 O F
    dsimp only at N
    have S := Chg.refl [L] s₁
    refine x_new_local N O S F (mk_dict B (D := marksC) rfl rfl (by decide +kernel) rfl rfl (by decide) (by decide)) rfl fun a ow s₂ hP ha haH O S F => ?_
    obtain ⟨lo, ob, rfl, T⟩ := hP
    refine y_if S F (b := b) (tst_value (by walk_at "EV")) (fun e s₃ S F => ?_) (fun e s₃ S F => ?_)
    · dsimp only [List.cons_append, List.nil_append]
      subst e
      have hs : ∀ b ∈ L :: H, b ∈ a :: L :: H := fun b h => .tail _ h
      refine x_dict_update (pre := []) (post := []) B N O S F rfl (by walk_at "EV") lo T (D₂ := marksA) rfl rfl (by decide +kernel) rfl rfl (by decide) (by decide) (by decide) fun s₄ ob' T' S F => ?_
      refine y_ret (H' := L :: H) (d := .str z) S F (ev_meth ?_ (gm_dict (.head _) lo T' PySem.F.slot_dict_get PySem.F.type_dict_get) ?_ (cl_get (.head _) lo T' hz)) fun v s' S F r => ⟨v, rfl, S.drop fun b hb => ?_, r⟩
      · walk_at "EV"
      · walk_at "EV"
      · rcases List.mem_cons.mp hb with rfl | hb
        · exact .inr ha
        · exact .inl hb
    · dsimp only [List.cons_append, List.nil_append]
      subst e
      have hs : ∀ b ∈ L :: H, b ∈ a :: L :: H := fun b h => .tail _ h
      refine y_ret (H' := L :: H) (d := .str z) S F (ev_meth ?_ (gm_dict (.head _) lo T PySem.F.slot_dict_get PySem.F.type_dict_get) ?_ (cl_get (.head _) lo T hz)) fun v s' S F r => ⟨v, rfl, S.drop fun b hb => ?_, r⟩
      · walk_at "EV"
      · walk_at "EV"
      · rcases List.mem_cons.mp hb with rfl | hb
        · exact .inr ha
        · exact .inl hb
end
end

section

noncomputable def subC (c : Nat) (z : List Nat) (l : List Nat) : List Nat := l.flatMap fun k => if k = c then z else [k]
theorem subC_append (c : Nat) (z a b : List Nat) : subC c z (a ++ b) = subC c z a ++ subC c z b := by simp [subC]
theorem subC_free (c : Nat) (z : List Nat) : ∀ l : List Nat, c ∉ l → subC c z l = l
  | [], _ => rfl
  | k :: r, h => by
    have h1 : ¬ k = c := fun e => h (e ▸ List.mem_cons_self ..)
    have h2 : c ∉ r := fun m => h (List.mem_cons_of_mem _ m)
    have ih := subC_free c z r h2
    unfold subC at ih ⊢
    rw [List.flatMap_cons, if_neg h1, ih]; rfl
theorem subC_join (c : Nat) (z : Str) : ∀ parts : List Str, (∀ p ∈ parts, c ∉ p.cps.toList) → subC c z.cps.toList (Str.join ⟨#[c]⟩ parts).cps.toList = (Str.join z parts).cps.toList
  | [], _ => rfl
  | [p], h => subC_free c _ _ (h p (List.mem_singleton.mpr rfl))
  | p :: q :: r, h => by
    have ih := subC_join c z (q :: r) fun a ha => h a (List.mem_cons_of_mem _ ha)
    show subC c _ (p ++ ⟨#[c]⟩ ++ Str.join ⟨#[c]⟩ (q :: r)).cps.toList = (p ++ z ++ Str.join z (q :: r)).cps.toList
    simp only [Str.cps_append, Array.toList_append]
    rw [subC_append, subC_append, ih, subC_free c _ _ (h p (List.mem_cons_self ..))]
    show p.cps.toList ++ subC c z.cps.toList [c] ++ _ = _
    simp [subC]
theorem replace_sub (x z : Str) (c : Nat) : (Txt.replace x ⟨#[c]⟩ z) = ⟨(subC c z.cps.toList x.cps.toList).toArray⟩ := by
  have h : (Txt.replace x ⟨#[c]⟩ z).cps.toList = subC c z.cps.toList x.cps.toList := by
    rw [StrLaws.replace_one, ← subC_join c z _ (StrLaws.split_free x c), StrLaws.join_split]
  generalize Txt.replace x ⟨#[c]⟩ z = r at h
  obtain ⟨⟨l⟩⟩ := r
  exact congrArg Str.mk (congrArg Array.mk h)
theorem subC_len (c : Nat) (z l : List Nat) {n m : Nat} (hl : l.length ≤ n) (hz : z.length ≤ m) (hm : 1 ≤ m) : (subC c z l).length ≤ n * m := by
  refine Nat.le_trans ?_ (Nat.mul_le_mul_right m hl)
  clear hl
  induction l with
  | nil => simp [subC]
  | cons k r ih =>
    unfold subC at ih ⊢
    rw [List.flatMap_cons, List.length_append, List.length_cons, Nat.add_mul]
    have hk : (if k = c then z else [k]).length ≤ m := by
      split
      · exact hz
      · exact hm
    omega

section
variable {prog : Program} {w : World} {A : Around} {Φ : Sp} {H H' : List Addr} {env : Env} {pos : Pos} {ds : List Dt} {d : Dt} {es : List Expr} {nm : List (Str × NameKind)}
  {h₀ : Heap} {own : List (Addr × Ow)} {pm : List (Str × Dt)} {mg mb : Str → Option Value} {W : List Addr} {oa : List Addr} {s₀ s : Shared} {Q : Flow → Shared → Prop} {rest : List Stmt} {e : Expr}

theorem x_try {body : List Stmt} {h₁ : ExceptHandler} {hs : List ExceptHandler} (h : Ex prog w A body env (fun fl s' => match fl with | .next => Ex prog w A rest env Q s' | f => Q f s') s) : Ex prog w A (.Try body (h₁ :: hs) [] [] pos :: rest) env Q s :=
  ⟨fun E => wpAny_execs_cons (wpAny_Try_except (wpAny_mono (h.run _) (fun fl s' h' => by
    cases fl with
    | next => exact wpAny_execs_nil (h'.run E)
    | _ => exact h') fun _ _ x => x))⟩

theorem y_if_t {n : Nat} {test : Expr} {body orelse : List Stmt} {pos : Pos} {b : Bool} (ht : n ≤ s.toks) (S : Chg W s₀ s) (F : FSt h₀ env H own pm s) (h : Tst prog w A (fs h₀ env H own pm) env test b)
    (k₁ : b = true → ∀ s', n ≤ s'.toks → Chg W s₀ s' → FSt h₀ env H own pm s' → Ex prog w A (body ++ rest) env Q s') (k₂ : b = false → ∀ s', n ≤ s'.toks → Chg W s₀ s' → FSt h₀ env H own pm s' → Ex prog w A (orelse ++ rest) env Q s') :
    Ex prog w A (.If test body orelse pos :: rest) env Q s := by
  refine ⟨fun E Γ p hΓ => ?_⟩
  rw [execs_cons, Sem.wp_bind', exec_If]
  have g := wpAny_toks_of ht (h.run s F (fun b' s' => b' = b ∧ Keeps s s') E (fun s' k => ⟨rfl, k⟩))
  show Sem.wp _ Γ (standAt pos >>= fun _ => isTrue test env (eval test env) >>= fun b => if b = true then execs body env else execs orelse env) _ _ p s
  rw [Sem.wp_bind']
  show Sem.wp _ Γ (isTrue test env (eval test env) >>= fun b => if b = true then execs body env else execs orelse env) _ _ _ s
  rw [Sem.wp_bind']
  refine Sem.wp_mono _ Γ _ (fun b' p' s' ⟨ht', e, k⟩ => ?_) (fun _ _ _ e => e.2) _ s (g Γ _ hΓ)
  subst e
  cases b' with
  | true => exact wp_app body rest ((k₁ rfl s' ht' (S.trans (Chg.keeps k)) (F.keeps k)).run E Γ p' hΓ)
  | false => exact wp_app orelse rest ((k₂ rfl s' ht' (S.trans (Chg.keeps k)) (F.keeps k)).run E Γ p' hΓ)

theorem cmp_in_one {y x : Str} {c : Nat} (hy : y = ⟨#[c]⟩) : Cmp prog w A Φ H .In (.str y) (.str x) (decide (c ∈ x.cps.toList)) := ⟨fun s v₁ v₂ _ r₁ r₂ Q E q => by
  obtain ⟨t, rfl⟩ := r₁
  obtain ⟨u, rfl⟩ := r₂
  subst hy
  refine P.in_str ?_
  rw [StrLaws.found_one]
  exact q _ _ (keepsRefl s) rfl⟩

theorem x_esc {tn : Str} {x y z : Str} {c : Nat} {k1 k7 k8 : Nat} {p1 p2 p3 p4 p5 p6 p7 p8 p9 p10 p11 : Pos} {pl : Sem Bool} (N : Nm env nm) (O : FOk h₀ W env H oa) (S : Chg W s₀ s) (F : FSt h₀ env H own pm s) (ht : 1 ≤ s.toks) (hl : nm.lookup tn = some .local) (hx : pm.lookup tn = some (.str x)) (hnd : (tn == ("__debug__" : Str)) = false)
    (hy : y = ⟨#[c]⟩) (hyz : (y == z) = false) {n m : Nat} (hn : x.cps.toList.length ≤ n) (hm : z.cps.toList.length ≤ m) (hb : n + (n + 1) * m ≤ 16777216)
    (k : ∀ s', 1 ≤ s'.toks → Chg W s₀ s' → FSt h₀ env H own ((tn, .str ⟨(subC c z.cps.toList x.cps.toList).toArray⟩) :: pm) s' → Ex prog w A rest env Q s')
    (hc : eval (.Call (.Attribute (.Name tn p5) (Str.ofString "replace") p6) [.Constant (.str y) k7 p7, .Constant (.str z) k8 p8] [] p9) env = (do
      let ov ← eval (.Name tn p5) env
      standAt p6.atName
      let (f, first) ← holding [ov] (getMethod ov (Str.ofString "replace") pl)
      callWith p9 f first (backTo p9 (starEach [.Constant (.str y) k7 p7, .Constant (.str z) k8 p8] env)) []) := by rfl)
    (he : starEach [.Constant (.str y) k7 p7, .Constant (.str z) k8 p8] env = (false, eval (.Constant (.str y) k7 p7) env) :: starEach [.Constant (.str z) k8 p8] env := by rfl)
    (he2 : starEach [.Constant (.str z) k8 p8] env = (false, eval (.Constant (.str z) k8 p8) env) :: starEach [] env := by rfl) (hp : (backTo p9 (starEach [.Constant (.str z) k8 p8] env)).any (·.1) = false := by rfl)
    (hsw : swapsWith (.Call (.Attribute (.Name tn p5) (Str.ofString "replace") p6) [.Constant (.str y) k7 p7, .Constant (.str z) k8 p8] [] p9) (some (.Name tn p4)) p10.line env = pure false := by rfl) (ho : own.map (·.1) = oa := by rfl) :
    Ex prog w A (.If (.Compare (.Constant (.str y) k1 p1) [.In] [.Name tn p2] p3) [.Assign [.Name tn p4] (.Call (.Attribute (.Name tn p5) (Str.ofString "replace") p6) [.Constant (.str y) k7 p7, .Constant (.str z) k8 p8] [] p9) p10] [] p11 :: rest) env Q s := by
  refine y_if_t ht S F (b := decide (c ∈ x.cps.toList)) (tst_cmp (H := H) (d₁ := .str y) (d₂ := .str x) ev_str (ev_local N hl hx (fun _ h => h) hnd) (cmp_in_one hy)) (fun e s₁ ht S F => ?_) (fun e s₁ ht S F => ?_)
  · show Ex prog w A (.Assign [.Name tn p4] (.Call (.Attribute (.Name tn p5) (Str.ofString "replace") p6) [.Constant (.str y) k7 p7, .Constant (.str z) k8 p8] [] p9) p10 :: rest) env Q s₁
    refine ⟨fun E => wpAny_execs_cons (wpAny_with_toks ht (wpAny_Assign_Name (MethodCall_ (pl := pl) (wpAny_with_toks ht ((ev_local (pos := p5) N hl hx (fun _ h => h) hnd).run s₁ F _ _ fun v s₂ k₂ r₂ ht₂ => (gm_str PySem.F.slot_str_replace PySem.F.type_str_replace (Φ := fs h₀ env H own pm)).run s₂ v _ _ _ (F.keeps k₂) r₂ (callWith_method1 (wpAny_items_cons (wpAny_Constant_str (wpAny_items_cons (wpAny_Constant_str (wpAny_items_nil ?_)) he2)) he) he hp))) hc) hsw))⟩
    obtain ⟨t, rfl⟩ := r₂
    subst hy
    have hxl : x.length = x.cps.toList.length := by show x.cps.size = _; rw [Array.length_toList]
    have hzl : z.length = z.cps.toList.length := by show z.cps.size = _; rw [Array.length_toList]
    refine SC.replace (Nat.ne_of_gt ht₂ : s₂.toks ≠ 0) (Nat.succ_ne_zero _ : s₂.toks + 1 ≠ 0) (Nat.ne_of_lt (Nat.lt_succ_self _) : s₂.toks ≠ s₂.toks + 1) hyz ?_ fun t' kk => ?_
    · refine Nat.le_trans ?_ hb
      rw [hxl, hzl]
      exact Nat.add_le_add hn (Nat.mul_le_mul (by omega) hm)
    rw [replace_sub]
    have K : Keeps s₁ { s₂ with toks := kk } := by
      obtain ⟨h2, t2, rfl, kk2⟩ := k₂
      exact ⟨h2, kk, rfl, kk2⟩
    refine st_local N O ho (S.trans (Chg.keeps K)) (F.keeps K) (d := .str ⟨(subC c z.cps.toList x.cps.toList).toArray⟩) ⟨t', rfl⟩ hl fun s' S' F' => fun ht' => (k s' ht' S' F').run E
  · have hc' : c ∉ x.cps.toList := of_decide_eq_false e
    refine k s₁ ht S (F.weak fun u d hu => ?_)
    rw [subC_free _ _ _ hc'] at hu
    have ex : (⟨x.cps.toList.toArray⟩ : Str) = x := by rw [Array.toArray_toList]
    rw [ex, List.lookup_cons] at hu
    cases q : u == tn with
    | true => rw [q] at hu; cases hu; rw [eq_of_beq q]; exact hx
    | false => rw [q] at hu; exact hu
end
end

section
noncomputable def zAmp : List Nat := (S' "&amp;").cps.toList
noncomputable def zLt : List Nat := (S' "&lt;").cps.toList
noncomputable def zGt : List Nat := (S' "&gt;").cps.toList
noncomputable def zQuot : List Nat := (S' "&quot;").cps.toList
noncomputable def zCr : List Nat := (S' "&#13;").cps.toList
noncomputable def zLf : List Nat := (S' "&#10;").cps.toList
noncomputable def zTab : List Nat := (S' "&#09;").cps.toList
noncomputable def escC (l : List Nat) : List Nat := subC 62 zGt (subC 60 zLt (subC 38 zAmp l))
noncomputable def escA (l : List Nat) : List Nat := subC 9 zTab (subC 10 zLf (subC 13 zCr (subC 34 zQuot (escC l))))

section
variable {w : World} {mg mb : Str → Option Value} {h₀ : Heap} {n : Nat} {ds : List Dt} {d : Dt}
theorem pc_fn_t {f : Addr} {fd : FuncData} {oc : Value} {od : Option Addr} {osl : Array (Option Value)} {body : List Stmt} {ks : List (Str × Dt)} (pm : List (Str × Dt)) (B : Base w mg mb h₀)
    (hl : (hd.heap_39 w.params).lookup f = some ⟨oc, od, .func fd, osl⟩) (hcd : codeIn (hd.heap_39 w.params) fd.code fd.qualname = true) (hbody : fd.body = .stmts body) (hge : fd.globals = mainGlobals) (hclo : fd.closure = []) (hbe : fd.builtins = builtinsNs)
    (hcell : (fd.scope.names.all fun x => decide (x.2 ≠ .cell)) = true) (hco : fd.scope.isCoroutine = false) (hgen : fd.scope.isGenerator = false) (hk : fd.scope.kind = .function)
    (hb : ∀ h H args kws, RdAll h H ds args → RdK h H ks kws → ∃ binds, (∀ S, peek (hd.heap_39 w.params) S (bindArgs fd ⟨args, kws⟩) = some binds) ∧ (binds.all fun x => decide (fd.scope.names.lookup x.1 = some .local)) = true ∧ RdB h H binds.reverse pm ∧ 1 ≤ binds.length)
    (k : ∀ (prog : Program) A env s₁ L H, Room A n → Nm env fd.scope.names → (∀ a ∈ H, h₀.get? a = none) → FOk h₀ [L] env (L :: H) [] → FSt h₀ env (L :: H) [] pm s₁ → 1 ≤ s₁.toks →
      Ex prog w A body env (fun fl s' => ∃ v, fl = .ret v ∧ Chg [L] s₁ s' ∧ Rd s'.heap (L :: H) d v) s₁) : PC w mg mb h₀ (.ref f) (n + 1) ds ks d := ⟨fun prog A s H args kws Rm hbs h0 hx r rk Q E q => by
  obtain ⟨binds, b1, b2, b3, b4⟩ := hb s.heap H args kws r rk
  refine wpAny_call (call_fn pm Rm B hbs h0 hx hl hcd hbody hge hclo hbe b1 hcell b2 (own := []) (oa := []) (fun p hp => nomatch hp) (fun a ha => nomatch ha) .nil rfl b3 (fun env s₁ L N eL hL O F C ht => ?_) hco hgen hk)
  refine ⟨fun E => wpAny_mono ((k prog _ env s₁ L H Rm.deeper N h0 O F (Nat.le_trans b4 ht)).run E) (fun fl s' h' => ?_) fun _ _ e => e⟩
  obtain ⟨v, rfl, c, rv⟩ := h'
  refine q v s' ?_ (rv.sub fun a ha => .tail _ ha)
  exact ((C.more fun a ha => nomatch ha).trans c |>.drop (W := []) fun a ha => .inr (by rw [List.mem_singleton.mp ha]; exact hL)).toKeeps⟩

theorem toListOf (l : List Nat) : (⟨l.toArray⟩ : Str).cps.toList = l := rfl

theorem pc_escape_cdata (B : Base w mg mb h₀) {x : Str} (hx : x.cps.toList.length ≤ 20) : PC w mg mb h₀ (.ref 137) 1 [.str x] [] (.str ⟨(escC x.cps.toList).toArray⟩) := by
  have l1 := subC_len 38 zAmp x.cps.toList hx (show zAmp.length ≤ 5 by decide +kernel) (by decide)
  have l2 := subC_len 60 zLt _ l1 (show zLt.length ≤ 4 by decide +kernel) (by decide)
  refine pc_fn_t [(S' "text", .str x)] B (hl := rfl) (hcd := by kernel_rfl) (hbody := rfl) (hge := rfl) (hclo := rfl) (hbe := rfl) (hcell := by decide +kernel) (hco := rfl) (hgen := rfl) (hk := rfl) ?_ ?_
  · intro h H args kws r rk
    obtain ⟨v, rfl, r1⟩ := rd1 r
    obtain rfl : kws = [] := rk
    exact ⟨[(S' "text", v)], fun S => by kernel_rfl, by kernel_rfl, rdb_cons r1 rdb_nil, Nat.le_refl _⟩
  · intro prog A env s₁ L H Rm N h0 O F ht
    dsimp only at N
    have S := Chg.refl [L] s₁
    refine x_try ?_
    refine x_esc (x := x) (c := 38) (n := 20) (m := 5) N O S F ht rfl rfl (by decide) (by decide +kernel) (by decide +kernel) hx (by decide +kernel) (by decide) fun s₂ ht S F => ?_
    refine x_esc (x := ⟨(subC 38 zAmp x.cps.toList).toArray⟩) (c := 60) (n := 100) (m := 4) N O S F ht rfl rfl (by decide) (by decide +kernel) (by decide +kernel) l1 (by decide +kernel) (by decide) fun s₃ ht S F => ?_
    refine x_esc (x := ⟨(subC 60 zLt (subC 38 zAmp x.cps.toList)).toArray⟩) (c := 62) (n := 400) (m := 4) N O S F ht rfl rfl (by decide) (by decide +kernel) (by decide +kernel) l2 (by decide +kernel) (by decide) fun s₄ ht S F => ?_
    exact y_ret (H' := L :: H) S F (ev_local N rfl rfl (fun _ h => h) (by decide)) fun v s'' S'' F'' r => ⟨v, rfl, S'', r⟩

theorem pc_escape_attrib (B : Base w mg mb h₀) {x : Str} (hx : x.cps.toList.length ≤ 20) : PC w mg mb h₀ (.ref 144) 1 [.str x] [] (.str ⟨(escA x.cps.toList).toArray⟩) := by
  have l1 := subC_len 38 zAmp x.cps.toList hx (show zAmp.length ≤ 5 by decide +kernel) (by decide)
  have l2 := subC_len 60 zLt _ l1 (show zLt.length ≤ 4 by decide +kernel) (by decide)
  have l3 := subC_len 62 zGt _ l2 (show zGt.length ≤ 4 by decide +kernel) (by decide)
  have l4 := subC_len 34 zQuot _ l3 (show zQuot.length ≤ 6 by decide +kernel) (by decide)
  have l5 := subC_len 13 zCr _ l4 (show zCr.length ≤ 5 by decide +kernel) (by decide)
  have l6 := subC_len 10 zLf _ l5 (show zLf.length ≤ 5 by decide +kernel) (by decide)
  refine pc_fn_t [(S' "text", .str x)] B (hl := rfl) (hcd := by kernel_rfl) (hbody := rfl) (hge := rfl) (hclo := rfl) (hbe := rfl) (hcell := by decide +kernel) (hco := rfl) (hgen := rfl) (hk := rfl) ?_ ?_
  · intro h H args kws r rk
    obtain ⟨v, rfl, r1⟩ := rd1 r
    obtain rfl : kws = [] := rk
    exact ⟨[(S' "text", v)], fun S => by kernel_rfl, by kernel_rfl, rdb_cons r1 rdb_nil, Nat.le_refl _⟩
  · intro prog A env s₁ L H Rm N h0 O F ht
    dsimp only at N
    have S := Chg.refl [L] s₁
    refine x_try ?_
    refine x_esc (x := x) (c := 38) (n := 20) (m := 5) N O S F ht rfl rfl (by decide) (by decide +kernel) (by decide +kernel) hx (by decide +kernel) (by decide) fun s₂ ht S F => ?_
    refine x_esc (x := ⟨(subC 38 zAmp x.cps.toList).toArray⟩) (c := 60) (n := 100) (m := 4) N O S F ht rfl rfl (by decide) (by decide +kernel) (by decide +kernel) l1 (by decide +kernel) (by decide) fun s₃ ht S F => ?_
    refine x_esc (x := ⟨(subC 60 zLt (subC 38 zAmp x.cps.toList)).toArray⟩) (c := 62) (n := 400) (m := 4) N O S F ht rfl rfl (by decide) (by decide +kernel) (by decide +kernel) l2 (by decide +kernel) (by decide) fun s₄ ht S F => ?_
    refine x_esc (x := ⟨(escC x.cps.toList).toArray⟩) (c := 34) (n := 1600) (m := 6) N O S F ht rfl rfl (by decide) (by decide +kernel) (by decide +kernel) l3 (by decide +kernel) (by decide) fun s₅ ht S F => ?_
    refine x_esc (x := ⟨(subC 34 zQuot (escC x.cps.toList)).toArray⟩) (c := 13) (n := 9600) (m := 5) N O S F ht rfl rfl (by decide) (by decide +kernel) (by decide +kernel) l4 (by decide +kernel) (by decide) fun s₆ ht S F => ?_
    refine x_esc (x := ⟨(subC 13 zCr (subC 34 zQuot (escC x.cps.toList))).toArray⟩) (c := 10) (n := 48000) (m := 5) N O S F ht rfl rfl (by decide) (by decide +kernel) (by decide +kernel) l5 (by decide +kernel) (by decide) fun s₇ ht S F => ?_
    refine x_esc (x := ⟨(subC 10 zLf (subC 13 zCr (subC 34 zQuot (escC x.cps.toList)))).toArray⟩) (c := 9) (n := 240000) (m := 5) N O S F ht rfl rfl (by decide) (by decide +kernel) (by decide +kernel) l6 (by decide +kernel) (by decide) fun s₈ ht S F => ?_
    exact y_ret (H' := L :: H) S F (ev_local N rfl rfl (fun _ h => h) (by decide)) fun v s'' S'' F'' r => ⟨v, rfl, S'', r⟩
end
end

section
theorem bindL_look {kindOf : Str → Option NameKind} {x : Str} {v : Value} (hx : kindOf x = some .local) : ∀ (binds : List (Str × Value)) (f : Str → Option Value), (binds.reverse.lookup x = some v ∨ (binds.reverse.lookup x = none ∧ f x = some v)) → bindL kindOf binds f x = some v
  | [], f, h => by
    rcases h with h | h
    · cases h
    · exact h.2
  | (n, u) :: r, f, h => by
    show bindL kindOf r (if kindOf n = some .local then fun y => if y = n then some u else f y else f) x = some v
    refine bindL_look hx r _ ?_
    rw [List.reverse_cons, List.lookup_append] at h
    cases q : r.reverse.lookup x with
    | some z => rw [q] at h; simp at h; exact .inl (by rw [h])
    | none =>
      rw [q] at h
      refine .inr ⟨rfl, ?_⟩
      by_cases hn : x = n
      · subst hn
        rw [if_pos hx]
        simp at h ⊢
        exact h
      · have hb : (x == n) = false := by simpa using hn
        simp [List.lookup_cons, hb] at h
        split
        · exact (if_neg hn).trans h
        · exact h
theorem bindC_look {kindOf : Str → Option NameKind} {x : Str} {v : Value} (hx : kindOf x ≠ some .local) : ∀ (binds : List (Str × Value)) (f : Str → Option Value), (binds.reverse.lookup x = some v ∨ (binds.reverse.lookup x = none ∧ f x = some v)) → bindC kindOf binds f x = some v
  | [], f, h => by
    rcases h with h | h
    · cases h
    · exact h.2
  | (n, u) :: r, f, h => by
    show bindC kindOf r (if kindOf n = some .local then f else fun y => if y = n then some u else f y) x = some v
    refine bindC_look hx r _ ?_
    rw [List.reverse_cons, List.lookup_append] at h
    cases q : r.reverse.lookup x with
    | some z => rw [q] at h; simp at h; exact .inl (by rw [h])
    | none =>
      rw [q] at h
      refine .inr ⟨rfl, ?_⟩
      by_cases hn : x = n
      · subst hn
        rw [if_neg hx]
        simp at h ⊢
        exact h
      · have hb : (x == n) = false := by simpa using hn
        simp [List.lookup_cons, hb] at h
        split
        · exact h
        · exact (if_neg hn).trans h

section
variable {prog : Program} {w : World} {A : Around} {h₀ : Heap} {s : Shared} {H : List Addr} {own : List (Addr × Ow)} {oa : List Addr} {mg mb : Str → Option Value}

theorem call_fn_c {n : Nat} {R : Result → Shared → Prop} {fd : FuncData} {f : Addr} {ob : Obj} {vals : List Value} {binds : List (Str × Value)} {body : List Stmt} (pm : List (Str × Dt))
    (Rm : Room A n) (B : Base w mg mb h₀) (hb : ∀ b o, h₀.get? b = some o → s.heap.get? b = some o) (h0 : ∀ a ∈ H, h₀.get? a = none) (hx : ∀ a ∈ H, ∃ o, s.heap.get? a = some o)
    (hl : s.heap.get? f = some ob) (hfd : ob.data = .func fd) (hcd : s.heap.CodeRec fd.code fd.qualname) (hbody : fd.body = .stmts body) (hge : fd.globals = mainGlobals) (hclo : fd.closure = []) (hbe : fd.builtins = builtinsNs)
    (hbind : bindArgs fd ⟨vals, []⟩ = pure binds) (hkind : ∀ L, ∀ x ∈ binds, fd.scope.names.lookup x.1 = some .local ∨ (fd.scope.names.lookup x.1 = some .cell ∧ ((cellsFrom (L + 1) fd.scope.names []).lookup x.1).isSome = true))
    (hown : ∀ p ∈ own, OwAt s.heap H p.1 p.2) (hoH : ∀ a ∈ oa, a ∈ H) (hoA : oa.Pairwise fun p q => p ≠ q) (hoe : own.map (·.1) = oa)
    (hpm : RdB s.heap H binds.reverse pm)
    (k : ∀ env s₁ L CA, Nm env fd.scope.names → env.locals = L → env.cells = cellsFrom (L + 1) fd.scope.names [] → env.qual = fd.qualname ++ ".<locals>." → env.code = fd.code → (∀ a ∈ L :: CA, s.heap.get? a = none) → FOk h₀ (L :: CA ++ oa) env (L :: CA ++ H) oa → FSt h₀ env (L :: CA ++ H) own pm s₁ → Chg [] s s₁ →
      Ex prog w (A.deeper env) body env (Post R) s₁)
    (hco : fd.scope.isCoroutine = false) (hgen : fd.scope.isGenerator = false) (hk : fd.scope.kind = .function) : codeAny (model prog w) A (.call (.ref f) ⟨vals, []⟩) R s := by
  refine codeAny_call_cells (fd := fd) (body := body) (binds := binds) Rm.lt hl hfd (B.nolimit.keeps hb) hcd hbody hbind hclo (hkind _) (fun s₁ I => ?_) hco hgen hk
  have hk₁ := I.toInCall.keep
  generalize hL0 : s.heap.objs.size = L at *
  have cellsAll : ∀ x c, (callEnvC fd L f).cells.lookup x = some c → L < c := fun x c e => I.above x c (mem_of_lookup e)
  have freshL : ∀ a, L ≤ a → s.heap.get? a = none := fun a ha => Heap.get?_none_of_le (hL0 ▸ ha)
  have fresh0 : ∀ a, L ≤ a → h₀.get? a = none := fun a ha => by
    cases q : h₀.get? a with
    | none => rfl
    | some o => have := hb _ _ q; rw [freshL a ha] at this; cases this
  have ltH : ∀ a ∈ H, a < L := fun a ha => by obtain ⟨o, e⟩ := hx a ha; exact hL0 ▸ Heap.lt_size e
  let CA := ((callEnvC fd L f).cells.filter fun p => ((callEnvC fd L f).cells.lookup p.1 == some p.2)).map (·.2)
  have caOf : ∀ c ∈ CA, ∃ x, (callEnvC fd L f).cells.lookup x = some c := fun c hc => by
    obtain ⟨p, hp, rfl⟩ := List.mem_map.mp hc
    exact ⟨p.1, eq_of_beq (List.mem_filter.mp hp).2⟩
  have caMem : ∀ x c, (callEnvC fd L f).cells.lookup x = some c → c ∈ CA := fun x c e => List.mem_map.mpr ⟨(x, c), List.mem_filter.mpr ⟨mem_of_lookup e, by simp [e]⟩, rfl⟩
  have geL : ∀ a ∈ L :: CA, L ≤ a := fun a ha => by
    rcases List.mem_cons.mp ha with rfl | ha
    · exact Nat.le_refl _
    · obtain ⟨x, e⟩ := caOf a ha; exact Nat.le_of_lt (cellsAll x a e)
  have mv : ∀ {d v}, Rd s.heap H d v → Rd s₁.heap (L :: CA ++ H) d v := fun r => Rd.move (fun b o hb' e => ⟨hk₁ b o e, fun q => (List.mem_append.mp q).elim (fun z => by rw [freshL b (geL b z)] at e; cases e) hb'⟩) _ _ r
  refine wpAny_mono ((k (callEnvC fd L f) s₁ L CA ⟨rfl, hk, hge, hbe⟩ rfl rfl rfl rfl (fun a ha => freshL a (geL a ha)) ⟨fun a ha => ?_, fun a ha => ?_, .head _, fun x c e => ?_, fun x y c e e' => ?_, fun a ha => ?_, hoA⟩
    ⟨fun b o e => hk₁ b o (hb b o e), ⟨_, I.toInCall.ns, fun x d e hkx => ?_⟩, fun x c e => ⟨_, I.cell x c e, fun d e' hkx => ?_⟩, fun p hp => (hown p hp).mv (fun _ _ r => mv r) (fun o e => hk₁ _ _ e), fun a ha => ?_⟩ ?_).run (fun _ _ => False)) (fun _ _ x => x) fun _ _ x => x.elim
  · rcases List.mem_append.mp ha with ha | ha
    · exact fresh0 a (geL a ha)
    · exact h0 a ha
  · rcases List.mem_append.mp ha with ha | ha
    · exact List.mem_append_left _ ha
    · exact List.mem_append_right _ (hoH a ha)
  · exact ⟨List.mem_append_left _ (.tail _ (caMem x c e)), Nat.ne_of_gt (cellsAll x c e)⟩
  · exact name_of_addr I.apart (mem_of_lookup e) (mem_of_lookup e')
  · have := ltH a (hoH a ha)
    exact ⟨List.mem_append_right _ ha, Nat.ne_of_lt this, fun x c e => Nat.ne_of_lt (Nat.lt_trans this (cellsAll x c e))⟩
  · obtain ⟨v, e1, r⟩ := hpm.look e
    exact ⟨v, bindL_look hkx _ _ (.inl e1), mv r⟩
  · obtain ⟨v, e1, r⟩ := hpm.look e'
    exact ⟨v, bindC_look hkx _ _ (.inl e1), mv r⟩
  · rcases List.mem_append.mp ha with ha | ha
    · rcases List.mem_cons.mp ha with rfl | ha
      · obtain ⟨o, _, _, e, _⟩ := I.toInCall.ns; exact ⟨o, e⟩
      · obtain ⟨x, e⟩ := caOf a ha
        obtain ⟨o, e2, _⟩ := I.cell x a e; exact ⟨o, e2⟩
    · obtain ⟨o, e⟩ := hx a ha; exact ⟨o, hk₁ a o e⟩
  · obtain ⟨h', tk, e, kk⟩ := I.done
    exact ⟨h', tk, e, fun b o _ e => kk b o e⟩
end
end

local macro_rules | `(tactic| walk_at "EV") => `(tactic| repeat' (first
  | exact ev_int | exact ev_str | exact ev_none | exact ev_bool
  | exact ev_local (by assumption) (by rfl) (by rfl) (fun _ h => h) (by decide)
  | exact ev_local (by assumption) (by rfl) (by rfl) (by assumption) (by decide)
  | exact ev_cell (by assumption) (by rfl) (by assumption) (by rfl) (fun _ h => h) (by decide)
  | exact ev_cell (by assumption) (by rfl) (by rfl) (by rfl) (fun _ h => h) (by decide)
  | exact cmp_lt | exact cmp_gt | exact cmp_ge | exact cmp_le | exact cmp_eq_str | exact cmp_eq | exact cmp_is_none | exact cmp_lt_str | exact cmp_is_bool | exact cmp_isnot_bool
  | refine' ev_lenL (by assumption) (by assumption) (by rfl) ?_ ?_ ?_
  | refine' ev_sumL (by assumption) (by assumption) (by rfl) ?_ (by assumption)
  | refine' ev_range1 (by assumption) (by assumption) (by rfl) (fun _ h => h) ?_
  | refine' ev_range2 (by assumption) (by assumption) (by rfl) (fun _ h => h) ?_ ?_
  | refine' ev_add ?_ ?_ | refine' ev_sub ?_ ?_ | refine' tst_cmp ?_ ?_ ?_
  | fail "EV"))

section
section
variable {w : World} {mg mb : Str → Option Value} {h₀ : Heap} {n : Nat} {ds : List Dt} {d : Dt}
theorem pc_fn_c {f : Addr} {fd : FuncData} {oc : Value} {od : Option Addr} {osl : Array (Option Value)} {body : List Stmt} (pm : List (Str × Dt)) (B : Base w mg mb h₀)
    (hl : (hd.heap_39 w.params).lookup f = some ⟨oc, od, .func fd, osl⟩) (hcd : codeIn (hd.heap_39 w.params) fd.code fd.qualname = true) (hbody : fd.body = .stmts body) (hge : fd.globals = mainGlobals) (hclo : fd.closure = []) (hbe : fd.builtins = builtinsNs)
    (hco : fd.scope.isCoroutine = false) (hgen : fd.scope.isGenerator = false) (hk : fd.scope.kind = .function)
    (hb : ∀ h H args, RdAll h H ds args → ∃ binds, bindArgs fd ⟨args, []⟩ = pure binds ∧ (∀ L, ∀ x ∈ binds, fd.scope.names.lookup x.1 = some .local ∨ (fd.scope.names.lookup x.1 = some .cell ∧ ((cellsFrom (L + 1) fd.scope.names []).lookup x.1).isSome = true)) ∧ RdB h H binds.reverse pm)
    (k : ∀ (prog : Program) A env s₁ L CA H, Room A n → Nm env fd.scope.names → env.cells = cellsFrom (L + 1) fd.scope.names [] → FOk h₀ (L :: CA) env (L :: CA ++ H) [] → FSt h₀ env (L :: CA ++ H) [] pm s₁ →
      Ex prog w A body env (fun fl s' => ∃ v, fl = .ret v ∧ Chg (L :: CA) s₁ s' ∧ Rd s'.heap (L :: CA ++ H) d v) s₁) : PC w mg mb h₀ (.ref f) (n + 1) ds [] d := ⟨fun prog A s H args kws Rm hbs h0 hx r rk Q E q => by
  obtain rfl : kws = [] := rk
  obtain ⟨binds, b1, b2, b3⟩ := hb s.heap H args r
  have X := B.X.keeps hbs
  refine wpAny_call (call_fn_c pm Rm B hbs h0 hx (X _ _ hl) rfl (codeRec_of X hcd) hbody hge hclo hbe b1 b2 (own := []) (oa := []) (fun p hp => nomatch hp) (fun a ha => nomatch ha) .nil rfl b3 (fun env s₁ L CA N eL ec _ _ hL O F C => ?_) hco hgen hk)
  rw [List.append_nil] at O
  refine ⟨fun E => wpAny_mono ((k prog _ env s₁ L CA H Rm.deeper N ec O F).run E) (fun fl s' h' => ?_) fun _ _ e => e⟩
  obtain ⟨v, rfl, c, rv⟩ := h'
  refine q v s' ?_ (rv.sub fun a ha => List.mem_append_right _ ha)
  exact ((C.more fun a ha => nomatch ha).trans c |>.drop (W := []) fun a ha => .inr (hL a ha)).toKeeps⟩
end

noncomputable def maxI : List Int → Int
  | [] => 0
  | x :: xs => xs.foldl max x
noncomputable def minI : List Int → Int
  | [] => 0
  | x :: xs => xs.foldl min x
theorem maxI_mem : ∀ {l : List Int}, l ≠ [] → maxI l ∈ l
  | [], h => absurd rfl h
  | x :: xs, _ => List.max?_mem (xs := x :: xs) (a := xs.foldl max x) rfl
theorem maxI_le {l : List Int} {a : Int} (h : a ∈ l) : a ≤ maxI l := by
  cases l with
  | nil => cases h
  | cons x xs => exact (List.max?_eq_some_iff (xs := x :: xs) (a := xs.foldl max x)).mp rfl |>.2 a h
theorem minI_mem : ∀ {l : List Int}, l ≠ [] → minI l ∈ l
  | [], h => absurd rfl h
  | x :: xs, _ => List.min?_mem (xs := x :: xs) (a := xs.foldl min x) rfl
theorem minI_le {l : List Int} {a : Int} (h : a ∈ l) : minI l ≤ a := by
  cases l with
  | nil => cases h
  | cons x xs => exact (List.min?_eq_some_iff (xs := x :: xs) (a := xs.foldl min x)).mp rfl |>.2 a h

noncomputable def sumsOf (ring : List Int) (size : Nat) : List Int := (List.range ring.length).map fun k => (((ring ++ ring).drop k).take size).sum
noncomputable def okSize (ring : List Int) (size : Nat) : Bool := !decide (maxI (sumsOf ring size) - minI (sumsOf ring size) > 1)
noncomputable def evenB (ring : List Int) : Bool := (List.range (ring.length - 1)).all fun i => okSize ring (i + 1)


theorem ev_slice_at {prog : Program} {w : World} {A : Around} {Φ : Sp} {H : List Addr} {env : Env} {pos : Pos} {ds : List Dt} {value lo up : Expr} {a n : Nat} {pp : Pos} (X : Hx Φ H) (hv : Ev prog w A Φ H env value (.list ds)) (hl : Ev prog w A Φ H env lo (.int a)) (hu : Ev prog w A Φ H env up (.int ((a + n : Nat) : Int))) (hb : a + n ≤ ds.length) (hz : ds.length ≤ 1000) :
    Ev prog w A Φ H env (.Subscript value (.Slice (some lo) (some up) none pp) pos) (.list ((ds.drop a).take n)) := by
  have h := ev_slice_run (pos := pos) (pp := pp) X hv hl hu (Nat.le_add_right _ _) hb hz
  rwa [Nat.add_sub_cancel_left] at h
theorem dInts_append {a b : List Int} : dInts (a ++ b) = dInts a ++ dInts b := by simp [dInts]
theorem dInts_drop {a : List Int} {k : Nat} : dInts (a.drop k) = (dInts a).drop k := by simp [dInts]
theorem dInts_take {a : List Int} {k : Nat} : dInts (a.take k) = (dInts a).take k := by simp [dInts]

theorem sumsOf_ne {ring : List Int} {size : Nat} (h : ring ≠ []) : sumsOf ring size ≠ [] := by
  unfold sumsOf
  intro q
  have := congrArg List.length q
  simp at this
  exact h this

theorem pc_is_even {w : World} {mg mb : Str → Option Value} {h₀ : Heap} (B : Base w mg mb h₀) {ring : List Int} (hn : ring ≠ []) (hz : ring.length ≤ 100) : PC w mg mb h₀ (.ref 156) 1 [.list (dInts ring)] [] (.bool (evenB ring)) := by
  have hpos : 0 < ring.length := List.length_pos_iff.mpr hn
  refine pc_fn_c [(S' "ring", .list (dInts ring))] B (hl := rfl) (hcd := by kernel_rfl) (hbody := rfl) (hge := rfl) (hclo := rfl) (hbe := rfl) (hco := rfl) (hgen := rfl) (hk := rfl) ?_ ?_
  · intro h H args r
    obtain ⟨v, rfl, r1⟩ := rd1 r
    exact ⟨[(S' "ring", v)], by rfl, fun L x hx => by rw [List.mem_singleton.mp hx]; exact .inr ⟨by rfl, by rfl⟩, rdb_cons r1 rdb_nil⟩
  · intro prog A env s₁ L CA H Rm N ec O F
    dsimp only at N
    have S := Chg.refl (L :: CA) s₁
    have ec' : env.cells = [(S' "size", L + 2), (S' "ring", L + 1)] := ec
    clear ec
    have hcR : env.cells.lookup (S' "ring") = some (L + 1) := by rw [ec']; rfl
    have hcS : env.cells.lookup (S' "size") = some (L + 2) := by rw [ec']; rfl
    have lenD : (dInts ring).length = ring.length := dInts_len
    have lenZ : ((dInts ring).length : Int) = ring.length := by rw [lenD]
    have lenB : (dInts ring).length ≤ 1000 := by omega
    have hh : A.handled = none := Rm.hh
    refine x_forS (Q := fun fl s' => ∃ v, fl = .ret v ∧ Chg (L :: CA) s₁ s' ∧ Rd s'.heap (L :: CA ++ H) (.bool (evenB ring)) v) (dsrc := .rng ((1 : Nat) : Int) ring.length 1) (fun _ => [(S' "ring", .list (dInts ring))]) (fun _ => []) (fun i => ∀ j, j < i → okSize ring (j + 1) = true) (fun _ => False) (fun v _ => evenB ring = false ∧ v = .bool false) N O S F (fun j hj => absurd hj (Nat.not_lt_zero _)) ?_ (it_range_from (a := 1) Rm.hh (by decide) (by omega)) (sto_cell N rfl hcS) ?_ ?_ (fun _ _ _ f => f.elim) ?_
    · walk_at "EV"
      · exact lenZ
      · exact lenB
    · intro i d s₃ H' hd hC hsub O' F'
      obtain ⟨hlt, rfl⟩ := range_get hd
      clear hd
      have S₃ := Chg.refl (L :: CA) s₃
      refine x_asg_comp (dsrc := .rng 0 ring.length 1) (cl := [(S' "size", L + 2), (S' "ring", L + 1)]) (pmf := [(S' "size", .int ((1 + i : Nat) : Int)), (S' "ring", .list (dInts ring))]) (fun k => some (.int (((ring ++ ring).drop k).take (1 + i)).sum)) N O' S₃ F' ⟨by decide +kernel, rfl, by decide +kernel, rfl⟩ (by rw [ec']; rfl) ?_ (it_range Rm.hh (by omega)) (by simp; omega) ⟨rfl, by decide +kernel, by decide +kernel, rfl, by decide +kernel, by decide +kernel, trivial⟩ ?_ rfl rfl rfl fun s₄ S₄ F₄ => ?_
      · walk_at "EV"
        · exact lenZ
        · exact lenB
      · intro k d hd
        obtain ⟨hk, rfl⟩ := range_get hd
        refine ⟨fun C H'' hs N' => ⟨ifs_nil, fun e he => ?_⟩⟩
        cases he
        refine' ev_sumL B N' (by rfl) ?_ hh
        rw [dInts_take, dInts_drop, dInts_append]
        refine ev_slice_at (hx_fs fun _ h => h) (ev_add_list (hx_fs fun _ h => h) ?_ ?_ (by omega)) ?_ ?_ (by rw [List.length_append]; omega) (by rw [List.length_append]; omega)
        · walk_at "EV"
        · walk_at "EV"
        · walk_at "EV"
        · refine Ev.int_eq (ev_add (a := k) (b := ((1 + i : Nat) : Int)) ?_ ?_) (Int.natCast_add _ _).symm
          · walk_at "EV"
          · walk_at "EV"
      rw [filterMap_some] at F₄
      have eS : (List.map (fun k => Dt.int (((ring ++ ring).drop k).take (1 + i)).sum) (List.range ((List.range ring.length).map fun i : Nat => Dt.int i).length)) = dInts (sumsOf ring (i + 1)) := by
        simp [dInts, sumsOf, Nat.add_comm]
      rw [eS] at F₄
      have ne := sumsOf_ne (size := i + 1) hn
      refine y_if S₄ F₄ (b := decide (maxI (sumsOf ring (i + 1)) - minI (sumsOf ring (i + 1)) > 1)) (tst_cmp (H := H') (ev_sub (ev_maxL B N rfl ?_ hh (maxI_mem ne) (fun _ h => maxI_le h)) (ev_minL B N rfl ?_ hh (minI_mem ne) (fun _ h => minI_le h))) ev_int cmp_gt) (fun e s₅ S₅ F₅ => ?_) (fun e s₅ S₅ F₅ => ?_)
      · walk_at "EV"
      · walk_at "EV"
      · dsimp only [List.cons_append, List.nil_append]
        refine y_ret (H' := H') (d := .bool false) S₅ F₅ (by walk_at "EV") fun v s₆ S₆ F₆ r => ⟨S₆, ?_, r⟩
        unfold evenB
        rw [List.all_eq_false]
        exact ⟨i, List.mem_range.mpr hlt, by simp only [okSize, e]; decide⟩
      · dsimp only [List.nil_append]
        refine x_nil ⟨S₅, fun j hj => ?_, F₅.cov ⟨rfl, trivial⟩⟩
        by_cases hji : j = i
        · subst hji; simp only [okSize, e]; decide
        · exact hC j (by omega)
    · rintro v s' S' ⟨h1, rfl⟩
      exact ⟨_, rfl, S', h1 ▸ rfl⟩
    · intro s' hC S' F'
      refine y_ret (H' := L :: CA ++ H) (d := .bool true) S' F' (by walk_at "EV") fun v s₆ S₆ F₆ r => ⟨v, rfl, S₆, ?_⟩
      have : evenB ring = true := by
        unfold evenB
        rw [List.all_eq_true]
        intro j hj
        refine hC j ?_
        rw [List.length_map, List.length_range]
        exact List.mem_range.mp hj
      rw [this]
      exact r
end

section
section
variable {prog : Program} {w : World} {A : Around} {Φ : Sp} {H H' : List Addr} {env : Env} {pos p pp : Pos} {ds : List Dt} {d : Dt} {es : List Expr} {nm : List (Str × NameKind)}
  {h₀ : Heap} {own : List (Addr × Ow)} {pm : List (Str × Dt)} {mg mb : Str → Option Value} {W : List Addr} {oa : List Addr} {s₀ s : Shared} {Q : Flow → Shared → Prop} {rest : List Stmt} {e value up : Expr}

theorem x_whileO {σ : Type} {test : Expr} {body : List Stmt} {pos : Pos} (pmO : σ → List (Str × Dt)) (ownO : σ → List (Addr × Ow)) (I : σ → Prop) (meas : σ → Nat) (cond : σ → Bool) (x₀ : σ) (h0 : I x₀) (S : Chg W s₀ s) (F : FSt h₀ env H (ownO x₀) (pmO x₀) s)
    (ht : ∀ x, I x → Tst prog w A (fs h₀ env H (ownO x) (pmO x)) env test (cond x))
    (hb : ∀ x s₁, I x → cond x = true → FSt h₀ env H (ownO x) (pmO x) s₁ → Ex prog w A body env (fun fl s' => fl = .next ∧ Chg W s₁ s' ∧ ∃ y, I y ∧ meas y < meas x ∧ FSt h₀ env H (ownO y) (pmO y) s') s₁)
    (k : ∀ x s', I x → cond x = false → Chg W s₀ s' → FSt h₀ env H (ownO x) (pmO x) s' → Ex prog w A rest env Q s') :
    Ex prog w A (.While test body [] pos :: rest) env Q s := by
  refine ⟨fun E => wpAny_execs_cons (wpAny_While (codeAny_whileLoop (fun n s' => ∃ x, I x ∧ meas x = n ∧ Chg W s₀ s' ∧ FSt h₀ env H (ownO x) (pmO x) s') ?_ (meas x₀) ⟨x₀, h0, rfl, S, F⟩))⟩
  rintro n s₁ ⟨x, hx, rfl, S₁, F₁⟩
  refine (ht x hx).run s₁ F₁ _ _ fun s₂ k₂ => ?_
  have S₂ := S₁.trans (Chg.keeps (W := W) k₂)
  have F₂ := F₁.keeps k₂
  cases hc : cond x with
  | true =>
    rw [if_pos rfl]
    refine wpAny_mono ((hb x s₂ hx hc F₂).run (fun _ _ => False)) (fun fl s' h' => ?_) fun _ _ f => f.elim
    obtain ⟨rfl, c, y, hy, hm, F'⟩ := h'
    exact ⟨meas y, hm, y, hy, rfl, S₂.trans c, F'⟩
  | false =>
    rw [if_neg (by decide)]
    exact wpAny_execs_nil ((k x s₂ hx hc S₂ F₂).run E)

theorem ev_neg_lit {i : Int} {k : Nat} : Ev prog w A Φ H env (.UnaryOp .USub (.Constant (.int i) k p) pos) (.int (-i)) := ⟨fun s _ Q E q => by
  refine PyProof.Rows.lit_neg _ fun v tk hv => ?_
  obtain ⟨t, rfl⟩ := (show PyProof.V.Flat v _ from hv).int_inv
  exact q _ _ (keepsTok s _) ⟨_, rfl⟩⟩

theorem ev_slice_rev (X : Hx Φ H) (hv : Ev prog w A Φ H env value (.list ds)) (hu : Ev prog w A Φ H env up (.int (-1))) (hz : ds.length ≤ 1000) :
    Ev prog w A Φ H env (.Subscript value (.Slice none none (some up) pp) pos) (.list ds.reverse) :=
  ev_slice List.reverse X hv evp_none evp_none (evp_some hu) (by intro h; cases h) (fun vs e => by rw [krv_pick]) (fun h vs r => r.rev) hz

theorem cnt_count (c : Nat) : ∀ l : List Nat, cnt c l = (l.count c : Int)
  | [] => rfl
  | n :: r => by
    rw [cnt_cons, cnt_count c r, List.count_cons]
    by_cases h : n = c
    · simp [h]; omega
    · simp [h]
theorem cl_count_str {x : Str} {c : Nat} : Cl prog w A Φ H (.builtin "str.count") [.str x, .str ⟨#[c]⟩] (.int (x.cps.toList.count c)) := ⟨fun s vs hs r Q E q => by
  obtain ⟨v, u, rfl, ⟨t, rfl⟩, ⟨t2, rfl⟩⟩ := rd2 r
  refine SC.count ?_
  rw [count_cnt, cnt_count]
  exact q _ _ (keepsTok s _) ⟨_, rfl⟩⟩

theorem ev_str_upto {x : Str} {k : Nat} (hv : Ev prog w A Φ H env value (.str x)) (hu : Ev prog w A Φ H env up (.int k)) (hk : k ≤ x.cps.toList.length) (hz : x.cps.toList.length ≤ 1000) (ht : ∀ o r, letTemporaryGo value o r = pure () := by intro _ _; rfl) :
    Ev prog w A Φ H env (.Subscript value (.Slice none (some up) none pp) pos) (.str ⟨(x.cps.toList.take k).toArray⟩) := ⟨fun s hs Q E q => by
  refine Subscript_ (hv.run s hs _ _ fun v s₁ k₁ r₁ => wpAny_Slice (evp_none.run s₁ (Φ.st _ _ hs k₁) _ _ fun vl s₂ k₂ p₂ => hu.run s₂ (Φ.st _ _ hs (keepsTrans k₁ k₂)) _ _ fun vu s₃ k₃ r₃ => evp_none.run s₃ (Φ.st _ _ hs (keepsTrans (keepsTrans k₁ k₂) k₃)) _ _ fun vp s₄ k₄ p₄ => ?_))
  obtain ⟨t, rfl⟩ := r₁
  obtain ⟨u, rfl⟩ := r₃
  cases p₂
  cases p₄
  have hsl : x.length ≤ sizeLine := by
    have : x.length = x.cps.toList.length := by show x.cps.size = _; rw [Array.length_toList]
    rw [sizeLine_eq, this]; omega
  have k14 := keepsTrans (keepsTrans (keepsTrans k₁ k₂) k₃) k₄
  refine tail_of_ItemOn (SBH.sliceItem_ns (P := fun h => ∀ b o, s₄.heap.get? b = some o → h.get? b = some o) (fun h ob hP b o e => Heap.get?_push_of_some _ (hP b o e)) (fun _ _ e => e) (fun h' t' kk hP => ?_) hsl) (by rfl) (ht _)
  refine q _ _ (keepsTrans k14 ⟨h', kk, rfl, hP⟩) ?_
  have h := slice_closes_to (x := x) (j := (k : Int)) ⟨by omega, by omega⟩
  rw [eq_of_beq h]
  exact ⟨t', by simp⟩⟩
end
end

local macro_rules | `(tactic| walk_at "EV") => `(tactic| repeat' (first
  | exact ev_int | exact ev_str | exact ev_none | exact ev_bool | exact ev_neg_lit
  | exact ev_local (by assumption) (by rfl) (by rfl) (fun _ h => h) (by decide)
  | exact ev_local (by assumption) (by rfl) (by rfl) (by assumption) (by decide)
  | exact cmp_lt | exact cmp_gt | exact cmp_ge | exact cmp_le | exact cmp_eq_str | exact cmp_eq | exact cmp_is_none | exact cmp_lt_str | exact cmp_is_bool | exact cmp_isnot_bool
  | exact evs_nil | refine' evs_cons ?_ ?_
  | refine' ev_add ?_ ?_ | refine' ev_sub ?_ ?_ | refine' tst_cmp ?_ ?_ ?_
  | fail "EV"))

section
noncomputable def bitOf (c : Nat) : Int := if c = 9 then 1 else 0
theorem eq_tab {c : Nat} : ((Str.mk #[c]) == Str.ofString "\t") = decide (c = 9) := by
  rw [show Str.ofString "\t" = Str.mk #[9] from by decide +kernel, Bool.eq_iff_iff]
  simp
theorem eq_blank {c : Nat} : ((Str.mk #[c]) == Str.ofString " ") = decide (c = 32) := by
  rw [show Str.ofString " " = Str.mk #[32] from by decide +kernel, Bool.eq_iff_iff]
  simp

theorem pc_back {w : World} {mg mb : Str → Option Value} {h₀ : Heap} (B : Base w mg mb h₀) {x : Str} {hs : List Str} {m0 m1 : Str} {p0 p1 start : Nat} (orb chr : Nat → Nat) (hz : x.cps.toList.length ≤ 100) (hzh : hs.length ≤ 1000) (hp0 : p0 ≤ hs.length) (hp1 : p1 ≤ hs.length)
    (h0 : ∀ (i : Nat) (y : Str), hs[i]? = some y → decide (y.cps.toList < m0.cps.toList) = decide (i < p0)) (h1 : ∀ (i : Nat) (y : Str), hs[i]? = some y → decide (y.cps.toList < m1.cps.toList) = decide (i < p1))
    (ho : orb 0 = start) (hc : ∀ i, i < x.cps.toList.length → x.cps.toList[orb i]? = some (chr i)) (hst : ∀ i, i < x.cps.toList.length → orb (i + 1) = (if chr i = 9 then p1 else p0) + (x.cps.toList.take (orb i)).count (chr i)) :
    PC w mg mb h₀ (.ref 170) 3 [.str x, .int start, .list (dStrs hs), .list [.str m0, .str m1]] [] (.list (dInts ((List.range x.cps.toList.length).map fun i => bitOf (chr i)).reverse)) := by
  refine pc_fn [(S' "marks", .list [.str m0, .str m1]), (S' "heads", .list (dStrs hs)), (S' "start", .int start), (S' "lead", .str x)] B (hl := rfl) (hcd := by kernel_rfl) (hbody := rfl) (hge := rfl) (hclo := rfl) (hbe := rfl) (hcell := by decide +kernel) (hco := rfl) (hgen := rfl) (hk := rfl) ?_ ?_
  · intro h H args kws r rk
    obtain ⟨v, u, y, z, rfl, r1, r2, r3, r4⟩ := rd4 r
    obtain rfl : kws = [] := rk
    exact ⟨[(S' "lead", v), (S' "start", u), (S' "heads", y), (S' "marks", z)], fun S => by kernel_rfl, by kernel_rfl, rdb_cons r4 (rdb_cons r3 (rdb_cons r2 (rdb_cons r1 rdb_nil)))⟩
  · intro prog A env s₁ L H Rm N hH O F
    dsimp only at N
    have S := Chg.refl [L] s₁
    have hxs : x.cps.size = x.cps.toList.length := by rw [Array.length_toList]
    refine x_new_local N O S F mk_nil rfl fun a ow s₂ how ha haH O S F => ?_
    subst how
    have hsub : ∀ b ∈ L :: H, b ∈ a :: L :: H := fun b h => .tail _ h
    refine x_asg_local N O S F (d := .int (orb 0)) (by rw [ho]; walk_at "EV") rfl fun s₃ S F => ?_
    refine x_whileO (σ := Nat) (fun i => [(S' "at", .int (orb i)), (S' "bits", .val (.ref a)), (S' "marks", .list [.str m0, .str m1]), (S' "heads", .list (dStrs hs)), (S' "lead", .str x)]) (fun i => [(a, .lst (dInts ((List.range i).map fun i => bitOf (chr i))))]) (fun i => i ≤ x.cps.toList.length) (fun i => x.cps.toList.length - i) (fun i => decide ((i : Int) < (x.cps.toList.length : Int))) 0 (Nat.zero_le _) S (F.cov ⟨rfl, rfl, rfl, rfl, rfl, trivial⟩) (fun i hi => ?_) ?_ ?_
    · refine tst_cmp (H := L :: H) (ev_lenL B N rfl (ev_owned (H := a :: L :: H) ?_ (.head _) haH hsub) ?_ ?_) (ev_lenS (x := x) B N rfl ?_ ?_ ?_) cmp_lt
      · walk_at "EV"
      · simp [dInts]
      · simp [dInts]; omega
      · walk_at "EV"
      · rw [hxs]
      · omega
    · intro i s₄ hi hcond F
      have hlt : i < x.cps.toList.length := by have := of_decide_eq_true hcond; omega
      have S := Chg.refl [a, L] s₄
      have hci := hc i hlt
      have hoz : orb i < 1000000 := by have := (List.getElem?_eq_some_iff.mp hci).1; omega
      have hol : orb i ≤ x.cps.toList.length := by have := (List.getElem?_eq_some_iff.mp hci).1; omega
      refine x_mut (pre := []) (post := []) (es₀ := dInts ((List.range i).map fun i => bitOf (chr i))) (es₁ := dInts ((List.range i).map fun i => bitOf (chr i)) ++ [.int (bitOf (chr i))]) (l := a) (id := "list.append") (ds := [.int (bitOf (chr i))]) N O S F rfl ?_ PySem.F.slot_list_append PySem.F.type_list_append ?_ (mu_append (by simp [dInts]; omega)) (fun s₅ S F => ?_)
      · walk_at "EV"
      · refine evs_cons (ev_if (b := decide (chr i = 9)) (by rw [← eq_tab]; refine tst_cmp (H := L :: H) (ev_sub_ (d₁ := .str x) (d₂ := .int (orb i)) ?_ ?_ (itm_strN hci hoz)) ev_str cmp_eq_str <;> walk_at "EV") (fun e => ?_) (fun e => ?_)) evs_nil
        · rw [show bitOf (chr i) = 1 from if_pos (of_decide_eq_true e)]; walk_at "EV"
        · rw [show bitOf (chr i) = 0 from if_neg (of_decide_eq_false e)]; walk_at "EV"
      have eO : dInts ((List.range i).map fun i => bitOf (chr i)) ++ [.int (bitOf (chr i))] = dInts ((List.range (i + 1)).map fun i => bitOf (chr i)) := by
        simp [dInts, List.range_succ]
      have hlast : (dInts ((List.range i).map fun i => bitOf (chr i)) ++ [Dt.int (bitOf (chr i))]).getLast? = some (.int (bitOf (chr i))) := List.getLast?_concat ..
      have hlen : (dInts ((List.range i).map fun i => bitOf (chr i)) ++ [Dt.int (bitOf (chr i))]).length ≤ 1000 := by simp [dInts]; omega
      dsimp only [List.nil_append] at F
      obtain ⟨p, m, b, hb, hm, hbz, hpl, hpp, ho1⟩ : ∃ (p : Nat) (m : Str) (b : Nat), bitOf (chr i) = (b : Int) ∧ [Dt.str m0, Dt.str m1][b]? = some (.str m) ∧ b < 1000 ∧ p ≤ hs.length ∧ (∀ (i : Nat) (y : Str), hs[i]? = some y → decide (y.cps.toList < m.cps.toList) = decide (i < p)) ∧ orb (i + 1) = p + (x.cps.toList.take (orb i)).count (chr i) := by
        have hs' := hst i hlt
        by_cases e : chr i = 9
        · rw [if_pos e] at hs'
          exact ⟨p1, m1, 1, by unfold bitOf; rw [if_pos e]; rfl, rfl, by decide, hp1, h1, hs'⟩
        · rw [if_neg e] at hs'
          exact ⟨p0, m0, 0, by unfold bitOf; rw [if_neg e]; rfl, rfl, by decide, hp0, h0, hs'⟩
      refine x_asg_local (d := .int (orb (i + 1))) N O S F ?_ rfl (fun s₆ S F => x_nil ⟨rfl, S, i + 1, hlt, by omega, ?_⟩)
      · refine Ev.int_any (H' := L :: H) (Ev.int_eq (a := (p : Int) + ((x.cps.toList.take (orb i)).count (chr i) : Int)) (ev_add (ev_call_d (f := 57) (ds := [.list (dStrs hs), .str m]) (fa_bisect_left B) (ev_g_bisect_left B N rfl) (evs_cons ?_ (evs_cons (ev_sub_ (d₁ := .list [.str m0, .str m1]) (d₂ := .int (b : Int)) ?_ (Ev.int_eq (ev_sub_ (d₁ := .list (dInts ((List.range i).map fun i => bitOf (chr i)) ++ [.int (bitOf (chr i))])) (d₂ := .int (-1)) (ev_owned (H := a :: L :: H) ?_ (.head _) haH hsub) ?_ (itm_list_last hlast hlen)) hb) (itm_listN hm (by omega))) evs_nil)) (cl_pc (pc_bisect_left B hzh hpl hpp) Rm (by decide) O.hid hsub))
          (ev_meth (id := "str.count") (d₀ := .str ⟨(x.cps.toList.take (orb i)).toArray⟩) (ds := [.str ⟨#[chr i]⟩]) (ev_str_upto (k := orb i) ?_ ?_ hol (by omega)) (gm_str PySem.F.slot_str_count PySem.F.type_str_count) (evs_cons (ev_sub_ (d₁ := .str x) (d₂ := .int (orb i)) ?_ ?_ (itm_strN hci hoz)) evs_nil) cl_count_str)) (by rw [ho1]; exact (Int.natCast_add _ _).symm)) <;> walk_at "EV"
      · rw [← eO]
        exact F.cov ⟨rfl, rfl, rfl, rfl, rfl, trivial⟩
    · intro i s₄ hi hcond S F
      have hge : i = x.cps.toList.length := by have := of_decide_eq_false hcond; omega
      subst hge
      refine y_ret (H' := L :: H) S F (ev_slice_rev (hx_fs hsub) (ev_owned (H := a :: L :: H) ?_ (.head _) haH hsub) ?_ (by simp [dInts]; omega)) fun v s' S' F' r => ⟨v, rfl, S'.drop fun b hb => ?_, ?_⟩
      · walk_at "EV"
      · walk_at "EV"
      · rcases List.mem_cons.mp hb with rfl | hb
        · exact .inr ha
        · exact .inl hb
      · have e : (dInts ((List.range x.cps.toList.length).map fun i => bitOf (chr i))).reverse = dInts ((List.range x.cps.toList.length).map fun i => bitOf (chr i)).reverse := by simp [dInts]
        rw [← e]
        exact r
end

section
theorem strKeys_of {es : Array DictEntry} (h : (es.all fun e => match e.key with | .str _ _ => true | _ => false) = true) : StrKeys es := fun e he => by
  have := Array.all_eq_true.mp h
  obtain ⟨i, hi, rfl⟩ := Array.mem_iff_getElem.mp he
  have := this i hi
  split at this
  · rename_i n t q; exact ⟨n, t, q⟩
  · cases this

noncomputable def esWs (w : World) : Array DictEntry := match (hd.heap_39 w.params).lookup 118 with
  | some ⟨_, _, .dict es _, _⟩ => es
  | _ => #[]
noncomputable def mWs (w : World) (x : Str) : Option Value := nsFind (esWs w) x
theorem ns_ws {w : World} {h : Heap} (X : (hd.heap_39 w.params).In h) : h.Ns 118 (mWs w) :=
  ⟨_, esWs w, _, X 118 _ rfl, rfl, strKeys_of (by kernel_rfl), fun _ => rfl⟩
theorem cls_ws {w : World} {h : Heap} (X : (hd.heap_39 w.params).In h) : ∃ nm q bs sn sub col dd k0 k1 k2 k3 k5, h.get? 119 = some (excClassObj nm q 119 118 bs [.type "object"] true sn sub false col dd k0 k1 k2 k3 k5 "object.__new__") :=
  ⟨_, _, _, _, _, _, _, _, _, _, _, _, X 119 _ rfl⟩

theorem rdFs_look {h : Heap} {H : List Addr} {m : Str → Option Value} : ∀ {fs : List (Str × Dt)}, RdFs h H fs m → ∀ {x : Str} {d : Dt}, fs.lookup x = some d → ∃ v, m x = some v ∧ Rd h H d v
  | [], _, _, _, e => by cases e
  | (y, d') :: r, q, x, d, e => by
    rw [List.lookup_cons] at e
    cases hb : x == y with
    | true => rw [hb] at e; cases e; rw [eq_of_beq hb]; exact q.1
    | false => rw [hb] at e; exact rdFs_look q.2 e

section
variable {prog : Program} {w : World} {A : Around} {Φ : Sp} {H H' : List Addr} {env : Env} {pos : Pos} {ds : List Dt} {d : Dt} {es : List Expr} {nm : List (Str × NameKind)}
  {h₀ : Heap} {own : List (Addr × Ow)} {pm : List (Str × Dt)} {mg mb : Str → Option Value} {W : List Addr} {oa : List Addr} {s₀ s : Shared} {Q : Flow → Shared → Prop} {rest : List Stmt} {e : Expr}

theorem inst_of {h : Heap} {fs : List (Str × Dt)} {v : Value} (r : Rd h H (.obj 119 fs) v) : ∃ x m, v = .ref x ∧ h.Inst x 119 m ∧ (∀ n, fs.lookup n = none → m n = none) ∧ RdFs h H fs m := by
  obtain ⟨a, dx, m, rfl, _, _, ho, hn, hne, hex, rf⟩ := r
  exact ⟨a, m, rfl, ⟨_, ho, rfl, (by intro c q; cases q), .inr ⟨dx, rfl, hne, hn⟩⟩, hex, rf⟩
theorem rd_handed {h : Heap} {d : Dt} {v : Value} (r : Rd h H d v) (hd : ∀ u, d ≠ .val u) : handedOut v = pure v := by
  refine handedOut_of ?_
  cases d with
  | none => rw [show v = .none from r]; rfl
  | val u => exact absurd rfl (hd u)
  | bool b => rw [show v = .bool b from r]; rfl
  | int i => obtain ⟨t, rfl⟩ := r; rfl
  | str i => obtain ⟨t, rfl⟩ := r; rfl
  | tup xs => obtain ⟨a, vs, n, rfl, _⟩ := r; rfl
  | list xs => obtain ⟨a, vs, n, rfl, _⟩ := r; rfl
  | obj c fs => obtain ⟨a, vs, n, rfl, _⟩ := r; rfl
  | rng a b c => obtain ⟨a, vs, n, x, rfl, _⟩ := r; rfl
  | code q => obtain ⟨a, vs, n, x, rfl, _⟩ := r; rfl
  | lax xs => obtain ⟨a, vs, rfl, _⟩ := r; rfl


theorem no_ga (w : World) : mWs w "__getattribute__" = none := by kernel_rfl
theorem no_gattr (w : World) : mWs w "__getattr__" = none := by kernel_rfl
theorem no_sa (w : World) : mWs w "__setattr__" = none := by kernel_rfl
theorem ev_field {n name : Str} {np : Pos} {fs₁ : List (Str × Dt)} (B : Base w mg mb h₀) (h : Ev prog w A (fs h₀ env H own pm) H' env (.Name n np) (.obj 119 fs₁)) (hf : fs₁.lookup name = some d) (hv : ∀ u, d ≠ .val u) (hm : mWs w name = none) (hty : typeLookup (.type "object") name = pure none) :
    Ev prog w A (fs h₀ env H own pm) H' env (.Attribute (.Name n np) name pos) d := ⟨fun s F Q E q => Attribute_name (h.run s F _ _ fun v s₁ k₁ r₁ => by
  have X := B.X.keeps (F.keeps k₁).base
  obtain ⟨x, m, rfl, I, hex, rf⟩ := inst_of r₁
  obtain ⟨u, e, ru⟩ := rdFs_look rf hf
  obtain ⟨nm, q', bs, sn, sub, col, dd, k0, k1, k2, k3, k5, hC⟩ := cls_ws X
  exact load_attr (h := s₁.heap) (g := s₁.gens) (d := s₁.drawn) (t := s₁.toks) (os := s₁.os) hC (ns_ws X) (no_ga w) hm hty I e (rd_handed ru hv) (q u _ (keepsTrans k₁ (keepsTok s₁ _)) ru))⟩

theorem ev_methD {o : Expr} {f : Addr} {pl : Sem Bool} {apos : Pos} {name : Str} {fs₁ : List (Str × Dt)} {k m : Nat} {y : Option Value} {od : Option Addr} {fd : FuncData} {sl : Array (Option Value)} (B : Base w mg mb h₀) (ho : Ev prog w A (fs h₀ env H own pm) H' env o (.obj 119 fs₁)) (hfs : fs₁.lookup name = none) (hm : mWs w name = some (.ref f)) (hty : typeLookup (.type "object") name = pure y)
    (hl : (hd.heap_39 w.params).lookup f = some ⟨.type "function", od, .func fd, sl⟩) (ha : Evs prog w A (fs h₀ env H own pm) H' env (e :: es) ds) (P : PC w mg mb h₀ (.ref f) k (.obj 119 fs₁ :: ds) [] d) (Rm : Room A m) (hkm : k ≤ m) (h0 : ∀ a ∈ H, h₀.get? a = none) (hH : ∀ a ∈ H', a ∈ H)
    (hc : eval (.Call (.Attribute o name apos) (e :: es) [] pos) env = (do
      let ov ← eval o env
      standAt apos.atName
      let (f, first) ← holding [ov] (getMethod ov name pl)
      callWith pos f first (backTo pos (starEach (e :: es) env)) []) := by rfl)
    (he : starEach (e :: es) env = (false, eval e env) :: starEach es env := by rfl) (hp : (backTo pos (starEach es env)).any (·.1) = false := by rfl) : Ev prog w A (fs h₀ env H own pm) H' env (.Call (.Attribute o name apos) (e :: es) [] pos) d := ⟨fun s F Q E q => by
  refine MethodCall_ (pl := pl) (ho.run s F _ _ fun v s₁ k₁ r₁ => ?_) hc
  have F₁ := F.keeps k₁
  have X := B.X.keeps F₁.base
  obtain ⟨x, mm, rfl, I, hex, rf⟩ := inst_of r₁
  obtain ⟨nm, q', bs, sn, sub, col, dd, k0, k1, k2, k3, k5, hC⟩ := cls_ws X
  refine method_of (h := s₁.heap) (g := s₁.gens) (d := s₁.drawn) (t := s₁.toks) (os := s₁.os) hC (ns_ws X) (no_ga w) (no_gattr w) hm (X _ _ hl) rfl hty I (hex _ hfs) ?_
  refine callWith_F (first := [.ref x]) ⟨_, _, _, _, X _ _ hl⟩ (ha.run s₁ pos F₁ _ _ fun vs s₂ k₂ r₂ => ⟨⟨_, _, _, _, keepsHeap k₂ _ _ (X _ _ hl)⟩, ?_⟩) he hp
  have F₂ := F₁.keeps k₂
  exact P.run prog A s₂ H' (.ref x :: vs) [] (Rm.less hkm) F₂.base (fun a ha => h0 a (hH a ha)) (fun a ha => F₂.ex a (hH a ha)) ⟨_, vs, rfl, r₁.keeps (keepsHeap k₂), r₂⟩ rfl _ _ fun v s₃ k₃ r₃ => q v s₃ (keepsTrans (keepsTrans k₁ k₂) k₃) r₃⟩
theorem ev_methD0 {o : Expr} {f : Addr} {pl : Sem Bool} {apos : Pos} {name : Str} {fs₁ : List (Str × Dt)} {k m : Nat} {y : Option Value} {od : Option Addr} {fd : FuncData} {sl : Array (Option Value)} (B : Base w mg mb h₀) (ho : Ev prog w A (fs h₀ env H own pm) H' env o (.obj 119 fs₁)) (hfs : fs₁.lookup name = none) (hm : mWs w name = some (.ref f)) (hty : typeLookup (.type "object") name = pure y)
    (hl : (hd.heap_39 w.params).lookup f = some ⟨.type "function", od, .func fd, sl⟩) (P : PC w mg mb h₀ (.ref f) k [.obj 119 fs₁] [] d) (Rm : Room A m) (hkm : k ≤ m) (h0 : ∀ a ∈ H, h₀.get? a = none) (hH : ∀ a ∈ H', a ∈ H)
    (hc : eval (.Call (.Attribute o name apos) [] [] pos) env = (do
      let ov ← eval o env
      standAt apos.atName
      let (f, first) ← holding [ov] (getMethod ov name pl)
      callWith pos f first (backTo pos (starEach [] env)) []) := by rfl) : Ev prog w A (fs h₀ env H own pm) H' env (.Call (.Attribute o name apos) [] [] pos) d := ⟨fun s F Q E q => by
  refine MethodCall_ (pl := pl) (ho.run s F _ _ fun v s₁ k₁ r₁ => ?_) hc
  have F₁ := F.keeps k₁
  have X := B.X.keeps F₁.base
  obtain ⟨x, mm, rfl, I, hex, rf⟩ := inst_of r₁
  obtain ⟨nm, q', bs, sn, sub, col, dd, k0, k1, k2, k3, k5, hC⟩ := cls_ws X
  refine method_of (h := s₁.heap) (g := s₁.gens) (d := s₁.drawn) (t := s₁.toks) (os := s₁.os) hC (ns_ws X) (no_ga w) (no_gattr w) hm (X _ _ hl) rfl hty I (hex _ hfs) ?_
  refine callWith_F0 (first := [.ref x]) ⟨_, _, _, _, X _ _ hl⟩ ?_
  exact P.run prog A s₁ H' [.ref x] [] (Rm.less hkm) F₁.base (fun a ha => h0 a (hH a ha)) (fun a ha => F₁.ex a (hH a ha)) ⟨_, [], rfl, r₁, rfl⟩ rfl _ _ fun v s₃ k₃ r₃ => q v s₃ (keepsTrans k₁ k₃) r₃⟩
end
end

section
theorem lookup_mem {fs : List (Str × Dt)} {y : Str} (h : fs.lookup y ≠ none) : y ∈ fs.map (·.1) := by
  induction fs with
  | nil => exact absurd rfl h
  | cons p r ih =>
    obtain ⟨z, d⟩ := p
    rw [List.lookup_cons] at h
    cases hb : y == z with
    | true => rw [eq_of_beq hb]; exact .head _
    | false => rw [hb] at h; exact .tail _ (ih h)
section
variable {prog : Program} {w : World} {A : Around} {Φ : Sp} {H H' : List Addr} {env : Env} {pos : Pos} {ds : List Dt} {d : Dt} {es : List Expr} {nm : List (Str × NameKind)}
  {h₀ : Heap} {own : List (Addr × Ow)} {pm : List (Str × Dt)} {mg mb : Str → Option Value} {W : List Addr} {oa : List Addr} {s₀ s : Shared} {Q : Flow → Shared → Prop} {rest : List Stmt} {e : Expr}

theorem own_inst {pre post : List (Addr × Ow)} {x dx : Addr} {fs₁ : List (Str × Dt)} (O : FOk h₀ W env H oa) (ho : (pre ++ (dx, Ow.nsd fs₁) :: post).map (·.1) = oa) (F : FSt h₀ env H (pre ++ (dx, .nsd fs₁) :: post) pm s) (hx : (x, Ow.raw (instObj 119 dx)) ∈ pre ++ post) :
    ∃ m, s.heap.Inst x 119 m ∧ (∀ n, fs₁.lookup n = none → m n = none) ∧ (∀ n d, fs₁.lookup n = some d → ∃ v, m n = some v ∧ Rd s.heap H d v) ∧ x ≠ dx ∧ s.heap.get? x = some (instObj 119 dx) := by
  have hmem : (x, Ow.raw (instObj 119 dx)) ∈ pre ++ (dx, Ow.nsd fs₁) :: post := by
    rcases List.mem_append.mp hx with h | h
    · exact List.mem_append_left _ h
    · exact List.mem_append_right _ (.tail _ h)
  have h1 : s.heap.get? x = some (instObj 119 dx) := F.owns _ hmem
  obtain ⟨m, hn, hex, hr⟩ := F.owns (dx, .nsd fs₁) (by simp)
  have hne : x ≠ dx := by
    rintro rfl
    obtain ⟨o, es, ep, e1, e2, _⟩ := hn
    rw [h1] at e1; cases e1; cases e2
  exact ⟨m, ⟨_, h1, rfl, (by intro c q; cases q), .inr ⟨dx, rfl, fun q => hne q.symm, hn⟩⟩, hex, hr, hne, h1⟩

theorem ev_own_field {pre post : List (Addr × Ow)} {n name : Str} {np : Pos} {x dx : Addr} {fs₁ : List (Str × Dt)} (B : Base w mg mb h₀) (O : FOk h₀ W env H oa) (ho : (pre ++ (dx, Ow.nsd fs₁) :: post).map (·.1) = oa) (hx : (x, Ow.raw (instObj 119 dx)) ∈ pre ++ post)
    (h : Ev prog w A (fs h₀ env H (pre ++ (dx, .nsd fs₁) :: post) pm) H env (.Name n np) (.val (.ref x))) (hf : fs₁.lookup name = some d) (hv : ∀ u, d ≠ .val u) (hm : mWs w name = none) (hty : typeLookup (.type "object") name = pure none) :
    Ev prog w A (fs h₀ env H (pre ++ (dx, .nsd fs₁) :: post) pm) H env (.Attribute (.Name n np) name pos) d := ⟨fun s F Q E q => Attribute_name (h.run s F _ _ fun v s₁ k₁ r₁ => by
  obtain rfl : v = .ref x := r₁
  have F₁ := F.keeps k₁
  have X := B.X.keeps F₁.base
  obtain ⟨m, I, hex, hr, _, _⟩ := own_inst O ho F₁ hx
  obtain ⟨u, e, ru⟩ := hr _ _ hf
  obtain ⟨nm, q', bs, sn, sub, col, dd, k0, k1, k2, k3, k5, hC⟩ := cls_ws X
  exact load_attr (h := s₁.heap) (g := s₁.gens) (d := s₁.drawn) (t := s₁.toks) (os := s₁.os) hC (ns_ws X) (no_ga w) hm hty I e (rd_handed ru hv) (q u _ (keepsTrans k₁ (keepsTok s₁ _)) ru))⟩

theorem x_store_attr {pre post : List (Addr × Ow)} {n name : Str} {np p1 : Pos} {x dx : Addr} {fs₁ : List (Str × Dt)} (B : Base w mg mb h₀) (O : FOk h₀ W env H oa) (S : Chg W s₀ s) (F : FSt h₀ env H (pre ++ (dx, .nsd fs₁) :: post) pm s) (ho : (pre ++ (dx, Ow.nsd fs₁) :: post).map (·.1) = oa) (hx : (x, Ow.raw (instObj 119 dx)) ∈ pre ++ post)
    (h : Ev prog w A (fs h₀ env H (pre ++ (dx, .nsd fs₁) :: post) pm) H env (.Name n np) (.val (.ref x))) (he : Ev prog w A (fs h₀ env H (pre ++ (dx, .nsd fs₁) :: post) pm) H env e d) (hm : mWs w name = none) (hty : typeLookup (.type "object") name = pure none) (hlen : fs₁.length ≤ 1000)
    (k : ∀ s', Chg W s₀ s' → FSt h₀ env H (pre ++ (dx, .nsd ((name, d) :: fs₁)) :: post) pm s' → Ex prog w A rest env Q s')
    (hs : swapsWith e (some (.Attribute (.Name n np) name p1)) pos.line env = pure false := by rfl) :
    Ex prog w A (.Assign [.Attribute (.Name n np) name p1] e pos :: rest) env Q s := ⟨fun E => wpAny_execs_cons (plainObj_wpAny_Assign_Attribute (he.run s F _ _ fun v s₁ k₁ r₁ => h.run s₁ (F.keeps k₁) _ _ fun ov s₂ k₂ r₂ => by
  obtain rfl : ov = .ref x := r₂
  have F₂ := (F.keeps k₁).keeps k₂
  have X := B.X.keeps F₂.base
  have rv := r₁.keeps (keepsHeap k₂)
  obtain ⟨m, I, hex, hr, hne, hxo⟩ := own_inst O ho F₂ hx
  obtain ⟨nm, q', bs, sn, sub, col, dd, k0, k1, k2, k3, k5, hC⟩ := cls_ws X
  have hxC : x ≠ 119 := by
    rintro rfl
    rw [hxo] at hC; cases hC
  refine store_attr (h := s₂.heap) (g := s₂.gens) (d := s₂.drawn) (t := s₂.toks) (os := s₂.os) (ns := fs₁.map (·.1)) PySem.F.store_object hC (ns_ws X) (no_sa w) hm hty hxC I (fun h' tk' I' hk hsame => ?_) (fun y hy => lookup_mem fun q => hy (hex y q)) (by rw [List.length_map, sizeLine_eq]; omega)
  obtain ⟨o₁, e1, e2, e3, e4, e5⟩ := hsame _ hxo
  have eo : o₁ = instObj 119 dx := by
    obtain ⟨c1, d1, a1, l1⟩ := o₁
    have := e5 dx rfl
    simp only at e2 e3 e4 this
    subst e2 e3 e4 this
    rfl
  subst eo
  have hext : ∀ b o, b ≠ dx → s₂.heap.get? b = some o → h'.get? b = some o := fun b o hb e => by
    by_cases hbx : b = x
    · subst hbx; rw [hxo] at e; cases e; exact e1
    · refine hk b o hbx (fun o₀ dx' e6 e7 => ?_) e
      rw [hxo] at e6; cases e6; cases e7; exact hb
  have hn' : h'.Ns1 dx (fun y => if y = name then some v else m y) := by
    obtain ⟨o, f1, f2, f3, f4⟩ := I'
    rw [e1] at f1; cases f1
    rcases f4 with ⟨q, _⟩ | ⟨d', q, _, f5⟩
    · cases q
    · cases q; exact f5
  have how : (∀ d v, Rd s₂.heap H d v → Rd h' H d v) → OwAt h' H dx (.nsd ((name, d) :: fs₁)) := fun mv => by
    refine ⟨_, hn', fun y hy => ?_, fun y d' hy => ?_⟩
    · rw [List.lookup_cons] at hy
      by_cases q : y = name
      · subst q; simp at hy
      · rw [show (y == name) = false by simpa using q] at hy
        exact (if_neg q).trans (hex y hy)
    · rw [List.lookup_cons] at hy
      by_cases q : y = name
      · subst q; simp at hy; subst hy
        exact ⟨v, if_pos rfl, mv _ _ rv⟩
      · rw [show (y == name) = false by simpa using q] at hy
        obtain ⟨u, eu, ru⟩ := hr y d' hy
        exact ⟨u, (if_neg q).trans eu, mv _ _ ru⟩
  obtain ⟨S', F'⟩ := F₂.wrote_own' (o' := .nsd ((name, d) :: fs₁)) (tk := tk') O ho ((S.trans (Chg.keeps k₁)).trans (Chg.keeps k₂)) (let ⟨o, _, _, e, _⟩ := hn'; ⟨o, e⟩) how hext
  exact (k _ S' F').run E) hs)⟩

theorem ev_cls_attr {n name : Str} {np : Pos} {v : Value} (B : Base w mg mb h₀) (h : Ev prog w A (fs h₀ env H own pm) H' env (.Name n np) (.val (.ref 119))) (hr : readsIn (hd.heap_39 w.params) 119 (.type "type") = true) (hf : findCls (hd.heap_39 w.params) (.ref 119) (.type "type") name = some (.val v)) (hh : handedIn v = true) (hd : ∀ h, Rd h H' d v) :
    Ev prog w A (fs h₀ env H own pm) H' env (.Attribute (.Name n np) name pos) d := ⟨fun s F Q E q => Attribute_name (h.run s F _ _ fun u s₁ k₁ r₁ => by
  obtain rfl : u = .ref 119 := r₁
  have X := B.X.keeps (F.keeps k₁).base
  exact cls_value X hr hf hh (q v _ (keepsTrans k₁ (keepsTok s₁ _)) (hd _)))⟩
end
end

section
section
variable {prog : Program} {w : World} {A : Around} {h₀ : Heap} {s₀ s : Shared} {W : List Addr} {env : Env} {H : List Addr} {own : List (Addr × Ow)} {pm : List (Str × Dt)} {mg mb : Str → Option Value} {nm : List (Str × NameKind)} {oa : List Addr}
  {Q : Flow → Shared → Prop} {E : Value → Shared → Prop} {rest : List Stmt}

theorem FOk.own1 {c : Addr} (O : FOk h₀ W env H oa) (h : h₀.get? c = none) (hc : c ∉ H) : FOk h₀ (c :: W) env (c :: H) (c :: oa) := by
  have hW : c ∉ W := fun q => hc (O.WH c q)
  refine ⟨fun b hb => ?_, fun b hb => ?_, .tail _ O.loc, fun x c e => ⟨.tail _ (O.cell x c e).1, (O.cell x c e).2⟩, O.apart, fun b hb => ?_, ?_⟩
  · rcases List.mem_cons.mp hb with rfl | hb
    · exact h
    · exact O.hid b hb
  · rcases List.mem_cons.mp hb with rfl | hb
    · exact .head _
    · exact .tail _ (O.WH b hb)
  · rcases List.mem_cons.mp hb with rfl | hb
    · exact ⟨.head _, fun q => hW (q ▸ O.loc), fun x c e q => hW (q ▸ (O.cell x c e).1)⟩
    · exact ⟨.tail _ (O.ownW b hb).1, (O.ownW b hb).2⟩
  · exact List.pairwise_cons.mpr ⟨fun b hb q => hW (q ▸ (O.ownW b hb).1), O.ownA⟩

theorem FSt.drop2 {a c : Addr} {ow ow' : Ow} (F : FSt h₀ env (a :: c :: H) ((a, ow) :: (c, ow') :: own) pm s) : FSt h₀ env (a :: H) ((a, ow) :: own) pm s := by
  have F' := F.show (H' := a :: H) fun b hb => (List.mem_cons.mp hb).elim (fun z => z ▸ .head _) fun z => .tail _ (.tail _ z)
  exact ⟨F'.base, F'.locs, F'.cells, fun p hp => F'.owns p ((List.mem_cons.mp hp).elim (fun z => z ▸ .head _) fun z => .tail _ (.tail _ z)), F'.ex⟩

theorem x_forX {x : Str} {px pos : Pos} {iter : Expr} {body : List Stmt} {ds : List Dt} {dsrc : Dt} {c₀ : Addr} (pmO : Addr → Nat → List (Str × Dt)) (ow : Nat → Ow) (C Cb : Nat → Prop) (N : Nm env nm) (O : FOk h₀ W env H oa) (hc₀ : c₀ ∉ H) (hcs0 : h₀.get? c₀ = none) (S : Chg (c₀ :: W) s₀ s) (F : FSt h₀ env (c₀ :: H) ((c₀, ow 0) :: own) (pmO c₀ 0) s) (h0 : C 0)
    (hi : Ev prog w A (fs h₀ env (c₀ :: H) ((c₀, ow 0) :: own) (pmO c₀ 0)) (c₀ :: H) env iter dsrc) (src : It prog w A (c₀ :: H) dsrc ds) (hl : nm.lookup x = some .local)
    (hb : ∀ i d s₁ c H', ds[i]? = some d → C i → (∀ a ∈ H, a ∈ H') → c ∉ H' → FOk h₀ W env H' oa → FOk h₀ (c :: W) env (c :: H') (c :: oa) → FSt h₀ env (c :: H') ((c, ow i) :: own) ((x, d) :: pmO c i) s₁ → Ex prog w A body env (fun fl s' => Chg (c :: W) s₁ s' ∧ (match fl with
      | .next => C (i + 1) ∧ ∃ c', (c' = c ∨ s₁.heap.get? c' = none) ∧ FSt h₀ env (c' :: H') ((c', ow (i + 1)) :: own) (pmO c' (i + 1)) s'
      | .brk => Cb i ∧ ∃ c', (c' = c ∨ s₁.heap.get? c' = none) ∧ FSt h₀ env (c' :: H') ((c', ow i) :: own) (pmO c' i) s'
      | _ => False)) s₁)
    (kb : ∀ i c s', i < ds.length → Cb i → c ∉ H → h₀.get? c = none → (c = c₀ ∨ s.heap.get? c = none) → Chg (c₀ :: W) s₀ s' → FSt h₀ env (c :: H) ((c, ow i) :: own) (pmO c i) s' → Ex prog w A rest env Q s')
    (k : ∀ c s', C ds.length → c ∉ H → h₀.get? c = none → (c = c₀ ∨ s.heap.get? c = none) → Chg (c₀ :: W) s₀ s' → FSt h₀ env (c :: H) ((c, ow ds.length) :: own) (pmO c ds.length) s' → Ex prog w A rest env Q s')
    (ho : own.map (·.1) = oa := by rfl) (hs : ∀ x, foldedSetIterable iter env x = pure x := by intro _; rfl) :
    Ex prog w A (.For (.Name x px) iter body [] pos :: rest) env Q s := by
  refine ⟨fun E => wpAny_execs_cons (wpAny_For (hi.run s F _ _ fun v s₁ k₁ r₁ => src s₁ v r₁ _ _ fun I fp wr P St s₂ k₂ WK hst hfp hlt hwr hP hSx => ?_) hs)⟩
  have F₁ := F.keeps k₁
  have kh := keepsHeap k₂
  have k12 := keepsTrans k₁ k₂
  have O₀ := O.own1 hcs0 hc₀
  have S₂ : Chg (c₀ :: W) s₀ s₂ := (S.trans (Chg.keeps k₁)).trans (Chg.keeps k₂)
  have hne : ∀ a ∈ c₀ :: H, a ∉ wr := fun a ha q => by
    obtain ⟨o, e⟩ := F₁.ex a ha
    rw [hwr a q] at e; cases e
  have hfpH : ∀ b ∈ fp, b ∉ c₀ :: H := fun b hb q => by
    rcases hfp b hb with h | h
    · exact h q
    · obtain ⟨o, e⟩ := F₁.ex b q
      rw [h] at e; cases e
  have h0wr : ∀ a ∈ wr, h₀.get? a = none := fun a ha => by
    cases q : h₀.get? a with
    | none => rfl
    | some o => have := F₁.base a o q; rw [hwr a ha] at this; cases this
  have hcwr : c₀ ∉ wr ++ H := fun q => (List.mem_append.mp q).elim (hne c₀ (.head _)) hc₀
  have wrW : ∀ a ∈ wr, a ∉ W := fun a ha q => hne a (.tail _ (O.WH a q)) ha
  have O' : FOk h₀ W env (wr ++ H) oa := O.hide (fun a ha => List.mem_append_right _ ha) fun a ha => (List.mem_append.mp ha).elim (fun q => .inr (h0wr a q)) .inl
  have F₂ : FSt h₀ env (c₀ :: (wr ++ H)) ((c₀, ow 0) :: own) (pmO c₀ 0) s₂ := (F₁.keeps k₂).hide kh F₁ (fun a ha => (List.mem_cons.mp ha).elim (fun z => .inl (z ▸ .head _)) fun ha => (List.mem_append.mp ha).elim (fun q => .inr (hwr a q)) fun q => .inl (.tail _ q))
    fun a ha => (List.mem_cons.mp ha).elim (fun z => let ⟨o, e⟩ := F₁.ex c₀ (.head _); ⟨o, z ▸ kh _ o e⟩) fun ha => (List.mem_append.mp ha).elim (hSx 0 _ hst a) fun q => let ⟨o, e⟩ := F₁.ex a (.tail _ q); ⟨o, kh a o e⟩
  have fresh1 : ∀ {c}, (c = c₀ ∨ s₂.heap.get? c = none) → (c = c₀ ∨ s.heap.get? c = none) := fun {c} h => h.elim .inl fun z => .inr (by
    cases q : s.heap.get? c with
    | none => rfl
    | some o => have := keepsHeap k12 _ _ q; rw [z] at this; cases this)
  have own' : ∀ c p, p ∈ own → c ∉ wr ++ H → p.1 ∉ wr := fun c p hp _ => hne _ (.tail _ (O.WH _ (O.ownW _ (inOa ho hp)).1))
  refine codeAny_forLoop (fun n s' => ∃ i c, n = ds.length - i ∧ i ≤ ds.length ∧ C i ∧ c ∉ wr ++ H ∧ h₀.get? c = none ∧ (c = c₀ ∨ s₂.heap.get? c = none) ∧ Chg (c₀ :: W) s₀ s' ∧ Chg (c₀ :: W ++ wr) s₂ s' ∧ St i s'.heap ∧ FSt h₀ env (c :: (wr ++ H)) ((c, ow i) :: own) (pmO c i) s') ?_ ds.length ⟨0, c₀, rfl, Nat.zero_le _, h0, hcwr, hcs0, .inl rfl, S₂, Chg.refl _ _, hst, F₂⟩ (fun _ => rfl)
  rintro n s₃ ⟨i, c, rfl, hi', hC, hcH, hc0, hcf, S₃, T₃, hst₃, F₃⟩
  have chgS : ∀ h' tk, (∀ b o, b ∉ wr → s₃.heap.get? b = some o → h'.get? b = some o) → Chg (c₀ :: W) s₀ { s₃ with heap := h', toks := tk } := fun h' tk kk => by
    obtain ⟨h3, t3, rfl, c3⟩ := S₃
    have S₁ := S.trans (Chg.keeps k₁)
    obtain ⟨h4, t4, e4, c4⟩ := T₃
    obtain ⟨h1, t1, e1, c1⟩ := S₁
    subst e1
    refine ⟨h', tk, rfl, fun b o hb e => kk b o (fun q => ?_) (c3 b o hb e)⟩
    have := c1 b o hb e
    rw [show h1.get? b = none from hwr b q] at this; cases this
  have wrH : ∀ a ∈ wr, a ∈ c :: (wr ++ H) := fun a ha => .tail _ (List.mem_append_left _ ha)
  have hLwr : env.locals ∉ wr := hne _ (.tail _ (O.WH _ O.loc))
  have hCwr : ∀ x c, env.cells.lookup x = some c → c ∉ wr := fun x c e => hne _ (.tail _ (O.WH _ (O.cell x c e).1))
  have hoW : ∀ p ∈ (c, ow i) :: own, p.1 ∉ wr := fun p hp => (List.mem_cons.mp hp).elim (fun z => by subst z; exact fun q => hcH (List.mem_append_left _ q)) fun hp => own' c p hp hcH
  by_cases hlt' : i < ds.length
  · refine WK.item i s₃ _ _ hlt' hst₃ fun u h' tk hu hst' kk => ?_
    obtain ⟨d, hd, rd⟩ := hP i u hu
    have hx' : ∀ a ∈ wr, ∃ o, h'.get? a = some o := hSx (i + 1) h' hst'
    have F₄ : FSt h₀ env (c :: (wr ++ H)) ((c, ow i) :: own) (pmO c i) { s₃ with heap := h', toks := tk } := F₃.wrote_hid h0wr wrH hLwr hCwr hoW kk hx'
    have S₄ := chgS h' tk kk
    have T₄ : Chg (c₀ :: W ++ wr) s₂ { s₃ with heap := h', toks := tk } := T₃.trans ⟨h', tk, rfl, fun b o hb e => kk b o (fun q => hb (List.mem_append_right _ q)) e⟩
    have rd' : Rd h' (c :: (wr ++ H)) d u := Rd.move (fun b o hb e => by
      have hbwr : b ∉ wr := fun q => by rw [hwr b q] at e; cases e
      have hbW : b ∉ c₀ :: W := fun q => hb ((List.mem_cons.mp q).elim (fun z => z ▸ .head _) fun z => .tail _ (O.WH b z))
      have hb2 : s₂.heap.get? b = some o := kh b o e
      refine ⟨T₄.get (fun q => (List.mem_append.mp q).elim hbW hbwr) hb2, fun q => (List.mem_cons.mp q).elim (fun z => ?_) fun q => (List.mem_append.mp q).elim hbwr fun z => hb (.tail _ z)⟩
      subst z
      rcases hcf with z | z
      · exact hb (z ▸ .head _)
      · rw [z] at hb2; cases hb2) d u rd
    have Oc := O'.own1 hc0 hcH
    refine wpAny_assign_Name (st_local (own := (c, ow i) :: own) N Oc (by simp [ho]) (Chg.refl (c :: W) { s₃ with heap := h', toks := tk }) F₄ rd' hl fun s₅ S₅ F₅ => ?_)
    refine wpAny_mono (hb i d s₅ c (wr ++ H) hd hC (fun a ha => List.mem_append_right _ ha) hcH O' Oc F₅ |>.run (fun _ _ => False)) (fun fl s' h' => ?_) fun _ _ f => f.elim
    have fpc : ∀ b ∈ fp, b ∉ c :: W := fun b hb q => (List.mem_cons.mp q).elim (fun z => by
      subst z
      rcases hcf with z | z
      · exact hfpH b hb (z ▸ .head _)
      · obtain ⟨o, e⟩ := hlt b hb
        rw [z] at e; cases e) fun z => hfpH b hb (.tail _ (O.WH b z))
    have stF : ∀ {s' : Shared}, Chg (c :: W) s₅ s' → St (i + 1) s'.heap := fun cc => WK.frame _ _ _ hst' fun b hb o e => (S₅.trans cc).get (fpc b hb) e
    have hc2 : ∀ {cc}, (cc = c ∨ s₅.heap.get? cc = none) → cc ∉ wr ++ H ∧ h₀.get? cc = none ∧ (cc = c₀ ∨ s₂.heap.get? cc = none) := fun {cc} q => by
      rcases q with rfl | q
      · exact ⟨hcH, hc0, hcf⟩
      · have nH : cc ∉ c :: (wr ++ H) := fun z => by obtain ⟨o, e⟩ := F₅.ex cc z; rw [q] at e; cases e
        refine ⟨fun z => nH (.tail _ z), ?_, ?_⟩
        · cases z : h₀.get? cc with
          | none => rfl
          | some o => have := F₅.base cc o z; rw [q] at this; cases this
        · by_cases h0c : cc = c₀
          · exact .inl h0c
          refine .inr ?_
          cases z : s₂.heap.get? cc with
          | none => rfl
          | some o =>
            have h1 := T₄.get (b := cc) (fun z2 => (List.mem_append.mp z2).elim (fun z3 => (List.mem_cons.mp z3).elim h0c fun z4 => nH (.tail _ (List.mem_append_right _ (O.WH _ z4)))) fun z3 => nH (.tail _ (List.mem_append_left _ z3))) z
            have h2 := S₅.get (fun z2 => nH ((List.mem_cons.mp z2).elim (fun z3 => z3 ▸ .head _) fun z3 => .tail _ (List.mem_append_right _ (O.WH _ z3)))) h1
            rw [q] at h2; cases h2
    have chgC : ∀ {s' : Shared}, Chg (c :: W) s₅ s' → Chg (c₀ :: W) s₀ s' := fun {s'} cc => by
      refine (S₄.more (W' := c :: c₀ :: W) fun a ha => .tail _ ha).trans ((S₅.trans cc).more fun a ha => (List.mem_cons.mp ha).elim (fun z => z ▸ .head _) fun z => .tail _ (.tail _ z)) |>.drop fun a ha => ?_
      rcases List.mem_cons.mp ha with rfl | ha
      · by_cases h0c : a = c₀
        · exact .inl (h0c ▸ .head _)
        · rcases hcf with z | z
          · exact absurd z h0c
          · exact .inr (S₂.fresh (fun q => (List.mem_cons.mp q).elim h0c fun q => hcH (List.mem_append_right _ (O.WH _ q))) z)
      · exact .inl ha
    have chgT : ∀ {s' : Shared}, Chg (c :: W) s₅ s' → Chg (c₀ :: W ++ wr) s₂ s' := fun {s'} cc => by
      refine (T₄.more (W' := c :: c₀ :: W ++ wr) fun a ha => .tail _ ha).trans ((S₅.trans cc).more fun a ha => (List.mem_cons.mp ha).elim (fun z => z ▸ .head _) fun z => .tail _ (.tail _ (List.mem_append_left _ z))) |>.drop fun a ha => ?_
      rcases List.mem_cons.mp ha with rfl | ha
      · rcases hcf with rfl | z
        · exact .inl (.head _)
        · exact .inr z
      · exact .inl ha
    cases fl with
    | next =>
      obtain ⟨cc, hC', c', hc', F'⟩ := h'
      obtain ⟨a1, a2, a3⟩ := hc2 hc'
      exact ⟨ds.length - (i + 1), by omega, i + 1, c', rfl, hlt', hC', a1, a2, a3, chgC cc, chgT cc, stF cc, F'⟩
    | brk =>
      obtain ⟨cc, hC', c', hc', F'⟩ := h'
      obtain ⟨a1, a2, a3⟩ := hc2 hc'
      exact (kb i c' s' hlt' hC' (fun z => a1 (List.mem_append_right _ z)) a2 (fresh1 a3) (chgC cc) (F'.show fun a ha => (List.mem_cons.mp ha).elim (fun z => z ▸ .head _) fun z => .tail _ (List.mem_append_right _ z))).run E
    | cont => exact h'.2.elim
    | ret v => exact h'.2.elim
  · have hi : i = ds.length := by omega
    subst hi
    refine WK.done s₃ _ _ hst₃ fun h' tk kk => wpAny_execs_nil ((k c _ hC (fun z => hcH (List.mem_append_right _ z)) hc0 (fresh1 hcf) (chgS h' tk kk) ?_).run E)
    have mv : ∀ {d v}, Rd s₃.heap (c :: (wr ++ H)) d v → Rd h' (c :: H) d v := fun r => Rd.move (fun b o hb e => ⟨kk b o (fun q => hb (wrH b q)) e, fun q => hb ((List.mem_cons.mp q).elim (fun z => z ▸ .head _) fun z => .tail _ (List.mem_append_right _ z))⟩) _ _ r
    have exK : ∀ a ∈ c :: H, a ∉ wr := fun a ha q => (List.mem_cons.mp ha).elim (fun z => hcH (List.mem_append_left _ (z ▸ q))) fun z => hne a (.tail _ z) q
    refine ⟨fun b o e => kk b o (fun q => by rw [h0wr b q] at e; cases e) (F₃.base b o e), ?_, fun y c' e => ?_, fun p hp => (F₃.owns p hp).mv (fun _ _ r => mv r) (fun o e => kk _ _ (hoW p hp) e), fun a ha => let ⟨o, e⟩ := F₃.ex a ((List.mem_cons.mp ha).elim (fun z => z ▸ .head _) fun z => .tail _ (List.mem_append_right _ z)); ⟨o, kk a o (exK a ha) e⟩⟩
    · obtain ⟨m, hn, hm⟩ := F₃.locs
      exact ⟨m, hn.at' fun o e => kk _ o hLwr e, fun y d e hk => let ⟨v, e1, r1⟩ := hm y d e hk; ⟨v, e1, mv r1⟩⟩
    · obtain ⟨cv, ⟨o, e1, e2⟩, hd⟩ := F₃.cells y c' e
      exact ⟨cv, ⟨o, kk c' o (hCwr y c' e) e1, e2⟩, fun d e' hk => let ⟨v, e3, r1⟩ := hd d e' hk; ⟨v, e3, mv r1⟩⟩
theorem x_forX1 {x : Str} {px pos : Pos} {iter : Expr} {body : List Stmt} {ds : List Dt} {dsrc : Dt} {c₀ : Addr} (pmO : Addr → Nat → List (Str × Dt)) (ow : Nat → Ow) (C Cb : Nat → Prop) (N : Nm env nm) (O : FOk h₀ W env H oa) (hc₀ : c₀ ∉ H) (hcs0 : h₀.get? c₀ = none) (S : Chg (c₀ :: W) s₀ s) (F : FSt h₀ env (c₀ :: H) ((c₀, ow 0) :: own) (pmO c₀ 0) s) (h0 : C 0)
    (hi : Ev prog w A (fs h₀ env (c₀ :: H) ((c₀, ow 0) :: own) (pmO c₀ 0)) (c₀ :: H) env iter dsrc) (src : It prog w A (c₀ :: H) dsrc ds) (hl : nm.lookup x = some .local)
    (hb : ∀ i d s₁ c H', ds[i]? = some d → C i → (∀ a ∈ H, a ∈ H') → c ∉ H' → FOk h₀ W env H' oa → FOk h₀ (c :: W) env (c :: H') (c :: oa) → FSt h₀ env (c :: H') ((c, ow i) :: own) ((x, d) :: pmO c i) s₁ → Ex prog w A body env (fun fl s' => Chg (c :: W) s₁ s' ∧ (match fl with
      | .next => C (i + 1) ∧ ∃ c', (c' = c ∨ s₁.heap.get? c' = none) ∧ FSt h₀ env (c' :: H') ((c', ow (i + 1)) :: own) (pmO c' (i + 1)) s'
      | .brk => Cb i ∧ ∃ c', (c' = c ∨ s₁.heap.get? c' = none) ∧ FSt h₀ env (c' :: H') ((c', ow i) :: own) (pmO c' i) s'
      | _ => False)) s₁)
    (hend : C ds.length → Cb ds.length)
    (kk : ∀ i c s', i ≤ ds.length → Cb i → c ∉ H → h₀.get? c = none → (c = c₀ ∨ s.heap.get? c = none) → Chg (c₀ :: W) s₀ s' → FSt h₀ env (c :: H) ((c, ow i) :: own) (pmO c i) s' → Ex prog w A rest env Q s')
    (ho : own.map (·.1) = oa := by rfl) (hs : ∀ x, foldedSetIterable iter env x = pure x := by intro _; rfl) :
    Ex prog w A (.For (.Name x px) iter body [] pos :: rest) env Q s :=
  x_forX pmO ow C Cb N O hc₀ hcs0 S F h0 hi src hl hb (fun i c s' hi hC => kk i c s' (Nat.le_of_lt hi) hC) (fun c s' hC => kk ds.length c s' (Nat.le_refl _) (hend hC)) ho hs
end
end

section
section
variable {prog : Program} {w : World} {A : Around} {Φ : Sp} {h₀ : Heap} {s₀ s : Shared} {W : List Addr} {env : Env} {H H' : List Addr} {own : List (Addr × Ow)} {pm : List (Str × Dt)} {mg mb : Str → Option Value} {nm : List (Str × NameKind)} {oa : List Addr}
  {Q : Flow → Shared → Prop} {E : Value → Shared → Prop} {rest : List Stmt} {pos : Pos} {e : Expr} {ds es : List Dt} {d : Dt}

theorem mul_list_raw {l : Addr} {items : Array Value} {k : Nat} {x : Int} {u : Tok} {Q : Value → Shared → Prop}
    (hl : s.heap.get? l = some { cls := .type "list", dict := none, data := .seq items k, slots := #[] })
    (hlo : -(2 ^ 63 : Int) ≤ x) (hhi : x < 2 ^ 63) (hsz : items.size * x.toNat ≤ 2 ^ 24)
    (h : Q (.ref s.heap.objs.size) { s with heap := s.heap.push { cls := .type "list", data := .seq (List.foldl (fun x1 x2 => x1 ++ x2) #[] (List.replicate (if items.isEmpty = true then 0 else x.toNat) items)) } }) :
    wpAny (model prog w) A (binaryOp .Mult (.ref l) (.int x u)) Q E s :=
  wpAny_binaryOp_repeat_ref (T := "list") (U := "int") (by decide) ⟨_, hl, rfl⟩ (fun s' => typeIs_int s' x u) noFill_list_mul PySem.F.fills_int_mul PySem.F.slot_int_rmul repeat_list PySem.F.slot_int_index.lookup
    (call_meets PySem.F.slot_int_rmul (typeIs_int s x u) PySem.F.entry_int_rmul (PySem.F.args_int_rmul_2 _ _) (int___rmul___int_list x u l items k)
      ⟨hl, rfl, ⟨_, hl, rfl⟩, call_meets PySem.F.slot_list_mul ⟨_, hl, rfl⟩ PySem.F.entry_list_mul (PySem.F.args_list_mul_2 _ _)
        (PySem.AutoListH.list___mul___list_int_3 l items k x u (by simp [Builtin.List.listFitsIndex]; omega) (by omega) (by simp [Builtin.List.listTooLong, sizeLine]; omega))
        ⟨hl, h⟩⟩)

theorem foldl_app {α : Type} (v : α) : ∀ (n : Nat) (acc : Array α), List.foldl (fun x1 x2 => x1 ++ x2) acc (List.replicate n #[v]) = (acc.toList ++ List.replicate n v).toArray
  | 0, acc => by simp
  | n + 1, acc => by
    rw [List.replicate_succ, List.foldl_cons, foldl_app v n]
    simp [List.replicate_succ]

theorem ev_mul_one {l r : Expr} {n : Nat} (X : Hx Φ H) (h₁ : Ev prog w A Φ H env l (.list [d])) (h₂ : Ev prog w A Φ H env r (.int n)) (hz : n ≤ 1000) : Ev prog w A Φ H env (.BinOp l .Mult r pos) (.list (List.replicate n d)) :=
  ev_bin h₁ h₂ fun s v₁ v₂ hs r₁ r₂ Q E q => by
    obtain ⟨a, us, m, rfl, ha, hl, r1⟩ := r₁
    obtain ⟨u, rfl⟩ := r₂
    obtain ⟨v, rest, rfl, r2, r3⟩ := r1
    obtain rfl : rest = [] := r3
    obtain ⟨x, hx⟩ : ∃ x : Int, (n : Int) = x := ⟨_, rfl⟩
    rw [hx]
    refine mul_list_raw hl (by omega) (by omega) ?_ ?_
    · show 1 * x.toNat ≤ 2 ^ 24
      omega
    · have e : List.foldl (fun x1 x2 => x1 ++ x2) #[] (List.replicate (if ([v] : List Value).toArray.isEmpty = true then 0 else x.toNat) ([v] : List Value).toArray) = (List.replicate n v).toArray := by
        rw [if_neg (by simp)]
        have : x.toNat = n := by omega
        rw [this]
        have := foldl_app v n #[]
        simpa using this
      rw [e]
      refine q _ _ (keepsPush' s _) ⟨_, List.replicate n v, 0, rfl, X.new hs (keepsRefl s), Heap.get?_push_size _ rfl, RdAll.keeps ?_ (keepsHeap (keepsPush' s _))⟩
      exact RdAll.mk (by simp) fun i d' v' e1 e2 => by
        rw [List.getElem?_replicate] at e1 e2
        split at e1
        · rename_i hlt; rw [if_pos hlt] at e2; cases e1; cases e2; exact r2
        · cases e1

theorem mk_add_ints {l r : Expr} {a b : List Int} (h₁ : Ev prog w A Φ H env l (.list (dInts a))) (h₂ : Ev prog w A Φ H env r (.list (dInts b))) (hz : a.length + b.length ≤ 1000) : Mk prog w A Φ env (.BinOp l .Add r pos) fun _ ow => ow = .lst (dInts (a ++ b)) := ⟨fun s hs Q E q => by
  refine wpAny_BinOp (h₁.run s hs _ _ fun v₁ s₁ k₁ r₁ => h₂.run s₁ (Φ.st _ _ hs k₁) _ _ fun v₂ s₂ k₂ r₂ => ?_)
  have r₁ := r₁.keeps (keepsHeap k₂)
  obtain ⟨x, us, n, rfl, ha, hl, r1⟩ := r₁
  obtain ⟨y, ws, m, rfl, hb, hm, r2⟩ := r₂
  have l1 := r1.length
  have l2 := r2.length
  rw [dInts_len] at l1 l2
  have k12 := keepsTrans k₁ k₂
  refine P.add_list hl hm ?_ (by rw [List.size_toArray, List.size_toArray, l1, l2, sizeLine_eq]; omega)
  refine q _ (.lst (dInts (a ++ b))) _ (keepsTrans k12 (keepsPush' s₂ _)) ?_ ⟨_, Heap.get?_push_size _ rfl⟩ (fun H2 => ⟨us ++ ws, 0, ?_, ?_⟩) rfl
  · cases e : s.heap.get? s₂.heap.objs.size with
    | none => rfl
    | some o => have := keepsHeap k12 _ _ e; rw [get_size] at this; cases this
  · have e : us.toArray ++ ws.toArray = (us ++ ws).toArray := by simp
    rw [e]
    exact Heap.get?_push_size _ rfl
  · rw [dInts_append]
    have anyH : ∀ {ns : List Int} {vs : List Value} {h h' : Heap} {H : List Addr}, RdAll h H (dInts ns) vs → RdAll h' H2 (dInts ns) vs := by
      intro ns
      induction ns with
      | nil => intro vs h h' H r; exact r
      | cons n ns ih => intro vs h h' H r; obtain ⟨v, rest, rfl, ⟨t, rfl⟩, r4⟩ := r; exact ⟨_, rest, rfl, ⟨t, rfl⟩, ih r4⟩
    exact RdAll.append (anyH r1) (anyH r2)⟩

theorem x_setitem {o i : Expr} {pre post : List (Addr × Ow)} {l : Addr} {es₀ : List Dt} {k : Nat} {p1 : Pos} (O : FOk h₀ W env H oa) (S : Chg W s₀ s) (F : FSt h₀ env H (pre ++ (l, .lst es₀) :: post) pm s) (ho : (pre ++ (l, Ow.lst es₀) :: post).map (·.1) = oa)
    (he : Ev prog w A (fs h₀ env H (pre ++ (l, .lst es₀) :: post) pm) H env e d) (hx : Ev prog w A (fs h₀ env H (pre ++ (l, .lst es₀) :: post) pm) H env o (.val (.ref l))) (hi : Ev prog w A (fs h₀ env H (pre ++ (l, .lst es₀) :: post) pm) H env i (.int k)) (hk : k < es₀.length) (hz : es₀.length ≤ 1000)
    (k' : ∀ s', Chg W s₀ s' → FSt h₀ env H (pre ++ (l, .lst (es₀.set k d)) :: post) pm s' → Ex prog w A rest env Q s') (hs : swapsWith e (some (.Subscript o i p1)) pos.line env = pure false := by rfl) :
    Ex prog w A (.Assign [.Subscript o i p1] e pos :: rest) env Q s := ⟨fun E => wpAny_execs_cons (wpAny_Assign_Subscript (he.run s F _ _ fun v s₁ k₁ r₁ => hx.run s₁ (F.keeps k₁) _ _ fun ov s₂ k₂ r₂ => hi.run s₂ ((F.keeps k₁).keeps k₂) _ _ fun iv s₃ k₃ r₃ => by
  obtain rfl : ov = .ref l := r₂
  obtain ⟨t, rfl⟩ := r₃
  have k23 := keepsTrans k₂ k₃
  have F₃ := (F.keeps k₁).keeps k23
  obtain ⟨its, n, hL, rr⟩ := F₃.owns (l, .lst es₀) (by simp)
  have hlen := rr.length
  have rv := r₁.keeps (keepsHeap k23)
  obtain ⟨x, hxk⟩ : ∃ x : Int, (k : Int) = x := ⟨_, rfl⟩
  rw [hxk]
  refine ki_setAt (n := n) hL (by omega) (by omega) (by rw [List.size_toArray]; omega) ?_
  have up := hL.update fun xs : Array Value => xs.setIfInBounds x.toNat v
  have hxn : x.toNat = k := by omega
  obtain ⟨n', up'⟩ : ∃ n', IsL (s₃.heap.update l (Obj.mapSeq fun xs : Array Value => xs.setIfInBounds x.toNat v)) l (its.set k v).toArray n' := ⟨_, by rw [hxn] at up ⊢; rw [List.setIfInBounds_toArray] at up; exact up⟩
  obtain ⟨S', F'⟩ := F₃.wrote_own (o' := .lst (es₀.set k d)) (tk := s₃.toks) O ho ((S.trans (Chg.keeps k₁)).trans (Chg.keeps k23)) ⟨_, up'⟩ (fun mv => ⟨its.set k v, n', up', RdAll.mk (by simp [hlen]) fun i d' v' e1 e2 => by
    rw [List.getElem?_set] at e1 e2
    by_cases hki : k = i
    · rw [if_pos hki, if_pos (by omega)] at e1 e2
      cases e1; cases e2; exact mv _ _ rv
    · rw [if_neg hki] at e1 e2
      obtain ⟨v'', e3, r3⟩ := rr.get e1
      rw [e2] at e3; cases e3
      exact mv _ _ r3⟩) (Heap.SameBut.update ..)
  exact (k' _ S' F').run E) hs)⟩

theorem x_asg3 {x y z : Str} {px py pz : Pos} (N : Nm env nm) (O : FOk h₀ W env H oa) (S : Chg W s₀ s) (F : FSt h₀ env H own pm s) (h : Ev prog w A (fs h₀ env H own pm) H env e d) (hlx : nm.lookup x = some .local) (hly : nm.lookup y = some .local) (hlz : nm.lookup z = some .local)
    (k : ∀ s', Chg W s₀ s' → FSt h₀ env H own ((z, d) :: (y, d) :: (x, d) :: pm) s' → Ex prog w A rest env Q s')
    (he : (assignEach [.Name x px, .Name y py, .Name z pz] env).map (·.2) = [assign (.Name x px) env, assign (.Name y py) env, assign (.Name z pz) env] := by rfl)
    (hw : swappedStores [.Name x px, .Name y py, .Name z pz] e env = pure none := by rfl) (ho : own.map (·.1) = oa := by rfl) :
    Ex prog w A (.Assign [.Name x px, .Name y py, .Name z pz] e pos :: rest) env Q s :=
  ⟨fun E => wpAny_execs_cons (wpAny_Assign_three (h.run s F _ _ fun v s₁ k₁ r₁ => wpAny_assign_Name (st_local N O ho (Chg.refl W s₁) (F.keeps k₁) r₁ hlx fun s₂ S₂ F₂ => by
    have mv : ∀ {s s' : Shared}, Chg W s s' → Rd s.heap H d v → Rd s'.heap H d v := fun c r => Rd.move (fun b o hb e => ⟨c.get (fun q => hb (O.WH b q)) e, hb⟩) _ _ r
    have r₂ := mv S₂ r₁
    exact wpAny_assign_Name (st_local N O ho (Chg.refl W s₂) F₂ r₂ hly fun s₃ S₃ F₃ => wpAny_assign_Name (st_local N O ho ((((S.trans (Chg.keeps k₁)).trans S₂).trans S₃)) F₃ (mv S₃ r₂) hlz fun s₄ S₄ F₄ => (k s₄ S₄ F₄).run E)))) he hw)⟩

theorem x_swap2 {x y : Str} {px py pp pt : Pos} {kt kv : Nat} {d₁ d₂ : Dt} {e₁ e₂ : Expr} (N : Nm env nm) (O : FOk h₀ W env H oa) (S : Chg W s₀ s) (F : FSt h₀ env H own pm s) (hh : A.handled = none) (h : Ev prog w A (fs h₀ env H own pm) H env (.Tuple [e₁, e₂] kv pp) (.tup [d₁, d₂])) (hlx : nm.lookup x = some .local) (hly : nm.lookup y = some .local)
    (hw : swappedStores [.Tuple [.Name x px, .Name y py] kt pt] (.Tuple [e₁, e₂] kv pp) env = pure (some [x, y])) (hs : swapsWithSole [.Tuple [.Name x px, .Name y py] kt pt] (.Tuple [e₁, e₂] kv pp) pos.line env = pure false)
    (k : ∀ s', Chg W s₀ s' → FSt h₀ env H own ((x, d₁) :: (y, d₂) :: pm) s' → Ex prog w A rest env Q s') (ho : own.map (·.1) = oa := by rfl) :
    Ex prog w A (.Assign [.Tuple [.Name x px, .Name y py] kt pt] (.Tuple [e₁, e₂] kv pp) pos :: rest) env Q s := ⟨fun E => by
  refine wpAny_execs_cons ?_
  rw [exec_Assign_arm]
  refine wpAny_bind (wpAny_standAt ?_)
  rw [hs]
  refine wpAny_bind (wpAny_pure ?_)
  rw [if_neg (by decide)]
  refine wpAny_bind (h.run s F _ _ fun v s₁ k₁ r₁ => ?_)
  rw [hw]
  refine wpAny_bind (wpAny_pure ?_)
  obtain ⟨t, vs, n, rfl, ht, hT, rr⟩ := r₁
  obtain ⟨v₁, v₂, rfl, r1, r2⟩ := rd2 rr
  have F₁ := F.keeps k₁
  have hT' : s₁.heap.IsTuple t ([v₁, v₂] : List Value).toArray := ⟨_, hT, rfl, n, rfl⟩
  show wpAny _ A (do rule "assign.swapped-stores"; let items ← unpackItems (.ref t) 2 none; assignInOrder ([x, y].reverse.map fun n => bindName env n) items.reverse; pure Flow.next : Sem Flow) _ _ _
  refine wpAny_bind (wpAny_rule ?_)
  refine wpAny_bind (wpAny_unpackItems_tuple (items := ([v₁, v₂] : List Value).toArray) hh hT' fun h' hx => ?_)
  have kk : Keeps s₁ { s₁ with heap := h' } := ⟨h', s₁.toks, rfl, fun b o e => hx b o (Nat.ne_of_lt (Heap.lt_size e)) e⟩
  have F₂ := F₁.keeps kk
  have mv : ∀ {s s' : Shared} {d v}, Chg W s s' → Rd s.heap H d v → Rd s'.heap H d v := fun c r => Rd.move (fun b o hb e => ⟨c.get (fun q => hb (O.WH b q)) e, hb⟩) _ _ r
  refine wpAny_bind (wpAny_assignInOrder_more (wpAny_bindName (st_local N O ho (Chg.refl W _) F₂ (r2.keeps (keepsHeap kk)) hly fun s₃ S₃ F₃ => ?_)))
  refine wpAny_assignInOrder_more (wpAny_bindName (st_local N O ho (((S.trans (Chg.keeps k₁)).trans (Chg.keeps kk)).trans S₃) F₃ (mv S₃ (r1.keeps (keepsHeap kk))) hlx fun s₄ S₄ F₄ => ?_))
  exact wpAny_assignInOrder_none (wpAny_pure ((k s₄ S₄ F₄).run E))⟩
end
end

section
structure WS where
  n : Nat
  b : Nat
  nt : Nat
  cs : List Int
noncomputable def WS.pad (s : WS) : List Int := if s.b < s.cs.length then s.cs else s.cs ++ List.replicate (s.b - s.cs.length + 1) 0
noncomputable def WS.step (s : WS) (c : Nat) : WS :=
  if c = 32 then ⟨s.n + 1, s.b + 1, s.nt, s.cs⟩
  else if c = 9 then ⟨s.n + 1, 0, s.nt + 1, s.pad.set s.b (s.pad.getD s.b 0 + 1)⟩
  else s
noncomputable def isWs (c : Nat) : Bool := c = 32 || c = 9
noncomputable def wsAll (l : List Nat) : WS := l.foldl WS.step ⟨0, 0, 0, []⟩
noncomputable def wsRun (l : List Nat) : WS := wsAll (l.takeWhile isWs)
theorem wsAll_snoc (l : List Nat) (c : Nat) : wsAll (l ++ [c]) = (wsAll l).step c := by simp [wsAll]
theorem pad_len (s : WS) : s.b < s.pad.length := by
  unfold WS.pad
  split
  · assumption
  · simp; omega
theorem ws_bounds (l : List Nat) : (wsAll l).n ≤ l.length ∧ (wsAll l).b ≤ l.length ∧ (wsAll l).nt ≤ l.length ∧ (wsAll l).cs.length ≤ l.length := by
  suffices h : ∀ (l : List Nat) (s : WS) (k : Nat), s.n ≤ k ∧ s.b ≤ k ∧ s.nt ≤ k ∧ s.cs.length ≤ k → (l.foldl WS.step s).n ≤ k + l.length ∧ (l.foldl WS.step s).b ≤ k + l.length ∧ (l.foldl WS.step s).nt ≤ k + l.length ∧ (l.foldl WS.step s).cs.length ≤ k + l.length by
    have := h l ⟨0, 0, 0, []⟩ 0 (by simp)
    simpa [wsAll] using this
  intro l
  induction l with
  | nil => intro s k h; simpa using h
  | cons c r ih =>
    intro s k h
    have := ih (s.step c) (k + 1) ?_
    · simpa [Nat.add_assoc, Nat.add_comm 1] using this
    · unfold WS.step
      split
      · simp only; omega
      · split
        · simp only [List.length_set]
          have : s.pad.length ≤ k + 1 := by
            unfold WS.pad
            split
            · omega
            · simp; omega
          omega
        · omega
theorem take_snoc {l : List Nat} {i c : Nat} (h : l[i]? = some c) : l.take (i + 1) = l.take i ++ [c] := by rw [List.take_add_one, h]; rfl
theorem takeWhile_take {l : List Nat} {i c : Nat} (h : l[i]? = some c) (ha : ∀ x ∈ l.take i, isWs x = true) (hc : isWs c = false) : l.takeWhile isWs = l.take i := by
  obtain ⟨hi, rfl⟩ := List.getElem?_eq_some_iff.mp h
  have e : l = l.take i ++ l[i] :: l.drop (i + 1) := by rw [← List.drop_eq_getElem_cons hi, List.take_append_drop]
  conv => lhs; rw [e]
  rw [List.takeWhile_append_of_pos ha, List.takeWhile_cons, hc]
  simp
theorem takeWhile_all {l : List Nat} (ha : ∀ x ∈ l, isWs x = true) : l.takeWhile isWs = l := by
  induction l with
  | nil => rfl
  | cons c r ih => rw [List.takeWhile_cons, if_pos (ha c (.head _)), ih fun x hx => ha x (.tail _ hx)]

noncomputable def wsFields (x : Str) : List (Str × Dt) :=
  [(S' "is_simple", .bool (decide ((wsRun x.cps.toList).cs.length ≤ 1))), (S' "norm", .tup [.tup (dInts (wsRun x.cps.toList).cs), .int (wsRun x.cps.toList).b]), (S' "nt", .int (wsRun x.cps.toList).nt), (S' "n", .int (wsRun x.cps.toList).n), (S' "raw", .str x)]

section
variable {prog : Program} {w : World} {A : Around} {Φ : Sp} {h₀ : Heap} {s₀ s : Shared} {W : List Addr} {env : Env} {H H' : List Addr} {own : List (Addr × Ow)} {pm : List (Str × Dt)} {mg mb : Str → Option Value} {nm : List (Str × NameKind)} {oa : List Addr} {e : Expr} {p pos : Pos}
theorem ev_tuple_ints {ns : List Int} (B : Base w mg mb h₀) (N : Nm env nm) (hl : nm.lookup (Str.ofString "tuple") = some .globalImplicit) (h : Ev prog w A (fs h₀ env H own pm) H' env e (.list (dInts ns))) (hz : ns.length ≤ 1000)
    (hc : eval (.Call (.Name (Str.ofString "tuple") p) [e] [] pos) env = (do callWith pos (← eval (.Name (Str.ofString "tuple") p) env) [] (backTo pos (starEach [e] env)) (backToKw pos (keywordEach [] env))) := by rfl)
    (he : starEach [e] env = (false, eval e env) :: starEach [] env := by rfl) (hp : (backTo pos (starEach [] env)).any (·.1) = false := by rfl) : Ev prog w A (fs h₀ env H own pm) H env (.Call (.Name (Str.ofString "tuple") p) [e] [] pos) (.tup (dInts ns)) := ⟨fun s F Q E q => by
  refine Call_ ((ev_tupleT B N hl (H' := H) (pos := p)).run s F _ _ fun f s₁ k₁ r₁ => ?_) hc
  obtain rfl : f = .type "tuple" := r₁
  refine PyProof.Rows.callWith_type1 ((evs_cons h evs_nil he).run s₁ pos (F.keeps k₁) _ _ fun vs s₂ k₂ r₂ => ?_) he hp
  obtain ⟨v, rfl, r3⟩ := rd1 r₂
  obtain ⟨a, us, n, rfl, ha, hL, r⟩ := r3
  have hlen := r.length
  rw [dInts_len] at hlen
  refine call_tuple_list ⟨_, hL, rfl, _, rfl⟩ (fun h' k => ?_) (by rw [List.size_toArray, hlen, sizeLine_eq]; omega)
  have k' := keepsOf' s₂ h' k
  have k2 : Keeps s₂ { s₂ with heap := h'.push { cls := Value.type "tuple", data := Data.seq us.toArray } } := keepsTrans k' (keepsPush' { s₂ with heap := h' } _)
  refine q _ _ (keepsTrans (keepsTrans k₁ k₂) k2) ⟨_, us, 0, rfl, (hx_fs (H' := H) fun _ h => h).new F (keepsTrans (keepsTrans k₁ k₂) k'), Heap.get?_push_size _ rfl, ?_⟩
  have anyH : ∀ {ns : List Int} {vs : List Value} {h h' : Heap} {H H2 : List Addr}, RdAll h H (dInts ns) vs → RdAll h' H2 (dInts ns) vs := by
    intro ns
    induction ns with
    | nil => intro vs h h' H _ r; exact r
    | cons n ns ih => intro vs h h' H _ r; obtain ⟨v, rest, rfl, ⟨t, rfl⟩, r4⟩ := r; exact ⟨_, rest, rfl, ⟨t, rfl⟩, ih r4⟩
  exact anyH r⟩
end
end

section
section
variable {prog : Program} {w : World} {A : Around} {h₀ : Heap} {s₀ s : Shared} {W : List Addr} {env : Env} {H : List Addr} {own : List (Addr × Ow)} {pm : List (Str × Dt)} {Q : Flow → Shared → Prop} {rest : List Stmt}
theorem wp_app' {M : Model} {Γ : Ctx} : ∀ (b r : List Stmt) {Q : Flow → Pos → Shared → Prop} {E : Value → Pos → Shared → Prop} {p : Pos} {s : Shared}, Sem.wp M Γ (execs b env) (fun f p' s' => Sem.wp M Γ (match f with | .next => execs r env | f => pure f) Q E p' s') E p s →
    Sem.wp M Γ (execs (b ++ r) env) Q E p s
  | [], r, Q, E, p, s, h => h
  | st :: b, r, Q, E, p, s, h => by
    rw [List.cons_append, execs_cons, Sem.wp_bind']
    rw [execs_cons, Sem.wp_bind'] at h
    refine Sem.wp_mono M Γ _ (fun f p' s' h' => ?_) (fun _ _ _ e => e) p s h
    cases f with
    | next => exact wp_app' b r h'
    | _ => exact h'
theorem x_app {body : List Stmt} {J : Shared → Prop} (h : Ex prog w A body env (fun fl s' => fl = .next ∧ J s') s) (k : ∀ s', J s' → Ex prog w A rest env Q s') : Ex prog w A (body ++ rest) env Q s := ⟨fun E Γ p hΓ => by
  refine wp_app' body rest (Sem.wp_mono _ Γ _ (fun fl p' s' h' => ?_) (fun _ _ _ e => e) p s (h.run E Γ p hΓ))
  obtain ⟨rfl, hj⟩ := h'
  exact (k s' hj).run E Γ p' hΓ⟩
theorem y_if_join {test : Expr} {body orelse : List Stmt} {pos : Pos} {b : Bool} (J : Shared → Prop) (S : Chg W s₀ s) (F : FSt h₀ env H own pm s) (h : Tst prog w A (fs h₀ env H own pm) env test b)
    (k₁ : b = true → ∀ s', Chg W s₀ s' → FSt h₀ env H own pm s' → Ex prog w A body env (fun fl s' => fl = .next ∧ J s') s') (k₂ : b = false → ∀ s', Chg W s₀ s' → FSt h₀ env H own pm s' → Ex prog w A orelse env (fun fl s' => fl = .next ∧ J s') s') (k : ∀ s', J s' → Ex prog w A rest env Q s') :
    Ex prog w A (.If test body orelse pos :: rest) env Q s :=
  y_if S F h (fun e s' S F => x_app (k₁ e s' S F) k) fun e s' S F => x_app (k₂ e s' S F) k
end
section
variable {w : World} {mg mb : Str → Option Value} {h₀ : Heap}
theorem init_ws (B : Base w mg mb h₀) {x : Str} (hz : x.cps.toList.length ≤ 100) (prog : Program) (A : Around) (s : Shared) (H : List Addr) (ix dx : Addr) (v : Value) (Rm : Room A 3) (hb : ∀ b o, h₀.get? b = some o → s.heap.get? b = some o) (h0 : ∀ a ∈ H, h₀.get? a = none) (hx : ∀ a ∈ H, ∃ o, s.heap.get? a = some o)
    (hixH : ix ∈ H) (hdxH : dx ∈ H) (hne : ix ≠ dx) (hoi : OwAt s.heap H ix (.raw (instObj 119 dx))) (hod : OwAt s.heap H dx (.nsd [])) (rv : Rd s.heap H (.str x) v) (R : Result → Shared → Prop)
    (q : ∀ s', Chg [ix, dx] s s' → OwAt s'.heap H ix (.raw (instObj 119 dx)) → OwAt s'.heap H dx (.nsd (wsFields x)) → R (.ok (.ret .none)) s') : codeAny (model prog w) A (.call (.ref 74) ⟨[.ref ix, v], []⟩) R s := by
  refine (call_fn [(S' "ws", .str x), (S' "self", .val (.ref ix))] Rm B hb h0 hx (hl := rfl) (hcd := by kernel_rfl) (hbody := rfl) (hge := rfl) (hclo := rfl) (hbe := rfl) (binds := [(S' "self", .ref ix), (S' "ws", v)]) (hbind := fun S => by kernel_rfl) (hcell := by decide +kernel) (hloc := by kernel_rfl) (own := [(ix, .raw (instObj 119 dx)), (dx, .nsd [])]) (oa := [ix, dx]) (hown := fun p hp => ?_) (hoH := fun a ha => ?_) (hoA := ?_) (hoe := rfl) (hpm := rdb_cons rv (rdb_cons rfl rdb_nil)) (k := fun env s₁ L N eL hL O F C _ => ?_) (hco := rfl) (hgen := rfl) (hk := rfl))
  · simp only [List.mem_cons, List.not_mem_nil, or_false] at hp
    rcases hp with rfl | rfl
    · exact hoi
    · exact hod
  · simp only [List.mem_cons, List.not_mem_nil, or_false] at ha
    rcases ha with rfl | rfl <;> assumption
  · exact List.pairwise_cons.mpr ⟨fun b hb => by rw [List.mem_singleton.mp hb]; exact hne, List.pairwise_singleton ..⟩
  have hh : (A.deeper env).handled = none := Rm.hh
  have Rm := Rm.deeper (env := env)
  generalize A.deeper env = A at *
  dsimp only at N
  have S := Chg.refl [L, ix, dx] s₁
  refine x_store_attr (pre := [(ix, .raw (instObj 119 dx))]) (post := []) (x := ix) (d := .str x) B O S F rfl (.head _) ?_ ?_ (by kernel_rfl) (by rw [typeLookup_type, builtinLookup_eq_fast]; kernel_rfl) (by decide) fun s₂ S F => ?_
  · walk_at "EV"
  · walk_at "EV"
  dsimp only [List.cons_append, List.nil_append] at F
  have hbk : env.blockKind = .function := by unfold Env.blockKind; rw [N.kind]; rfl
  refine x_swap2 (d₁ := .str (S' " ")) (d₂ := .str (S' "\t")) N O S F hh (ev_tuple (hx_fs fun _ h => h) (evs_cons (ev_cls_attr (v := .str (S' " ") 265) B (ev_g_Whitespace B N rfl) (by kernel_rfl) (by kernel_rfl) rfl fun h => ⟨_, rfl⟩) (evs_cons (ev_cls_attr (v := .str (S' "\t") 266) B (ev_g_Whitespace B N rfl) (by kernel_rfl) (by kernel_rfl) rfl fun h => ⟨_, rfl⟩) evs_nil)) (by decide)) rfl rfl ?_ rfl fun s₃ S F => ?_
  · have k1 : env.kindOf (S' "S") = some .local := N.of rfl
    have k2 : env.kindOf (S' "T") = some .local := N.of rfl
    simp only [swappedStores, hbk, List.filterMap_cons, List.filterMap_nil, k1, k2]
    rfl
  refine x_new_local N O S F mk_nil rfl fun c ow s₄ how hc hcH Oc S F => ?_
  subst how
  have hc0 : h₀.get? c = none := Oc.hid c (.head _)
  refine x_asg3 N Oc S F ev_int rfl rfl rfl fun s₅ S F => ?_
  have Sl := S
  refine x_forX1 (c₀ := c) (dsrc := .str x) (ds := x.cps.toList.map fun c => Dt.str ⟨#[c]⟩) (own := [(ix, .raw (instObj 119 dx)), (dx, .nsd [(S' "raw", .str x)])])
    (fun c' i => [(S' "b", .int (wsAll (x.cps.toList.take i)).b), (S' "n", .int (wsAll (x.cps.toList.take i)).n), (S' "nt", .int (wsAll (x.cps.toList.take i)).nt), (S' "count", .val (.ref c')), (S' "T", .str (S' "\t")), (S' "S", .str (S' " ")), (S' "self", .val (.ref ix))])
    (fun i => .lst (dInts (wsAll (x.cps.toList.take i)).cs)) (fun i => ∀ y ∈ x.cps.toList.take i, isWs y = true) (fun i => wsRun x.cps.toList = wsAll (x.cps.toList.take i)) N O hcH hc0 S (F.cov ⟨rfl, rfl, rfl, rfl, rfl, rfl, rfl, trivial⟩) (fun y hy => by simp at hy) ?_ (it_str hh) rfl ?_ ?_ ?_
  · refine ev_own_field (pre := [(c, _), (ix, _)]) (post := []) (x := ix) B Oc rfl (.tail _ (.head _)) ?_ rfl (by intro u q; cases q) (by kernel_rfl) (by rw [typeLookup_type, builtinLookup_eq_fast]; kernel_rfl)
    walk_at "EV"
  · clear F S Oc
    intro i d s₆ c' H' hd hC hsub hc'H O' Oc' F
    rw [List.getElem?_map] at hd
    obtain ⟨cc, hci, rfl⟩ := Option.map_eq_some_iff.mp hd
    clear hd
    have hi : i < x.cps.toList.length := (List.getElem?_eq_some_iff.mp hci).1
    have hC' : isWs cc = true → ∀ y ∈ x.cps.toList.take (i + 1), isWs y = true := fun h y hy => by
      rw [take_snoc hci] at hy
      rcases List.mem_append.mp hy with hy | hy
      · exact hC y hy
      · rw [List.mem_singleton.mp hy]; exact h
    have bd := ws_bounds (x.cps.toList.take i)
    have hti : (x.cps.toList.take i).length ≤ 100 := by rw [List.length_take]; omega
    have eN : wsAll (x.cps.toList.take (i + 1)) = (wsAll (x.cps.toList.take i)).step cc := by rw [take_snoc hci, wsAll_snoc]
    generalize hst : wsAll (x.cps.toList.take i) = st at *
    have S := Chg.refl (c' :: [L, ix, dx]) s₆
    have hHs : ∀ b ∈ H', b ∈ c' :: H' := fun b h => .tail _ h
    refine y_if S F (b := decide (cc = 32)) (by rw [← eq_blank]; refine tst_cmp (H := H') (d₁ := .str ⟨#[cc]⟩) (d₂ := .str (S' " ")) ?_ ?_ cmp_eq_str <;> walk_at "EV") (fun e s₇ S F => ?_) (fun e s₇ S F => ?_)
    · have e := of_decide_eq_true e
      dsimp only [List.cons_append, List.nil_append]
      refine x_asg_local N Oc' S F (d := .int ((st.n + 1 : Nat) : Int)) (by refine Ev.int_eq (ev_add (a := (st.n : Int)) (b := 1) ?_ ?_) (by omega) <;> walk_at "EV") rfl fun s₈ S F => ?_
      refine x_asg_local N Oc' S F (d := .int ((st.b + 1 : Nat) : Int)) (by refine Ev.int_eq (ev_add (a := (st.b : Int)) (b := 1) ?_ ?_) (by omega) <;> walk_at "EV") rfl fun s₉ S F => x_nil ⟨S, hC' (by subst e; rfl), c', .inl rfl, ?_⟩
      rw [eN, show st.step cc = ⟨st.n + 1, st.b + 1, st.nt, st.cs⟩ from if_pos e]
      exact F.cov ⟨rfl, rfl, rfl, rfl, rfl, rfl, rfl, trivial⟩
    · have e := of_decide_eq_false e
      refine y_if S F (b := decide (cc = 9)) (by rw [← eq_tab]; refine tst_cmp (H := H') (d₁ := .str ⟨#[cc]⟩) (d₂ := .str (S' "\t")) ?_ ?_ cmp_eq_str <;> walk_at "EV") (fun e9 s₈ S F => ?_) (fun e9 s₈ S F => ?_)
      · have e9 := of_decide_eq_true e9
        dsimp only [List.cons_append, List.nil_append]
        have est : st.step cc = ⟨st.n + 1, 0, st.nt + 1, st.pad.set st.b (st.pad.getD st.b 0 + 1)⟩ := by
          unfold WS.step; rw [if_neg e, if_pos e9]
        refine x_asg_local N Oc' S F (d := .int ((st.n + 1 : Nat) : Int)) (by refine Ev.int_eq (ev_add (a := (st.n : Int)) (b := 1) ?_ ?_) (by omega) <;> walk_at "EV") rfl fun s₉ S F => ?_
        refine x_asg_local N Oc' S F (d := .int ((st.nt + 1 : Nat) : Int)) (by refine Ev.int_eq (ev_add (a := (st.nt : Int)) (b := 1) ?_ ?_) (by omega) <;> walk_at "EV") rfl fun s₁₀ S F => ?_
        have hpl := pad_len st
        have hpz : st.pad.length ≤ 102 := by
          unfold WS.pad
          split
          · omega
          · simp; omega
        have hget : st.pad[st.b]? = some (st.pad.getD st.b 0) := by
          rw [List.getD_eq_getElem?_getD, List.getElem?_eq_getElem hpl]; rfl
        refine y_if_join (fun s' => ∃ c2, (c2 = c' ∨ s₆.heap.get? c2 = none) ∧ c2 ∉ H' ∧ h₀.get? c2 = none ∧ Chg [c', L, ix, dx] s₆ s' ∧ FSt h₀ env (c2 :: H') [(c2, .lst (dInts st.pad)), (ix, .raw (instObj 119 dx)), (dx, .nsd [(S' "raw", .str x)])]
          [(S' "nt", .int ((st.nt + 1 : Nat) : Int)), (S' "n", .int ((st.n + 1 : Nat) : Int)), (S' "b", .int st.b), (S' "count", .val (.ref c2)), (S' "T", .str (S' "\t")), (S' "S", .str (S' " ")), (S' "self", .val (.ref ix))] s')
          S F (b := decide ((st.b : Int) ≥ (st.cs.length : Int))) (tst_cmp (H := H') ?_ (ev_lenL B N rfl (ev_owned (l := c') (H := c' :: H') ?_ (.head _) hc'H hHs) (by rw [dInts_len]) (by rw [dInts_len]; omega)) cmp_ge) (fun eb s₁₁ S F => ?_) (fun eb s₁₁ S F => ?_) ?_
        · walk_at "EV"
        · walk_at "EV"
        · have eb : st.cs.length ≤ st.b := by have := of_decide_eq_true eb; omega
          have epad : st.pad = st.cs ++ List.replicate (st.b - st.cs.length + 1) 0 := by unfold WS.pad; rw [if_neg (by omega)]
          refine x_new_local N Oc' S F (mk_add_ints (H := H') (a := st.cs) (b := List.replicate (st.b - st.cs.length + 1) 0) (ev_owned (l := c') (H := c' :: H') ?_ (.head _) hc'H hHs) (Ev.to (d := .list (List.replicate (st.b - st.cs.length + 1) (.int 0))) (ev_mul_one (hx_fs hHs) (ev_list (hx_fs hHs) (evs_cons ev_int evs_nil) (by decide)) (Ev.int_eq (ev_add (a := (st.b : Int) - (st.cs.length : Int)) (b := 1) (ev_sub ?_ (ev_lenL B N rfl (ev_owned (l := c') (H := c' :: H') ?_ (.head _) hc'H hHs) (by rw [dInts_len]) (by rw [dInts_len]; omega))) ?_) (by omega)) (by omega)) (by simp [dInts])) (by simp; omega)) rfl fun c2 ow2 s₁₂ how2 hc2 hc2H O2 S F => ?_
          · walk_at "EV"
          · walk_at "EV"
          · walk_at "EV"
          · walk_at "EV"
          · subst how2
            refine x_nil ⟨rfl, c2, .inr hc2, fun h => hc2H (.tail _ h), O2.hid _ (.head _), S.drop fun a ha => (List.mem_cons.mp ha).elim (fun z => .inr (z ▸ hc2)) .inl, ?_⟩
            rw [epad]
            exact F.drop2.cov ⟨rfl, rfl, rfl, rfl, rfl, rfl, rfl, trivial⟩
        · have eb : st.b < st.cs.length := by have := of_decide_eq_false eb; omega
          have epad : st.pad = st.cs := by unfold WS.pad; rw [if_pos eb]
          refine x_nil ⟨rfl, c', .inl rfl, hc'H, Oc'.hid _ (.head _), S, ?_⟩
          rw [epad]
          exact F.cov ⟨rfl, rfl, rfl, rfl, rfl, rfl, rfl, trivial⟩
        · rintro s₁₁ ⟨c2, hc2f, hc2H, hc20, S, F⟩
          have O2 := O'.own1 hc20 hc2H
          have hHs2 : ∀ b ∈ H', b ∈ c2 :: H' := fun b h => .tail _ h
          have S2 := Chg.refl (c2 :: [L, ix, dx]) s₁₁
          refine x_setitem (pre := []) (post := [(ix, .raw (instObj 119 dx)), (dx, .nsd [(S' "raw", .str x)])]) (l := c2) (es₀ := dInts st.pad) (k := st.b) (d := .int (st.pad.getD st.b 0 + 1)) O2 S2 F rfl (Ev.int_any (H' := H') (ev_add (ev_sub_ (d₁ := .list (dInts st.pad)) (d₂ := .int st.b) (ev_owned (l := c2) (H := c2 :: H') ?_ (.head _) hc2H hHs2) ?_ (itm_listN (dInts_get hget) (by omega))) ev_int)) ?_ ?_ (by rw [dInts_len]; exact hpl) (by rw [dInts_len]; omega) fun s₁₂ S2 F => ?_
          · walk_at "EV"
          · walk_at "EV"
          · walk_at "EV"
          · walk_at "EV"
          refine x_asg_local N O2 S2 F (d := .int 0) (by walk_at "EV") rfl fun s₁₃ S2 F => x_nil ⟨?_, hC' (by subst e9; rfl), c2, hc2f, ?_⟩
          · refine (S.more (W' := c2 :: [c', L, ix, dx]) fun a ha => .tail _ ha).trans (S2.more fun a ha => (List.mem_cons.mp ha).elim (fun z => z ▸ .head _) fun z => .tail _ (.tail _ z)) |>.drop fun a ha => ?_
            rcases List.mem_cons.mp ha with rfl | ha
            · rcases hc2f with z | z
              · exact .inl (z ▸ .head _)
              · exact .inr z
            · exact .inl ha
          · rw [eN, est]
            have ed : (dInts st.pad).set st.b (.int (st.pad.getD st.b 0 + 1)) = dInts (st.pad.set st.b (st.pad.getD st.b 0 + 1)) := by simp [dInts, List.map_set]
            rw [← ed]
            exact F.cov ⟨rfl, rfl, rfl, rfl, rfl, rfl, rfl, trivial⟩
      · have e9 := of_decide_eq_false e9
        refine x_brk ⟨S, ?_, c', .inl rfl, F.cov ⟨rfl, rfl, rfl, rfl, rfl, rfl, rfl, trivial⟩⟩
        unfold wsRun
        rw [takeWhile_take hci hC (by unfold isWs; simp [e, e9])]
        exact hst
  · intro hC
    rw [List.length_map, List.take_length] at hC
    show wsRun x.cps.toList = wsAll (x.cps.toList.take (x.cps.toList.map _).length)
    rw [List.length_map, List.take_length]
    unfold wsRun
    rw [takeWhile_all hC]
  · intro i c' s₆ hi hC hcH' hc0' hcf S F
    have bd := ws_bounds (x.cps.toList.take i)
    have hti : (x.cps.toList.take i).length ≤ 100 := by rw [List.length_take]; omega
    rw [← hC] at bd F
    generalize hr : wsRun x.cps.toList = r at *
    have O2 := O.own1 hc0' hcH'
    have hHs : ∀ b ∈ L :: H, b ∈ c' :: L :: H := fun b h => .tail _ h
    have S₁ : Chg (c' :: [L, ix, dx]) s₁ s₁ := Chg.refl _ _
    have hsm : ∀ a ∈ [L, ix, dx], a ∈ L :: H := O.WH
    have hcf1 : s₁.heap.get? c' = none := by
      rcases hcf with rfl | z
      · exact hc
      · by_cases hcc : c' = c
        · exact hcc ▸ hc
        · exact Sl.fresh (fun q => (List.mem_cons.mp q).elim hcc fun q => hcH' (hsm _ q)) z
    have S : Chg (c' :: [L, ix, dx]) s₁ s₆ := (S.more (W' := c :: c' :: [L, ix, dx]) fun a ha => (List.mem_cons.mp ha).elim (fun z => z ▸ .head _) fun z => .tail _ (.tail _ z)) |>.drop fun a ha => (List.mem_cons.mp ha).elim (fun z => .inr (z ▸ hc)) .inl
    refine x_store_attr (pre := [(c', .lst (dInts r.cs)), (ix, .raw (instObj 119 dx))]) (post := []) (x := ix) (d := .int r.n) B O2 S F rfl (.tail _ (.head _)) ?_ ?_ (by kernel_rfl) (by rw [typeLookup_type, builtinLookup_eq_fast]; kernel_rfl) (by simp) fun s₇ S F => ?_
    · walk_at "EV"
    · walk_at "EV"
    refine x_store_attr (pre := [(c', .lst (dInts r.cs)), (ix, .raw (instObj 119 dx))]) (post := []) (x := ix) (d := .int r.nt) B O2 S F rfl (.tail _ (.head _)) ?_ ?_ (by kernel_rfl) (by rw [typeLookup_type, builtinLookup_eq_fast]; kernel_rfl) (by simp) fun s₈ S F => ?_
    · walk_at "EV"
    · walk_at "EV"
    refine x_store_attr (pre := [(c', .lst (dInts r.cs)), (ix, .raw (instObj 119 dx))]) (post := []) (x := ix) (d := .tup [.tup (dInts r.cs), .int r.b]) B O2 S F rfl (.tail _ (.head _)) ?_ (ev_tuple (hx_fs fun _ h => h) (evs_cons (ev_tuple_ints (H' := L :: H) B N rfl (ev_owned (l := c') (H := c' :: L :: H) ?_ (.head _) hcH' hHs) (by omega)) (evs_cons ?_ evs_nil)) (by simp)) (by kernel_rfl) (by rw [typeLookup_type, builtinLookup_eq_fast]; kernel_rfl) (by simp) fun s₉ S F => ?_
    · walk_at "EV"
    · walk_at "EV"
    · walk_at "EV"
    refine x_store_attr (pre := [(c', .lst (dInts r.cs)), (ix, .raw (instObj 119 dx))]) (post := []) (x := ix) (d := .bool (decide ((r.cs.length : Int) ≤ 1))) B O2 S F rfl (.tail _ (.head _)) ?_ (Ev.bool_any (H' := L :: H) (ev_cmp (d₁ := .int r.cs.length) (d₂ := .int 1) (ev_lenL B N rfl (ev_owned (l := c') (H := c' :: L :: H) ?_ (.head _) hcH' hHs) (by rw [dInts_len]) (by rw [dInts_len]; omega)) ev_int cmp_le)) (by kernel_rfl) (by rw [typeLookup_type, builtinLookup_eq_fast]; kernel_rfl) (by simp) fun s₁₀ S F => ?_
    · walk_at "EV"
    · walk_at "EV"
    refine x_nil ?_
    have ed : decide ((r.cs.length : Int) ≤ 1) = decide (r.cs.length ≤ 1) := decide_eq_decide.mpr (by omega)
    rw [ed] at F
    have S' : Chg [L, ix, dx] s₁ s₁₀ := S.drop fun a ha => (List.mem_cons.mp ha).elim (fun z => .inr (z ▸ hcf1)) .inl
    have sub : ∀ a ∈ H, a ∈ c' :: L :: H := fun a h => .tail _ (.tail _ h)
    refine q s₁₀ ((C.more fun a ha => nomatch ha).trans S' |>.drop fun a ha => (List.mem_cons.mp ha).elim (fun z => .inr (z ▸ hL)) .inl) ?_ ?_
    · exact F.owns (ix, _) (.tail _ (.head _))
    · have h := F.owns (dx, _) (.tail _ (.tail _ (.head _)))
      have h := h.mv (H' := H) (fun _ _ r => r.sub sub) (fun _ e => e)
      unfold wsFields
      rw [hr]
      exact h
end
end

section
section
variable {prog : Program} {w : World} {A : Around} {Φ : Sp} {h₀ : Heap} {s₀ s : Shared} {W : List Addr} {env : Env} {H H' : List Addr} {own : List (Addr × Ow)} {pm : List (Str × Dt)} {mg mb : Str → Option Value} {nm : List (Str × NameKind)} {oa : List Addr} {e : Expr} {p pos : Pos}

theorem Room.make {A : Around} {n : Nat} {rest : List Value} (R : Room A (n + 1)) : Room (A.under (.builtin "type.__call__" ⟨.ref 119 :: rest, []⟩)) n :=
  ⟨R.hh, by have := R.dp; show A.depth + 1 + n < 900; omega, by
    have := R.un
    have hu : (A.under (.builtin "type.__call__" ⟨.ref 119 :: rest, []⟩)).units ≤ A.units + 3 := Nat.add_le_add_left (show (Code.builtin "type.__call__" ⟨[], []⟩).cUnits ≤ 3 by decide +kernel) _
    omega⟩

theorem rdFs_of {h : Heap} {H : List Addr} {m : Str → Option Value} : ∀ {fs : List (Str × Dt)}, (fs.map (·.1)).Nodup → (∀ x d, fs.lookup x = some d → ∃ v, m x = some v ∧ Rd h H d v) → RdFs h H fs m
  | [], _, _ => trivial
  | (y, d') :: r, hn, k => by
    rw [List.map_cons, List.nodup_cons] at hn
    refine ⟨k y d' (by simp), rdFs_of hn.2 fun x d e => k x d ?_⟩
    rw [List.lookup_cons]
    have hne : (x == y) = false := by
      rw [beq_eq_false_iff_ne]
      rintro rfl
      exact hn.1 (lookup_mem (by rw [e]; simp))
    rw [hne]; exact e

theorem ev_ws {x : Str} {m : Nat} (B : Base w mg mb h₀) (N : Nm env nm) (hl : nm.lookup (Str.ofString "Whitespace") = some .globalImplicit) (h : Ev prog w A (fs h₀ env H own pm) H' env e (.str x)) (hz : x.cps.toList.length ≤ 100) (Rm : Room A m) (hm : 4 ≤ m) (h0 : ∀ a ∈ H, h₀.get? a = none) (hH : ∀ a ∈ H', a ∈ H)
    (hc : eval (.Call (.Name (Str.ofString "Whitespace") p) [e] [] pos) env = (do callWith pos (← eval (.Name (Str.ofString "Whitespace") p) env) [] (backTo pos (starEach [e] env)) (backToKw pos (keywordEach [] env))) := by rfl)
    (he : starEach [e] env = (false, eval e env) :: starEach [] env := by rfl) (hp : (backTo pos (starEach [] env)).any (·.1) = false := by rfl) : Ev prog w A (fs h₀ env H own pm) H' env (.Call (.Name (Str.ofString "Whitespace") p) [e] [] pos) (.obj 119 (wsFields x)) := ⟨fun s F Q E q => by
  refine Call_ ((ev_g_Whitespace B N hl (H' := H') (pos := p)).run s F _ _ fun f s₁ k₁ r₁ => ?_) hc
  obtain rfl : f = .ref 119 := r₁
  have F₁ := F.keeps k₁
  refine callWith_K (K := hd.heap_39 w.params) (B.X.keeps F₁.base) (by kernel_rfl) ((evs_cons h evs_nil he).run s₁ pos F₁ _ _ fun vs s₂ k₂ r₂ => ?_) he hp
  have F₂ := F₁.keeps k₂
  have X := B.X.keeps F₂.base
  obtain ⟨v, rfl, r3⟩ := rd1 r₂
  refine ⟨X, wpAny_call ?_⟩
  obtain ⟨hp2, g, d, t, os⟩ := s₂
  dsimp only at F₂ X r3
  refine make_core (h := hp2) (init := .ref 74) (makes_of X (by kernel_rfl)) (looks_findIn X (by kernel_rfl)) (fun self => bind_fn X self (by kernel_rfl)) (.inl rfl) ?_
  have kp : ∀ b o, hp2.get? b = some o → ((hp2.push emptyDict).push (instObj 119 hp2.objs.size)).get? b = some o := fun b o e => Heap.get?_push_of_some _ (Heap.get?_push_of_some _ e)
  have hdx : ((hp2.push emptyDict).push (instObj 119 hp2.objs.size)).get? hp2.objs.size = some emptyDict := Heap.get?_push_of_some _ (Heap.get?_push_size _ rfl)
  have hix : ((hp2.push emptyDict).push (instObj 119 hp2.objs.size)).get? (hp2.objs.size + 1) = some (instObj 119 hp2.objs.size) := by
    have := Heap.get?_push_size (hp2.push emptyDict) (o := instObj 119 hp2.objs.size) rfl
    rwa [Heap.size_push] at this
  have fr0 : hp2.get? hp2.objs.size = none := get_size _
  have fr1 : hp2.get? (hp2.objs.size + 1) = none := Heap.get?_none_of_le (Nat.le_succ _)
  have nH : ∀ a, hp2.get? a = none → a ∉ H' := fun a ha q => by obtain ⟨o, e⟩ := F₂.ex a (hH a q); rw [ha] at e; cases e
  have n0 : ∀ a, hp2.get? a = none → h₀.get? a = none := fun a ha => by
    cases q : h₀.get? a with
    | none => rfl
    | some o => have := F₂.base a o q; rw [ha] at this; cases this
  have k23 : Keeps ⟨hp2, g, d, t, os⟩ ⟨(hp2.push emptyDict).push (instObj 119 hp2.objs.size), g, d, t, os⟩ := ⟨_, t, rfl, kp⟩
  refine init_ws B hz prog _ ⟨(hp2.push emptyDict).push (instObj 119 hp2.objs.size), g, d, t, os⟩ ((hp2.objs.size + 1) :: hp2.objs.size :: H') (hp2.objs.size + 1) hp2.objs.size v ((Rm.less hm).make) (fun b o e => kp b o (F₂.base b o e)) (fun a ha => ?_) (fun a ha => ?_) (.head _) (.tail _ (.head _)) (Nat.succ_ne_self _) hix ⟨fun _ => none, ⟨_, #[], 0, hdx, rfl, (fun e he => nomatch he), (by unfold UniqKeys; simp), fun name => rfl⟩, fun _ _ => rfl, fun x d e => nomatch e⟩ ?_ _ fun s' c o1 o2 => ⟨rfl, ?_⟩
  · rcases List.mem_cons.mp ha with rfl | ha
    · exact n0 _ fr1
    · rcases List.mem_cons.mp ha with rfl | ha
      · exact n0 _ fr0
      · exact h0 a (hH a ha)
  · rcases List.mem_cons.mp ha with rfl | ha
    · exact ⟨_, hix⟩
    · rcases List.mem_cons.mp ha with rfl | ha
      · exact ⟨_, hdx⟩
      · obtain ⟨o, e⟩ := F₂.ex a (hH a ha); exact ⟨o, kp a o e⟩
  · obtain ⟨t', rfl⟩ := r3
    exact ⟨t', rfl⟩
  · have kf : Keeps ⟨hp2, g, d, t, os⟩ s' := (((Chg.keeps k23).trans c).drop (W := []) fun a ha => by
      rcases List.mem_cons.mp ha with rfl | ha
      · exact .inr fr1
      · rw [List.mem_singleton.mp ha]; exact .inr fr0).toKeeps
    refine q _ _ (keepsTrans (keepsTrans k₁ k₂) kf) ?_
    obtain ⟨m', hn, hex, hr⟩ := o2
    refine ⟨hp2.objs.size + 1, hp2.objs.size, m', rfl, nH _ fr1, nH _ fr0, o1, hn, Nat.ne_of_lt (Nat.lt_succ_self _), hex, rdFs_of (show ([S' "is_simple", S' "norm", S' "nt", S' "n", S' "raw"] : List Str).Nodup by decide +kernel) fun y d' e => ?_⟩
    obtain ⟨u, eu, ru⟩ := hr y d' e
    exact ⟨u, eu, ru.sub fun a ha => .tail _ (.tail _ ha)⟩⟩
end
end

section
section
variable {prog : Program} {w : World} {A : Around} {Φ : Sp} {h₀ : Heap} {s₀ s : Shared} {W : List Addr} {env : Env} {H H' : List Addr} {own : List (Addr × Ow)} {pm : List (Str × Dt)} {mg mb : Str → Option Value} {nm : List (Str × NameKind)} {oa : List Addr} {e : Expr} {p pos : Pos} {ds : List Dt}
  {Q : Flow → Shared → Prop} {rest : List Stmt}

theorem cl_lenT {k : Int} (hn : (ds.length : Int) = k) (hz : ds.length ≤ 1000) : Cl prog w A Φ H (.builtin "len") [.tup ds] (.int k) := ⟨fun s vs hs r Q E q => by
  obtain ⟨v, rfl, a, us, n, rfl, ha, hl, r⟩ := rd1 r
  refine P.len_tuple hl (by rw [List.size_toArray, r.length]; omega) ?_
  rw [List.size_toArray, r.length, hn]
  exact q _ _ (keepsTok s _) ⟨_, rfl⟩⟩
theorem ev_lenT {k : Int} (B : Base w mg mb h₀) (N : Nm env nm) (hl : nm.lookup (Str.ofString "len") = some .globalImplicit) (h : Ev prog w A (fs h₀ env H own pm) H' env e (.tup ds)) (hn : (ds.length : Int) = k) (hz : ds.length ≤ 1000)
    (hc : eval (.Call (.Name (Str.ofString "len") p) [e] [] pos) env = (do callWith pos (← eval (.Name (Str.ofString "len") p) env) [] (backTo pos (starEach [e] env)) (backToKw pos (keywordEach [] env))) := by rfl) (st0 : starEach [e] env = (false, eval e env) :: starEach [] env := by rfl) (hp : (backTo pos (starEach [] env)).any (·.1) = false := by rfl) :
    Ev prog w A (fs h₀ env H own pm) H' env (.Call (.Name (Str.ofString "len") p) [e] [] pos) (.int k) :=
  ev_call_b (ev_len B N hl) (evs_cons h evs_nil st0) (cl_lenT hn hz) hc st0 hp

theorem x_unpack2 {x y : Str} {px py pt : Pos} {kt : Nat} {d₁ d₂ : Dt} (O : FOk h₀ W env H oa) (S : Chg W s₀ s) (F : FSt h₀ env H own pm s) (hh : A.handled = none) (h : Ev prog w A (fs h₀ env H own pm) H env e (.tup [d₁, d₂])) (hlx : Sto prog w A h₀ W env oa x) (hly : Sto prog w A h₀ W env oa y)
    (k : ∀ s', Chg W s₀ s' → FSt h₀ env H own ((y, d₂) :: (x, d₁) :: pm) s' → Ex prog w A rest env Q s')
    (hw : swappedStores [.Tuple [.Name x px, .Name y py] kt pt] e env = pure none := by rfl) (hs : swapsWithSole [.Tuple [.Name x px, .Name y py] kt pt] e pos.line env = pure false := by rfl) (ho : own.map (·.1) = oa := by rfl) :
    Ex prog w A (.Assign [.Tuple [.Name x px, .Name y py] kt pt] e pos :: rest) env Q s := ⟨fun E => by
  refine wpAny_execs_cons (wpAny_Assign_stores (h.run s F _ _ fun v s₁ k₁ r₁ => ?_) hs hw)
  obtain ⟨t, vs, n, rfl, ht, hT, rr⟩ := r₁
  obtain ⟨v₁, v₂, rfl, r1, r2⟩ := rd2 rr
  have F₁ := F.keeps k₁
  have hT' : s₁.heap.IsTuple t ([v₁, v₂] : List Value).toArray := ⟨_, hT, rfl, n, rfl⟩
  show wpAny _ A (assign (.Tuple [.Name x px, .Name y py] kt pt) env (.ref t)) _ _ _
  rw [PyProof.Rows.assign_Tuple]
  refine wpAny_bind (wpAny_standAt (wpAny_unpack_tuple (items := ([v₁, v₂] : List Value).toArray) hh hT' rfl rfl fun h' hx => ?_))
  have kk : Keeps s₁ { s₁ with heap := h' } := ⟨h', s₁.toks, rfl, fun b o e => hx b o (Nat.ne_of_lt (Heap.lt_size e)) e⟩
  have F₂ := F₁.keeps kk
  have mv : ∀ {s s' : Shared} {d v}, Chg W s s' → Rd s.heap H d v → Rd s'.heap H d v := fun c r => Rd.move (fun b o hb e => ⟨c.get (fun q => hb (O.WH b q)) e, hb⟩) _ _ r
  show wpAny _ A (assignInOrder [assign (.Name x px) env, assign (.Name y py) env] [v₁, v₂]) _ _ _
  refine wpAny_assignInOrder_more (wpAny_assign_Name (hlx.run _ H own pm v₁ d₁ _ _ O ho F₂ (r1.keeps (keepsHeap kk)) fun s₃ S₃ F₃ => ?_))
  refine wpAny_assignInOrder_more (wpAny_assign_Name (hly.run _ H own _ v₂ d₂ _ _ O ho F₃ (mv S₃ (r2.keeps (keepsHeap kk))) fun s₄ S₄ F₄ => ?_))
  exact wpAny_assignInOrder_none ((k s₄ ((((S.trans (Chg.keeps k₁)).trans (Chg.keeps kk)).trans S₃).trans S₄) F₄).run E)⟩
theorem x_unpack3 {x y z : Str} {px py pz pt : Pos} {kt : Nat} {d₁ d₂ d₃ : Dt} (O : FOk h₀ W env H oa) (S : Chg W s₀ s) (F : FSt h₀ env H own pm s) (hh : A.handled = none) (h : Ev prog w A (fs h₀ env H own pm) H env e (.tup [d₁, d₂, d₃])) (hlx : Sto prog w A h₀ W env oa x) (hly : Sto prog w A h₀ W env oa y) (hlz : Sto prog w A h₀ W env oa z)
    (k : ∀ s', Chg W s₀ s' → FSt h₀ env H own ((z, d₃) :: (y, d₂) :: (x, d₁) :: pm) s' → Ex prog w A rest env Q s')
    (hw : swappedStores [.Tuple [.Name x px, .Name y py, .Name z pz] kt pt] e env = pure none) (hs : swapsWithSole [.Tuple [.Name x px, .Name y py, .Name z pz] kt pt] e pos.line env = pure false := by rfl) (ho : own.map (·.1) = oa := by rfl) :
    Ex prog w A (.Assign [.Tuple [.Name x px, .Name y py, .Name z pz] kt pt] e pos :: rest) env Q s := ⟨fun E => by
  refine wpAny_execs_cons (wpAny_Assign_stores (h.run s F _ _ fun v s₁ k₁ r₁ => ?_) hs hw)
  obtain ⟨t, vs, n, rfl, ht, hT, rr⟩ := r₁
  obtain ⟨v₁, v₂, v₃, rfl, r1, r2, r3⟩ := rd3 rr
  have F₁ := F.keeps k₁
  have hT' : s₁.heap.IsTuple t ([v₁, v₂, v₃] : List Value).toArray := ⟨_, hT, rfl, n, rfl⟩
  show wpAny _ A (assign (.Tuple [.Name x px, .Name y py, .Name z pz] kt pt) env (.ref t)) _ _ _
  rw [PyProof.Rows.assign_Tuple]
  refine wpAny_bind (wpAny_standAt (wpAny_unpack_tuple (items := ([v₁, v₂, v₃] : List Value).toArray) hh hT' rfl rfl fun h' hx => ?_))
  have kk : Keeps s₁ { s₁ with heap := h' } := ⟨h', s₁.toks, rfl, fun b o e => hx b o (Nat.ne_of_lt (Heap.lt_size e)) e⟩
  have F₂ := F₁.keeps kk
  have mv : ∀ {s s' : Shared} {d v}, Chg W s s' → Rd s.heap H d v → Rd s'.heap H d v := fun c r => Rd.move (fun b o hb e => ⟨c.get (fun q => hb (O.WH b q)) e, hb⟩) _ _ r
  show wpAny _ A (assignInOrder [assign (.Name x px) env, assign (.Name y py) env, assign (.Name z pz) env] [v₁, v₂, v₃]) _ _ _
  refine wpAny_assignInOrder_more (wpAny_assign_Name (hlx.run _ H own pm v₁ d₁ _ _ O ho F₂ (r1.keeps (keepsHeap kk)) fun s₃ S₃ F₃ => ?_))
  refine wpAny_assignInOrder_more (wpAny_assign_Name (hly.run _ H own _ v₂ d₂ _ _ O ho F₃ (mv S₃ (r2.keeps (keepsHeap kk))) fun s₄ S₄ F₄ => ?_))
  refine wpAny_assignInOrder_more (wpAny_assign_Name (hlz.run _ H own _ v₃ d₃ _ _ O ho F₄ (mv S₄ (mv S₃ (r3.keeps (keepsHeap kk)))) fun s₅ S₅ F₅ => ?_))
  exact wpAny_assignInOrder_none ((k s₅ (((((S.trans (Chg.keeps k₁)).trans (Chg.keeps kk)).trans S₃).trans S₄).trans S₅) F₅).run E)⟩
end

section
variable {w : World} {mg mb : Str → Option Value} {h₀ : Heap}
noncomputable def longest (r : WS) : Int := max ((r.cs.length : Int) - 1) r.b
theorem norm_of {x : Str} : (wsFields x).lookup (S' "norm") = some (.tup [.tup (dInts (wsRun x.cps.toList).cs), .int (wsRun x.cps.toList).b]) := rfl

theorem pc_longest (B : Base w mg mb h₀) {x : Str} (hz : x.cps.toList.length ≤ 100) : PC w mg mb h₀ (.ref 81) 1 [.obj 119 (wsFields x)] [] (.int (longest (wsRun x.cps.toList))) := by
  refine pc_fn [(S' "self", .obj 119 (wsFields x))] B (hl := rfl) (hcd := by kernel_rfl) (hbody := rfl) (hge := rfl) (hclo := rfl) (hbe := rfl) (hcell := by decide +kernel) (hco := rfl) (hgen := rfl) (hk := rfl) ?_ ?_
  · intro h H args kws r rk
    obtain ⟨v, rfl, r1⟩ := rd1 r
    obtain rfl : kws = [] := rk
    exact ⟨[(S' "self", v)], fun S => by kernel_rfl, by kernel_rfl, rdb_cons r1 rdb_nil⟩
  · intro prog A env s₁ L H Rm N h0 O F
    dsimp only at N
    have S := Chg.refl [L] s₁
    have bd := ws_bounds (x.cps.toList.takeWhile isWs)
    have htw : (x.cps.toList.takeWhile isWs).length ≤ x.cps.toList.length := (List.takeWhile_sublist _).length_le
    change (wsRun _).n ≤ _ ∧ (wsRun _).b ≤ _ ∧ (wsRun _).nt ≤ _ ∧ (wsRun _).cs.length ≤ _ at bd
    refine x_unpack2 O S F Rm.hh (ev_field B ?_ (norm_of (x := x)) (by intro u q; cases q) (by kernel_rfl) (by rw [typeLookup_type, builtinLookup_eq_fast]; kernel_rfl)) (sto_local N rfl) (sto_local N rfl) fun s₂ S F => ?_
    · walk_at "EV"
    refine y_ret (H' := L :: H) S F (ev_max2 B N rfl (ev_sub (ev_lenT (ds := dInts (wsRun x.cps.toList).cs) B N rfl ?_ (by rw [dInts_len]) (by rw [dInts_len]; omega)) ev_int) ?_ Rm.hh) fun v s'' S'' F'' r => ⟨v, rfl, S'', r⟩
    · walk_at "EV"
    · walk_at "EV"

noncomputable def ilAt (cs : List Int) (ts j : Nat) : Int := ((List.range j).map fun i => ((ts + i : Nat) : Int) / (ts : Int) * cs.getD (ts + i) 0).sum
theorem ilAt_succ (cs : List Int) (ts j : Nat) : ilAt cs ts (j + 1) = ilAt cs ts j + ((ts + j : Nat) : Int) / (ts : Int) * cs.getD (ts + j) 0 := by
  unfold ilAt
  rw [List.range_succ, List.map_append, List.sum_append]
  simp
noncomputable def indent (r : WS) (ts : Nat) : Int := r.b + ts * (ilAt r.cs ts (r.cs.length - ts) + r.nt)
theorem ws_bd {x : Str} : (wsRun x.cps.toList).n ≤ x.cps.toList.length ∧ (wsRun x.cps.toList).b ≤ x.cps.toList.length ∧ (wsRun x.cps.toList).nt ≤ x.cps.toList.length ∧ (wsRun x.cps.toList).cs.length ≤ x.cps.toList.length := by
  have bd := ws_bounds (x.cps.toList.takeWhile isWs)
  have htw : (x.cps.toList.takeWhile isWs).length ≤ x.cps.toList.length := (List.takeWhile_sublist _).length_le
  change (wsRun _).n ≤ _ ∧ (wsRun _).b ≤ _ ∧ (wsRun _).nt ≤ _ ∧ (wsRun _).cs.length ≤ _ at bd
  omega

theorem pc_indent (B : Base w mg mb h₀) {x : Str} {ts : Nat} (hz : x.cps.toList.length ≤ 100) (h1 : 1 ≤ ts) (h2 : ts ≤ 1000) : PC w mg mb h₀ (.ref 88) 1 [.obj 119 (wsFields x), .int ts] [] (.int (indent (wsRun x.cps.toList) ts)) := by
  refine pc_fn [(S' "tabsize", .int ts), (S' "self", .obj 119 (wsFields x))] B (hl := rfl) (hcd := by kernel_rfl) (hbody := rfl) (hge := rfl) (hclo := rfl) (hbe := rfl) (hcell := by decide +kernel) (hco := rfl) (hgen := rfl) (hk := rfl) ?_ ?_
  · intro h H args kws r rk
    obtain ⟨v, u, rfl, r1, r2⟩ := rd2 r
    obtain rfl : kws = [] := rk
    exact ⟨[(S' "self", v), (S' "tabsize", u)], fun S => by kernel_rfl, by kernel_rfl, rdb_cons r2 (rdb_cons r1 rdb_nil)⟩
  · intro prog A env s₁ L H Rm N h0 O F
    dsimp only at N
    have S := Chg.refl [L] s₁
    have bd := ws_bd (x := x)
    have lenZ : ((dInts (wsRun x.cps.toList).cs).length : Int) = ((wsRun x.cps.toList).cs.length : Int) := by rw [dInts_len]
    refine x_unpack2 O S F Rm.hh (ev_field B ?_ (norm_of (x := x)) (by intro u q; cases q) (by kernel_rfl) (by rw [typeLookup_type, builtinLookup_eq_fast]; kernel_rfl)) (sto_local N rfl) (sto_local N rfl) fun s₂ S F => ?_
    · walk_at "EV"
    refine x_asg_local N O S F (d := .int 0) (by walk_at "EV") rfl fun s₃ S F => ?_
    refine x_for (dsrc := .rng (ts : Int) ((wsRun x.cps.toList).cs.length : Int) 1) (fun i => [(S' "il", .int (ilAt (wsRun x.cps.toList).cs ts i)), (S' "trailing", .int (wsRun x.cps.toList).b), (S' "count", .tup (dInts (wsRun x.cps.toList).cs)), (S' "tabsize", .int ts), (S' "self", .obj 119 (wsFields x))]) (fun _ => []) (fun i => True) (fun _ => False) (fun _ _ => False) N O S (F.cov ⟨rfl, rfl, rfl, rfl, rfl, trivial⟩) trivial (ev_range2 B N rfl (fun _ h => h) ?_ (ev_lenT (ds := dInts (wsRun x.cps.toList).cs) B N rfl ?_ lenZ (by rw [dInts_len]; omega))) (it_range_from Rm.hh (by omega) (by omega)) rfl ?_ (fun _ _ _ f => f.elim) (fun _ _ _ f => f.elim) ?_
    · walk_at "EV"
    · walk_at "EV"
    · intro i d s₄ H' hd hC hsub O' F
      obtain ⟨hlt, rfl⟩ := range_get hd
      clear hd
      have hi : ts + i < (wsRun x.cps.toList).cs.length := by omega
      have hg : (dInts (wsRun x.cps.toList).cs)[ts + i]? = some (.int ((wsRun x.cps.toList).cs.getD (ts + i) 0)) := dInts_get (by rw [List.getD_eq_getElem?_getD, List.getElem?_eq_getElem hi]; rfl)
      have hq : ((ts + i : Nat) : Int) / (ts : Int) ≤ ((ts + i : Nat) : Int) := Int.ediv_le_self _ (by omega)
      have hq0 : 0 ≤ ((ts + i : Nat) : Int) / (ts : Int) := Int.ediv_nonneg (by omega) (by omega)
      refine x_asg_local N O' (Chg.refl [L] s₄) F (d := .int (ilAt (wsRun x.cps.toList).cs ts (i + 1))) (Ev.int_eq (ev_add ?_ (ev_mul (ev_fdiv ?_ ?_ (by omega) (by omega)) (ev_sub_ (d₁ := .tup (dInts (wsRun x.cps.toList).cs)) (d₂ := .int ((ts + i : Nat) : Int)) ?_ ?_ (itm_tupN hg (by omega))) (by omega))) (ilAt_succ _ _ _).symm) rfl fun s₅ S F => x_nil ⟨S, trivial, F.cov ⟨rfl, rfl, rfl, rfl, rfl, trivial⟩⟩
      · walk_at "EV"
      · walk_at "EV"
      · walk_at "EV"
      · walk_at "EV"
      · walk_at "EV"
    · intro s₄ hC S F
      rw [List.length_map, List.length_range] at F
      refine y_ret (H' := L :: H) (d := .int (indent (wsRun x.cps.toList) ts)) S F (ev_add ?_ (ev_mul ?_ (ev_add ?_ (ev_field (fs₁ := wsFields x) B ?_ rfl (by intro u q; cases q) (by kernel_rfl) (by rw [typeLookup_type, builtinLookup_eq_fast]; kernel_rfl))) (by omega))) fun v s'' S'' F'' r => ⟨v, rfl, S'', r⟩
      · walk_at "EV"
      · walk_at "EV"
      · walk_at "EV"
      · walk_at "EV"
end
end

local macro_rules | `(tactic| walk_at "FLD") => `(tactic| first
  | exact rfl
  | (intro u q; cases q)
  | kernel_rfl
  | (rw [typeLookup_type, builtinLookup_eq_fast]; kernel_rfl))

section
section
variable {w : World} {mg mb : Str → Option Value} {h₀ : Heap}
noncomputable def simp' (r : WS) : Bool := decide (r.cs.length ≤ 1)
noncomputable def topN (r q : WS) : Nat := (max (longest r) (longest q) + 1).toNat
noncomputable def geAt (r q : WS) (ts : Nat) : Bool := decide (indent r ts ≥ indent q ts)
noncomputable def lessB (r q : WS) : Bool :=
  if (r.n : Int) ≥ q.n then false
  else if simp' r && simp' q then decide ((r.nt : Int) ≤ q.nt)
  else (List.range (topN r q + 1 - 2)).all fun i => !geAt r q (2 + i)
theorem topN_eq (r q : WS) : max (longest r) (longest q) + 1 = ((topN r q : Nat) : Int) := by
  unfold topN longest
  omega
theorem topN_le {x y : Str} (hx : x.cps.toList.length ≤ 100) (hy : y.cps.toList.length ≤ 100) : topN (wsRun x.cps.toList) (wsRun y.cps.toList) ≤ 102 := by
  have b1 := ws_bd (x := x)
  have b2 := ws_bd (x := y)
  unfold topN longest
  omega

theorem pc_less (B : Base w mg mb h₀) {x y : Str} (hx : x.cps.toList.length ≤ 100) (hy : y.cps.toList.length ≤ 100) : PC w mg mb h₀ (.ref 109) 2 [.obj 119 (wsFields x), .obj 119 (wsFields y)] [] (.bool (lessB (wsRun x.cps.toList) (wsRun y.cps.toList))) := by
  refine pc_fn [(S' "other", .obj 119 (wsFields y)), (S' "self", .obj 119 (wsFields x))] B (hl := rfl) (hcd := by kernel_rfl) (hbody := rfl) (hge := rfl) (hclo := rfl) (hbe := rfl) (hcell := by decide +kernel) (hco := rfl) (hgen := rfl) (hk := rfl) ?_ ?_
  · intro h H args kws r rk
    obtain ⟨v, u, rfl, r1, r2⟩ := rd2 r
    obtain rfl : kws = [] := rk
    exact ⟨[(S' "self", v), (S' "other", u)], fun S => by kernel_rfl, by kernel_rfl, rdb_cons r2 (rdb_cons r1 rdb_nil)⟩
  · intro prog A env s₁ L H Rm N h0 O F
    dsimp only at N
    have S := Chg.refl [L] s₁
    have hn := topN_le hx hy
    have hte := topN_eq (wsRun x.cps.toList) (wsRun y.cps.toList)
    refine y_if S F (b := decide (((wsRun x.cps.toList).n : Int) ≥ (wsRun y.cps.toList).n)) (tst_cmp (H := L :: H) (ev_field (fs₁ := wsFields x) (d := .int (wsRun x.cps.toList).n) B ?_ rfl (by intro u q; cases q) (by kernel_rfl) (by rw [typeLookup_type, builtinLookup_eq_fast]; kernel_rfl)) (ev_field (fs₁ := wsFields y) (d := .int (wsRun y.cps.toList).n) B ?_ rfl (by intro u q; cases q) (by kernel_rfl) (by rw [typeLookup_type, builtinLookup_eq_fast]; kernel_rfl)) cmp_ge) (fun e s₂ S F => ?_) (fun e s₂ S F => ?_)
    · walk_at "EV"
    · walk_at "EV"
    · have e := of_decide_eq_true e
      refine y_ret (H' := L :: H) (d := .bool false) S F (by walk_at "EV") fun v s'' S'' F'' r => ⟨v, rfl, S'', ?_⟩
      rw [show lessB _ _ = false from if_pos e]; exact r
    have e := of_decide_eq_false e
    refine y_if S F (b := simp' (wsRun x.cps.toList) && simp' (wsRun y.cps.toList)) (tst_and2 (tst_value (H := L :: H) (ev_field (fs₁ := wsFields x) B ?_ rfl (by intro u q; cases q) (by kernel_rfl) (by rw [typeLookup_type, builtinLookup_eq_fast]; kernel_rfl))) fun _ => tst_value (H := L :: H) (ev_field (fs₁ := wsFields y) B ?_ rfl (by intro u q; cases q) (by kernel_rfl) (by rw [typeLookup_type, builtinLookup_eq_fast]; kernel_rfl))) (fun e2 s₃ S F => ?_) (fun e2 s₃ S F => ?_)
    · walk_at "EV"
    · walk_at "EV"
    · refine y_ret (H' := L :: H) (d := .bool (decide (((wsRun x.cps.toList).nt : Int) ≤ (wsRun y.cps.toList).nt))) S F (ev_cmp (H := L :: H) (ev_field (fs₁ := wsFields x) (d := .int (wsRun x.cps.toList).nt) B ?_ rfl (by intro u q; cases q) (by kernel_rfl) (by rw [typeLookup_type, builtinLookup_eq_fast]; kernel_rfl)) (ev_field (fs₁ := wsFields y) (d := .int (wsRun y.cps.toList).nt) B ?_ rfl (by intro u q; cases q) (by kernel_rfl) (by rw [typeLookup_type, builtinLookup_eq_fast]; kernel_rfl)) cmp_le) fun v s'' S'' F'' r => ⟨v, rfl, S'', ?_⟩
      · walk_at "EV"
      · walk_at "EV"
      · have : lessB (wsRun x.cps.toList) (wsRun y.cps.toList) = decide (((wsRun x.cps.toList).nt : Int) ≤ (wsRun y.cps.toList).nt) := by unfold lessB; rw [if_neg e, if_pos e2]
        rw [this]; exact r
    have eL : lessB (wsRun x.cps.toList) (wsRun y.cps.toList) = (List.range (topN (wsRun x.cps.toList) (wsRun y.cps.toList) + 1 - 2)).all fun i => !geAt (wsRun x.cps.toList) (wsRun y.cps.toList) (2 + i) := by
      unfold lessB; rw [if_neg e, if_neg (by rw [e2]; decide)]
    rw [eL]
    generalize hgen : topN (wsRun x.cps.toList) (wsRun y.cps.toList) = tn at *
    refine x_asg_local N O S F (d := .int (tn : Int)) (Ev.int_eq (ev_add (ev_max2 B N rfl (ev_methD0 (y := none) (fs₁ := wsFields x) (f := 81) B ?_ rfl (by kernel_rfl) (by rw [typeLookup_type, builtinLookup_eq_fast]; kernel_rfl) rfl (pc_longest B hx) Rm (by decide) O.hid (fun _ h => h)) (ev_methD0 (y := none) (fs₁ := wsFields y) (f := 81) B ?_ rfl (by kernel_rfl) (by rw [typeLookup_type, builtinLookup_eq_fast]; kernel_rfl) rfl (pc_longest B hy) Rm (by decide) O.hid (fun _ h => h)) Rm.hh) ev_int) hte) rfl fun s₄ S F => ?_
    · walk_at "EV"
    · walk_at "EV"
    refine x_for (Q := fun fl s' => ∃ v, fl = .ret v ∧ Chg [L] s₁ s' ∧ Rd s'.heap (L :: H) (.bool ((List.range (tn + 1 - 2)).all fun i => !geAt (wsRun x.cps.toList) (wsRun y.cps.toList) (2 + i))) v) (dsrc := .rng ((2 : Nat) : Int) ((tn + 1 : Nat) : Int) 1) (fun _ => [(S' "n", .int tn), (S' "other", .obj 119 (wsFields y)), (S' "self", .obj 119 (wsFields x))]) (fun _ => []) (fun i => ∀ j, j < i → geAt (wsRun x.cps.toList) (wsRun y.cps.toList) (2 + j) = false) (fun _ => False)
      (fun v _ => ((List.range (tn + 1 - 2)).all fun i => !geAt (wsRun x.cps.toList) (wsRun y.cps.toList) (2 + i)) = false ∧ v = .bool false) N O S (F.cov ⟨rfl, rfl, rfl, trivial⟩) (fun j hj => absurd hj (Nat.not_lt_zero _)) (ev_range2 B N rfl (fun _ h => h) ?_ (Ev.int_eq (ev_add (a := (tn : Int)) (b := 1) ?_ ?_) (by omega))) (it_range_from (a := 2) (b := tn + 1) Rm.hh (by decide) (by omega)) rfl ?_ ?_ (fun _ _ _ f => f.elim) ?_
    · walk_at "EV"
    · exact ev_local N rfl rfl (fun _ h => h) (by decide)
    · walk_at "EV"
    · intro i d s₅ H' hd hC hsub O' F
      obtain ⟨hlt, rfl⟩ := range_get hd
      clear hd
      have S₅ := Chg.refl [L] s₅
      refine y_if S₅ F (b := geAt (wsRun x.cps.toList) (wsRun y.cps.toList) (2 + i)) (tst_cmp (H := H') (ev_methD (y := none) (fs₁ := wsFields x) (f := 88) (ds := [.int ((2 + i : Nat) : Int)]) B ?_ rfl (by kernel_rfl) (by rw [typeLookup_type, builtinLookup_eq_fast]; kernel_rfl) rfl (evs_cons ?_ evs_nil) (pc_indent B hx (by omega) (by omega)) Rm (by decide) O'.hid (fun _ h => h)) (ev_methD (y := none) (fs₁ := wsFields y) (f := 88) (ds := [.int ((2 + i : Nat) : Int)]) B ?_ rfl (by kernel_rfl) (by rw [typeLookup_type, builtinLookup_eq_fast]; kernel_rfl) rfl (evs_cons ?_ evs_nil) (pc_indent B hy (by omega) (by omega)) Rm (by decide) O'.hid (fun _ h => h)) cmp_ge) (fun eb s₆ S F => ?_) (fun eb s₆ S F => ?_)
      · walk_at "EV"
      · walk_at "EV"
      · walk_at "EV"
      · walk_at "EV"
      · dsimp only [List.cons_append, List.nil_append]
        refine y_ret (H' := H') (d := .bool false) S F (by walk_at "EV") fun v s'' S'' F'' r => ⟨S'', ?_, r⟩
        rw [List.all_eq_false]
        exact ⟨i, List.mem_range.mpr hlt, by rw [eb]; decide⟩
      · refine x_nil ⟨S, fun j hj => ?_, F.cov ⟨rfl, rfl, rfl, trivial⟩⟩
        by_cases hji : j = i
        · subst hji; exact eb
        · exact hC j (by omega)
    · rintro v s' S' ⟨h1, rfl⟩
      exact ⟨_, rfl, S', h1 ▸ rfl⟩
    · intro s' hC S' F'
      refine y_ret (H' := L :: H) (d := .bool true) S' F' (by walk_at "EV") fun v s₆ S₆ F₆ r => ⟨v, rfl, S₆, ?_⟩
      have : ((List.range (tn + 1 - 2)).all fun i => !geAt (wsRun x.cps.toList) (wsRun y.cps.toList) (2 + i)) = true := by
        rw [List.all_eq_true]
        intro j hj
        rw [hC j (by rw [List.length_map, List.length_range]; exact List.mem_range.mp hj)]
        rfl
      rw [this]
      exact r
end
end

section
section
variable {w : World} {mg mb : Str → Option Value} {h₀ : Heap}
noncomputable def witRow (r q : WS) (ts : Nat) : Dt := .tup [.int ts, .int (indent r ts), .int (indent q ts)]
noncomputable def wits (r q : WS) (n : Nat) : List Dt := (List.range n).filterMap fun j => if geAt r q (1 + j) then some (witRow r q (1 + j)) else none
theorem wits_succ (r q : WS) (n : Nat) : wits r q (n + 1) = wits r q n ++ (if geAt r q (1 + n) then [witRow r q (1 + n)] else []) := by
  unfold wits
  rw [List.range_succ, List.filterMap_append]
  congr 1
  cases h : geAt r q (1 + n) <;> simp [h]
theorem wits_len (r q : WS) (n : Nat) : (wits r q n).length ≤ n := by
  unfold wits
  exact Nat.le_trans (List.length_filterMap_le _ _) (by simp)

theorem pc_wit (B : Base w mg mb h₀) {x y : Str} (hx : x.cps.toList.length ≤ 100) (hy : y.cps.toList.length ≤ 100) : PC w mg mb h₀ (.ref 116) 2 [.obj 119 (wsFields x), .obj 119 (wsFields y)] [] (.list (wits (wsRun x.cps.toList) (wsRun y.cps.toList) (topN (wsRun x.cps.toList) (wsRun y.cps.toList)))) := by
  refine pc_fn [(S' "other", .obj 119 (wsFields y)), (S' "self", .obj 119 (wsFields x))] B (hl := rfl) (hcd := by kernel_rfl) (hbody := rfl) (hge := rfl) (hclo := rfl) (hbe := rfl) (hcell := by decide +kernel) (hco := rfl) (hgen := rfl) (hk := rfl) ?_ ?_
  · intro h H args kws r rk
    obtain ⟨v, u, rfl, r1, r2⟩ := rd2 r
    obtain rfl : kws = [] := rk
    exact ⟨[(S' "self", v), (S' "other", u)], fun S => by kernel_rfl, by kernel_rfl, rdb_cons r2 (rdb_cons r1 rdb_nil)⟩
  · intro prog A env s₁ L H Rm N h0 O F
    dsimp only at N
    have S := Chg.refl [L] s₁
    have hn := topN_le hx hy
    have hte := topN_eq (wsRun x.cps.toList) (wsRun y.cps.toList)
    generalize hgen : topN (wsRun x.cps.toList) (wsRun y.cps.toList) = tn at *
    refine x_asg_local N O S F (d := .int (tn : Int)) (Ev.int_eq (ev_add (ev_max2 B N rfl (ev_methD0 (y := none) (fs₁ := wsFields x) (f := 81) B ?_ rfl (by kernel_rfl) (by rw [typeLookup_type, builtinLookup_eq_fast]; kernel_rfl) rfl (pc_longest B hx) Rm (by decide) O.hid (fun _ h => h)) (ev_methD0 (y := none) (fs₁ := wsFields y) (f := 81) B ?_ rfl (by kernel_rfl) (by rw [typeLookup_type, builtinLookup_eq_fast]; kernel_rfl) rfl (pc_longest B hy) Rm (by decide) O.hid (fun _ h => h)) Rm.hh) ev_int) hte) rfl fun s₄ S F => ?_
    · walk_at "EV"
    · walk_at "EV"
    refine x_new_local N O S F mk_nil rfl fun a ow s₂ how ha haH O S F => ?_
    subst how
    refine x_for (dsrc := .rng ((1 : Nat) : Int) ((tn + 1 : Nat) : Int) 1) (fun _ => [(S' "a", .val (.ref a)), (S' "n", .int tn), (S' "other", .obj 119 (wsFields y)), (S' "self", .obj 119 (wsFields x))]) (fun i => [(a, .lst (wits (wsRun x.cps.toList) (wsRun y.cps.toList) i))]) (fun i => True) (fun _ => False)
      (fun v _ => False) N O S (F.cov ⟨rfl, rfl, rfl, rfl, trivial⟩) trivial (ev_range2 B N rfl (fun _ h => h) ?_ (Ev.int_eq (ev_add (a := (tn : Int)) (b := 1) ?_ ?_) (by omega))) (it_range_from (a := 1) (b := tn + 1) Rm.hh (by decide) (by omega)) rfl ?_ (fun _ _ _ f => f.elim) (fun _ _ _ f => f.elim) ?_
    · walk_at "EV"
    · walk_at "EV"
    · walk_at "EV"
    · intro i d s₅ H' hd hC hsub O' F
      obtain ⟨hlt, rfl⟩ := range_get hd
      clear hd
      have S₅ := Chg.refl [a, L] s₅
      have hw := wits_len (wsRun x.cps.toList) (wsRun y.cps.toList) i
      refine y_if S₅ F (b := geAt (wsRun x.cps.toList) (wsRun y.cps.toList) (1 + i)) (tst_cmp (H := H') (ev_methD (y := none) (fs₁ := wsFields x) (f := 88) (ds := [.int ((1 + i : Nat) : Int)]) B ?_ rfl (by kernel_rfl) (by rw [typeLookup_type, builtinLookup_eq_fast]; kernel_rfl) rfl (evs_cons ?_ evs_nil) (pc_indent B hx (by omega) (by omega)) Rm (by decide) O'.hid (fun _ h => h)) (ev_methD (y := none) (fs₁ := wsFields y) (f := 88) (ds := [.int ((1 + i : Nat) : Int)]) B ?_ rfl (by kernel_rfl) (by rw [typeLookup_type, builtinLookup_eq_fast]; kernel_rfl) rfl (evs_cons ?_ evs_nil) (pc_indent B hy (by omega) (by omega)) Rm (by decide) O'.hid (fun _ h => h)) cmp_ge) (fun eb s₆ S F => ?_) (fun eb s₆ S F => ?_)
      · walk_at "EV"
      · walk_at "EV"
      · walk_at "EV"
      · walk_at "EV"
      · dsimp only [List.cons_append, List.nil_append]
        refine x_mut (pre := []) (post := []) (es₀ := wits (wsRun x.cps.toList) (wsRun y.cps.toList) i) (es₁ := wits (wsRun x.cps.toList) (wsRun y.cps.toList) i ++ [witRow (wsRun x.cps.toList) (wsRun y.cps.toList) (1 + i)]) (l := a) (id := "list.append") (ds := [witRow (wsRun x.cps.toList) (wsRun y.cps.toList) (1 + i)]) N O' S F rfl ?_ PySem.F.slot_list_append PySem.F.type_list_append
          (evs_cons (ev_tuple (hx_fs fun _ h => h) (evs_cons ?_ (evs_cons (ev_methD (y := none) (fs₁ := wsFields x) (f := 88) (ds := [.int ((1 + i : Nat) : Int)]) B ?_ rfl (by kernel_rfl) (by rw [typeLookup_type, builtinLookup_eq_fast]; kernel_rfl) rfl (evs_cons ?_ evs_nil) (pc_indent B hx (by omega) (by omega)) Rm (by decide) O'.hid (fun _ h => h)) (evs_cons (ev_methD (y := none) (fs₁ := wsFields y) (f := 88) (ds := [.int ((1 + i : Nat) : Int)]) B ?_ rfl (by kernel_rfl) (by rw [typeLookup_type, builtinLookup_eq_fast]; kernel_rfl) rfl (evs_cons ?_ evs_nil) (pc_indent B hy (by omega) (by omega)) Rm (by decide) O'.hid (fun _ h => h)) evs_nil))) (by simp)) evs_nil) (mu_append (by omega)) (fun s₇ S F => x_nil ⟨S, trivial, ?_⟩)
        · walk_at "EV"
        · walk_at "EV"
        · walk_at "EV"
        · walk_at "EV"
        · walk_at "EV"
        · walk_at "EV"
        · rw [wits_succ, eb]
          exact F.cov ⟨rfl, rfl, rfl, rfl, trivial⟩
      · refine x_nil ⟨S, trivial, ?_⟩
        rw [wits_succ, eb, if_neg (by decide), List.append_nil]
        exact F.cov ⟨rfl, rfl, rfl, rfl, trivial⟩
    · intro s' hC S F
      rw [List.length_map, List.length_range, Nat.add_sub_cancel] at F
      refine y_ret (H' := L :: H) S F (ev_owned (H := a :: L :: H) (l := a) ?_ (.head _) haH (fun b h => .tail _ h)) fun v s' S' F' r => ⟨v, rfl, S'.drop fun b hb => ?_, r⟩
      · walk_at "EV"
      · rcases List.mem_cons.mp hb with rfl | hb
        · exact .inr ha
        · exact .inl hb
end
end

section
theorem among_snoc {pos : Pos} {a b : Int} {c v : Value} (l : List Value) (h : TriplesOk l) (hv : codeAmong pos (l ++ [rawInt a, rawInt b, c]) = some v) : codeAmong pos l = some v ∨ v = c := by
  fun_induction TriplesOk l with
  | case1 =>
    simp only [List.nil_append, rawInt, codeAmong] at hv
    split at hv
    · cases hv; exact .inr rfl
    · cases hv
  | case2 a' t b' u x rest ih =>
    simp only [List.cons_append, codeAmong] at hv ⊢
    split at hv
    · rename_i hc; rw [if_pos hc]; exact .inl hv
    · rename_i hc; rw [if_neg hc]; exact ih h hv
  | case3 l h1 h2 => exact h.elim

structure Maker (mg : Str → Option Value) (h₀ : Heap) : Prop where
  head : CodeHd h₀ 174 172
  bm : ∃ bm ob, mg "__builtins__" = some (.ref bm) ∧ bm ≠ builtinsNs ∧ bm ≠ mainGlobals ∧ h₀.get? bm = some ob ∧ ob.cls = .type "module" ∧ ob.dict = some builtinsNs ∧ ob.data = .plain

section
variable {prog : Program} {w : World} {A : Around} {h₀ : Heap} {s₀ s : Shared} {W : List Addr} {env : Env} {H : List Addr} {pm : List (Str × Dt)} {mg mb : Str → Option Value} {nm : List (Str × NameKind)} {oa : List Addr} {pre post : List (Addr × Ow)}
abbrev lamObj (q : Str) (params : Arguments) (body : Expr) (scope : Scope) (clos : List (Str × Addr)) (pmv cv ctv : Value) : Obj := { cls := .type "function", data := .func (kla_fn "<lambda>" q params body scope clos pmv cv ctv) }

theorem run_lambda {params : Arguments} {body : Expr} {scope : Scope} {pos : Pos} {clos : List (Str × Addr)} {q : Str} {Q : Value → Shared → Prop} {E : Value → Shared → Prop} (B : Base w mg mb h₀) (M : Maker mg h₀) (N : Nm env nm) (O : FOk h₀ W env H oa) (S : Chg W s₀ s) (F : FSt h₀ env H (pre ++ (172, .tab q) :: post) pm s) (ho : (pre ++ (172, Ow.tab q) :: post).map (·.1) = oa)
    (hcode : env.code = .ref 174) (hdef : defaultsOf params env = ([], [])) (hcl : closOf env.cells scope.names [] = some clos) (hq : env.qual ++ "<lambda>" = q)
    (k : ∀ f cv ctv s', s.heap.get? f = none → (∃ o, s'.heap.get? f = some o) → Chg W s₀ s' → Chg W s s' → FSt h₀ env H (pre ++ (172, .tab q) :: post) pm s' → s'.heap.get? f = some (lamObj q params body scope clos ((mg "__name__").getD .none) cv ctv) → Rd s'.heap H (.code q) cv → Q (.ref f) s') :
    wpAny (model prog w) A (eval (.Lambda params body scope pos) env) Q E s := by
  obtain ⟨bm, ob, b1, b2, b3, b4, b5, b6, b7⟩ := M.bm
  obtain ⟨ps, hP, ht, hcs⟩ := F.owns (172, .tab q) (by simp)
  have hg := B.g.keeps F.base
  have h0P : h₀.get? 172 = none := O.hid _ (O.WH _ (O.ownW 172 (inOa (p := (172, Ow.tab q)) ho (by simp))).1)
  have PH : (172 : Addr) ∈ H := O.WH _ (O.ownW 172 (inOa (p := (172, Ow.tab q)) ho (by simp))).1
  have hbP : bm ≠ 172 := fun z => by rw [z, h0P] at b4; cases b4
  have hgP : mainGlobals ≠ 172 := by decide
  have hbA : s.heap.BuiltinsAt mg 172 := ⟨bm, ob, b1, b2, b3, hbP, F.base _ _ b4, b5, b6, b7⟩
  have hlt : ∀ {a : Addr}, s.heap.objs.size ≤ a → s.heap.get? a = none := fun h => Heap.get?_none_of_le h
  refine kla_eval hdef ?_
  rw [hq]
  cases hf : codeAmong pos ps.toList with
  | some cv =>
    refine kla_makeFunctionHit (closureFor_of hcl) N.ge hg hcode (M.head.keeps F.base) hP ht hf hbA fun ctv h' tk hk hsz => ?_
    have K : Keeps s { s with heap := h'.push (lamObj q params body scope clos ((mg "__name__").getD .none) cv ctv), toks := tk } := ⟨_, tk, rfl, fun b o e => Heap.get?_push_of_some _ (hk b o e)⟩
    have hnew : (h'.push (lamObj q params body scope clos ((mg "__name__").getD .none) cv ctv)).get? h'.objs.size = some (lamObj q params body scope clos ((mg "__name__").getD .none) cv ctv) := Heap.get?_push_size _ rfl
    exact k _ cv ctv _ (hlt hsz) ⟨_, hnew⟩ (S.trans (Chg.keeps K)) (Chg.keeps K) (F.keeps K) hnew ((hcs pos cv hf).keeps (keepsHeap K))
  | none =>
    refine kla_makeFunction (closureFor_of hcl) N.ge hg hcode (M.head.keeps F.base) hP ht hf hgP hbA fun c' ctv h' tk hx hge hltc hrec htb => ?_
    obtain ⟨c₂, oc, vs, t, e2, hoc, hd, hv⟩ := hrec
    cases e2
    have hnew : (h'.push (lamObj q params body scope clos ((mg "__name__").getD .none) (.ref c') ctv)).get? h'.objs.size = some (lamObj q params body scope clos ((mg "__name__").getD .none) (.ref c') ctv) := Heap.get?_push_size _ rfl
    have ext : ∀ b o, b ≠ 172 → s.heap.get? b = some o → (h'.push (lamObj q params body scope clos ((mg "__name__").getD .none) (.ref c') ctv)).get? b = some o := fun b o hb e => Heap.get?_push_of_some _ (hx b o hb e)
    have hsz : s.heap.objs.size ≤ h'.objs.size := Nat.le_of_lt (Nat.lt_of_le_of_lt hge hltc)
    have cH : c' ∉ H := fun z => by obtain ⟨o, e⟩ := F.ex _ z; rw [hlt hge] at e; cases e
    have rc : Rd (h'.push (lamObj q params body scope clos ((mg "__name__").getD .none) (.ref c') ctv)) H (.code q) (.ref c') := ⟨c', oc, vs, t, rfl, cH, Heap.get?_push_of_some _ hoc, hd, hv⟩
    have how : (∀ d v, Rd s.heap H d v → Rd (h'.push (lamObj q params body scope clos ((mg "__name__").getD .none) (.ref c') ctv)) H d v) → OwAt (h'.push (lamObj q params body scope clos ((mg "__name__").getD .none) (.ref c') ctv)) H 172 (.tab q) := fun mv => by
      refine ⟨_, Heap.get?_push_of_some _ htb, ?_, fun p v e => ?_⟩
      · rw [Array.toList_append]
        exact TriplesOk_snoc _ _ _ _ ht
      · rw [Array.toList_append] at e
        rcases among_snoc _ ht e with e | rfl
        · exact mv _ _ (hcs p v e)
        · exact rc
    obtain ⟨S', F'⟩ := F.wrote_own' (o' := .tab q) (tk := tk) O ho S ⟨_, Heap.get?_push_of_some _ htb⟩ how ext
    obtain ⟨S2, _⟩ := F.wrote_own' (o' := .tab q) (tk := tk) O ho (Chg.refl W s) ⟨_, Heap.get?_push_of_some _ htb⟩ how ext
    exact k _ (.ref c') ctv _ (hlt hsz) ⟨_, hnew⟩ S' S2 F' hnew rc
end
end

section
section
variable {w : World} {mg mb : Str → Option Value} {h₁ : Heap}
theorem pc_lam {f : Addr} {q x : Str} {params : Arguments} {body : Expr} {scope : Scope} {clos : List (Str × Addr)} {pmv cv ctv : Value} {dx d : Dt} {n : Nat} (pmc : List (Str × Dt)) (B : Base w mg mb h₁) (hf : h₁.get? f = some (lamObj q params body scope clos pmv cv ctv)) (hcv : h₁.CodeRec cv q)
    (hcell : (scope.names.all fun x => decide (x.2 ≠ .cell)) = true) (hco : scope.isCoroutine = false) (hgen : scope.isGenerator = false) (hk : scope.kind = .function) (hx : scope.names.lookup x = some .local)
    (hbind : ∀ v, bindArgs (kla_fn "<lambda>" q params body scope clos pmv cv ctv) ⟨[v], []⟩ = pure [(x, v)])
    (hcl : ∀ y c, clos.lookup y = some c → ∃ v, h₁.IsCell c (some v) ∧ ∀ e, ((x, dx) :: pmc).lookup y = some e → scope.names.lookup y ≠ some .local → Rd h₁ [] e v)
    (hpc : ∀ y e, pmc.lookup y = some e → scope.names.lookup y ≠ some .local)
    (k : ∀ (prog : Program) A env L H, Room A n → Nm env scope.names → env.cells = clos → (∀ a ∈ L :: H, h₁.get? a = none) → Ev prog w A (fs h₁ env (L :: H) [] ((x, dx) :: pmc)) (L :: H) env body d) : PC w mg mb h₁ (.ref f) (n + 1) [dx] [] d := ⟨fun prog A s H args kws Rm hbs h0 hex r rk Q E qq => by
  obtain rfl : kws = [] := rk
  obtain ⟨v, rfl, r1⟩ := rd1 r
  refine wpAny_call (kla_callFunE Rm.lt (hbs _ _ hf) rfl hco hgen rfl (hcv.keeps hbs) ?_)
  rw [hbind]
  refine wpAny_pure (wpAny_newFunctionEnv (fun y hy => of_decide_eq_true (List.all_eq_true.mp hcell y hy)) (fun y hy => by rw [List.mem_singleton.mp hy]; exact hx) (fun h' hns hsb => ?_) hk)
  have hL : s.heap.get? s.heap.objs.size = none := get_size _
  have kk : ∀ b o, s.heap.get? b = some o → h'.get? b = some o := fun b o e => hsb.extBut b o (Nat.ne_of_lt (Heap.lt_size e)) (Heap.get?_push_of_some _ e)
  have LH : s.heap.objs.size ∉ H := fun z => by obtain ⟨o, e⟩ := hex _ z; rw [hL] at e; cases e
  have h1L : h₁.get? s.heap.objs.size = none := by
    cases z : h₁.get? s.heap.objs.size with
    | none => rfl
    | some o => rw [hbs _ _ z] at hL; cases hL
  have h0' : ∀ a ∈ s.heap.objs.size :: H, h₁.get? a = none := fun a ha => (List.mem_cons.mp ha).elim (fun z => z ▸ h1L) (h0 a)
  generalize hLe : s.heap.objs.size = L at *
  refine ⟨(B.nolimit.keeps hbs).keeps kk, kla_codeExpr ?_⟩
  have N : Nm (newEnv scope L mainGlobals clos (q ++ ".<locals>.") (some f) cv none builtinsNs) scope.names := ⟨rfl, hk, rfl, rfl⟩
  have F : FSt h₁ (newEnv scope L mainGlobals clos (q ++ ".<locals>.") (some f) cv none builtinsNs) (L :: H) [] ((x, dx) :: pmc) { s with heap := h', toks := s.toks + 1 } := by
    refine ⟨fun b o e => kk b o (hbs b o e), ⟨_, hns, fun y e ey hl => ?_⟩, fun y c ec => ?_, fun p hp => (nomatch hp), fun a ha => ?_⟩
    · rw [List.lookup_cons] at ey
      cases hb : y == x with
      | true =>
        rw [hb] at ey; cases ey
        refine ⟨v, ?_, Rd.move (fun b o hb e => ⟨kk b o e, fun z => (List.mem_cons.mp z).elim (fun z => by rw [z, hL] at e; cases e) hb⟩) _ _ r1⟩
        show ([(x, v)] : List (Str × Value)).reverse.lookup y = some v
        simp [List.lookup_cons, hb]
      | false =>
        rw [hb] at ey
        exact absurd (show scope.names.lookup y = some .local from by rw [← N.of (x := y) rfl]; exact hl) (hpc y e ey)
    · obtain ⟨u, hc, hd⟩ := hcl y c ec
      refine ⟨some u, (hc.keeps hbs).keeps kk, fun e ey hl => ⟨u, rfl, Rd.move (fun b o _ e => ⟨kk b o (hbs b o e), fun z => by rw [h0' b z] at e; cases e⟩) _ _ (hd e ey ?_)⟩⟩
      rw [← N.of (x := y) rfl]; exact hl
    · rcases List.mem_cons.mp ha with rfl | ha
      · obtain ⟨o, _, _, e, _⟩ := hns; exact ⟨o, e⟩
      · obtain ⟨o, e⟩ := hex a ha; exact ⟨o, kk a o e⟩
  refine (k prog _ _ L H Rm.deeper N rfl h0').run _ F _ _ fun u s' k' ru => ?_
  have K : Keeps s { s with heap := h', toks := s.toks + 1 } := ⟨h', _, rfl, kk⟩
  exact qq u s' (keepsTrans K k') (ru.sub fun a ha => .tail _ ha)⟩
end
end

section
section
variable {prog : Program} {w : World} {A : Around} {h₀ : Heap} {s₀ s : Shared} {W : List Addr} {env : Env} {H : List Addr} {own : List (Addr × Ow)} {pm : List (Str × Dt)} {mg mb : Str → Option Value} {nm : List (Str × NameKind)} {oa : List Addr} {pre post pre₂ post₂ : List (Addr × Ow)}
  {Q : Flow → Shared → Prop} {rest : List Stmt} {e : Expr} {pos pos' : Pos} {d : Dt}

theorem vis_keeps (O : FOk h₀ W env H oa) (F : FSt h₀ env H own pm s) : ∀ b o, h₀.get? b = some o → (hideAll s.heap H).get? b = some o := fun b o e =>
  hideAll_get _ (F.base b o e) fun q => by rw [O.hid b q] at e; cases e
theorem vis_get {b : Addr} {o : Obj} (e : s.heap.get? b = some o) (hb : b ∉ H) : (hideAll s.heap H).get? b = some o := hideAll_get _ e hb
theorem vis_of {b : Addr} {o : Obj} (e : (hideAll s.heap H).get? b = some o) : s.heap.get? b = some o := of_hideAll _ e
theorem vis_none {b : Addr} (hb : b ∈ H) : (hideAll s.heap H).get? b = none := hideAll_none _ hb

theorem x_insort_key {func a₁ e₂ : Expr} {params : Arguments} {body : Expr} {scope : Scope} {lp kp : Pos} {kn q : Str} {l fa : Addr} {ds₀ ds₁ : List Dt} {n m : Nat} {oc : Value} {od : Option Addr} {fd : FuncData} {sl : Array (Option Value)}
    (B : Base w mg mb h₀) (M : Maker mg h₀) (N : Nm env nm) (O : FOk h₀ W env H oa) (S : Chg W s₀ s) (F : FSt h₀ env H own pm s) (ho : own.map (·.1) = oa) (e1 : own = pre ++ (172, .tab q) :: post) (e2 : own = pre₂ ++ (l, .lst ds₀) :: post₂)
    (hcode : env.code = .ref 174) (hdef : defaultsOf params env = ([], [])) (hcl : closOf env.cells scope.names [] = some []) (hq : env.qual ++ "<lambda>" = q)
    (hf : Ev prog w A (fs h₀ env H own pm) H env func (.val (.ref fa))) (hfl : (hd.heap_39 w.params).lookup fa = some ⟨oc, od, .func fd, sl⟩) (hx : Ev prog w A (fs h₀ env H own pm) H env a₁ (.val (.ref l))) (he : Ev prog w A (fs h₀ env H own pm) H env e₂ d) (Rm : Room A m) (hnm : n ≤ m)
    (mc : ∀ (h₁ : Heap) (f : Addr) (pmv cv ctv : Value), Base w mg mb h₁ → h₁.get? f = some (lamObj q params body scope [] pmv cv ctv) → h₁.CodeRec cv q → MC w mg mb h₁ (.ref fa) n ds₀ [d] [(kn, .val (.ref f))] ds₁)
    (k : ∀ s', Chg W s₀ s' → FSt h₀ env H (pre₂ ++ (l, .lst ds₁) :: post₂) pm s' → Ex prog w A rest env Q s')
    (hc : eval (.Call func [a₁, e₂] [⟨some kn, .Lambda params body scope lp, kp⟩] pos) env = (do callWith pos (← eval func env) [] (backTo pos (starEach [a₁, e₂] env)) (backToKw pos (keywordEach [⟨some kn, .Lambda params body scope lp, kp⟩] env))) := by rfl)
    (st0 : starEach [a₁, e₂] env = (false, eval a₁ env) :: starEach [e₂] env := by rfl) (st1 : starEach [e₂] env = (false, eval e₂ env) :: starEach [] env := by rfl)
    (hsw : swapsWith (.Call func [a₁, e₂] [⟨some kn, .Lambda params body scope lp, kp⟩] pos) none pos'.line env = pure false := by rfl) :
    Ex prog w A (.Expr (.Call func [a₁, e₂] [⟨some kn, .Lambda params body scope lp, kp⟩] pos) pos' :: rest) env Q s := ⟨fun E => by
  have hi : interactive env = false := by unfold interactive; rw [N.kind]; rfl
  refine wpAny_execs_cons (wpAny_Expr ?_ hi hsw)
  rw [hc]
  refine wpAny_bind (hf.run s F _ _ fun g s₁ k₁ r₁ => ?_)
  obtain rfl : g = .ref fa := r₁
  have F₁ := F.keeps k₁
  have X₁ := B.X.keeps F₁.base
  refine callWith_def_kw (o := ⟨oc, od, .func fd, sl⟩) (fd := fd) rfl (evalArgs_kw2 rfl ((evs_cons hx (evs_cons he evs_nil st1) st0).run s₁ pos F₁ _ _ fun vs s₂ k₂ r₂ => kwAll_cons ?_) st0)
  have F₂ := F₁.keeps k₂
  have S₂ := (S.trans (Chg.keeps k₁)).trans (Chg.keeps k₂)
  obtain ⟨v₁, v₂, rfl, hv₁, rv₂⟩ := rd2 r₂
  obtain rfl : v₁ = .ref l := hv₁
  have F₂' := F₂
  rw [e1] at F₂'
  refine run_lambda B M N O S₂ F₂' (by rw [← e1]; exact ho) hcode hdef hcl hq fun f cv ctv s₃ hf0 hfx S₃ C₃ F₃ hfo rcv => kwAll_nil ?_
  rw [← e1] at F₃
  have X₃ := B.X.keeps F₃.base
  refine ⟨X₃ _ _ hfl, ?_⟩
  have lH : l ∈ H := O.WH _ (O.ownW l (by rw [← ho, e2]; simp)).1
  have lW : l ∈ W := (O.ownW l (by rw [← ho, e2]; simp)).1
  have fH : f ∉ H := fun z => by obtain ⟨o, e⟩ := F₂.ex f z; rw [hf0] at e; cases e
  have B₁ : Base w mg mb (hideAll s₃.heap H) := B.keeps (vis_keeps O F₃)
  have rv₃ : Rd s₃.heap H d v₂ := Rd.move (fun b o hb e => ⟨C₃.get (fun q => hb (O.WH b q)) e, hb⟩) _ _ rv₂
  obtain ⟨c, oc', vs', t', rfl, cH, g1, g2, g3⟩ := rcv
  have ow : OwAt s₃.heap H l (.lst ds₀) := F₃.owns (l, .lst ds₀) (by rw [e2]; simp)
  refine (mc (hideAll s₃.heap H) f _ (.ref c) ctv B₁ (vis_get hfo fH) ⟨c, oc', vs', t', rfl, vis_get g1 cH, g2, g3⟩).run prog A s₃ H l [v₂] [(kn, .ref f)] (Rm.less hnm) (fun b o e => vis_of e) (fun a ha => vis_none ha) F₃.ex lH ow ⟨v₂, [], rfl, rv₃, rfl⟩ ⟨.ref f, [], rfl, rfl, rfl⟩ _ _ fun s₄ c₄ ow₄ => ?_
  obtain ⟨h₄, t₄, rfl, kk⟩ := c₄
  rw [e2] at F₃
  obtain ⟨S₄, F₄⟩ := F₃.wrote_own' (o' := .lst ds₁) (tk := t₄) O (by rw [← e2]; exact ho) S₃ (let ⟨_, _, e, _⟩ := ow₄; ⟨_, e⟩) (fun _ => ow₄) fun b o hb e => kk b o (fun z => hb (List.mem_singleton.mp z)) e
  exact (k _ S₄ F₄).run E⟩
end
end

section
noncomputable def runK {α : Type} (n : Nat) (o : Nat → Nat → Bool) : KasT α → Option α
  | .ret a => some a
  | .ask i j k => if i < n ∧ j < n then runK n o (k (o i j)) else none

theorem kasWp_run {α : Type} {n : Nat} {o : Nat → Nat → Bool} {cmp : Nat → Nat → (Bool → Shared → Prop) → Shared → Prop} {J : Shared → Prop} {Q : α → Shared → Prop} {a : α}
    (hc : ∀ i j C s, i < n → j < n → J s → (∀ s', J s' → C (o i j) s') → cmp i j C s) (hq : ∀ s, J s → Q a s) : ∀ (t : KasT α) (s : Shared), runK n o t = some a → J s → t.kasWp cmp Q s
  | .ret b, s, e, hj => by cases e; exact hq s hj
  | .ask i j k, s, e, hj => by
    unfold runK at e
    split at e
    · rename_i h
      exact hc i j _ s h.1 h.2 hj fun s' hj' => kasWp_run hc hq (k (o i j)) s' e hj'
    · cases e

noncomputable def allBut (h : Heap) (L : Addr) : List (Addr × Obj) := (List.range h.objs.size).filterMap fun b => if b = L then none else (h.get? b).map fun o => (b, o)
theorem mem_allBut {h : Heap} {L b : Addr} {o : Obj} : (b, o) ∈ allBut h L ↔ b ≠ L ∧ h.get? b = some o := by
  unfold allBut
  rw [List.mem_filterMap]
  constructor
  · rintro ⟨c, hc, e⟩
    split at e
    · cases e
    · rename_i hne
      obtain ⟨o', e1, e2⟩ := Option.map_eq_some_iff.mp e
      cases e2
      exact ⟨hne, e1⟩
  · rintro ⟨hne, e⟩
    exact ⟨b, List.mem_range.mpr (Heap.lt_size e), by rw [if_neg hne, e]; rfl⟩
noncomputable def noHeap : Heap := { objs := #[] }
theorem noHeap_get (b : Addr) : noHeap.get? b = none := Heap.get?_none_of_le (Nat.zero_le _)
theorem fr_all {h : Heap} {L : Addr} {m : Str → Option Value} (hn : h.Ns L m) : Fr noHeap L h m := ⟨hn, fun b o e => absurd e (by rw [noHeap_get]; simp), Nat.zero_le _⟩
theorem news_all (h : Heap) (L : Addr) : News noHeap L h (allBut h L) := fun p hp => by
  obtain ⟨b, o⟩ := p
  obtain ⟨h1, h2⟩ := mem_allBut.mp hp
  exact ⟨h2, h1, noHeap_get _⟩
theorem news_keep {h h' : Heap} {L : Addr} {ns : List (Addr × Obj)} (N : News noHeap L h' (ns ++ allBut h L)) : ∀ b o, b ≠ L → h.get? b = some o → h'.get? b = some o := fun b o hb e =>
  (N (b, o) (List.mem_append_right _ (mem_allBut.mpr ⟨hb, e⟩))).1
end

section
section
variable {prog : Program} {w : World} {A : Around} {s : Shared} {L a : Addr} {m : Str → Option Value}
noncomputable def butKeys (h : Heap) (L k : Addr) : List (Addr × Obj) := (allBut h L).filter fun p => decide (p.1 ≠ k)
theorem butKeys_ne {h : Heap} {L k : Addr} : ∀ p ∈ butKeys h L k, p.1 ≠ k := fun p hp => of_decide_eq_true (List.mem_filter.mp hp).2
theorem butKeys_mem {h : Heap} {L k b : Addr} {o : Obj} (e : h.get? b = some o) (hL : b ≠ L) (hk : b ≠ k) : (b, o) ∈ butKeys h L k := List.mem_filter.mpr ⟨mem_allBut.mpr ⟨hL, e⟩, decide_eq_true hk⟩
theorem butKeys_news {h : Heap} {L k : Addr} {o : Obj} (e : h.get? k = some o) (hL : k ≠ L) : News noHeap L h ((k, o) :: butKeys h L k) := fun p hp => by
  rcases List.mem_cons.mp hp with rfl | hp
  · exact ⟨e, hL, noHeap_get _⟩
  · exact news_all h L p (List.mem_filter.mp hp).1

structure SInv (s : Shared) (L a kS : Addr) (m : Str → Option Value) (Hk : List Addr) (dks : List Dt) (ks : List Value) (e e1 : Nat) (s' : Shared) : Prop where
  same : ∃ h' tk, s' = { s with heap := h', toks := tk }
  ns : s'.heap.Ns L m
  keep : ∀ b o, b ≠ L → b ≠ a → s.heap.get? b = some o → s'.heap.get? b = some o
  keys : s'.heap.get? kS = some (seqObj "list" (List.toArray ks) e)
  list : s'.heap.get? a = some (seqObj "list" #[] e1)
  rd : RdAll s'.heap Hk dks ks

theorem sort_core {f : Value} {vs : List Value} {n : Nat} {dks : List Dt} {H : List Addr} {o : Nat → Nat → Bool} {p : Array Nat} {κ : SortKind} {P : PySem.Fin → Shared → Prop} (hn : s.heap.Ns L m) (LH : L ∈ H) (ho : s.heap.get? a = some (seqObj "list" vs.toArray n)) (haL : a ≠ L) (h2 : 2 ≤ vs.length) (h64 : vs.length < 64) (hlen : dks.length = vs.length)
    (hkey : ∀ (kS : Addr) (i : Nat) (v : Value) (d : Dt) (s' : Shared), vs[i]? = some v → dks[i]? = some d → s.heap.get? kS = none → kS ≠ a → (∃ x, s'.heap.get? kS = some x) → (∃ x, s'.heap.get? a = some x) → (∃ h' tk, s' = { s with heap := h', toks := tk }) → s'.heap.Ns L m → (∀ b o, b ≠ L → b ≠ a → s.heap.get? b = some o → s'.heap.get? b = some o) → Gv prog w A (kS :: a :: H) (call f [v]) s' d)
    (hkind : ∀ (Hk : List Addr) (ks : List Value) (s' : Shared) (Q : SortKind → Shared → Prop), RdAll s'.heap Hk dks ks → Q κ s' → wpAny (model prog w) A (keyKind' (List.toArray ks)) Q (fun _ _ => False) s')
    (hcmp : ∀ (Hk : List Addr) (i j : Nat) (ks : List Value) (s' : Shared) (C : Bool → Shared → Prop), i < vs.length → j < vs.length → RdAll s'.heap Hk dks ks → (∀ s'', Keeps s' s'' → C (o i j) s'') → kas_ask prog w A κ ks i j C s')
    (hrun : runK vs.length o (kas_sort vs.length) = some p)
    (k : ∀ c s', (∃ h' tk, s' = { s with heap := h', toks := tk }) → s'.heap.Ns L m → (∀ b o, b ≠ L → b ≠ a → s.heap.get? b = some o → s'.heap.get? b = some o) → s'.heap.get? a = some (seqObj "list" (List.toArray (p.toList.map fun i => vs.getD i Value.none)) c) → P (.done (.ret .none)) s') :
    wpAny (model prog w) A (ksk_tree a f false) P (fun _ _ => False) s := by
  refine kat_keyed (h₀ := noHeap) (fr_all hn) (fun p hp => news_all s.heap L p (List.mem_filter.mp hp).1 : News noHeap L s.heap (butKeys s.heap L a)) ho haL (noHeap_get _) butKeys_ne h2 h64 fun kS e1 h' F' N' hak hqk => ?_
  have hkSa : kS ≠ a := Nat.ne_of_gt hak
  have hkSL : kS ≠ L := (N' (kS, _) (.head _)).2.1
  have hkS0 : s.heap.get? kS = none := by
    cases q : s.heap.get? kS with
    | none => rfl
    | some o => exact absurd (hqk (kS, o) (butKeys_mem q hkSL hkSa)) (Nat.lt_irrefl _)
  have I0 : SInv s L a kS m (kS :: a :: H) [] [] 0 e1 { s with heap := h' } :=
    ⟨⟨h', s.toks, rfl⟩, F'.ns, fun b o hb hba e => (N' (b, o) (.tail _ (.tail _ (butKeys_mem e hb hba)))).1, (N' (kS, _) (.head _)).1, (N' (a, _) (.tail _ (.head _))).1, rfl⟩
  have exA : ∀ {dk ks e s'}, SInv s L a kS m (kS :: a :: H) dk ks e e1 s' → (∃ x, s'.heap.get? kS = some x) ∧ ∃ x, s'.heap.get? a = some x := fun I => ⟨⟨_, I.keys⟩, ⟨_, I.list⟩⟩
  have step : ∀ (r : List Value) (i : Nat) (ks : List Value) (e : Nat) (s' : Shared), r = vs.drop i → i ≤ vs.length → ks.length = i → SInv s L a kS m (kS :: a :: H) (dks.take i) ks e e1 s' →
      KatKeys prog w A noHeap L m kS f (fun ks e s' => wpAny (model prog w) A (keyKind' (List.toArray ks)) (fun κ s'' => (kas_sort vs.length).kasWp (kas_ask prog w A κ (katRev false ks)) (fun p s3 => KatFin noHeap L m kS a ks e e1 (katRev false (p.toList.map fun i => (katRev false vs).getD i Value.none)) (fun s4 => P (.done (.ret .none)) s4) s3) s'') (fun _ _ => False) s') r ks e s' := by
    intro r
    induction r with
    | nil =>
      intro i ks e s' hr hi hks I
      have hiv : i = vs.length := by
        have := congrArg List.length hr
        rw [List.length_drop] at this
        simp at this; omega
      subst hiv
      rw [List.take_of_length_le (by omega)] at I
      refine KatKeys.nil (hkind _ ks s' _ I.rd ?_)
      refine kasWp_run (J := fun s₃ => SInv s L a kS m (kS :: a :: H) dks ks e e1 s₃) (o := o) (n := vs.length) (a := p) (fun i j C s₃ hi hj J hC => hcmp _ i j ks s₃ C hi hj J.rd fun s₄ k4 => hC s₄ ?_) (fun s₃ J => ?_) _ s' hrun I
      · have kh := keepsHeap k4
        obtain ⟨h3, t3, e3⟩ := J.same
        obtain ⟨h4, t4, e4, _⟩ := k4
        exact ⟨⟨h4, t4, by rw [e4, e3]⟩, J.ns.keeps kh, fun b o hb hba e => kh b o (J.keep b o hb hba e), kh _ _ J.keys, kh _ _ J.list, J.rd.keeps kh⟩
      · show KatFin noHeap L m kS a ks e e1 (p.toList.map fun i => vs.getD i Value.none) (fun s4 => P (.done (.ret .none)) s4) s₃
        refine KatFin.intro (fr_all J.ns) (butKeys_news J.keys hkSL) (.head butKeys_ne) fun h2 c2 F2 N2 => ?_
        have ha2 : h2.get? a = some (seqObj "list" #[] e1) := (N2 (a, _) (.tail _ (butKeys_mem J.list haL (Ne.symm hkSa)))).1
        refine KasFin.intro (fr_all F2.ns) (butKeys_news ha2 haL) (.head butKeys_ne) fun h3 c3 F3 N3 => ?_
        obtain ⟨hj, tj, ej⟩ := J.same
        refine k c3 _ ⟨h3, tj, by rw [ej]⟩ F3.ns (fun b o hb hba e => ?_) (N3 (a, _) (.head _)).1
        have hbk : b ≠ kS := fun z => by rw [z, hkS0] at e; cases e
        exact (N3 (b, o) (.tail _ (butKeys_mem (N2 (b, o) (.tail _ (butKeys_mem (J.keep b o hb hba e) hb hbk))).1 hb hba))).1
    | cons v r ih =>
      intro i ks e s' hr hi hks I
      have hlt : i < vs.length := by
        have := congrArg List.length hr
        rw [List.length_drop] at this
        simp at this; omega
      rw [List.drop_eq_getElem_cons hlt] at hr
      obtain ⟨hv, hr'⟩ := List.cons.inj hr
      have hvi : vs[i]? = some v := by rw [List.getElem?_eq_getElem hlt, hv]
      obtain ⟨d, hd⟩ : ∃ d, dks[i]? = some d := ⟨_, List.getElem?_eq_getElem (by omega)⟩
      refine KatKeys.cons (hkey kS i v d s' hvi hd hkS0 hkSa (exA I).1 (exA I).2 I.same I.ns I.keep _ _ fun kv s₃ k3 rk => ?_)
      have kh := keepsHeap k3
      obtain ⟨h3, t3, e3, _⟩ := k3
      obtain ⟨hs, ts, es⟩ := I.same
      refine KatBack.intro (fr_all (I.ns.keeps kh)) (butKeys_news (kh _ _ I.keys) hkSL) (.head butKeys_ne) fun h4 c4 F4 N4 => ?_
      have kk : ∀ b o, b ≠ L → b ≠ kS → s₃.heap.get? b = some o → h4.get? b = some o := fun b o hb hbk e => (N4 (b, o) (.tail _ (butKeys_mem e hb hbk))).1
      have mv : ∀ {d v}, Rd s₃.heap (kS :: a :: H) d v → Rd h4 (kS :: a :: H) d v := fun r => Rd.move (fun b o hb e => ⟨kk b o (fun z => hb (z ▸ .tail _ (.tail _ LH))) (fun z => hb (z ▸ .head _)) e, hb⟩) _ _ r
      refine ih (i + 1) (ks ++ [kv]) c4 _ hr' hlt (by simp [hks]) ⟨⟨h4, t3, by rw [e3, es]⟩, F4.ns, fun b o hb hba e => kk b o hb (fun z => by rw [z, hkS0] at e; cases e) (kh b o (I.keep b o hb hba e)), (N4 (kS, _) (.head _)).1, kk a _ haL (Ne.symm hkSa) (kh _ _ I.list), ?_⟩
      have e2 : dks.take (i + 1) = dks.take i ++ [d] := by rw [List.take_add_one, hd]; rfl
      rw [e2]
      have r3 : RdAll h4 (kS :: a :: H) [d] [kv] := ⟨kv, [], rfl, mv rk, rfl⟩
      exact RdAll.append (RdAll.of_rd (fun d v r => mv (r.keeps kh)) I.rd) r3
  exact step vs 0 [] 0 _ rfl (Nat.zero_le _) rfl I0
end
end

section
section
variable {prog : Program} {w : World} {A : Around} {s : Shared} {H : List Addr}
noncomputable def Col (prog : Program) (w : World) (A : Around) (H : List Addr) (d : Dt) (ds : List Dt) : Prop := ∀ (s : Shared) (v : Value), Rd s.heap H d v → ∀ (Q : List Value → Shared → Prop) (E : Value → Shared → Prop), (∀ vs s', Keeps s s' → RdAll s'.heap H ds vs → Q vs s') → wpAny (model prog w) A (collect v) Q E s
theorem col_list {ds : List Dt} (hz : ds.length ≤ 1000) : Col prog w A H (.list ds) ds := fun s v r Q E q => by
  obtain ⟨a, vs, n, rfl, ha, hl, rr⟩ := r
  have hlen := rr.length
  have keep : ∀ b o, s.heap.get? b = some o → ((s.heap.push (seqObj "list" #[] 0)).update s.heap.objs.size (Obj.mapSeq (· ++ vs.toArray))).get? b = some o := fun b o e => by
    have hlt : b < s.heap.objs.size := Heap.lt_size e
    rw [Heap.get?_update_ne _ _ _ _ (Nat.ne_of_lt hlt), Heap.get?_push_ne _ _ _ (Nat.ne_of_lt hlt)]
    exact e
  refine collect_list (vs := vs) ⟨_, hl, rfl, _, rfl⟩ (q vs _ ⟨_, s.toks, rfl, keep⟩ (rr.keeps keep)) (by rw [sizeLine_eq]; omega)
noncomputable def ColR (s : Shared) (a c : Int) (n : Nat) (res : Result) (s' : Shared) : Prop := ∃ h' tk acc' c', res = .ok (.ret (.ref s.heap.objs.size)) ∧ s' = { s with heap := h', toks := tk } ∧ (∀ b o, s.heap.get? b = some o → h'.get? b = some o) ∧ h'.get? s.heap.objs.size = some { cls := .type "list", dict := none, data := .seq acc' c', slots := #[] } ∧ ItemsOf (fun i v => ∃ t, v = .int (a + i * c) t) acc' n
theorem col_range {a b c : Int} {n : Nat} (hh : A.handled = none) (hs : Builtin.Range.small a b c = true) (hn : Builtin.Range.rangeSize a b c = n) (hz : n ≤ 1000) : Col prog w A H (.rng a b c) ((List.range n).map fun i : Nat => Dt.int (a + (i : Int) * c)) := fun s v r Q E q => by
  obtain ⟨r, t, u, x, rfl, hr, ho⟩ := r
  unfold collect
  refine wpAny_bind (wpAny_runValue (codeAny_builtin entry_proto_collect' ?_))
  show wpAny _ _ (do again (.builtin "list.__iadd__" ⟨[← newList [], .ref r], []⟩)) _ _ s
  refine wpAny_bind (wpAny_newList (wpAny_pure ⟨Code.quiet_builtin _ (by decide +kernel), codeAny_mono (R := ColR s a c n) (codeAny_builtin entry_list_iadd' ?_) fun res s' hres => ?_⟩) (Nat.zero_le _))
  · have hS : (s.heap.push { cls := .type "list", data := .seq ([] : List Value).toArray }).get? s.heap.objs.size = some { cls := .type "list", data := .seq #[] 0 } := Heap.get?_push_size _ rfl
    show wpAny _ _ (Builtin.List.listExtendWith (.ref s.heap.objs.size) (.ref r) (.ref s.heap.objs.size)) _ _ { s with heap := s.heap.push { cls := .type "list", data := .seq ([] : List Value).toArray } }
    have hR : (s.heap.push { cls := .type "list", data := .seq ([] : List Value).toArray }).get? r = _ := Heap.get?_push_of_some _ ho
    rw [Around.under_plainId (by decide +kernel)]
    refine wpAny_extend_range (R := ColR s a c n) (s := { s with heap := s.heap.push { cls := .type "list", data := .seq ([] : List Value).toArray } }) hh hR hs hn (by omega) s.heap.objs.size (.ref s.heap.objs.size) 0 hS fun h' tk acc' c' hk hS' hit => ?_
    exact ⟨h', tk, acc', c', rfl, rfl, fun b o e => hk b o (Nat.ne_of_lt (Heap.lt_size e)) (Heap.get?_push_of_some _ e), hS', hit⟩
  · obtain ⟨h', tk, acc', c', rfl, rfl, keep, hS', hit⟩ := hres
    show wpAny (model prog w) A (do
      let o ← load s.heap.objs.size
      match o.data with
      | .seq xs _ => pure xs.toList
      | _ => unsupported "internal:collect") Q E { s with heap := h', toks := tk }
    refine wpAny_bind (wpAny_load hS' ?_)
    refine wpAny_pure (q acc'.toList _ ⟨h', tk, rfl, keep⟩ (RdAll.mk (by simp [hit.1]) fun i d v e1 e2 => ?_))
    obtain ⟨hi, rfl⟩ := range_get e1
    exact hit.2 i v (by rw [← Array.getElem?_toList]; exact e2)
end
end

section
section
variable {prog : Program} {w : World} {A : Around} {h₀ : Heap} {s₀ s : Shared} {W : List Addr} {env : Env} {H : List Addr} {own : List (Addr × Ow)} {pm : List (Str × Dt)} {mg mb : Str → Option Value} {nm : List (Str × NameKind)} {oa : List Addr} {e : Expr}

structure EvW (prog : Program) (w : World) (A : Around) (h₀ : Heap) (W : List Addr) (env : Env) (H : List Addr) (own : List (Addr × Ow)) (pm : List (Str × Dt)) (e : Expr) (d : Dt) : Prop where
  run : ∀ s, FSt h₀ env H own pm s → ∀ (Q : Value → Shared → Prop) (E : Value → Shared → Prop), (∀ v s', Chg W s s' → FSt h₀ env H own pm s' → Rd s'.heap H d v → Q v s') → wpAny (model prog w) A (eval e env) Q E s
theorem Ev.toW {d : Dt} (h : Ev prog w A (fs h₀ env H own pm) H env e d) : EvW prog w A h₀ W env H own pm e d := ⟨fun s F Q E q => h.run s F Q E fun v s' k r => q v s' (Chg.keeps k) (F.keeps k) r⟩

theorem FSt.butLoc {m : Str → Option Value} (O : FOk h₀ W env H oa) (ho : own.map (·.1) = oa) (F : FSt h₀ env H own pm s) (hn : s.heap.Ns env.locals m) {h' : Heap} {tk : Nat} (hn' : h'.Ns env.locals m) (kk : ∀ b o, b ≠ env.locals → s.heap.get? b = some o → h'.get? b = some o) :
    Chg W s { s with heap := h', toks := tk } ∧ FSt h₀ env H own pm { s with heap := h', toks := tk } := by
  have LH := O.WH _ O.loc
  have mv : ∀ {d v}, Rd s.heap H d v → Rd h' H d v := fun r => Rd.move (fun b o hb e => ⟨kk b o (fun q => hb (q ▸ LH)) e, hb⟩) _ _ r
  refine ⟨⟨h', tk, rfl, fun b o hb e => kk b o (fun q => hb (q ▸ O.loc)) e⟩, fun b o e => kk b o (fun q => by rw [q, O.hid _ LH] at e; cases e) (F.base b o e), ⟨m, hn', fun x d e hk => ?_⟩, fun x c e => ?_, fun p hp => (F.owns p hp).mv (fun _ _ r => mv r) (fun o e => kk _ o (O.ownW _ (inOa ho hp)).2.1 e), fun a ha => ?_⟩
  · obtain ⟨m₀, hn₀, hm⟩ := F.locs
    obtain ⟨v, e1, r⟩ := hm x d e hk
    have em : m x = m₀ x := by
      obtain ⟨o, es, ep, a1, a2, _, a4⟩ := hn
      obtain ⟨o', es', ep', b1, b2, _, b4⟩ := hn₀
      rw [a1] at b1; cases b1; rw [a2] at b2; cases b2
      rw [← a4, ← b4]
    exact ⟨v, em.trans e1, mv r⟩
  · obtain ⟨cv, ⟨o, e1, e2⟩, hd⟩ := F.cells x c e
    exact ⟨cv, ⟨o, kk c o (O.cell x c e).2 e1, e2⟩, fun d e' hk => let ⟨v, e3, r⟩ := hd d e' hk; ⟨v, e3, mv r⟩⟩
  · by_cases q : a = env.locals
    · obtain ⟨o, _, _, e, _⟩ := hn'; exact ⟨o, q ▸ e⟩
    · obtain ⟨o, e⟩ := F.ex a ha; exact ⟨o, kk a o q e⟩

theorem call_sorted {x f : Addr} {ds dks : List Dt} {d : Dt} {o : Nat → Nat → Bool} {p : Array Nat} {κ : SortKind} {Q : Value → Shared → Prop} {E : Value → Shared → Prop} (O : FOk h₀ W env H oa) (ho : own.map (·.1) = oa) (F : FSt h₀ env H own pm s) (rv : Rd s.heap H d (.ref x)) (col : Col prog w A.in1 H d ds) (h2 : 2 ≤ ds.length) (h64 : ds.length < 64) (hlen : dks.length = ds.length)
    (hkey : ∀ (Hk : List Addr) (i : Nat) (u : Value) (di dk : Dt) (s' : Shared), ds[i]? = some di → dks[i]? = some dk → (∀ a ∈ Hk, a ∈ H ∨ s.heap.get? a = none) → (∀ a ∈ H, a ∈ Hk) → (∀ a ∈ Hk, ∃ x, s'.heap.get? a = some x) → (∀ b o, b ≠ env.locals → s.heap.get? b = some o → s'.heap.get? b = some o) → Rd s'.heap Hk di u → Gv prog w A.in1.in1 Hk (call (.ref f) [u]) s' dk)
    (hkind : ∀ (Hk : List Addr) (ks : List Value) (s' : Shared) (Q : SortKind → Shared → Prop), RdAll s'.heap Hk dks ks → Q κ s' → wpAny (model prog w) A.in1.in1 (keyKind' (List.toArray ks)) Q (fun _ _ => False) s')
    (hcmp : ∀ (Hk : List Addr) (i j : Nat) (ks : List Value) (s' : Shared) (C : Bool → Shared → Prop), i < ds.length → j < ds.length → RdAll s'.heap Hk dks ks → (∀ s'', Keeps s' s'' → C (o i j) s'') → kas_ask prog w A.in1.in1 κ ks i j C s')
    (hrun : runK ds.length o (kas_sort ds.length) = some p) (hp : ∀ i ∈ p.toList, i < ds.length)
    (q : ∀ r s', Chg W s s' → FSt h₀ env H own pm s' → Rd s'.heap H (.list (p.toList.map fun i => ds.getD i .none)) r → Q r s') : wpAny (model prog w) A (call (.builtin "sorted") [.ref x] [(Str.ofString "key", .ref f)]) Q E s := by
  refine call_function_entry_kw kind_sorted plain_sorted entry_sorted (ksk_s1 _ _) ?_
  unfold Builtin.«sorted»
  refine wpAny_bind (m := checkCount "sorted" 1 1 _) (wpAny_pure ?_)
  refine wpAny_bind (col s _ rv _ _ fun vs s₂ k₂ rvs => ?_)
  have hlv := rvs.length
  refine wpAny_bind (wpAny_newList ?_ (by rw [sizeLine_eq]; omega))
  have kh := keepsHeap k₂
  obtain ⟨m, hn, _⟩ := F.locs
  refine wpAny_bind (wpAny_holding (wpAny_call_entry_kw slot_list_sort ⟨_, Heap.get?_push_size _ rfl, rfl⟩ entry_list_sort ?body (ksk_l1 _ _)))
  case body =>
    show wpAny (model prog w) A.in1.in1 (Builtin.«list.sort» ⟨[.ref s₂.heap.objs.size], [(Str.ofString "key", .ref f)]⟩) _ _ _
    rw [ksk_t1]
    have LH := O.WH _ O.loc
    have haN : s₂.heap.get? s₂.heap.objs.size = none := get_size _
    have ha0 : s.heap.get? s₂.heap.objs.size = none := by
      cases z : s.heap.get? s₂.heap.objs.size with
      | none => rfl
      | some o => rw [kh _ _ z] at haN; cases haN
    have haH : s₂.heap.objs.size ∉ H := fun z => by obtain ⟨o, e⟩ := F.ex _ z; rw [ha0] at e; cases e
    have haL : s₂.heap.objs.size ≠ env.locals := fun z => haH (z ▸ LH)
    have up : ∀ b o, s.heap.get? b = some o → (s₂.heap.push (seqObj "list" vs.toArray 0)).get? b = some o := fun b o e => Heap.get?_push_of_some _ (kh b o e)
    have neA : ∀ {b : Addr} {o : Obj}, s.heap.get? b = some o → b ≠ s₂.heap.objs.size := fun e z => by rw [z, ha0] at e; cases e
    obtain ⟨hh2, tt2, ee2, _⟩ := id k₂
    have core := sort_core (prog := prog) (w := w) (A := A.in1.in1) (s := { s₂ with heap := s₂.heap.push (seqObj "list" vs.toArray 0) }) (L := env.locals) (a := s₂.heap.objs.size) (m := m) (f := .ref f) (vs := vs) (n := 0) (dks := dks) (H := H) (o := o) (p := p) (κ := κ)
      (P := fun fin s' => ∃ v, fin = .done (.ret v) ∧ wpAny (model prog w) A.in1 (ret (.ref s₂.heap.objs.size)) (fun fin s' => ∃ v, fin = .done (.ret v) ∧ Q v s') E s')
      (hn.keeps up) LH (Heap.get?_push_size _ rfl) haL (by omega) (by omega) (by omega)
      (fun kS i u dk s' hvi hdk hkS0 hkSa hxk hxa same ns keep => ?hk) hkind (fun Hk i j ks s' C hi hj => hcmp Hk i j ks s' C (by omega) (by omega)) (by rw [hlv]; exact hrun)
      (fun c s' same ns keep hlist => ?fin)
    · exact wpAny_mono core (fun _ _ x => x) fun _ _ x => x.elim
    case hk =>
      obtain ⟨di, hdi, ru⟩ := rvs.get' hvi
      have hkS1 : s.heap.get? kS = none := by
        cases z : s.heap.get? kS with
        | none => rfl
        | some o => have := up _ _ z; rw [hkS0] at this; cases this
      refine hkey (kS :: s₂.heap.objs.size :: H) i u di dk s' hdi hdk (fun a ha => ?_) (fun a ha => .tail _ (.tail _ ha)) (fun a ha => ?_) (fun b o hb e => keep b o hb (neA e) (up b o e)) (Rd.move (fun b o hb e => ?_) _ _ ru)
      · rcases List.mem_cons.mp ha with rfl | ha
        · exact .inr hkS1
        · rcases List.mem_cons.mp ha with rfl | ha
          · exact .inr ha0
          · exact .inl ha
      · rcases List.mem_cons.mp ha with rfl | ha
        · exact hxk
        · rcases List.mem_cons.mp ha with rfl | ha
          · exact hxa
          · by_cases z : a = env.locals
            · obtain ⟨o, _, _, e, _⟩ := ns; exact ⟨o, z ▸ e⟩
            · obtain ⟨o, e⟩ := F.ex a ha; exact ⟨o, keep a o z (neA e) (up a o e)⟩
      · have e3 : (s₂.heap.push (seqObj "list" vs.toArray 0)).get? b = some o := Heap.get?_push_of_some _ e
        have hba : b ≠ s₂.heap.objs.size := fun z => by rw [z, haN] at e; cases e
        refine ⟨keep b o (fun z => hb (z ▸ LH)) hba e3, fun z => ?_⟩
        rcases List.mem_cons.mp z with rfl | z
        · rw [hkS0] at e3; cases e3
        · exact (List.mem_cons.mp z).elim hba hb
    case fin =>
      obtain ⟨h', tk, rfl⟩ := same
      have kk : ∀ b o, b ≠ env.locals → s.heap.get? b = some o → h'.get? b = some o := fun b o hb e => keep b o hb (neA e) (up b o e)
      obtain ⟨C', F'⟩ := F.butLoc (tk := tk) O ho hn ns kk
      subst ee2
      refine ⟨.none, rfl, wpAny_pure ⟨_, rfl, q _ _ C' F' ⟨_, p.toList.map fun i => vs.getD i Value.none, c, rfl, haH, hlist, RdAll.mk (by simp) fun i d' v' e1 e2 => ?_⟩⟩⟩
      rw [List.getElem?_map] at e1 e2
      obtain ⟨j, hj, rfl⟩ := Option.map_eq_some_iff.mp e1
      rw [hj] at e2
      cases e2
      have hjl : j < ds.length := hp j (List.mem_of_getElem? hj)
      have e3 : ds[j]? = some (ds.getD j .none) := by rw [List.getD_eq_getElem?_getD, List.getElem?_eq_getElem hjl]; rfl
      have e4 : vs[j]? = some (vs.getD j Value.none) := by rw [List.getD_eq_getElem?_getD, List.getElem?_eq_getElem (by omega)]; rfl
      obtain ⟨v'', e5, r5⟩ := rvs.get e3
      rw [e4] at e5; cases e5
      exact Rd.move (fun b o hb e => ⟨keep b o (fun z => hb (z ▸ LH)) (fun z => by rw [z] at e; rw [show (Heap.get? hh2 hh2.objs.size) = none from haN] at e; cases e) (Heap.get?_push_of_some _ e), hb⟩) _ _ r5
end
end

section
open PySem.AutoSeq1 (wpAny_loadPart')
open PySem.MeetsSeq PySem.MeetsSeq3

theorem lt_drop {ns ms : List Int} {i : Nat} (h1 : i < ns.length) (h2 : i < ms.length) : decide (ns.drop i < ms.drop i) = if ns[i] == ms[i] then decide (ns.drop (i + 1) < ms.drop (i + 1)) else decide (ns[i] < ms[i]) := by
  rw [List.drop_eq_getElem_cons h1, List.drop_eq_getElem_cons h2]
  by_cases h : ns[i] = ms[i]
  · rw [if_pos (by simpa using h)]
    rw [decide_eq_decide, List.cons_lt_cons_iff]
    constructor
    · rintro (q | ⟨_, q⟩)
      · exact absurd q (by rw [h]; exact Int.lt_irrefl _)
      · exact q
    · intro q; exact .inr ⟨h, q⟩
  · rw [if_neg (by simpa using h)]
    rw [decide_eq_decide, List.cons_lt_cons_iff]
    constructor
    · rintro (q | ⟨q, _⟩)
      · exact q
      · exact absurd q h
    · intro q; exact .inl q

theorem intsGet : ∀ {vs : List Value} {ns : List Int}, IntsAre vs ns → ∀ (i : Nat) (h : i < ns.length), ∃ t, vs[i]? = some (.int ns[i] t)
  | _, _, .nil, i, h => absurd h (Nat.not_lt_zero _)
  | _, _, .cons n t r, 0, h => ⟨t, rfl⟩
  | _, _, .cons n t r, i + 1, h => by
    obtain ⟨t', e⟩ := intsGet r i (Nat.lt_of_succ_lt_succ h)
    exact ⟨t', by simpa using e⟩
theorem lt_loop (l b : Addr) (items items2 : Array Value) (n n2 : Nat) (ns ms : List Int) (hn : IntsAre items.toList ns) (hm : IntsAre items2.toList ms) (hsz : items.size = items2.size) (k : Nat) :
    ∀ i : Nat, items.size - i = k → i ≤ items.size → Meets (Builtin.«list.__eq__.loop» ⟨[.ref l, .ref b, rawInt i, rawInt 0], []⟩)
      (fun _ R s => s.heap.get? l = some { cls := .type "list", dict := none, data := .seq items n, slots := #[] } ∧ s.heap.get? b = some { cls := .type "list", dict := none, data := .seq items2 n2, slots := #[] } ∧
        R (.ok (.ret (.bool (decide (ns.drop i < ms.drop i))))) s) := by
  have l1 : ns.length = items.size := by have := hn.length; rw [Array.length_toList] at this; omega
  have l2 : ms.length = items2.size := by have := hm.length; rw [Array.length_toList] at this; omega
  induction k with
  | zero =>
    intro i hk hi prog w A R s h
    obtain ⟨hp, g, d, tk, os⟩ := s; obtain ⟨hl, hb, h⟩ := h
    wp_walk using wpAny_loadPart' hl, wpAny_loadPart' hb
    have hi1 : items[((i : Nat) : Int).toNat]? = none := by simp; omega
    have hi2 : items2[((i : Nat) : Int).toNat]? = none := by simp; omega
    have hd : ns.drop i = [] := List.drop_eq_nil_of_le (by omega)
    have hd2 : ms.drop i = [] := List.drop_eq_nil_of_le (by omega)
    rw [hd, hd2] at h
    rw [hi1, hi2]
    wp_walk using wpAny_loadPart' hl, wpAny_loadPart' hb
    show R (.ok (.ret (.bool (decide (items.size < items2.size))))) _
    rw [hsz]
    simpa using h
  | succ k ih =>
    intro i hk hi prog w A R s h
    obtain ⟨hp, g, d, tk, os⟩ := s; obtain ⟨hl, hb, h⟩ := h
    wp_walk using wpAny_loadPart' hl, wpAny_loadPart' hb
    have hlt : i < items.size := by omega
    have hlt2 : i < items2.size := by omega
    have hi1 : items[((i : Nat) : Int).toNat]? = some items[i] := by simp [hlt]
    have hi2 : items2[((i : Nat) : Int).toNat]? = some items2[i] := by simp [hlt2]
    have hc : ((i : Int) + 1) = ((i + 1 : Nat) : Int) := by push_cast; rfl
    obtain ⟨t, ht⟩ : ∃ t, items[i] = .int (ns[i]'(by omega)) t := by
      obtain ⟨t, e⟩ := intsGet hn i (by omega)
      rw [Array.getElem?_toList, Array.getElem?_eq_getElem hlt] at e
      exact ⟨t, Option.some.inj e⟩
    obtain ⟨u, hu⟩ : ∃ u, items2[i] = .int (ms[i]'(by omega)) u := by
      obtain ⟨t, e⟩ := intsGet hm i (by omega)
      rw [Array.getElem?_toList, Array.getElem?_eq_getElem hlt2] at e
      exact ⟨t, Option.some.inj e⟩
    rw [lt_drop (by omega) (by omega)] at h
    rw [hi1, hi2, ht, hu]
    refine wpAny_bind (wpAny_eqBool_int ?_)
    cases hb' : (ns[i]'(by omega) == ms[i]'(by omega)) with
    | true =>
      rw [hb', if_pos rfl] at h
      wp_walk
      rw [hc]
      exact ⟨plainId_quiet plain_eq_loop _, codeAny_builtin entry_eq_loop (by
        rw [Around.under_plainId plain_eq_loop _]
        exact ih (i + 1) (by omega) (by omega) prog w A R _ ⟨hl, hb, h⟩)⟩
    | false =>
      rw [hb', if_neg (by decide)] at h
      wp_walk using wpAny_loadPart' hl, wpAny_loadPart' hb
      rw [hi1, hi2, ht, hu]
      show wpAny _ _ (compareOp .Lt (.int (ns[i]'(by omega)) t) (.int (ms[i]'(by omega)) u) >>= fun v => ret v) _ _ _
      exact wpAny_bind (P.lt_int (wpAny_pure h))

theorem list_lt (l b : Addr) (items items2 : Array Value) (n n2 : Nat) (ns ms : List Int) (hn : IntsAre items.toList ns) (hm : IntsAre items2.toList ms) (hsz : items.size = items2.size) :
    Meets (Builtin.«list.__lt__» ⟨[.ref l, .ref b], []⟩)
      (fun _ R s => s.heap.get? l = some { cls := .type "list", dict := none, data := .seq items n, slots := #[] } ∧ s.heap.get? b = some { cls := .type "list", dict := none, data := .seq items2 n2, slots := #[] } ∧
        R (.ok (.ret (.bool (decide (ns < ms))))) s) := by
  intro prog w A R s h
  obtain ⟨hp, g, d, tk, os⟩ := s; obtain ⟨hl, hb, h⟩ := h
  have f3 := PySem.AutoSeq1.sub_list_list
  wp_walk using wpAny_loadPart' hl, wpAny_loadPart' hb
  exact ⟨plainId_quiet plain_eq_loop _, codeAny_builtin entry_eq_loop (by
    rw [Around.under_plainId plain_eq_loop _]
    exact lt_loop l b items items2 n n2 ns ms hn hm hsz _ 0 rfl (Nat.zero_le _) prog w A R _ ⟨hl, hb, by simpa using h⟩)⟩
end

section
section
variable {prog : Program} {w : World} {A : Around}
theorem dStrs_are {h : Heap} {H : List Addr} : ∀ {xs : List Str} {vs : List Value}, RdAll h H (dStrs xs) vs → StrsAre vs xs
  | [], _, r => by subst r; exact .nil
  | x :: xs, _, r => by obtain ⟨v, rest, rfl, ⟨t, rfl⟩, r2⟩ := r; exact .cons x t (dStrs_are r2)
theorem kind_strs {xs : List Str} (h2 : 2 ≤ xs.length) (Hk : List Addr) (ks : List Value) (s : Shared) (Q : SortKind → Shared → Prop) (r : RdAll s.heap Hk (dStrs xs) ks) (q : Q oneType' s) : wpAny (model prog w) A (keyKind' (List.toArray ks)) Q (fun _ _ => False) s := by
  have hl := r.length
  rw [dStrs_len] at hl
  have hS := dStrs_are r
  match ks, hl with
  | [], hl => simp at hl; omega
  | [_], hl => simp at hl; omega
  | v₁ :: v₂ :: vs, _ => rw [keyKind_strs hS]; exact wpAny_pure q
theorem cmp_strs {xs : List Str} (Hk : List Addr) (i j : Nat) (ks : List Value) (s : Shared) (C : Bool → Shared → Prop) (hi : i < xs.length) (hj : j < xs.length) (r : RdAll s.heap Hk (dStrs xs) ks) (hC : ∀ s', Keeps s s' → C (decide ((xs.getD i ⟨#[]⟩).cps.toList < (xs.getD j ⟨#[]⟩).cps.toList)) s') : kas_ask prog w A oneType' ks i j C s := by
  have get : ∀ k, k < xs.length → ∃ t, ks.getD k Value.none = .str (xs.getD k ⟨#[]⟩) t := fun k hk => by
    have e : (dStrs xs)[k]? = some (.str (xs.getD k ⟨#[]⟩)) := dStrs_get (by rw [List.getD_eq_getElem?_getD, List.getElem?_eq_getElem hk]; rfl)
    obtain ⟨v, e2, t, rfl⟩ := r.get e
    exact ⟨t, by rw [List.getD_eq_getElem?_getD, e2]; rfl⟩
  obtain ⟨t, e1⟩ := get i hi
  obtain ⟨u, e2⟩ := get j hj
  unfold kas_ask
  rw [e1, e2, keyLt'_oneType]
  exact oneLt_str (hC s (keepsRefl s))

noncomputable def dLists (xs : List (List Int)) : List Dt := xs.map fun l => .list (dInts l)
theorem dLists_get {xs : List (List Int)} {k : Nat} (hk : k < xs.length) : (dLists xs)[k]? = some (.list (dInts (xs.getD k []))) := by
  unfold dLists
  rw [List.getElem?_map, List.getD_eq_getElem?_getD, List.getElem?_eq_getElem hk]; rfl
theorem mapM_firsts {h : Heap} {H : List Addr} {M : Model} {E : Value → Shared → Prop} : ∀ {xs : List (List Int)} {vs : List Value} {s : Shared} {Q : List (Option Value) → Shared → Prop}, s.heap = h → RdAll h H (dLists xs) vs → Q (vs.map fun _ => none) s → wpAny M A (vs.mapM firstOfTuple') Q E s
  | [], _, s, Q, hs, r, q => by subst r; rw [List.mapM_nil]; exact wpAny_pure q
  | x :: xs, _, s, Q, hs, r, q => by
    obtain ⟨v, rest, rfl, ⟨a, vs, n, rfl, _, hl, _⟩, r2⟩ := r
    rw [List.mapM_cons]
    refine wpAny_bind ?_
    show wpAny M A (do
      if (← typeOf (.ref a)) != .type "tuple" then return none
      return (← Builtin.List.listItems (.ref a))[0]? : Sem (Option Value)) _ _ _
    refine wpAny_bind (wpAny_typeOf (T := "list") ⟨_, hs ▸ hl, rfl⟩ ?_)
    rw [if_pos (by decide)]
    exact wpAny_pure (wpAny_bind (mapM_firsts hs r2 (wpAny_pure q)))
theorem mapM_types {h : Heap} {H : List Addr} {M : Model} {E : Value → Shared → Prop} : ∀ {xs : List (List Int)} {vs : List Value} {s : Shared} {Q : List Value → Shared → Prop}, s.heap = h → RdAll h H (dLists xs) vs → Q (vs.map fun _ => .type "list") s → wpAny M A (vs.mapM typeOf) Q E s
  | [], _, s, Q, hs, r, q => by subst r; rw [List.mapM_nil]; exact wpAny_pure q
  | x :: xs, _, s, Q, hs, r, q => by
    obtain ⟨v, rest, rfl, ⟨a, vs, n, rfl, _, hl, _⟩, r2⟩ := r
    rw [List.mapM_cons]
    exact wpAny_bind (wpAny_typeOf (T := "list") ⟨_, hs ▸ hl, rfl⟩ (wpAny_bind (mapM_types hs r2 (wpAny_pure q))))
theorem kind_lists {xs : List (List Int)} (h2 : 2 ≤ xs.length) (Hk : List Addr) (ks : List Value) (s : Shared) (Q : SortKind → Shared → Prop) (r : RdAll s.heap Hk (dLists xs) ks) (q : Q oneType' s) : wpAny (model prog w) A (keyKind' (List.toArray ks)) Q (fun _ _ => False) s := by
  have hl := r.length
  have hlx : (dLists xs).length = xs.length := by simp [dLists]
  rw [hlx] at hl
  obtain ⟨v₁, vs, rfl⟩ : ∃ v₁ vs, ks = v₁ :: vs := by
    cases ks with
    | nil => simp at hl; omega
    | cons v₁ vs => exact ⟨v₁, vs, rfl⟩
  rw [keyKind'_eq, List.mapM_toArray, map_eq_pure_bind]
  refine wpAny_bind (wpAny_bind (mapM_firsts rfl r (wpAny_pure ?_)))
  rw [if_neg (by simp), if_neg (by simp)]
  rw [oneTypeOnly'_eq, List.mapM_toArray, map_eq_pure_bind]
  refine wpAny_bind (wpAny_bind (wpAny_bind (mapM_types rfl r (wpAny_pure ?_))))
  have hall : ((List.map (fun _ => Value.type "list") (v₁ :: vs)).toArray.all fun x => x == Value.type "list") = true := by
    simp only [List.all_toArray, List.all_map, List.all_eq_true]
    intro _ _
    rfl
  have h0 : (List.map (fun _ => Value.type "list") (v₁ :: vs)).toArray[0]? = some (Value.type "list") := by simp
  rw [h0]
  simp only [hall, if_true]
  exact wpAny_pure (wpAny_pure q)
theorem cmp_lists {xs : List (List Int)} {m : Nat} (hu : A.units < cLine) (hall : ∀ l ∈ xs, l.length = m) (Hk : List Addr) (i j : Nat) (ks : List Value) (s : Shared) (C : Bool → Shared → Prop) (hi : i < xs.length) (hj : j < xs.length) (r : RdAll s.heap Hk (dLists xs) ks) (hC : ∀ s', Keeps s s' → C (decide (xs.getD i [] < xs.getD j [])) s') : kas_ask prog w A oneType' ks i j C s := by
  obtain ⟨v, e1, a, vs, n, rfl, _, hl1, r1⟩ := r.get (dLists_get hi)
  obtain ⟨u, e2, b, us, k, rfl, _, hl2, r2⟩ := r.get (dLists_get hj)
  have mem : ∀ k, k < xs.length → xs.getD k [] ∈ xs := fun k hk => by rw [List.getD_eq_getElem?_getD, List.getElem?_eq_getElem hk]; exact List.getElem_mem hk
  unfold kas_ask
  rw [show ks.getD i Value.none = .ref a by rw [List.getD_eq_getElem?_getD, e1]; rfl, show ks.getD j Value.none = .ref b by rw [List.getD_eq_getElem?_getD, e2]; rfl, keyLt'_oneType, oneLt'_eq]
  simp only [if_true]
  refine wpAny_bind (wpAny_cRoomFor hu ?_)
  have q1 := r1.length
  have q2 := r2.length
  rw [dInts_len, hall _ (mem i hi)] at q1
  rw [dInts_len, hall _ (mem j hj)] at q2
  refine wpAny_bind (wpAny_callSpecialIfBound?_slot (T := "list") ⟨_, hl1, rfl⟩ PySem.F.slot_list_lt (call_meets PySem.F.slot_list_lt ⟨_, hl1, rfl⟩ PySem.F.entry_list_lt (PySem.F.args_list_lt_2 _ _) (list_lt a b vs.toArray us.toArray n k (xs.getD i []) (xs.getD j []) (by simpa using rd_ints r1) (by simpa using rd_ints r2) (by simp [q1, q2])) ⟨hl1, hl2, ?_⟩))
  exact wpAny_truthy_bool (hC s (keepsRefl s))
end
end

section
section
variable {prog : Program} {w : World} {A : Around} {h₀ : Heap} {s₀ s : Shared} {W : List Addr} {env : Env} {H : List Addr} {own : List (Addr × Ow)} {pm : List (Str × Dt)} {mg mb : Str → Option Value} {nm : List (Str × NameKind)} {oa : List Addr} {pre post : List (Addr × Ow)} {e : Expr} {pos : Pos}

noncomputable def unhide (H : List Addr) (clos : List (Str × Addr)) : List Addr := H.filter fun a => decide (a ∉ clos.map (·.2))
theorem unhide_sub {H : List Addr} {clos : List (Str × Addr)} : ∀ a ∈ unhide H clos, a ∈ H := fun a h => (List.mem_filter.mp h).1
theorem unhide_not {H : List Addr} {clos : List (Str × Addr)} {a : Addr} (h : a ∈ unhide H clos) : a ∉ clos.map (·.2) := of_decide_eq_true (List.mem_filter.mp h).2
theorem unhide_mem {H : List Addr} {clos : List (Str × Addr)} {a : Addr} (h : a ∈ H) (hc : a ∉ clos.map (·.2)) : a ∈ unhide H clos := List.mem_filter.mpr ⟨h, decide_eq_true hc⟩
noncomputable def NoCell (d : Dt) : Prop := ∀ (h : Heap) (H H' : List Addr) (v : Value), Rd h H d v → (∀ a ∈ H', a ∈ H ∨ ∃ o cv, h.get? a = some o ∧ o.data = .cell cv) → Rd h H' d v
theorem noCell_str {x : Str} : NoCell (.str x) := fun _ _ _ _ r _ => r
theorem noCell_ints {l : List Int} : NoCell (.list (dInts l)) := fun h H H' v r k => by
  obtain ⟨a, vs, n, rfl, ha, hl, rr⟩ := r
  refine ⟨a, vs, n, rfl, fun q => ?_, hl, ?_⟩
  · rcases k a q with z | ⟨o, cv, e1, e2⟩
    · exact ha z
    · rw [hl] at e1; cases e1; cases e2
  · have anyH : ∀ {ns : List Int} {vs : List Value}, RdAll h H (dInts ns) vs → RdAll h H' (dInts ns) vs := by
      intro ns
      induction ns with
      | nil => intro vs r; exact r
      | cons n ns ih => intro vs r; obtain ⟨v, rest, rfl, ⟨t, rfl⟩, r4⟩ := r; exact ⟨_, rest, rfl, ⟨t, rfl⟩, ih r4⟩
    exact anyH rr

theorem evw_sorted {func arg : Expr} {params : Arguments} {body : Expr} {scope : Scope} {lp kp : Pos} {q : Str} {clos : List (Str × Addr)} {pmc : List (Str × Dt)} {d : Dt} {ds dks : List Dt} {n m : Nat} {o : Nat → Nat → Bool} {p : Array Nat}
    (B : Base w mg mb h₀) (M : Maker mg h₀) (N : Nm env nm) (O : FOk h₀ W env H oa) (ho : own.map (·.1) = oa) (e1 : own = pre ++ (172, .tab q) :: post)
    (hcode : env.code = .ref 174) (hdef : defaultsOf params env = ([], [])) (hcl : closOf env.cells scope.names [] = some clos) (hq : env.qual ++ "<lambda>" = q) (hcm : ∀ y c, clos.lookup y = some c → env.cells.lookup y = some c) (hcm2 : ∀ c ∈ clos.map (·.2), ∃ y, env.cells.lookup y = some c) (hpm : ∀ y e, pmc.lookup y = some e → pm.lookup y = some e ∧ nm.lookup y ≠ some .local) (hpm2 : ∀ y c, clos.lookup y = some c → ∃ e, pmc.lookup y = some e)
    (hf : Ev prog w A (fs h₀ env H own pm) H env func (.val (.builtin "sorted"))) (hx : Ev prog w A (fs h₀ env H own pm) H env arg d) (hd : (∃ xs, d = .list xs) ∨ ∃ a b c, d = .rng a b c) (Rm : Room A m) (hnm : n + 2 ≤ m)
    (col : Col prog w A.in1 H d ds) (h2 : 2 ≤ ds.length) (h64 : ds.length < 64) (hlen : dks.length = ds.length) (hno : ∀ dk ∈ dks, NoCell dk)
    (hpc : ∀ (h₁ : Heap) (f : Addr) (pmv cv ctv : Value), Base w mg mb h₁ → h₁.get? f = some (lamObj q params body scope clos pmv cv ctv) → h₁.CodeRec cv q → (∀ y c, clos.lookup y = some c → ∃ v, h₁.IsCell c (some v) ∧ ∀ e, pmc.lookup y = some e → Rd h₁ [] e v) → ∀ (i : Nat) (di dk : Dt), ds[i]? = some di → dks[i]? = some dk → PC w mg mb h₁ (.ref f) n [di] [] dk)
    (hkind : ∀ (Hk : List Addr) (ks : List Value) (s' : Shared) (Q : SortKind → Shared → Prop), RdAll s'.heap Hk dks ks → Q oneType' s' → wpAny (model prog w) A.in1.in1 (keyKind' (List.toArray ks)) Q (fun _ _ => False) s')
    (hcmp : ∀ (Hk : List Addr) (i j : Nat) (ks : List Value) (s' : Shared) (C : Bool → Shared → Prop), i < ds.length → j < ds.length → RdAll s'.heap Hk dks ks → (∀ s'', Keeps s' s'' → C (o i j) s'') → kas_ask prog w A.in1.in1 oneType' ks i j C s')
    (hrun : runK ds.length o (kas_sort ds.length) = some p) (hp : ∀ i ∈ p.toList, i < ds.length)
    (hc : eval (.Call func [arg] [⟨some (Str.ofString "key"), .Lambda params body scope lp, kp⟩] pos) env = (do callWith pos (← eval func env) [] (backTo pos (starEach [arg] env)) (backToKw pos (keywordEach [⟨some (Str.ofString "key"), .Lambda params body scope lp, kp⟩] env))) := by rfl)
    (st0 : starEach [arg] env = (false, eval arg env) :: starEach [] env := by rfl) (hb0 : backTo pos (starEach [arg] env) = (false, eval arg env) :: backTo pos (starEach [] env) := by rfl) (hp0 : (backTo pos (starEach [arg] env)).any (·.1) = false := by rfl) :
    EvW prog w A h₀ W env H own pm (.Call func [arg] [⟨some (Str.ofString "key"), .Lambda params body scope lp, kp⟩] pos) (.list (p.toList.map fun i => ds.getD i .none)) := ⟨fun s F Q E qq => by
  rw [hc]
  refine wpAny_bind (hf.run s F _ _ fun g s₁ k₁ r₁ => ?_)
  obtain rfl : g = .builtin "sorted" := r₁
  have F₁ := F.keeps k₁
  refine PyProof.Rows.callWith_kw ((evs_cons hx evs_nil st0).run s₁ pos F₁ _ _ fun vs s₂ k₂ r₂ => kws_cons ?_) hb0 hp0
  have F₂ := F₁.keeps k₂
  obtain ⟨v, rfl, rv⟩ := rd1 r₂
  obtain ⟨x, rfl⟩ : ∃ x, v = .ref x := by
    rcases hd with ⟨xs, rfl⟩ | ⟨a, b, c, rfl⟩
    · obtain ⟨a, _, _, rfl, _⟩ := rv; exact ⟨a, rfl⟩
    · obtain ⟨a, _, _, _, rfl, _⟩ := rv; exact ⟨a, rfl⟩
  have C₂ : Chg W s s₂ := (Chg.keeps k₁).trans (Chg.keeps k₂)
  have F₂' := F₂
  rw [e1] at F₂'
  refine run_lambda B M N O C₂ F₂' (by rw [← e1]; exact ho) hcode hdef hcl hq fun f cv ctv s₃ hf0 hfx C₃ C₂₃ F₃ hfo rcv => kws_nil ?_
  rw [← e1] at F₃
  have fH : f ∉ H := fun z => by obtain ⟨o, e⟩ := F₂.ex f z; rw [hf0] at e; cases e
  have rv₃ : Rd s₃.heap H d (.ref x) := Rd.move (fun b o hb e => ⟨C₂₃.get (fun q => hb (O.WH b q)) e, hb⟩) _ _ rv
  obtain ⟨c, oc', vs', t', rfl, cH, g1, g2, g3⟩ := rcv
  have nu : ∀ {b}, b ∉ H → b ∉ unhide H clos := fun hb q => hb (unhide_sub _ q)
  have B₁ : Base w mg mb (hideAll s₃.heap (unhide H clos)) := B.keeps fun b o e => hideAll_get _ (F₃.base b o e) (nu fun q => by rw [O.hid b q] at e; cases e)
  have cellsOk : ∀ y c, clos.lookup y = some c → ∃ v, (hideAll s₃.heap (unhide H clos)).IsCell c (some v) ∧ ∀ e, pmc.lookup y = some e → Rd (hideAll s₃.heap (unhide H clos)) [] e v := fun y c ec => by
    obtain ⟨cv', ⟨o', hco, hcd⟩, hdd⟩ := F₃.cells y c (hcm y c ec)
    obtain ⟨e, he⟩ := hpm2 y c ec
    obtain ⟨he1, he2⟩ := hpm y e he
    obtain ⟨v, rfl, rr⟩ := hdd e he1 (by rw [N.of rfl]; exact he2)
    have hcn : c ∉ unhide H clos := fun z => unhide_not z (List.mem_map.mpr ⟨(y, c), mem_of_lookup ec, rfl⟩)
    refine ⟨v, ⟨o', hideAll_get _ hco hcn, hcd⟩, fun e' he' => ?_⟩
    rw [he] at he'; cases he'
    exact Rd.move (fun b o hb e => ⟨hideAll_get _ e (nu hb), List.not_mem_nil⟩) _ _ rr
  have PCs := hpc _ f _ (.ref c) ctv B₁ (hideAll_get _ hfo (nu fH)) ⟨c, oc', vs', t', rfl, hideAll_get _ g1 (nu cH), g2, g3⟩ cellsOk
  refine call_sorted O ho F₃ rv₃ col h2 h64 hlen (fun Hk i u di dk s' hdi hdk hk1 hk2 hk3 keep ru => ?_) hkind hcmp hrun hp fun r s' C F' rr => qq r s' (C₃.trans C) F' rr
  intro Q' E' q'
  have sub : ∀ a ∈ unhide Hk clos, a ∈ Hk := unhide_sub
  have hkNew : ∀ a ∈ unhide Hk clos, (hideAll s₃.heap (unhide H clos)).get? a = none := fun a ha => by
    rcases hk1 a (sub a ha) with z | z
    · exact hideAll_none _ (unhide_mem z (unhide_not ha))
    · cases w' : (hideAll s₃.heap (unhide H clos)).get? a with
      | none => rfl
      | some o => rw [of_hideAll _ w'] at z; cases z
  have LH := O.WH _ O.loc
  have Lc : env.locals ∉ clos.map (·.2) := fun z => by
    obtain ⟨y, ey⟩ := hcm2 _ z
    exact (O.cell y _ ey).2 rfl
  refine (PCs i di dk hdi hdk).run prog A.in1.in1 s' (unhide Hk clos) [u] [] ⟨Rm.hh, by have := Rm.dp; show A.depth + n < 900; omega, by have := Rm.un; show A.units + 1 + 1 + 100 + 10 * n < 9000; omega⟩ (fun b o e => keep b o (fun z => ?_) (of_hideAll _ e)) hkNew (fun a ha => hk3 a (sub a ha)) ⟨u, [], rfl, ru.sub sub, rfl⟩ rfl Q' E' fun kv s'' k'' rk => q' kv s'' k'' (hno dk (List.mem_of_getElem? hdk) _ _ _ _ rk fun a ha => ?_)
  · subst z
    rw [hideAll_none _ (unhide_mem LH Lc)] at e; cases e
  · by_cases z : a ∈ clos.map (·.2)
    · obtain ⟨y, ey⟩ := hcm2 _ z
      obtain ⟨cv', ⟨o', hco, hcd⟩, _⟩ := F₃.cells y a ey
      exact .inr ⟨o', cv', keepsHeap k'' _ _ (keep a o' (O.cell y a ey).2 hco), hcd⟩
    · exact .inl (unhide_mem ha z)⟩
end
end

section
section
variable {prog : Program} {w : World} {A : Around} {h₀ : Heap} {s₀ s : Shared} {W : List Addr} {env : Env} {H H' : List Addr} {own : List (Addr × Ow)} {pm : List (Str × Dt)} {mg mb : Str → Option Value} {nm : List (Str × NameKind)} {oa : List Addr} {e : Expr} {pos : Pos} {d : Dt}
  {Q : Flow → Shared → Prop} {rest : List Stmt}

theorem x_asgW {x : Str} {px : Pos} (O : FOk h₀ W env H oa) (S : Chg W s₀ s) (F : FSt h₀ env H own pm s) (h : EvW prog w A h₀ W env H own pm e d) (hst : Sto prog w A h₀ W env oa x)
    (k : ∀ s', Chg W s₀ s' → FSt h₀ env H own ((x, d) :: pm) s' → Ex prog w A rest env Q s') (hsw : swapsWith e (some (.Name x px)) pos.line env = pure false := by rfl) (ho : own.map (·.1) = oa := by rfl) :
    Ex prog w A (.Assign [.Name x px] e pos :: rest) env Q s :=
  ⟨fun E => wpAny_execs_cons (wpAny_Assign_Name (h.run s F _ _ fun v s₁ C₁ F₁ r₁ => hst.run s₁ H own pm v d _ _ O ho F₁ r₁ fun s' S' F' => (k s' ((S.trans C₁).trans S') F').run E) hsw)⟩

theorem evw_comp {elt iter : Expr} {x : Str} {px : Pos} {ifs : List Expr} {scope : Scope} {cl : List (Str × Addr)} {ds : List Dt} {dsrc : Dt} {pmf : List (Str × Dt)} (g : Nat → Option Dt)
    (N : Nm env nm) (so : ScOk scope x) (hcl : closOf env.cells scope.names [] = some cl) (hi : EvW prog w A h₀ W env H own pm iter dsrc) (src : It prog w A H dsrc ds) (hz : ds.length ≤ 1000)
    (hpm : CovC nm (relab scope.names nm) pm pmf) (he : ∀ i d, ds[i]? = some d → Elt prog w A h₀ env H own pmf nm x ifs elt scope cl d (g i)) (hs : ∀ x, foldedSetIterable iter env x = pure x := by intro _; rfl) :
    EvW prog w A h₀ W env H own pm (.ListComp elt [⟨.Name x px, iter, ifs, 0⟩] scope pos) (.list ((List.range ds.length).filterMap g)) := ⟨fun s F Q E q => by
  rw [eval_ListComp]
  refine wpAny_comprehension_free (use := none) rfl hs (closureFor_of hcl) so.kind so.names (hi.run s F _ _ fun v s₁ C₁ F₁ r₁ => src s₁ v r₁ _ _ fun I fp wr P St s₂ k₂ WK hst hfp hlt hwr hP hSx => ?_)
  refine comp_core (RR := fun acc C => compPost (model prog w) A E none Q acc C) g N so.cell so.kind so.x (clos_look _ _ _ hcl fun _ _ e => nomatch e) F₁ k₂ WK hst hfp (fun b hb => let ⟨o, e⟩ := hlt b hb; Heap.lt_size e) hwr hP hSx hz hpm he ?_
  intro D C h' tk m' vs n H' hD hC hDC hDH hn hl hsub hCH hr hk
  refine ⟨m', hn, fun h'' hs'' => ?_⟩
  have kh2 := keepsHeap k₂
  have k3 : Keeps s₁ { s₂ with heap := h'', toks := tk } := by
    obtain ⟨h2, t2, rfl, kk2⟩ := k₂
    refine ⟨h'', tk, rfl, fun b o e => hs''.extBut b o (fun q => ?_) (hk b o (fun q => by rw [hwr b q] at e; cases e) (kk2 b o e))⟩
    have := kk2 b o e
    rw [q, hC] at this; cases this
  refine q _ _ (C₁.trans (Chg.keeps k3)) (F₁.keeps k3) ⟨D, vs, n, rfl, hDH, hs''.extBut _ _ hDC hl, RdAll.move (fun b o hb e => ⟨hs''.extBut b o (fun q => hb (q ▸ hCH)) e, fun q => hb (hsub b q)⟩) _ _ hr⟩⟩

theorem y_if_neW {l r : Expr} {body orelse : List Stmt} {p : Pos} {la : Addr} {ds es : List Dt} {b : Bool} (O : FOk h₀ W env H oa) (S : Chg W s₀ s) (F : FSt h₀ env H own pm s) (hl : Ev prog w A (fs h₀ env H own pm) H env l (.val (.ref la))) (hm : (la, Ow.lst ds) ∈ own) (hr : EvW prog w A h₀ W env H own pm r (.list es))
    (cmp : ∀ (s : Shared) (v : Value) (Q : Value → Shared → Prop) (E : Value → Shared → Prop), OwAt s.heap H la (.lst ds) → Rd s.heap H (.list es) v → (∀ s', Keeps s s' → Q (.bool b) s') → wpAny (model prog w) A (compareOp .NotEq (.ref la) v) Q E s)
    (k₁ : b = true → ∀ s', Chg W s₀ s' → FSt h₀ env H own pm s' → Ex prog w A (body ++ rest) env Q s') (k₂ : b = false → ∀ s', Chg W s₀ s' → FSt h₀ env H own pm s' → Ex prog w A (orelse ++ rest) env Q s') (hmk : behindInMarks .NotEq r = false := by rfl) :
    Ex prog w A (.If (.Compare l [.NotEq] [r] p) body orelse pos :: rest) env Q s := by
  refine ⟨fun E Γ pp hΓ => ?_⟩
  rw [execs_cons, Sem.wp_bind', exec_If]
  have g : wpAny (model prog w) A (isTrue (.Compare l [.NotEq] [r] p) env (eval (.Compare l [.NotEq] [r] p) env)) (fun b' s' => b' = b ∧ Chg W s s' ∧ FSt h₀ env H own pm s') E s := by
    refine wpAny_isTrue_Compare1 (hl.run s F _ _ fun v₁ s₁ k₁ r₁ => hr.run s₁ (F.keeps k₁) _ _ fun v₂ s₂ C₂ F₂ r₂ => ?_) hmk
    obtain rfl : v₁ = .ref la := r₁
    exact cmp s₂ v₂ _ _ (F₂.owns _ hm) r₂ fun s₃ k₃ => wpAny_truthy_bool ⟨rfl, ((Chg.keeps k₁).trans C₂).trans (Chg.keeps k₃), F₂.keeps k₃⟩
  show Sem.wp _ Γ (standAt pos >>= fun _ => isTrue (.Compare l [.NotEq] [r] p) env (eval (.Compare l [.NotEq] [r] p) env) >>= fun b => if b = true then execs body env else execs orelse env) _ _ pp s
  rw [Sem.wp_bind']
  show Sem.wp _ Γ (isTrue (.Compare l [.NotEq] [r] p) env (eval (.Compare l [.NotEq] [r] p) env) >>= fun b => if b = true then execs body env else execs orelse env) _ _ _ s
  rw [Sem.wp_bind']
  refine Sem.wp_mono _ Γ _ (fun b' p' s' ⟨e, c, F'⟩ => ?_) (fun _ _ _ e => e) _ s (g Γ _ hΓ)
  subst e
  cases b' with
  | true => exact wp_app body rest ((k₁ rfl s' (S.trans c) F').run E Γ p' hΓ)
  | false => exact wp_app orelse rest ((k₂ rfl s' (S.trans c) F').run E Γ p' hΓ)
end
end

section
open PySem.SeqAt PySem.MeetsSeq
noncomputable def EqOk : Nat → Dt → Prop
  | _, .int _ => True
  | _, .str _ => True
  | k + 1, .tup xs => ∀ x ∈ xs, EqOk k x
  | k + 1, .list xs => ∀ x ∈ xs, EqOk k x
  | _, _ => False

theorem eq_items {A : Around} {s : Shared} {H H' : List Addr} {k : Nat} (ih : ∀ d, EqOk k d → ∀ v v', Rd s.heap H d v → Rd s.heap H' d v' → EqAt A s v v' true) {xs : List Dt} (hx : ∀ x ∈ xs, EqOk k x) {vs us : List Value} (r : RdAll s.heap H xs vs) (q : RdAll s.heap H' xs us) :
    ∀ j (h1 : j < vs.toArray.size) (h2 : j < us.toArray.size), EqAt A s vs.toArray[j] us.toArray[j] true := fun j h1 h2 => by
  have h1' : j < vs.length := by simpa using h1
  have h2' : j < us.length := by simpa using h2
  obtain ⟨d, e1, rv⟩ := r.get' (List.getElem?_eq_getElem h1')
  obtain ⟨u, e2, ru⟩ := q.get e1
  rw [List.getElem?_eq_getElem h2'] at e2
  have := ih d (hx d (List.mem_of_getElem? e1)) _ _ rv ru
  cases e2
  simpa using this

theorem allTrue (n : Nat) : ((List.range n).all fun _ => true) = true := by rw [List.all_eq_true]; intros; rfl
theorem eq_data (k : Nat) : ∀ (d : Dt), EqOk k d → ∀ (A : Around) (s : Shared) (H H' : List Addr) (v v' : Value), A.units + k < cLine → Rd s.heap H d v → Rd s.heap H' d v' → EqAt A s v v' true := by
  induction k with
  | zero =>
    intro d hd A s H H' v v' hu r r'
    cases d with
    | int i =>
      obtain ⟨t, rfl⟩ := r; obtain ⟨u, rfl⟩ := r'
      have := (EqGives.int i i t u).at A s
      simpa using this
    | str x =>
      obtain ⟨t, rfl⟩ := r; obtain ⟨u, rfl⟩ := r'
      have := (PySem.SeqRoads2.EqGives.str x x t u).at A s
      simpa using this
    | _ => exact hd.elim
  | succ k ih =>
    intro d hd A s H H' v v' hu r r'
    cases d with
    | int i =>
      obtain ⟨t, rfl⟩ := r; obtain ⟨u, rfl⟩ := r'
      have := (EqGives.int i i t u).at A s
      simpa using this
    | str x =>
      obtain ⟨t, rfl⟩ := r; obtain ⟨u, rfl⟩ := r'
      have := (PySem.SeqRoads2.EqGives.str x x t u).at A s
      simpa using this
    | tup xs =>
      obtain ⟨a, vs, n, rfl, _, hl, r⟩ := r
      obtain ⟨b, us, m, rfl, _, hm, q⟩ := r'
      by_cases hab : a = b
      · subst hab; exact EqAt.same _
      · have hit := eq_items (A := A.in1) (k := k) (fun d hd v v' r r' => ih d hd A.in1 s H H' v v' (by show A.units + 1 + k < cLine; omega) r r') hd r q
        have hr := RcAt.tuples (A := A) (s := s) (l := a) (b := b) (items := vs.toArray) (items2 := us.toArray) (e := fun _ => true) ⟨_, hl, rfl, _, rfl⟩ ⟨_, hm, rfl, _, rfl⟩ (by omega) hit
        refine EqAt.of_refs hab ?_
        rw [allTrue, Bool.true_and, show (vs.toArray.size == us.toArray.size) = true by simp [r.length, q.length]] at hr
        exact hr
    | list xs =>
      obtain ⟨a, vs, n, rfl, _, hl, r⟩ := r
      obtain ⟨b, us, m, rfl, _, hm, q⟩ := r'
      by_cases hab : a = b
      · subst hab; exact EqAt.same _
      · have hit := eq_items (A := A.in1) (k := k) (fun d hd v v' r r' => ih d hd A.in1 s H H' v v' (by show A.units + 1 + k < cLine; omega) r r') hd r q
        have hr := RcAt.lists (A := A) (s := s) (l := a) (b := b) (items := vs.toArray) (items2 := us.toArray) (e := fun _ => true) ⟨_, hl, rfl, _, rfl⟩ ⟨_, hm, rfl, _, rfl⟩ (by simp [r.length, q.length]) (by omega) hit
        refine EqAt.of_refs hab ?_
        rw [allTrue] at hr
        exact hr
    | _ => exact hd.elim

section
variable {prog : Program} {w : World} {A : Around} {Φ : Sp} {s : Shared} {H H' : List Addr} {ds : List Dt} {k : Nat}
theorem list_same_eq (hk : ∀ x ∈ ds, EqOk k x) (hu : A.units + (k + 1) < cLine) {a b : Addr} {vs us : List Value} {n m : Nat} {Q : Value → Shared → Prop} {E : Value → Shared → Prop} (hl : IsL s.heap a vs.toArray n) (hm : IsL s.heap b us.toArray m) (r : RdAll s.heap H ds vs) (q : RdAll s.heap H' ds us) (h : Q (.bool true) s) :
    wpAny (model prog w) A (compareOp .Eq (.ref a) (.ref b)) Q E s := by
  have hit := eq_items (A := A.in1) (k := k) (fun d hd v v' r r' => eq_data k d hd A.in1 s H H' v v' (by show A.units + 1 + k < cLine; omega) r r') hk r q
  refine eq_listAt (e := fun _ => true) ⟨_, hl, rfl, _, rfl⟩ ⟨_, hm, rfl, _, rfl⟩ (by simp [r.length, q.length]) (by omega) hit ?_
  rw [allTrue]; exact h
theorem list_same_ne (hk : ∀ x ∈ ds, EqOk k x) (hu : A.units + (k + 1) < cLine) {a b : Addr} {vs us : List Value} {n m : Nat} {Q : Value → Shared → Prop} {E : Value → Shared → Prop} (hl : IsL s.heap a vs.toArray n) (hm : IsL s.heap b us.toArray m) (r : RdAll s.heap H ds vs) (q : RdAll s.heap H' ds us) (h : Q (.bool false) s) :
    wpAny (model prog w) A (compareOp .NotEq (.ref a) (.ref b)) Q E s := by
  have hit := eq_items (A := A.in1) (k := k) (fun d hd v v' r r' => eq_data k d hd A.in1 s H H' v v' (by show A.units + 1 + k < cLine; omega) r r') hk r q
  refine RcNeAt.lists (e := fun _ => true) ⟨_, hl, rfl, _, rfl⟩ ⟨_, hm, rfl, _, rfl⟩ (by simp [r.length, q.length]) (by omega) hit prog w E Q ?_
  rw [allTrue]; exact h
theorem cmp_eq_list (hk : ∀ x ∈ ds, EqOk k x) (hu : A.units + (k + 1) < cLine) : Cmp prog w A Φ H .Eq (.list ds) (.list ds) true := ⟨fun s v₁ v₂ _ ⟨a, vs, n, e, _, hl, r⟩ ⟨b, us, m, e', _, hm, q⟩ Q E qq => by
  subst e; subst e'
  exact list_same_eq hk hu hl hm r q (qq _ s (keepsRefl s) rfl)⟩
theorem cmp_ne_list (hk : ∀ x ∈ ds, EqOk k x) (hu : A.units + (k + 1) < cLine) : Cmp prog w A Φ H .NotEq (.list ds) (.list ds) false := ⟨fun s v₁ v₂ _ ⟨a, vs, n, e, _, hl, r⟩ ⟨b, us, m, e', _, hm, q⟩ Q E qq => by
  subst e; subst e'
  exact list_same_ne hk hu hl hm r q (qq _ s (keepsRefl s) rfl)⟩
end
end

section
open PySem.Builtin PySem.Builtin.Str
section
variable {prog : Program} {w : World} {A : Around} {Φ : Sp} {H : List Addr} {env : Env} {pos : Pos}
theorem rd_dStrs {h : Heap} {H : List Addr} : ∀ (l : List (Str × Tok)), RdAll h H (dStrs (l.map (·.1))) (strValues l)
  | [] => rfl
  | (x, t) :: r => ⟨.str x t, strValues r, rfl, ⟨t, rfl⟩, rd_dStrs r⟩
theorem cl_split {x y : Str} (X : Hx Φ H) (hy : (y.length == 0) = false) (hz : x.length ≤ 1000) : Cl prog w A Φ H (.builtin "str.split") [.str x, .str y] (.list (dStrs (Txt.split x y))) := ⟨fun s vs hs r Q E q => by
  obtain ⟨v, v', rfl, ⟨t, rfl⟩, ⟨u, rfl⟩⟩ := rd2 r
  have hn : (partsBetween x (occurrences x y 0 x.length (x.length + 1)) y.length).length ≤ sizeLine := by
    have e1 := StrLaws.occ_length_le x y 0 x.length (x.length + 1)
    rw [length_partsBetween, sizeLine_eq]; omega
  have hx : x.length ≤ sizeLine := by rw [sizeLine_eq]; omega
  have fin : ∀ (l : List (Str × Tok)) (k : Nat), l.map (·.1) = Txt.split x y → Q (.ref s.heap.objs.size) { s with toks := k, heap := s.heap.push { cls := .type "list", data := .seq (strValues l).toArray } } := fun l k e => by
    refine q _ _ (keepsPush s _ k) ⟨_, strValues l, 0, rfl, X.new hs (keepsRefl s), Heap.get?_push_size _ rfl, ?_⟩
    rw [← e]
    exact rd_dStrs l
  cases h1 : (decide (x.length < y.length) || decide (strKind x < strKind y))
  · cases hf : (occurrences x y 0 x.length (x.length + 1)).isEmpty
    · refine call_meets PySem.F.slot_str_split (typeIs_str _ _ _) PySem.F.entry_str_split (PySem.F.args_str_split_2 _ _) (meets_str_split_sep x y t u h1 hy hf hx hn) ?_
      show wants Q E _ { s with toks := _, heap := s.heap.push { cls := .type "list", data := .seq (strsFrom s.toks (partsBetween x (occurrences x y 0 x.length (x.length + 1)) y.length)).toArray } }
      rw [strsFrom_eq]
      exact fin (numbered s.toks _) _ ((numbered_texts _ _).trans ((if_neg (ne_true_of_eq_false h1)).trans (if_neg (ne_true_of_eq_false hf))).symm)
    · exact call_meets PySem.F.slot_str_split (typeIs_str _ _ _) PySem.F.entry_str_split (PySem.F.args_str_split_2 _ _) (meets_str_split_not_found x y t u h1 hy hf) (fin [(x, t)] s.toks ((if_neg (ne_true_of_eq_false h1)).trans (if_pos hf)).symm)
  · exact call_meets PySem.F.slot_str_split (typeIs_str _ _ _) PySem.F.entry_str_split (PySem.F.args_str_split_2 _ _) (meets_str_split_cannot_occur x y t u h1) (fin [(x, t)] s.toks (if_pos h1).symm)⟩

theorem mul_rep (c n : Nat) : Txt.mul ⟨#[c]⟩ (n : Int) = ⟨(List.replicate n c).toArray⟩ := by
  unfold Txt.mul
  by_cases h0 : n = 0
  · subst h0; rfl
  · rw [if_neg (by omega)]
    by_cases h1 : n = 1
    · subst h1; rfl
    · have hb : ((n : Int) == 1) = false := by rw [beq_eq_false_iff_ne]; omega
      rw [if_neg (by rw [hb]; exact Bool.false_ne_true)]
      have := foldl_app c n #[]
      rw [show ((n : Int)).toNat = n by omega]
      exact congrArg Str.mk (by simpa using this)
theorem ev_rep {l r : Expr} {c n : Nat} (h₁ : Ev prog w A Φ H env l (.str ⟨#[c]⟩)) (h₂ : Ev prog w A Φ H env r (.int n)) (hz : n ≤ 1000) : Ev prog w A Φ H env (.BinOp l .Mult r pos) (.str ⟨(List.replicate n c).toArray⟩) :=
  ev_bin h₁ h₂ fun s v₁ v₂ hs r₁ r₂ Q E q => by
    obtain ⟨t, rfl⟩ := r₁
    obtain ⟨u, rfl⟩ := r₂
    refine SB.mul ?_ fun t' k => ?_
    · refine ⟨by simp; omega, fun h1 h2 => ?_, fun h1 h2 => ?_⟩
      · have h3 : 1 ≤ ((2 : Int) ^ 63 - 1) / (n : Int) := Int.le_ediv_of_mul_le (by omega) (by omega)
        show ¬ ((1 : Int) > _)
        omega
      · show tooLong (1 * ((n : Int)).toNat) = false
        rw [show ((n : Int)).toNat = n by omega, Nat.one_mul]
        exact decide_eq_false (by rw [sizeLine_eq]; omega)
    · rw [mul_rep]
      exact q _ _ (keepsTok s _) ⟨_, rfl⟩
end
end

section
section
variable {prog : Program} {w : World} {A : Around} {Φ : Sp} {H : List Addr} {env : Env} {pos : Pos}
noncomputable def intIs (k : Int) : Value → Bool
  | .int i _ => i == k
  | _ => false
theorem cl_index {ns : List Int} {k : Int} {j : Nat} (hj : ns[j]? = some k) (hb : ∀ m, m < j → ns[m]? ≠ some k) (hz : ns.length ≤ 1000) : Cl prog w A Φ H (.builtin "list.index") [.list (dInts ns), .int k] (.int j) := ⟨fun s vs hs r Q E q => by
  obtain ⟨v, u, rfl, ⟨a, us, n, rfl, ha, hl, rr⟩, ⟨t, rfl⟩⟩ := rd2 r
  have hi := rd_ints rr
  have hjl : j < ns.length := (List.getElem?_eq_some_iff.mp hj).1
  have hlen : us.length = ns.length := by have := rr.length; rwa [dInts_len] at this
  have at' : ∀ (m : Nat) (hm : m < us.toArray.size), ∃ t, us.toArray[m] = .int (ns[m]'(by rw [List.size_toArray] at hm; omega)) t := fun m hm => by
    have hm' : m < us.length := by rwa [List.size_toArray] at hm
    obtain ⟨t, e⟩ := intsGet hi m (by omega)
    rw [List.getElem?_eq_getElem hm'] at e
    exact ⟨t, by simpa using Option.some.inj e⟩
  have hjs : j < us.toArray.size := by rw [List.size_toArray]; omega
  refine call_meets PySem.F.slot_list_index ⟨_, hl, rfl⟩ PySem.F.entry_list_index (PySem.F.args_list_index_2 _ _) (PySem.MeetsSeq.list_index a us.toArray n (.int k t) (intIs k) (fun y hy => ?_) j hjs (by omega) ?_ fun m hm hmj => ?_) ⟨hl, q _ _ (keepsTok s _) ⟨_, rfl⟩⟩
  · obtain ⟨m, hm, rfl⟩ := Array.mem_iff_getElem.mp hy
    obtain ⟨t', e⟩ := at' m hm
    rw [e]
    exact PySem.MeetsSeq.EqGives.int _ _ _ _
  · obtain ⟨t', e⟩ := at' j hjs
    rw [e]
    rw [List.getElem?_eq_getElem hjl] at hj
    simp [intIs, Option.some.inj hj]
  · obtain ⟨t', e⟩ := at' m hm
    rw [e]
    have := hb m hmj
    rw [List.getElem?_eq_getElem (by omega)] at this
    simp only [intIs]
    rw [beq_eq_false_iff_ne]
    exact fun z => this (congrArg some z)⟩
end
end

section
section
variable {prog : Program} {w : World} {A : Around} {Φ : Sp} {H H' : List Addr} {env : Env} {pos : Pos} {ds : List Dt} {d : Dt} {es : List Expr} {nm : List (Str × NameKind)}
  {h₀ : Heap} {own : List (Addr × Ow)} {pm : List (Str × Dt)} {mg mb : Str → Option Value} {W : List Addr} {oa : List Addr} {s₀ s : Shared} {Q : Flow → Shared → Prop} {rest : List Stmt} {e : Expr} {p : Pos}

theorem Ev.show {H'' : List Addr} (h : Ev prog w A (fs h₀ env H' own pm) H'' env e d) (hs : ∀ a ∈ H', a ∈ H) : Ev prog w A (fs h₀ env H own pm) H'' env e d := ⟨fun s F Q E q => h.run s (F.show hs) Q E q⟩

theorem ev_lax_upto {value up : Expr} {k : Nat} {pp : Pos} (X : Hx Φ H) (hv : Ev prog w A Φ H env value (.lax ds)) (hu : Ev prog w A Φ H env up (.int k)) (hz : ds.length ≤ 1000) :
    Ev prog w A Φ H env (.Subscript value (.Slice none (some up) none pp) pos) (.list (ds.take k)) := ⟨fun s hs Q E q => by
  refine Subscript_ (hv.run s hs _ _ fun v s₁ k₁ r₁ => wpAny_Slice (evp_none.run s₁ (Φ.st _ _ hs k₁) _ _ fun vl s₂ k₂ p₂ => (evp_some hu).run s₂ (Φ.st _ _ hs (keepsTrans k₁ k₂)) _ _ fun vu s₃ k₃ p₃ => evp_none.run s₃ (Φ.st _ _ hs (keepsTrans (keepsTrans k₁ k₂) k₃)) _ _ fun vp s₄ k₄ p₄ => ?_))
  have k14 := keepsTrans (keepsTrans k₂ k₃) k₄
  have k5 := keepsPush' s₄ { cls := .type "slice", data := .fields #[vl, vu, vp] }
  have r₅ := r₁.keeps (keepsHeap (keepsTrans k14 k5))
  obtain ⟨a, vs, rfl, ha, hls, r⟩ := r₅
  have k15 := keepsTrans (keepsTrans k₁ k14) k5
  have hls' := hls
  obtain ⟨o, ho, hc, _⟩ := hls
  refine tail_any (s := { s₄ with heap := s₄.heap.push { cls := .type "slice", data := .fields #[vl, vu, vp] } }) (T := "list") (id := "list.__getitem__") ⟨_, ho, hc⟩ slot_list_getitem.lookup (wpAny_getItem_list_slice hls' (Heap.IsSliceOf.new _ _ _ _) p₂ p₃ p₄ (fun h => nomatch h) ?_ ?_) (ops := [Value.ref s₄.heap.objs.size, Value.ref a]) rfl
  · refine q _ _ (keepsTrans k15 (keepsPush' _ _)) ⟨_, vs.take k, 0, rfl, X.new hs k15, ?_, (r.take k).keeps (keepsHeap (keepsPush' _ _))⟩
    have hp : (slicePick vs.toArray none (some (k : Int)) none).toList = vs.take k := by rw [slicePick_upto']
    rw [← hp]
    exact Heap.get?_push_size _ rfl
  · rw [List.size_toArray, r.length, sizeLine_eq]; omega⟩
theorem ev_lenLax {k : Int} (B : Base w mg mb h₀) (N : Nm env nm) (hl : nm.lookup (Str.ofString "len") = some .globalImplicit) (h : Ev prog w A (fs h₀ env H own pm) H' env e (.lax ds)) (hn : (ds.length : Int) = k) (hz : ds.length ≤ 1000)
    (hc : eval (.Call (.Name (Str.ofString "len") p) [e] [] pos) env = (do callWith pos (← eval (.Name (Str.ofString "len") p) env) [] (backTo pos (starEach [e] env)) (backToKw pos (keywordEach [] env))) := by rfl) (st0 : starEach [e] env = (false, eval e env) :: starEach [] env := by rfl) (hp : (backTo pos (starEach [] env)).any (·.1) = false := by rfl) :
    Ev prog w A (fs h₀ env H own pm) H' env (.Call (.Name (Str.ofString "len") p) [e] [] pos) (.int k) :=
  ev_call_b (ev_len B N hl) (evs_cons h evs_nil st0) ⟨fun s vs hs r Q E q => by
    obtain ⟨v, rfl, a, us, rfl, ha, hl, r⟩ := rd1 r
    refine len_list hl (by rw [List.size_toArray, r.length]; omega) ?_
    rw [List.size_toArray, r.length, hn]
    exact q _ _ (keepsTok s _) ⟨_, rfl⟩⟩ hc st0 hp

theorem x_new3 {x y z : Str} {px py pz pe pt p1 p2 p3 : Pos} {kt kv : Nat} (N : Nm env nm) (O : FOk h₀ W env H oa) (S : Chg W s₀ s) (F : FSt h₀ env H own pm s) (hh : A.handled = none) (hlx : nm.lookup x = some .local) (hly : nm.lookup y = some .local) (hlz : nm.lookup z = some .local)
    (hw : swappedStores [.Tuple [.Name x px, .Name y py, .Name z pz] kt pt] (.Tuple [.List [] p1, .List [] p2, .List [] p3] kv pe) env = pure (some [x, y, z])) (hs : swapsWithSole [.Tuple [.Name x px, .Name y py, .Name z pz] kt pt] (.Tuple [.List [] p1, .List [] p2, .List [] p3] kv pe) pos.line env = pure false)
    (k : ∀ a b c s', FOk h₀ (c :: b :: a :: W) env (c :: b :: a :: H) (c :: b :: a :: oa) → Chg (c :: b :: a :: W) s₀ s' → FSt h₀ env (c :: b :: a :: H) ((c, .lst []) :: (b, .lst []) :: (a, .lst []) :: own) ((x, .val (.ref a)) :: (y, .val (.ref b)) :: (z, .val (.ref c)) :: pm) s' → Ex prog w A rest env Q s') (ho : own.map (·.1) = oa := by rfl) :
    Ex prog w A (.Assign [.Tuple [.Name x px, .Name y py, .Name z pz] kt pt] (.Tuple [.List [] p1, .List [] p2, .List [] p3] kv pe) pos :: rest) env Q s := ⟨fun E => by
  refine wpAny_execs_cons ?_
  rw [exec_Assign_arm]
  refine wpAny_bind (wpAny_standAt ?_)
  rw [hs]
  refine wpAny_bind (wpAny_pure ?_)
  rw [if_neg (by decide)]
  refine wpAny_bind (PyProof.Rows.Tuple_ (wpAny_items_cons ((mk_nil (Φ := fs h₀ env H own pm)).run s F _ _ fun a oa₁ s₁ k₁ ha hxa how hPa => wpAny_items_cons ((mk_nil (Φ := fs h₀ env H own pm)).run s₁ (F.keeps k₁) _ _ fun b ob s₂ k₂ hb hxb hob hPb => wpAny_items_cons ((mk_nil (Φ := fs h₀ env H own pm)).run s₂ (F.keeps (keepsTrans k₁ k₂)) _ _ fun c oc s₃ k₃ hc hxc hoc hPc => wpAny_items_nil ?_) rfl) rfl) rfl))
  subst hPa hPb hPc
  obtain ⟨O₁, S₁, F₁, _, _⟩ := own_new O S F k₁ ha hxa (how _)
  obtain ⟨O₂, S₂, F₂, _, _⟩ := own_new O₁ S₁ F₁ k₂ hb hxb (hob _)
  obtain ⟨O₃, S₃, F₃, _, _⟩ := own_new O₂ S₂ F₂ k₃ hc hxc (hoc _)
  refine wpAny_newTuple ?_ (by rw [sizeLine_eq]; show 3 ≤ 16777216; decide)
  rw [hw]
  refine wpAny_bind (wpAny_pure ?_)
  have k₄ := keepsPush' s₃ { cls := .type "tuple", dict := none, data := .seq ([.ref a, .ref b, .ref c] : List Value).toArray }
  have F₄ := F₃.keeps k₄
  have S₄ := S₃.trans (Chg.keeps k₄)
  show wpAny _ A (do rule "assign.swapped-stores"; let items ← unpackItems (.ref _) 3 none; assignInOrder ([x, y, z].reverse.map fun n => bindName env n) items.reverse; pure Flow.next : Sem Flow) _ _ _
  refine wpAny_bind (wpAny_rule ?_)
  refine wpAny_bind (wpAny_unpackItems_tuple (items := ([.ref a, .ref b, .ref c] : List Value).toArray) hh ⟨_, Heap.get?_push_size _ rfl, rfl, _, rfl⟩ fun h' hx => ?_)
  have kk : Keeps { s₃ with heap := s₃.heap.push { cls := .type "tuple", dict := none, data := .seq ([.ref a, .ref b, .ref c] : List Value).toArray } } { s₃ with heap := h' } := ⟨h', s₃.toks, rfl, fun b o e => hx b o (Nat.ne_of_lt (Heap.lt_size e)) e⟩
  have F₅ := F₄.keeps kk
  have S₅ := S₄.trans (Chg.keeps kk)
  have ho₃ : ((c, Ow.lst []) :: (b, Ow.lst []) :: (a, Ow.lst []) :: own).map (·.1) = c :: b :: a :: oa := by simp [ho]
  refine wpAny_bind (wpAny_assignInOrder_more (wpAny_bindName (st_local (d := .val (.ref c)) N O₃ ho₃ S₅ F₅ rfl hlz fun s₆ S₆ F₆ => ?_)))
  refine wpAny_assignInOrder_more (wpAny_bindName (st_local (d := .val (.ref b)) N O₃ ho₃ S₆ F₆ rfl hly fun s₇ S₇ F₇ => ?_))
  refine wpAny_assignInOrder_more (wpAny_bindName (st_local (d := .val (.ref a)) N O₃ ho₃ S₇ F₇ rfl hlx fun s₈ S₈ F₈ => ?_))
  exact wpAny_assignInOrder_none (wpAny_pure ((k a b c s₈ O₃ S₈ F₈).run E))⟩

theorem x_call_mc {func a₁ e₂ : Expr} {pos' : Pos} {l fa : Addr} {ds₀ ds₁ : List Dt} {n m : Nat} {pre post : List (Addr × Ow)}
    (N : Nm env nm) (O : FOk h₀ W env H oa) (S : Chg W s₀ s) (F : FSt h₀ env H own pm s) (ho : own.map (·.1) = oa) (e2 : own = pre ++ (l, .lst ds₀) :: post) (fo : Fa (fs h₀ env H own pm) fa)
    (hf : Ev prog w A (fs h₀ env H own pm) H env func (.val (.ref fa))) (hx : Ev prog w A (fs h₀ env H own pm) H env a₁ (.val (.ref l))) (he : Ev prog w A (fs h₀ env H own pm) H env e₂ d) (Rm : Room A m) (hnm : n ≤ m)
    (mc : MC w mg mb h₀ (.ref fa) n ds₀ [d] [] ds₁)
    (k : ∀ s', Chg W s₀ s' → FSt h₀ env H (pre ++ (l, .lst ds₁) :: post) pm s' → Ex prog w A rest env Q s')
    (hc : eval (.Call func [a₁, e₂] [] pos) env = (do callWith pos (← eval func env) [] (backTo pos (starEach [a₁, e₂] env)) (backToKw pos (keywordEach [] env))) := by rfl)
    (st0 : starEach [a₁, e₂] env = (false, eval a₁ env) :: starEach [e₂] env := by rfl) (st1 : starEach [e₂] env = (false, eval e₂ env) :: starEach [] env := by rfl) (hp : (backTo pos (starEach [e₂] env)).any (·.1) = false := by rfl)
    (hsw : swapsWith (.Call func [a₁, e₂] [] pos) none pos'.line env = pure false := by rfl) :
    Ex prog w A (.Expr (.Call func [a₁, e₂] [] pos) pos' :: rest) env Q s := ⟨fun E => by
  have hi : interactive env = false := by unfold interactive; rw [N.kind]; rfl
  refine wpAny_execs_cons (wpAny_Expr (Call_ (hf.run s F _ _ fun g s₁ k₁ r₁ => ?_) hc) hi hsw)
  obtain rfl : g = .ref fa := r₁
  have F₁ := F.keeps k₁
  refine callWith_F (fo.at' _ F₁) ((evs_cons hx (evs_cons he evs_nil st1) st0).run s₁ pos F₁ _ _ fun vs s₂ k₂ r₂ => ⟨fo.at' _ (F₁.keeps k₂), ?_⟩) st0 hp
  have F₂ := F₁.keeps k₂
  have S₂ := (S.trans (Chg.keeps k₁)).trans (Chg.keeps k₂)
  obtain ⟨v₁, v₂, rfl, hv₁, rv₂⟩ := rd2 r₂
  obtain rfl : v₁ = .ref l := hv₁
  have lH : l ∈ H := O.WH _ (O.ownW l (by rw [← ho, e2]; simp)).1
  refine mc.run prog A s₂ H l [v₂] [] (Rm.less hnm) F₂.base O.hid F₂.ex lH (F₂.owns (l, .lst ds₀) (by rw [e2]; simp)) ⟨v₂, [], rfl, rv₂, rfl⟩ rfl _ _ fun s₄ c₄ ow₄ => ?_
  obtain ⟨h₄, t₄, rfl, kk⟩ := c₄
  rw [e2] at F₂
  obtain ⟨S₄, F₄⟩ := F₂.wrote_own' (o' := .lst ds₁) (tk := t₄) O (by rw [← e2]; exact ho) S₂ (let ⟨_, _, e, _⟩ := ow₄; ⟨_, e⟩) (fun _ => ow₄) fun b o hb e => kk b o (fun z => hb (List.mem_singleton.mp z)) e
  exact (k _ S₄ F₄).run E⟩
end
end

section

noncomputable def turn (g : List Int) (k : Nat) : List Int := g.drop k ++ g.take k
noncomputable def valB : List Int → Nat
  | [] => 0
  | x :: r => x.toNat * 2 ^ r.length + valB r
noncomputable def tv (v n k : Nat) : Nat := v % 2 ^ (n - k) * 2 ^ k + v / 2 ^ (n - k)
noncomputable def ltV (v n k j : Nat) : Bool := Nat.blt (tv v n k) (tv v n j)
noncomputable def putAt (r : List Nat) (p k : Nat) : List Nat := r.take p ++ k :: r.drop p
noncomputable def posR (v n : Nat) (r : List Nat) (k : Nat) : Nat := (r.takeWhile fun j => !ltV v n k j).length
noncomputable def posL (v n : Nat) (r : List Nat) (k : Nat) : Nat := (r.takeWhile fun j => ltV v n j k).length
noncomputable def rowsR (v n : Nat) : Nat → List Nat
  | 0 => []
  | k + 1 => putAt (rowsR v n k) (posR v n (rowsR v n k) k) k
noncomputable def rowsL (v n : Nat) : Nat → List Nat
  | 0 => []
  | k + 1 => putAt (rowsL v n k) (posL v n (rowsL v n k) k) k
noncomputable def okRow (v n : Nat) (r : List Nat) (k : Nat) : Bool := (List.range r.length).all fun i => ltV v n k (r.getD i 0) == Nat.ble (posR v n r k) i
noncomputable def okRowL (v n : Nat) (r : List Nat) (k : Nat) : Bool := (List.range r.length).all fun i => ltV v n (r.getD i 0) k == Nat.blt i (posL v n r k)
noncomputable def okRows (v n : Nat) : Bool := (List.range n).all fun k => okRow v n (rowsR v n k) k && okRowL v n (rowsL v n k) k
noncomputable def okSort (v n : Nat) : Bool :=
  (match runK n (fun i j => ltV v n i j) (kas_sort n) with | some p => p.toList == rowsR v n n | none => false) &&
  (match runK n (fun i j => ltV v n (n - 1 - i) (n - 1 - j)) (kas_sort n) with | some p => (p.toList.map fun i => n - 1 - i) == rowsL v n n && p.toList.all (fun i => Nat.blt i n) | none => false)
noncomputable def ahead (g : List Int) (j : Nat) : Nat := if (match j with | 0 => g.getLast?.getD 0 | j + 1 => g.getD j 0) = 1 then 9 else 32
noncomputable def colOf (v : Nat) (g : List Int) : List Nat := (rowsR v g.length g.length).map (ahead g)
noncomputable def runsOf : List Nat → List Int
  | [] => [0]
  | c :: r => if c = 9 then 0 :: runsOf r else match runsOf r with
    | [] => [1]
    | x :: xs => (x + 1) :: xs
noncomputable def cntOf (rs : List Int) : List Int := (List.range (maxI (-1 :: rs) + 1).toNat).map fun (i : Nat) => (rs.count (i : Int) : Int)
noncomputable def tabsN (g : List Int) : Nat := g.sum.toNat
noncomputable def blanksN (g : List Int) : Nat := g.length - tabsN g
noncomputable def stO (t b : Nat) : List Nat := List.replicate t 9 ++ List.replicate b 32
noncomputable def okWs (g : List Int) (col : List Nat) : Bool :=
  let r := wsAll col
  r.n == g.length && r.nt == tabsN g && r.cs == cntOf ((runsOf col).dropLast) && (runsOf col).getLast? == some (r.b : Int)
noncomputable def okLess (g : List Int) (col : List Nat) : Bool :=
  let lead := wsAll col
  let t := tabsN g
  let b := blanksN g
  let st := wsAll (stO t b)
  let ev := evenB g
  simp' lead == ev && lessB st (wsAll (col ++ [32])) == ev && lessB lead (wsAll (stO t (b + 1))) && lessB st (wsAll (stO b (t + 1))) == decide (t ≤ b) &&
    lessB (wsAll (stO t 0)) (wsAll (List.replicate b 32 ++ List.replicate t 9)) == decide (t = 0)
noncomputable def topOf (g : List Int) (col : List Nat) : Nat := (maxI ([(blanksN g : Int), (runsOf col).getLast?.getD 0 + 1] ++ runsOf col) + 1).toNat
noncomputable def toldI (g : List Int) (col : List Nat) : List (Int × Int × Int) := (List.range (topOf g col)).map fun j => (((1 + j : Nat) : Int), (tabsN g : Int) * ((1 + j : Nat) : Int) + (blanksN g : Int), column (col ++ [32]) ((1 + j : Nat) : Int))
noncomputable def witI (r q : WS) : List (Int × Int × Int) := (List.range (topN r q)).filterMap fun j => if geAt r q (1 + j) then some (((1 + j : Nat) : Int), indent r (1 + j), indent q (1 + j)) else none
noncomputable def okTold (g : List Int) (col : List Nat) : Bool :=
  let st := wsAll (stO (tabsN g) (blanksN g))
  let more := wsAll (col ++ [32])
  witI st more == (toldI g col).filter (fun r => decide (r.2.1 ≥ r.2.2)) && witI more st == ((toldI g col).filter fun r => decide (r.2.2 ≥ r.2.1)).map fun r => (r.1, r.2.2, r.2.1)
noncomputable def startOf (v n : Nat) : Nat := ((rowsR v n n).takeWhile fun j => j != 0).length
noncomputable def orbOf (v n b : Nat) (col : List Nat) : Nat → Nat
  | 0 => startOf v n
  | i + 1 => (if col.getD (orbOf v n b col i) 0 = 9 then b else 0) + (col.take (orbOf v n b col i)).count (col.getD (orbOf v n b col i) 0)
noncomputable def okBack (v : Nat) (g : List Int) (col : List Nat) : Bool :=
  (List.range g.length).all (fun i => Nat.blt (orbOf v g.length (blanksN g) col i) g.length) && ((List.range g.length).map fun i => bitOf (col.getD (orbOf v g.length (blanksN g) col i) 0)).reverse == g && Nat.blt (startOf v g.length) g.length
noncomputable def bitsN : Nat → Nat → List Int
  | 0, _ => []
  | n + 1, v => ((v / 2 ^ n : Nat) : Int) :: bitsN n (v % 2 ^ n)
noncomputable def okOf (v : Nat) (g : List Int) (col : List Nat) : Bool := okRows v g.length && okSort v g.length && okWs g col && okLess g col && okTold g col && okBack v g col
noncomputable def ringOK (n v : Nat) : Bool := okOf v (bitsN n v) (colOf v (bitsN n v))
noncomputable def rangeOK (n a m : Nat) : Bool := (List.range m).all fun i => ringOK n (a + i)
end

section

noncomputable def Bits (g : List Int) : Prop := ∀ x ∈ g, x = 0 ∨ x = 1
theorem Bits.tail {x : Int} {r : List Int} (h : Bits (x :: r)) : Bits r := fun y hy => h y (.tail _ hy)
theorem Bits.turn {g : List Int} (h : Bits g) (k : Nat) : Bits (turn g k) := fun x hx => (List.mem_append.mp hx).elim (fun q => h x (List.mem_of_mem_drop q)) fun q => h x (List.mem_of_mem_take q)
theorem turn_len {g : List Int} {k : Nat} (hk : k ≤ g.length) : (turn g k).length = g.length := by
  unfold turn; rw [List.length_append, List.length_drop, List.length_take]; omega
theorem valB_append : ∀ (a b : List Int), valB (a ++ b) = valB a * 2 ^ b.length + valB b
  | [], b => by simp [valB]
  | x :: a, b => by
    rw [List.cons_append, valB, valB, valB_append a b, List.length_append, Nat.pow_add, Nat.add_mul, Nat.mul_assoc]; omega
theorem valB_lt : ∀ {g : List Int}, Bits g → valB g < 2 ^ g.length
  | [], _ => by simp [valB]
  | x :: r, h => by
    have ih := valB_lt h.tail
    rw [valB, List.length_cons, Nat.pow_succ]
    rcases h x (.head _) with rfl | rfl <;> simp <;> omega
theorem tv_turn {g : List Int} {k : Nat} (h : Bits g) (hk : k ≤ g.length) : tv (valB g) g.length k = valB (turn g k) := by
  have e : valB g = valB (g.take k) * 2 ^ (g.length - k) + valB (g.drop k) := by
    have := valB_append (g.take k) (g.drop k)
    rwa [List.take_append_drop, List.length_drop] at this
  have hl : valB (g.drop k) < 2 ^ (g.length - k) := by
    have := valB_lt (g := g.drop k) fun x hx => h x (List.mem_of_mem_drop hx)
    rwa [List.length_drop] at this
  have hp : 0 < 2 ^ (g.length - k) := Nat.pow_pos (by decide)
  unfold tv turn
  rw [valB_append, List.length_take, Nat.min_eq_left hk, e, Nat.mul_add_mod_self_right, Nat.mod_eq_of_lt hl, Nat.add_comm (valB (g.take k) * _), Nat.add_mul_div_right _ _ hp, Nat.div_eq_of_lt hl, Nat.zero_add]
theorem lt_val : ∀ {a b : List Int}, Bits a → Bits b → a.length = b.length → (a < b ↔ valB a < valB b)
  | [], [], _, _, _ => by simp [valB]
  | x :: a, y :: b, ha, hb, e => by
    have e' : a.length = b.length := by simpa using e
    have ih := lt_val ha.tail hb.tail e'
    have la := valB_lt ha.tail
    have lb := valB_lt hb.tail
    rw [List.cons_lt_cons_iff, valB, valB, ih]
    rw [e'] at la ⊢
    rcases ha x (.head _) with rfl | rfl <;> rcases hb y (.head _) with rfl | rfl <;> simp <;> omega
theorem ltV_turn {g : List Int} {k j : Nat} (h : Bits g) (hk : k ≤ g.length) (hj : j ≤ g.length) : decide (turn g k < turn g j) = ltV (valB g) g.length k j := by
  unfold ltV
  rw [tv_turn h hk, tv_turn h hj, Bool.eq_iff_iff, decide_eq_true_iff, lt_val (h.turn k) (h.turn j) (by rw [turn_len hk, turn_len hj])]
  simp [Nat.blt_eq]
theorem bitsN_val : ∀ {g : List Int}, Bits g → bitsN g.length (valB g) = g
  | [], _ => rfl
  | x :: r, h => by
    have l := valB_lt h.tail
    have hp : 0 < 2 ^ r.length := Nat.pow_pos (by decide)
    rw [List.length_cons, bitsN, valB, Nat.add_comm, Nat.add_mul_div_right _ _ hp, Nat.div_eq_of_lt l, Nat.zero_add, Nat.add_mul_mod_self_right, Nat.mod_eq_of_lt l, bitsN_val h.tail]
    rcases h x (.head _) with rfl | rfl <;> rfl

theorem putAt_len {r : List Nat} {p k : Nat} (h : p ≤ r.length) : (putAt r p k).length = r.length + 1 := by
  unfold putAt; rw [List.length_append, List.length_cons, List.length_take, List.length_drop]; omega
theorem putAt_mem {r : List Nat} {p k j : Nat} (h : j ∈ putAt r p k) : j = k ∨ j ∈ r := by
  unfold putAt at h
  rcases List.mem_append.mp h with q | q
  · exact .inr (List.mem_of_mem_take q)
  · rcases List.mem_cons.mp q with q | q
    · exact .inl q
    · exact .inr (List.mem_of_mem_drop q)
theorem takeWhile_len {α : Type} (p : α → Bool) : ∀ l : List α, (l.takeWhile p).length ≤ l.length
  | [] => Nat.le_refl _
  | x :: r => by
    rw [List.takeWhile_cons]
    split
    · simpa using takeWhile_len p r
    · exact Nat.zero_le _
theorem posR_le {v n k : Nat} {r : List Nat} : posR v n r k ≤ r.length := takeWhile_len _ _
theorem posL_le {v n k : Nat} {r : List Nat} : posL v n r k ≤ r.length := takeWhile_len _ _
theorem rowsR_len {v n : Nat} : ∀ k, (rowsR v n k).length = k
  | 0 => rfl
  | k + 1 => by rw [rowsR, putAt_len posR_le, rowsR_len k]
theorem rowsL_len {v n : Nat} : ∀ k, (rowsL v n k).length = k
  | 0 => rfl
  | k + 1 => by rw [rowsL, putAt_len posL_le, rowsL_len k]
theorem rowsR_lt {v n : Nat} : ∀ k, ∀ j ∈ rowsR v n k, j < k
  | 0, _, h => nomatch h
  | k + 1, j, h => (putAt_mem h).elim (fun q => q ▸ Nat.lt_succ_self _) fun q => Nat.lt_succ_of_lt (rowsR_lt k j q)
theorem rowsL_lt {v n : Nat} : ∀ k, ∀ j ∈ rowsL v n k, j < k
  | 0, _, h => nomatch h
  | k + 1, j, h => (putAt_mem h).elim (fun q => q ▸ Nat.lt_succ_self _) fun q => Nat.lt_succ_of_lt (rowsL_lt k j q)

theorem runK_congr {α : Type} {n : Nat} {o o' : Nat → Nat → Bool} (h : ∀ i j, i < n → j < n → o i j = o' i j) : ∀ t : KasT α, runK n o t = runK n o' t
  | .ret _ => rfl
  | .ask i j k => by
    unfold runK
    split
    · rename_i q; rw [h i j q.1 q.2]; exact runK_congr h _
    · rfl
theorem run2 (o : Nat → Nat → Bool) : runK 2 o (kas_sort 2) = if o 1 0 then some #[1, 0] else if o 0 1 then some #[0, 1] else runK 2 o (kas_sort 2) := by
  have h : ∀ b00 b01 b10 b11 : Bool, runK 2 (fun i j => if i = 0 then (if j = 0 then b00 else b01) else if j = 0 then b10 else b11) (kas_sort 2) = if b10 then some #[1, 0] else if b01 then some #[0, 1] else runK 2 (fun i j => if i = 0 then (if j = 0 then b00 else b01) else if j = 0 then b10 else b11) (kas_sort 2) := by decide +kernel
  have c := runK_congr (α := Array Nat) (n := 2) (o := o) (o' := fun i j => if i = 0 then (if j = 0 then o 0 0 else o 0 1) else if j = 0 then o 1 0 else o 1 1) (fun i j hi hj => by
    have hi' : i = 0 ∨ i = 1 := by omega
    have hj' : j = 0 ∨ j = 1 := by omega
    rcases hi' with rfl | rfl <;> rcases hj' with rfl | rfl <;> rfl) (kas_sort 2)
  rw [c]
  exact h _ _ _ _

noncomputable def apart : List Nat → List Nat → Bool
  | a :: r, b :: s => if a = b then apart r s else decide (a < b)
  | _, _ => false
theorem apart_lt : ∀ {a b : List Nat}, apart a b = true → ∀ r s, a ++ r < b ++ s ∧ ¬ (b ++ s < a ++ r)
  | x :: a, y :: b, h, r, s => by
    unfold apart at h
    rw [List.cons_append, List.cons_append, List.cons_lt_cons_iff, List.cons_lt_cons_iff]
    split at h
    · rename_i e
      subst e
      obtain ⟨h1, h2⟩ := apart_lt h r s
      exact ⟨.inr ⟨rfl, h1⟩, fun q => q.elim (fun q => Nat.lt_irrefl _ q) fun q => h2 q.2⟩
    · have := of_decide_eq_true h
      exact ⟨.inl this, fun q => q.elim (fun q => by omega) fun q => by omega⟩
  | [], _, h, _, _ => by simp [apart] at h
  | _ :: _, [], h, _, _ => by simp [apart] at h
theorem app_lt (c : List Nat) {a b : List Nat} : c ++ a < c ++ b ↔ a < b := by
  induction c with
  | nil => rfl
  | cons x c ih => rw [List.cons_append, List.cons_append, List.cons_lt_cons_iff, ih]; simp
noncomputable def enc (m0 m1 : List Nat) (a : List Int) : List Nat := a.flatMap fun x => if x = 1 then m1 else m0
theorem enc_lt {m0 m1 : List Nat} (h : apart m0 m1 = true) : ∀ {a b : List Int}, Bits a → Bits b → a.length = b.length → (enc m0 m1 a < enc m0 m1 b ↔ a < b)
  | [], [], _, _, _ => by simp [enc]
  | x :: a, y :: b, ha, hb, e => by
    have ih := enc_lt h ha.tail hb.tail (by simpa using e)
    unfold enc at ih ⊢
    rw [List.flatMap_cons, List.flatMap_cons, List.cons_lt_cons_iff]
    rcases ha x (.head _) with rfl | rfl <;> rcases hb y (.head _) with rfl | rfl
    · simpa [app_lt] using ih
    · simpa using (apart_lt h _ _).1
    · simpa [List.not_lt] using (apart_lt h (List.flatMap (fun x => if x = 1 then m1 else m0) b) (List.flatMap (fun x => if x = 1 then m1 else m0) a)).2
    · simpa [app_lt] using ih

theorem runs_ne : ∀ l : List Nat, runsOf l ≠ []
  | [] => by simp [runsOf]
  | c :: r => by
    unfold runsOf
    split
    · simp
    · split <;> simp
theorem runs_app : ∀ (p r : List Nat), 9 ∉ p → runsOf (p ++ 9 :: r) = (p.length : Int) :: runsOf r
  | [], r, _ => by simp [runsOf]
  | c :: p, r, h => by
    have hc : ¬ c = 9 := fun e => h (e ▸ .head _)
    rw [List.cons_append, runsOf, if_neg hc, runs_app p r fun q => h (.tail _ q)]
    simp
theorem runs_free : ∀ (p : List Nat), 9 ∉ p → runsOf p = [(p.length : Int)]
  | [], _ => rfl
  | c :: p, h => by
    have hc : ¬ c = 9 := fun e => h (e ▸ .head _)
    rw [runsOf, if_neg hc, runs_free p fun q => h (.tail _ q)]
    simp
theorem runs_join : ∀ parts : List Str, parts ≠ [] → (∀ p ∈ parts, 9 ∉ p.cps.toList) → runsOf (Str.join ⟨#[9]⟩ parts).cps.toList = parts.map fun p => (p.cps.size : Int)
  | [], h, _ => absurd rfl h
  | [p], _, h => by
    show runsOf p.cps.toList = _
    rw [runs_free _ (h p (.head _))]; simp
  | p :: q :: r, _, h => by
    have ih := runs_join (q :: r) (by simp) fun a ha => h a (.tail _ ha)
    show runsOf (p ++ ⟨#[9]⟩ ++ Str.join ⟨#[9]⟩ (q :: r)).cps.toList = _
    have e : (p ++ ⟨#[9]⟩ ++ Str.join ⟨#[9]⟩ (q :: r)).cps.toList = p.cps.toList ++ 9 :: (Str.join ⟨#[9]⟩ (q :: r)).cps.toList := by
      simp [Str.cps_append]
    rw [e, runs_app _ _ (h p (.head _)), ih]; simp
theorem split_ne (x y : Str) : Txt.split x y ≠ [] := by
  unfold Txt.split
  split
  · simp
  · split
    · simp
    · obtain ⟨p, r, e⟩ := StrLaws.partsFrom_ne x y.length 0 (Builtin.Str.occurrences x y 0 x.length (x.length + 1))
      rw [StrLaws.partsBetween_eq, e]; simp
theorem runs_split (x : Str) : (Txt.split x ⟨#[9]⟩).map (fun p => (p.cps.size : Int)) = runsOf x.cps.toList := by
  rw [← runs_join _ (split_ne _ _) (StrLaws.split_free x 9), StrLaws.join_split]
end

section

noncomputable def signAt (i : Nat) : Nat := ([32, 9, 10, 13, 38, 62, 60, 34, 97] : List Nat).getD i 0
noncomputable def markOf (whole : Bool) (c : Nat) : List Nat := if whole then escA [c] else escC [c]
noncomputable def one (c : Nat) : Str := ⟨#[c]⟩
noncomputable def strL (l : List Nat) : Str := ⟨l.toArray⟩
theorem strL_list (l : List Nat) : (strL l).cps.toList = l := rfl
theorem spelled_at : ∀ (b : Bool) (i : Nat), i < 9 → (PySem.Spec.lookup (.str (one (signAt i))) (if b then ktMergeD marksC marksA else marksC)).getD (.str (one (signAt i))) = .str (strL (markOf b (signAt i))) := by
  intro b i hi
  have : i = 0 ∨ i = 1 ∨ i = 2 ∨ i = 3 ∨ i = 4 ∨ i = 5 ∨ i = 6 ∨ i = 7 ∨ i = 8 := by omega
  cases b <;> rcases this with rfl | rfl | rfl | rfl | rfl | rfl | rfl | rfl | rfl <;> rfl
theorem apart_at : ∀ (b : Bool) (i j : Nat), i < 9 → j < 9 → i ≠ j → apart (markOf b (signAt i)) (markOf b (signAt j)) = true ∨ apart (markOf b (signAt j)) (markOf b (signAt i)) = true := by
  have h : ∀ (b : Bool) (i j : Fin 9), i ≠ j → apart (markOf b (signAt i)) (markOf b (signAt j)) = true ∨ apart (markOf b (signAt j)) (markOf b (signAt i)) = true := by decide +kernel
  intro b i j hi hj hn
  exact h b ⟨i, hi⟩ ⟨j, hj⟩ fun q => hn (Fin.mk.inj q)
theorem mark_len : ∀ (b : Bool) (i : Nat), i < 9 → (markOf b (signAt i)).length ≤ 6 := by
  have h : ∀ (b : Bool) (i : Fin 9), (markOf b (signAt i)).length ≤ 6 := by decide +kernel
  intro b i hi
  exact h b ⟨i, hi⟩
theorem apart_lt' {a b : List Nat} (h : apart a b = true) : a < b ∧ ¬ b < a := by
  have := apart_lt h [] []
  simpa using this
theorem apart_dec {a b : List Nat} (h : apart a b = true) : decide (a < b) = true ∧ decide (b < a) = false := ⟨decide_eq_true (apart_lt' h).1, decide_eq_false (apart_lt' h).2⟩

theorem escC_flat (l : List Nat) : escC l = l.flatMap fun c => escC [c] := by
  induction l with
  | nil => rfl
  | cons c l ih =>
    have e : c :: l = [c] ++ l := rfl
    rw [List.flatMap_cons, ← ih, e]
    unfold escC
    rw [subC_append, subC_append, subC_append]
theorem escA_flat (l : List Nat) : escA l = l.flatMap fun c => escA [c] := by
  induction l with
  | nil => rfl
  | cons c l ih =>
    have e : c :: l = [c] ++ l := rfl
    rw [List.flatMap_cons, ← ih, e]
    unfold escA escC
    simp only [subC_append]
noncomputable def written (whole : Bool) (l : List Nat) : List Nat := if whole then escA l else escC l
theorem written_enc (whole : Bool) (p0 p1 : Nat) : ∀ a : List Int, written whole (a.map fun x => if x = 1 then p1 else p0) = enc (markOf whole p0) (markOf whole p1) a := by
  intro a
  unfold written enc markOf
  cases whole <;> simp only [Bool.false_eq_true, if_true, if_false, escA_flat (a.map _), escC_flat (a.map _), List.flatMap_map] <;> congr 1 <;> funext x <;> split <;> rfl

structure RK (g : List Int) (v : Nat) (col : List Nat) : Prop where
  n6 : 6 ≤ g.length
  n8 : g.length ≤ 8
  bit : Bits g
  hv : v = valB g
  hcol : col = colOf v g
  rr : ∀ k, k < g.length → ∀ i, i < k → decide (turn g k < turn g ((rowsR v g.length k).getD i 0)) = decide (posR v g.length (rowsR v g.length k) k ≤ i)
  rl : ∀ k, k < g.length → ∀ i, i < k → decide (turn g ((rowsL v g.length k).getD i 0) < turn g k) = decide (i < posL v g.length (rowsL v g.length k) k)
  sr : ∃ p, runK g.length (fun i j => decide (turn g i < turn g j)) (kas_sort g.length) = some p ∧ p.toList = rowsR v g.length g.length
  sl : ∃ p, runK g.length (fun i j => decide (turn g (g.length - 1 - i) < turn g (g.length - 1 - j))) (kas_sort g.length) = some p ∧ (∀ i ∈ p.toList, i < g.length) ∧ p.toList.map (fun i => g.length - 1 - i) = rowsL v g.length g.length
  ws : okWs g col = true
  less : okLess g col = true
  told : okTold g col = true
  back : okBack v g col = true

theorem rk_of {g : List Int} (h6 : 6 ≤ g.length) (h8 : g.length ≤ 8) (hb : Bits g) (ok : okOf (valB g) g (colOf (valB g) g) = true) : RK g (valB g) (colOf (valB g) g) := by
  unfold okOf at ok
  simp only [Bool.and_eq_true] at ok
  obtain ⟨⟨⟨⟨⟨o1, o2⟩, o3⟩, o4⟩, o5⟩, o6⟩ := ok
  unfold okRows at o1
  rw [List.all_eq_true] at o1
  unfold okSort at o2
  rw [Bool.and_eq_true] at o2
  refine ⟨h6, h8, hb, rfl, rfl, fun k hk i hi => ?_, fun k hk i hi => ?_, ?_, ?_, o3, o4, o5, o6⟩
  · have q := o1 k (List.mem_range.mpr hk)
    rw [Bool.and_eq_true] at q
    have q1 := q.1
    unfold okRow at q1
    rw [List.all_eq_true] at q1
    have q2 := q1 i (List.mem_range.mpr (by rw [rowsR_len]; exact hi))
    have hj : (rowsR (valB g) g.length k).getD i 0 < k := rowsR_lt k _ (by
      rw [List.getD_eq_getElem?_getD, List.getElem?_eq_getElem (by rw [rowsR_len]; exact hi)]
      exact List.getElem_mem _)
    rw [ltV_turn hb (Nat.le_of_lt hk) (by omega), eq_of_beq q2, Bool.eq_iff_iff, Nat.ble_eq, decide_eq_true_iff]
  · have q := o1 k (List.mem_range.mpr hk)
    rw [Bool.and_eq_true] at q
    have q1 := q.2
    unfold okRowL at q1
    rw [List.all_eq_true] at q1
    have q2 := q1 i (List.mem_range.mpr (by rw [rowsL_len]; exact hi))
    have hj : (rowsL (valB g) g.length k).getD i 0 < k := rowsL_lt k _ (by
      rw [List.getD_eq_getElem?_getD, List.getElem?_eq_getElem (by rw [rowsL_len]; exact hi)]
      exact List.getElem_mem _)
    rw [ltV_turn hb (by omega) (Nat.le_of_lt hk), eq_of_beq q2, Bool.eq_iff_iff, Nat.blt_eq, decide_eq_true_iff]
  · have q := o2.1
    split at q
    · rename_i p hp
      refine ⟨p, ?_, eq_of_beq q⟩
      rw [← hp]
      exact runK_congr (fun i j hi hj => ltV_turn hb (Nat.le_of_lt hi) (Nat.le_of_lt hj)) _
    · cases q
  · have q := o2.2
    split at q
    · rename_i p hp
      rw [Bool.and_eq_true] at q
      refine ⟨p, ?_, fun i hi => ?_, eq_of_beq q.1⟩
      · rw [← hp]
        exact runK_congr (fun i j hi hj => ltV_turn hb (by omega) (by omega)) _
      · have := List.all_eq_true.mp q.2 i hi
        rwa [Nat.blt_eq] at this
    · cases q
end

section
theorem c6_0 : rangeOK 6 0 16 = true := by decide +kernel
theorem c6_1 : rangeOK 6 16 16 = true := by decide +kernel
theorem c6_2 : rangeOK 6 32 16 = true := by decide +kernel
theorem c6_3 : rangeOK 6 48 16 = true := by decide +kernel
theorem c7_0 : rangeOK 7 0 16 = true := by decide +kernel
theorem c7_1 : rangeOK 7 16 16 = true := by decide +kernel
theorem c7_2 : rangeOK 7 32 16 = true := by decide +kernel
theorem c7_3 : rangeOK 7 48 16 = true := by decide +kernel
theorem c7_4 : rangeOK 7 64 16 = true := by decide +kernel
theorem c7_5 : rangeOK 7 80 16 = true := by decide +kernel
theorem c7_6 : rangeOK 7 96 16 = true := by decide +kernel
theorem c7_7 : rangeOK 7 112 16 = true := by decide +kernel
theorem c8_0 : rangeOK 8 0 16 = true := by decide +kernel
theorem c8_1 : rangeOK 8 16 16 = true := by decide +kernel
theorem c8_2 : rangeOK 8 32 16 = true := by decide +kernel
theorem c8_3 : rangeOK 8 48 16 = true := by decide +kernel
theorem c8_4 : rangeOK 8 64 16 = true := by decide +kernel
theorem c8_5 : rangeOK 8 80 16 = true := by decide +kernel
theorem c8_6 : rangeOK 8 96 16 = true := by decide +kernel
theorem c8_7 : rangeOK 8 112 16 = true := by decide +kernel
theorem c8_8 : rangeOK 8 128 16 = true := by decide +kernel
theorem c8_9 : rangeOK 8 144 16 = true := by decide +kernel
theorem c8_10 : rangeOK 8 160 16 = true := by decide +kernel
theorem c8_11 : rangeOK 8 176 16 = true := by decide +kernel
theorem c8_12 : rangeOK 8 192 16 = true := by decide +kernel
theorem c8_13 : rangeOK 8 208 16 = true := by decide +kernel
theorem c8_14 : rangeOK 8 224 16 = true := by decide +kernel
theorem c8_15 : rangeOK 8 240 16 = true := by decide +kernel
theorem range_at {n a m v : Nat} (h : rangeOK n a m = true) (h1 : a ≤ v) (h2 : v < a + m) : ringOK n v = true := by
  unfold rangeOK at h
  have := List.all_eq_true.mp h (v - a) (List.mem_range.mpr (by omega))
  rwa [Nat.add_sub_cancel' h1] at this
theorem ok6 {v : Nat} (hv : v < 64) : ringOK 6 v = true := by
  have hq : v / 16 < 4 := by omega
  have h1 : v / 16 * 16 ≤ v := by omega
  have h2 : v < v / 16 * 16 + 16 := by omega
  generalize v / 16 = q at hq h1 h2
  have hc : q = 0 ∨ q = 1 ∨ q = 2 ∨ q = 3 := by omega
  rcases hc with rfl | rfl | rfl | rfl
  · exact range_at c6_0 h1 h2
  · exact range_at c6_1 h1 h2
  · exact range_at c6_2 h1 h2
  · exact range_at c6_3 h1 h2
theorem ok7 {v : Nat} (hv : v < 128) : ringOK 7 v = true := by
  have hq : v / 16 < 8 := by omega
  have h1 : v / 16 * 16 ≤ v := by omega
  have h2 : v < v / 16 * 16 + 16 := by omega
  generalize v / 16 = q at hq h1 h2
  have hc : q = 0 ∨ q = 1 ∨ q = 2 ∨ q = 3 ∨ q = 4 ∨ q = 5 ∨ q = 6 ∨ q = 7 := by omega
  rcases hc with rfl | rfl | rfl | rfl | rfl | rfl | rfl | rfl
  · exact range_at c7_0 h1 h2
  · exact range_at c7_1 h1 h2
  · exact range_at c7_2 h1 h2
  · exact range_at c7_3 h1 h2
  · exact range_at c7_4 h1 h2
  · exact range_at c7_5 h1 h2
  · exact range_at c7_6 h1 h2
  · exact range_at c7_7 h1 h2
theorem ok8 {v : Nat} (hv : v < 256) : ringOK 8 v = true := by
  have hq : v / 16 < 16 := by omega
  have h1 : v / 16 * 16 ≤ v := by omega
  have h2 : v < v / 16 * 16 + 16 := by omega
  generalize v / 16 = q at hq h1 h2
  have hc : q = 0 ∨ q = 1 ∨ q = 2 ∨ q = 3 ∨ q = 4 ∨ q = 5 ∨ q = 6 ∨ q = 7 ∨ q = 8 ∨ q = 9 ∨ q = 10 ∨ q = 11 ∨ q = 12 ∨ q = 13 ∨ q = 14 ∨ q = 15 := by omega
  rcases hc with rfl | rfl | rfl | rfl | rfl | rfl | rfl | rfl | rfl | rfl | rfl | rfl | rfl | rfl | rfl | rfl
  · exact range_at c8_0 h1 h2
  · exact range_at c8_1 h1 h2
  · exact range_at c8_2 h1 h2
  · exact range_at c8_3 h1 h2
  · exact range_at c8_4 h1 h2
  · exact range_at c8_5 h1 h2
  · exact range_at c8_6 h1 h2
  · exact range_at c8_7 h1 h2
  · exact range_at c8_8 h1 h2
  · exact range_at c8_9 h1 h2
  · exact range_at c8_10 h1 h2
  · exact range_at c8_11 h1 h2
  · exact range_at c8_12 h1 h2
  · exact range_at c8_13 h1 h2
  · exact range_at c8_14 h1 h2
  · exact range_at c8_15 h1 h2
theorem ring_ok {g : List Int} (h6 : 6 ≤ g.length) (h8 : g.length ≤ 8) (hb : Bits g) : RK g (valB g) (colOf (valB g) g) := by
  refine rk_of h6 h8 hb ?_
  have hl := valB_lt hb
  have e := bitsN_val hb
  have hn : g.length = 6 ∨ g.length = 7 ∨ g.length = 8 := by omega
  have key : ringOK g.length (valB g) = true := by
    rcases hn with q | q | q <;> rw [q] at hl ⊢
    · exact ok6 hl
    · exact ok7 hl
    · exact ok8 hl
  unfold ringOK at key
  rwa [e] at key
end

section
noncomputable def lawStm : Option Stmt := PySem.Challenge.pw_rs0205_01.main.body.find? fun s => match s with | .FunctionDef (name := n) .. => n == S' "law" | _ => false
noncomputable def lawBody : List Stmt := match lawStm with | some (.FunctionDef (body := b) ..) => b | _ => []
noncomputable def lawScope : Scope := match lawStm with | some (.FunctionDef (scope := b) ..) => b | _ => default
noncomputable def lawNm : List (Str × NameKind) := lawScope.names
noncomputable def lawCells (L : Nat) : List (Str × Addr) := [(S' "whole", L + 10), (S' "turns", L + 9), (S' "runs", L + 8), (S' "column", L + 7), (S' "due", L + 6), (S' "marks", L + 5), (S' "pair", L + 4), (S' "blanks", L + 3), (S' "tabs", L + 2), (S' "ring", L + 1)]
theorem lk_script : lawNm.lookup (S' "script") = some .local := by kernel_rfl
theorem lk_cells : lawNm.lookup (S' "cells") = some .local := by kernel_rfl
theorem lk_n : lawNm.lookup (S' "n") = some .local := by kernel_rfl
theorem lk_total : lawNm.lookup (S' "total") = some .local := by kernel_rfl
theorem lk_signs : lawNm.lookup (S' "signs") = some .local := by kernel_rfl
theorem lk_drawn : lawNm.lookup (S' "drawn") = some .local := by kernel_rfl
theorem lk_k : lawNm.lookup (S' "k") = some .local := by kernel_rfl
theorem lk_right : lawNm.lookup (S' "right") = some .local := by kernel_rfl
theorem lk_left : lawNm.lookup (S' "left") = some .local := by kernel_rfl
theorem lk_heads : lawNm.lookup (S' "heads") = some .local := by kernel_rfl
theorem lk_text : lawNm.lookup (S' "text") = some .local := by kernel_rfl
theorem lk_written : lawNm.lookup (S' "written") = some .local := by kernel_rfl
theorem lk_counts : lawNm.lookup (S' "counts") = some .local := by kernel_rfl
theorem lk_lead : lawNm.lookup (S' "lead") = some .local := by kernel_rfl
theorem lk_even : lawNm.lookup (S' "even") = some .local := by kernel_rfl
theorem lk_straight : lawNm.lookup (S' "straight") = some .local := by kernel_rfl
theorem lk_more : lawNm.lookup (S' "more") = some .local := by kernel_rfl
theorem lk_top : lawNm.lookup (S' "top") = some .local := by kernel_rfl
theorem lk_told : lawNm.lookup (S' "told") = some .local := by kernel_rfl
theorem lk_start : lawNm.lookup (S' "start") = some .local := by kernel_rfl
theorem lk_ring : lawNm.lookup (S' "ring") = some .cell := by kernel_rfl
theorem lk_tabs : lawNm.lookup (S' "tabs") = some .cell := by kernel_rfl
theorem lk_blanks : lawNm.lookup (S' "blanks") = some .cell := by kernel_rfl
theorem lk_pair : lawNm.lookup (S' "pair") = some .cell := by kernel_rfl
theorem lk_marks : lawNm.lookup (S' "marks") = some .cell := by kernel_rfl
theorem lk_due : lawNm.lookup (S' "due") = some .cell := by kernel_rfl
theorem lk_column : lawNm.lookup (S' "column") = some .cell := by kernel_rfl
theorem lk_runs : lawNm.lookup (S' "runs") = some .cell := by kernel_rfl
theorem lk_turns : lawNm.lookup (S' "turns") = some .cell := by kernel_rfl
theorem lk_whole : lawNm.lookup (S' "whole") = some .cell := by kernel_rfl
theorem lk_len : lawNm.lookup (S' "len") = some .globalImplicit := by kernel_rfl
theorem lk_sum : lawNm.lookup (S' "sum") = some .globalImplicit := by kernel_rfl
theorem lk_sorted : lawNm.lookup (S' "sorted") = some .globalImplicit := by kernel_rfl
theorem lk_range : lawNm.lookup (S' "range") = some .globalImplicit := by kernel_rfl
theorem lk_escape_attrib : lawNm.lookup (S' "_escape_attrib") = some .globalImplicit := by kernel_rfl
theorem lk_escape_cdata : lawNm.lookup (S' "_escape_cdata") = some .globalImplicit := by kernel_rfl
theorem lk_insort_right : lawNm.lookup (S' "insort_right") = some .globalImplicit := by kernel_rfl
theorem lk_insort_left : lawNm.lookup (S' "insort_left") = some .globalImplicit := by kernel_rfl
theorem lk_max : lawNm.lookup (S' "max") = some .globalImplicit := by kernel_rfl
theorem lk_Whitespace : lawNm.lookup (S' "Whitespace") = some .globalImplicit := by kernel_rfl
theorem lk_tuple : lawNm.lookup (S' "tuple") = some .globalImplicit := by kernel_rfl
theorem lk_law_is_even : lawNm.lookup (S' "_law_is_even") = some .globalImplicit := by kernel_rfl
theorem lk_law_back : lawNm.lookup (S' "_law_back") = some .globalImplicit := by kernel_rfl
theorem lc_ring {env : Env} {L : Nat} (ec : env.cells = lawCells L) : env.cells.lookup (S' "ring") = some (L + 1) := by rw [ec]; rfl
theorem lc_tabs {env : Env} {L : Nat} (ec : env.cells = lawCells L) : env.cells.lookup (S' "tabs") = some (L + 2) := by rw [ec]; rfl
theorem lc_blanks {env : Env} {L : Nat} (ec : env.cells = lawCells L) : env.cells.lookup (S' "blanks") = some (L + 3) := by rw [ec]; rfl
theorem lc_pair {env : Env} {L : Nat} (ec : env.cells = lawCells L) : env.cells.lookup (S' "pair") = some (L + 4) := by rw [ec]; rfl
theorem lc_marks {env : Env} {L : Nat} (ec : env.cells = lawCells L) : env.cells.lookup (S' "marks") = some (L + 5) := by rw [ec]; rfl
theorem lc_due {env : Env} {L : Nat} (ec : env.cells = lawCells L) : env.cells.lookup (S' "due") = some (L + 6) := by rw [ec]; rfl
theorem lc_column {env : Env} {L : Nat} (ec : env.cells = lawCells L) : env.cells.lookup (S' "column") = some (L + 7) := by rw [ec]; rfl
theorem lc_runs {env : Env} {L : Nat} (ec : env.cells = lawCells L) : env.cells.lookup (S' "runs") = some (L + 8) := by rw [ec]; rfl
theorem lc_turns {env : Env} {L : Nat} (ec : env.cells = lawCells L) : env.cells.lookup (S' "turns") = some (L + 9) := by rw [ec]; rfl
theorem lc_whole {env : Env} {L : Nat} (ec : env.cells = lawCells L) : env.cells.lookup (S' "whole") = some (L + 10) := by rw [ec]; rfl
section
variable {prog : Program} {w : World} {A : Around} {H H' : List Addr} {env : Env} {pos : Pos} {d : Dt} {h₀ : Heap} {own : List (Addr × Ow)} {pm : List (Str × Dt)} {W oa : List Addr} {L : Nat}
theorem lv_script (N : Nm env lawNm) (hx : pm.lookup (S' "script") = some d) (hH : ∀ a ∈ H', a ∈ H) : Ev prog w A (fs h₀ env H own pm) H' env (.Name (S' "script") pos) d := ev_local N lk_script hx hH (by decide +kernel)
theorem sv_script (N : Nm env lawNm) : Sto prog w A h₀ W env oa (S' "script") := sto_local N lk_script
theorem lv_cells (N : Nm env lawNm) (hx : pm.lookup (S' "cells") = some d) (hH : ∀ a ∈ H', a ∈ H) : Ev prog w A (fs h₀ env H own pm) H' env (.Name (S' "cells") pos) d := ev_local N lk_cells hx hH (by decide +kernel)
theorem sv_cells (N : Nm env lawNm) : Sto prog w A h₀ W env oa (S' "cells") := sto_local N lk_cells
theorem lv_n (N : Nm env lawNm) (hx : pm.lookup (S' "n") = some d) (hH : ∀ a ∈ H', a ∈ H) : Ev prog w A (fs h₀ env H own pm) H' env (.Name (S' "n") pos) d := ev_local N lk_n hx hH (by decide +kernel)
theorem sv_n (N : Nm env lawNm) : Sto prog w A h₀ W env oa (S' "n") := sto_local N lk_n
theorem lv_total (N : Nm env lawNm) (hx : pm.lookup (S' "total") = some d) (hH : ∀ a ∈ H', a ∈ H) : Ev prog w A (fs h₀ env H own pm) H' env (.Name (S' "total") pos) d := ev_local N lk_total hx hH (by decide +kernel)
theorem sv_total (N : Nm env lawNm) : Sto prog w A h₀ W env oa (S' "total") := sto_local N lk_total
theorem lv_signs (N : Nm env lawNm) (hx : pm.lookup (S' "signs") = some d) (hH : ∀ a ∈ H', a ∈ H) : Ev prog w A (fs h₀ env H own pm) H' env (.Name (S' "signs") pos) d := ev_local N lk_signs hx hH (by decide +kernel)
theorem sv_signs (N : Nm env lawNm) : Sto prog w A h₀ W env oa (S' "signs") := sto_local N lk_signs
theorem lv_drawn (N : Nm env lawNm) (hx : pm.lookup (S' "drawn") = some d) (hH : ∀ a ∈ H', a ∈ H) : Ev prog w A (fs h₀ env H own pm) H' env (.Name (S' "drawn") pos) d := ev_local N lk_drawn hx hH (by decide +kernel)
theorem sv_drawn (N : Nm env lawNm) : Sto prog w A h₀ W env oa (S' "drawn") := sto_local N lk_drawn
theorem lv_k (N : Nm env lawNm) (hx : pm.lookup (S' "k") = some d) (hH : ∀ a ∈ H', a ∈ H) : Ev prog w A (fs h₀ env H own pm) H' env (.Name (S' "k") pos) d := ev_local N lk_k hx hH (by decide +kernel)
theorem sv_k (N : Nm env lawNm) : Sto prog w A h₀ W env oa (S' "k") := sto_local N lk_k
theorem lv_right (N : Nm env lawNm) (hx : pm.lookup (S' "right") = some d) (hH : ∀ a ∈ H', a ∈ H) : Ev prog w A (fs h₀ env H own pm) H' env (.Name (S' "right") pos) d := ev_local N lk_right hx hH (by decide +kernel)
theorem sv_right (N : Nm env lawNm) : Sto prog w A h₀ W env oa (S' "right") := sto_local N lk_right
theorem lv_left (N : Nm env lawNm) (hx : pm.lookup (S' "left") = some d) (hH : ∀ a ∈ H', a ∈ H) : Ev prog w A (fs h₀ env H own pm) H' env (.Name (S' "left") pos) d := ev_local N lk_left hx hH (by decide +kernel)
theorem sv_left (N : Nm env lawNm) : Sto prog w A h₀ W env oa (S' "left") := sto_local N lk_left
theorem lv_heads (N : Nm env lawNm) (hx : pm.lookup (S' "heads") = some d) (hH : ∀ a ∈ H', a ∈ H) : Ev prog w A (fs h₀ env H own pm) H' env (.Name (S' "heads") pos) d := ev_local N lk_heads hx hH (by decide +kernel)
theorem sv_heads (N : Nm env lawNm) : Sto prog w A h₀ W env oa (S' "heads") := sto_local N lk_heads
theorem lv_text (N : Nm env lawNm) (hx : pm.lookup (S' "text") = some d) (hH : ∀ a ∈ H', a ∈ H) : Ev prog w A (fs h₀ env H own pm) H' env (.Name (S' "text") pos) d := ev_local N lk_text hx hH (by decide +kernel)
theorem sv_text (N : Nm env lawNm) : Sto prog w A h₀ W env oa (S' "text") := sto_local N lk_text
theorem lv_written (N : Nm env lawNm) (hx : pm.lookup (S' "written") = some d) (hH : ∀ a ∈ H', a ∈ H) : Ev prog w A (fs h₀ env H own pm) H' env (.Name (S' "written") pos) d := ev_local N lk_written hx hH (by decide +kernel)
theorem sv_written (N : Nm env lawNm) : Sto prog w A h₀ W env oa (S' "written") := sto_local N lk_written
theorem lv_counts (N : Nm env lawNm) (hx : pm.lookup (S' "counts") = some d) (hH : ∀ a ∈ H', a ∈ H) : Ev prog w A (fs h₀ env H own pm) H' env (.Name (S' "counts") pos) d := ev_local N lk_counts hx hH (by decide +kernel)
theorem sv_counts (N : Nm env lawNm) : Sto prog w A h₀ W env oa (S' "counts") := sto_local N lk_counts
theorem lv_lead (N : Nm env lawNm) (hx : pm.lookup (S' "lead") = some d) (hH : ∀ a ∈ H', a ∈ H) : Ev prog w A (fs h₀ env H own pm) H' env (.Name (S' "lead") pos) d := ev_local N lk_lead hx hH (by decide +kernel)
theorem sv_lead (N : Nm env lawNm) : Sto prog w A h₀ W env oa (S' "lead") := sto_local N lk_lead
theorem lv_even (N : Nm env lawNm) (hx : pm.lookup (S' "even") = some d) (hH : ∀ a ∈ H', a ∈ H) : Ev prog w A (fs h₀ env H own pm) H' env (.Name (S' "even") pos) d := ev_local N lk_even hx hH (by decide +kernel)
theorem sv_even (N : Nm env lawNm) : Sto prog w A h₀ W env oa (S' "even") := sto_local N lk_even
theorem lv_straight (N : Nm env lawNm) (hx : pm.lookup (S' "straight") = some d) (hH : ∀ a ∈ H', a ∈ H) : Ev prog w A (fs h₀ env H own pm) H' env (.Name (S' "straight") pos) d := ev_local N lk_straight hx hH (by decide +kernel)
theorem sv_straight (N : Nm env lawNm) : Sto prog w A h₀ W env oa (S' "straight") := sto_local N lk_straight
theorem lv_more (N : Nm env lawNm) (hx : pm.lookup (S' "more") = some d) (hH : ∀ a ∈ H', a ∈ H) : Ev prog w A (fs h₀ env H own pm) H' env (.Name (S' "more") pos) d := ev_local N lk_more hx hH (by decide +kernel)
theorem sv_more (N : Nm env lawNm) : Sto prog w A h₀ W env oa (S' "more") := sto_local N lk_more
theorem lv_top (N : Nm env lawNm) (hx : pm.lookup (S' "top") = some d) (hH : ∀ a ∈ H', a ∈ H) : Ev prog w A (fs h₀ env H own pm) H' env (.Name (S' "top") pos) d := ev_local N lk_top hx hH (by decide +kernel)
theorem sv_top (N : Nm env lawNm) : Sto prog w A h₀ W env oa (S' "top") := sto_local N lk_top
theorem lv_told (N : Nm env lawNm) (hx : pm.lookup (S' "told") = some d) (hH : ∀ a ∈ H', a ∈ H) : Ev prog w A (fs h₀ env H own pm) H' env (.Name (S' "told") pos) d := ev_local N lk_told hx hH (by decide +kernel)
theorem sv_told (N : Nm env lawNm) : Sto prog w A h₀ W env oa (S' "told") := sto_local N lk_told
theorem lv_start (N : Nm env lawNm) (hx : pm.lookup (S' "start") = some d) (hH : ∀ a ∈ H', a ∈ H) : Ev prog w A (fs h₀ env H own pm) H' env (.Name (S' "start") pos) d := ev_local N lk_start hx hH (by decide +kernel)
theorem sv_start (N : Nm env lawNm) : Sto prog w A h₀ W env oa (S' "start") := sto_local N lk_start
theorem lv_ring (N : Nm env lawNm) (ec : env.cells = lawCells L) (hx : pm.lookup (S' "ring") = some d) (hH : ∀ a ∈ H', a ∈ H) : Ev prog w A (fs h₀ env H own pm) H' env (.Name (S' "ring") pos) d := ev_cell N lk_ring (lc_ring ec) hx hH (by decide +kernel)
theorem sv_ring (N : Nm env lawNm) (ec : env.cells = lawCells L) : Sto prog w A h₀ W env oa (S' "ring") := sto_cell N lk_ring (lc_ring ec)
theorem lv_tabs (N : Nm env lawNm) (ec : env.cells = lawCells L) (hx : pm.lookup (S' "tabs") = some d) (hH : ∀ a ∈ H', a ∈ H) : Ev prog w A (fs h₀ env H own pm) H' env (.Name (S' "tabs") pos) d := ev_cell N lk_tabs (lc_tabs ec) hx hH (by decide +kernel)
theorem sv_tabs (N : Nm env lawNm) (ec : env.cells = lawCells L) : Sto prog w A h₀ W env oa (S' "tabs") := sto_cell N lk_tabs (lc_tabs ec)
theorem lv_blanks (N : Nm env lawNm) (ec : env.cells = lawCells L) (hx : pm.lookup (S' "blanks") = some d) (hH : ∀ a ∈ H', a ∈ H) : Ev prog w A (fs h₀ env H own pm) H' env (.Name (S' "blanks") pos) d := ev_cell N lk_blanks (lc_blanks ec) hx hH (by decide +kernel)
theorem sv_blanks (N : Nm env lawNm) (ec : env.cells = lawCells L) : Sto prog w A h₀ W env oa (S' "blanks") := sto_cell N lk_blanks (lc_blanks ec)
theorem lv_pair (N : Nm env lawNm) (ec : env.cells = lawCells L) (hx : pm.lookup (S' "pair") = some d) (hH : ∀ a ∈ H', a ∈ H) : Ev prog w A (fs h₀ env H own pm) H' env (.Name (S' "pair") pos) d := ev_cell N lk_pair (lc_pair ec) hx hH (by decide +kernel)
theorem sv_pair (N : Nm env lawNm) (ec : env.cells = lawCells L) : Sto prog w A h₀ W env oa (S' "pair") := sto_cell N lk_pair (lc_pair ec)
theorem lv_marks (N : Nm env lawNm) (ec : env.cells = lawCells L) (hx : pm.lookup (S' "marks") = some d) (hH : ∀ a ∈ H', a ∈ H) : Ev prog w A (fs h₀ env H own pm) H' env (.Name (S' "marks") pos) d := ev_cell N lk_marks (lc_marks ec) hx hH (by decide +kernel)
theorem sv_marks (N : Nm env lawNm) (ec : env.cells = lawCells L) : Sto prog w A h₀ W env oa (S' "marks") := sto_cell N lk_marks (lc_marks ec)
theorem lv_due (N : Nm env lawNm) (ec : env.cells = lawCells L) (hx : pm.lookup (S' "due") = some d) (hH : ∀ a ∈ H', a ∈ H) : Ev prog w A (fs h₀ env H own pm) H' env (.Name (S' "due") pos) d := ev_cell N lk_due (lc_due ec) hx hH (by decide +kernel)
theorem sv_due (N : Nm env lawNm) (ec : env.cells = lawCells L) : Sto prog w A h₀ W env oa (S' "due") := sto_cell N lk_due (lc_due ec)
theorem lv_column (N : Nm env lawNm) (ec : env.cells = lawCells L) (hx : pm.lookup (S' "column") = some d) (hH : ∀ a ∈ H', a ∈ H) : Ev prog w A (fs h₀ env H own pm) H' env (.Name (S' "column") pos) d := ev_cell N lk_column (lc_column ec) hx hH (by decide +kernel)
theorem sv_column (N : Nm env lawNm) (ec : env.cells = lawCells L) : Sto prog w A h₀ W env oa (S' "column") := sto_cell N lk_column (lc_column ec)
theorem lv_runs (N : Nm env lawNm) (ec : env.cells = lawCells L) (hx : pm.lookup (S' "runs") = some d) (hH : ∀ a ∈ H', a ∈ H) : Ev prog w A (fs h₀ env H own pm) H' env (.Name (S' "runs") pos) d := ev_cell N lk_runs (lc_runs ec) hx hH (by decide +kernel)
theorem sv_runs (N : Nm env lawNm) (ec : env.cells = lawCells L) : Sto prog w A h₀ W env oa (S' "runs") := sto_cell N lk_runs (lc_runs ec)
theorem lv_turns (N : Nm env lawNm) (ec : env.cells = lawCells L) (hx : pm.lookup (S' "turns") = some d) (hH : ∀ a ∈ H', a ∈ H) : Ev prog w A (fs h₀ env H own pm) H' env (.Name (S' "turns") pos) d := ev_cell N lk_turns (lc_turns ec) hx hH (by decide +kernel)
theorem sv_turns (N : Nm env lawNm) (ec : env.cells = lawCells L) : Sto prog w A h₀ W env oa (S' "turns") := sto_cell N lk_turns (lc_turns ec)
theorem lv_whole (N : Nm env lawNm) (ec : env.cells = lawCells L) (hx : pm.lookup (S' "whole") = some d) (hH : ∀ a ∈ H', a ∈ H) : Ev prog w A (fs h₀ env H own pm) H' env (.Name (S' "whole") pos) d := ev_cell N lk_whole (lc_whole ec) hx hH (by decide +kernel)
theorem sv_whole (N : Nm env lawNm) (ec : env.cells = lawCells L) : Sto prog w A h₀ W env oa (S' "whole") := sto_cell N lk_whole (lc_whole ec)
end
end

section
section
variable {prog : Program} {w : World} {A : Around} {h₀ : Heap} {s₀ s : Shared} {W : List Addr} {env : Env} {H : List Addr} {own : List (Addr × Ow)} {pm : List (Str × Dt)} {mg mb : Str → Option Value} {nm : List (Str × NameKind)} {oa : List Addr} {pos : Pos}
theorem elt_of {pmf : List (Str × Dt)} {x : Str} {elt : Expr} {scope : Scope} {cl : List (Str × Addr)} {d e : Dt} (h : ∀ C H', (∀ a ∈ H, a ∈ H') → Nm (compEnvC scope cl C env) (relab scope.names nm) → Ev prog w A (fs h₀ (compEnvC scope cl C env) H' own ((x, d) :: pmf)) H' (compEnvC scope cl C env) elt e) :
    Elt prog w A h₀ env H own pmf nm x [] elt scope cl d (some e) := ⟨fun C H' hs N => ⟨ifs_nil, fun e' he => by cases he; exact h C H' hs N⟩⟩
theorem elt_if {pmf : List (Str × Dt)} {x : Str} {elt c : Expr} {scope : Scope} {cl : List (Str × Addr)} {d e : Dt} {b : Bool} (h : ∀ C H', (∀ a ∈ H, a ∈ H') → Nm (compEnvC scope cl C env) (relab scope.names nm) → Tst prog w A (fs h₀ (compEnvC scope cl C env) H' own ((x, d) :: pmf)) (compEnvC scope cl C env) c b ∧ Ev prog w A (fs h₀ (compEnvC scope cl C env) H' own ((x, d) :: pmf)) H' (compEnvC scope cl C env) elt e) :
    Elt prog w A h₀ env H own pmf nm x [c] elt scope cl d (if b then some e else none) := ⟨fun C H' hs N => by
  obtain ⟨h1, h2⟩ := h C H' hs N
  cases b with
  | true => exact ⟨ifs_one h1, fun e' he => by cases he; exact h2⟩
  | false => exact ⟨ifs_one h1, fun e' he => by cases he⟩⟩
theorem EvW.to {e : Expr} {d d' : Dt} (h : EvW prog w A h₀ W env H own pm e d) (q : d = d') : EvW prog w A h₀ W env H own pm e d' := q ▸ h
theorem fm_map {α β : Type} (l : List α) (g : Nat → Option β) (f : α → Option β) (h : ∀ i x, l[i]? = some x → g i = f x) : (List.range l.length).filterMap g = l.filterMap f := by
  induction l generalizing g with
  | nil => rfl
  | cons a l ih =>
    rw [List.length_cons, List.range_succ_eq_map, List.filterMap_cons, List.filterMap_cons, h 0 a rfl, List.filterMap_map, ih (g ∘ Nat.succ) fun i x e => h (i + 1) x (by simpa using e)]
theorem filterMap_if {α β : Type} (f : α → β) (p : α → Bool) : ∀ l : List α, l.filterMap (fun a => if p a then some (f a) else none) = (l.filter p).map f
  | [] => rfl
  | a :: l => by
    rw [List.filterMap_cons, List.filter_cons, filterMap_if f p l]
    cases p a <;> rfl
theorem get_map {α β : Type} {f : α → β} {l : List α} {i : Nat} {d : β} (h : (l.map f)[i]? = some d) : ∃ x, l[i]? = some x ∧ d = f x ∧ x ∈ l := by
  rw [List.getElem?_map] at h
  obtain ⟨x, h1, h2⟩ := Option.map_eq_some_iff.mp h
  exact ⟨x, h1, h2.symm, List.mem_of_getElem? h1⟩

theorem ev_compM {α : Type} (emb : α → Dt) (l : List α) (f : α → Dt) (a0 : α) {elt iter : Expr} {x : Str} {px : Pos} {scope : Scope} {cl : List (Str × Addr)} {dsrc : Dt} {pmf : List (Str × Dt)}
    (N : Nm env nm) (so : ScOk scope x) (hcl : closOf env.cells scope.names [] = some cl) (hi : Ev prog w A (fs h₀ env H own pm) H env iter dsrc) (src : It prog w A H dsrc (l.map emb)) (hz : l.length ≤ 1000)
    (hpm : CovC nm (relab scope.names nm) pm pmf) (he : ∀ x₀ ∈ l, Elt prog w A h₀ env H own pmf nm x [] elt scope cl (emb x₀) (some (f x₀))) (hs : ∀ x, foldedSetIterable iter env x = pure x := by intro _; rfl) :
    Ev prog w A (fs h₀ env H own pm) H env (.ListComp elt [⟨.Name x px, iter, [], 0⟩] scope pos) (.list (l.map f)) := by
  have h := ev_comp (pos := pos) (px := px) (elt := elt) (ifs := []) (fun i => some (f (l.getD i a0))) N so hcl hi src (by simpa using hz) hpm (fun i d hd => by
    obtain ⟨x, e, rfl, hx⟩ := get_map hd
    rw [List.getD_eq_getElem?_getD, e]
    exact he x hx) hs
  rw [List.length_map, fm_map l _ (fun x => some (f x)) (fun i x e => by rw [List.getD_eq_getElem?_getD, e]; rfl), filterMap_some] at h
  exact h
theorem ev_compF {α : Type} (emb : α → Dt) (l : List α) (f : α → Dt) (p : α → Bool) (a0 : α) {elt iter c : Expr} {x : Str} {px : Pos} {scope : Scope} {cl : List (Str × Addr)} {dsrc : Dt} {pmf : List (Str × Dt)}
    (N : Nm env nm) (so : ScOk scope x) (hcl : closOf env.cells scope.names [] = some cl) (hi : Ev prog w A (fs h₀ env H own pm) H env iter dsrc) (src : It prog w A H dsrc (l.map emb)) (hz : l.length ≤ 1000)
    (hpm : CovC nm (relab scope.names nm) pm pmf) (he : ∀ x₀ ∈ l, Elt prog w A h₀ env H own pmf nm x [c] elt scope cl (emb x₀) (if p x₀ then some (f x₀) else none)) (hs : ∀ x, foldedSetIterable iter env x = pure x := by intro _; rfl) :
    Ev prog w A (fs h₀ env H own pm) H env (.ListComp elt [⟨.Name x px, iter, [c], 0⟩] scope pos) (.list ((l.filter p).map f)) := by
  have h := ev_comp (pos := pos) (px := px) (elt := elt) (ifs := [c]) (fun i => if p (l.getD i a0) then some (f (l.getD i a0)) else none) N so hcl hi src (by simpa using hz) hpm (fun i d hd => by
    obtain ⟨x, e, rfl, hx⟩ := get_map hd
    rw [List.getD_eq_getElem?_getD, e]
    exact he x hx) hs
  rw [List.length_map, fm_map l _ (fun x => if p x then some (f x) else none) (fun i x e => by rw [List.getD_eq_getElem?_getD, e]; rfl), filterMap_if] at h
  exact h
theorem evw_compM {α : Type} (emb : α → Dt) (l : List α) (f : α → Dt) (a0 : α) {elt iter : Expr} {x : Str} {px : Pos} {scope : Scope} {cl : List (Str × Addr)} {dsrc : Dt} {pmf : List (Str × Dt)}
    (N : Nm env nm) (so : ScOk scope x) (hcl : closOf env.cells scope.names [] = some cl) (hi : EvW prog w A h₀ W env H own pm iter dsrc) (src : It prog w A H dsrc (l.map emb)) (hz : l.length ≤ 1000)
    (hpm : CovC nm (relab scope.names nm) pm pmf) (he : ∀ x₀ ∈ l, Elt prog w A h₀ env H own pmf nm x [] elt scope cl (emb x₀) (some (f x₀))) (hs : ∀ x, foldedSetIterable iter env x = pure x := by intro _; rfl) :
    EvW prog w A h₀ W env H own pm (.ListComp elt [⟨.Name x px, iter, [], 0⟩] scope pos) (.list (l.map f)) := by
  have h := evw_comp (pos := pos) (px := px) (elt := elt) (ifs := []) (fun i => some (f (l.getD i a0))) N so hcl hi src (by simpa using hz) hpm (fun i d hd => by
    obtain ⟨x, e, rfl, hx⟩ := get_map hd
    rw [List.getD_eq_getElem?_getD, e]
    exact he x hx) hs
  rw [List.length_map, fm_map l _ (fun x => some (f x)) (fun i x e => by rw [List.getD_eq_getElem?_getD, e]; rfl), filterMap_some] at h
  exact h
end
end

local macro_rules | `(tactic| walk_at "LV") => `(tactic| repeat' (first
  | exact ev_int | exact ev_str | exact ev_none | exact ev_bool | exact ev_neg_lit
  | ((with_reducible refine lv_script (by assumption) ?_ (fun _ h => h)); rfl)
  | ((with_reducible refine lv_cells (by assumption) ?_ (fun _ h => h)); rfl)
  | ((with_reducible refine lv_n (by assumption) ?_ (fun _ h => h)); rfl)
  | ((with_reducible refine lv_total (by assumption) ?_ (fun _ h => h)); rfl)
  | ((with_reducible refine lv_signs (by assumption) ?_ (fun _ h => h)); rfl)
  | ((with_reducible refine lv_drawn (by assumption) ?_ (fun _ h => h)); rfl)
  | ((with_reducible refine lv_k (by assumption) ?_ (fun _ h => h)); rfl)
  | ((with_reducible refine lv_right (by assumption) ?_ (fun _ h => h)); rfl)
  | ((with_reducible refine lv_left (by assumption) ?_ (fun _ h => h)); rfl)
  | ((with_reducible refine lv_heads (by assumption) ?_ (fun _ h => h)); rfl)
  | ((with_reducible refine lv_text (by assumption) ?_ (fun _ h => h)); rfl)
  | ((with_reducible refine lv_written (by assumption) ?_ (fun _ h => h)); rfl)
  | ((with_reducible refine lv_counts (by assumption) ?_ (fun _ h => h)); rfl)
  | ((with_reducible refine lv_lead (by assumption) ?_ (fun _ h => h)); rfl)
  | ((with_reducible refine lv_even (by assumption) ?_ (fun _ h => h)); rfl)
  | ((with_reducible refine lv_straight (by assumption) ?_ (fun _ h => h)); rfl)
  | ((with_reducible refine lv_more (by assumption) ?_ (fun _ h => h)); rfl)
  | ((with_reducible refine lv_top (by assumption) ?_ (fun _ h => h)); rfl)
  | ((with_reducible refine lv_told (by assumption) ?_ (fun _ h => h)); rfl)
  | ((with_reducible refine lv_start (by assumption) ?_ (fun _ h => h)); rfl)
  | ((with_reducible refine lv_ring (by assumption) (by assumption) ?_ (fun _ h => h)); rfl)
  | ((with_reducible refine lv_tabs (by assumption) (by assumption) ?_ (fun _ h => h)); rfl)
  | ((with_reducible refine lv_blanks (by assumption) (by assumption) ?_ (fun _ h => h)); rfl)
  | ((with_reducible refine lv_pair (by assumption) (by assumption) ?_ (fun _ h => h)); rfl)
  | ((with_reducible refine lv_marks (by assumption) (by assumption) ?_ (fun _ h => h)); rfl)
  | ((with_reducible refine lv_due (by assumption) (by assumption) ?_ (fun _ h => h)); rfl)
  | ((with_reducible refine lv_column (by assumption) (by assumption) ?_ (fun _ h => h)); rfl)
  | ((with_reducible refine lv_runs (by assumption) (by assumption) ?_ (fun _ h => h)); rfl)
  | ((with_reducible refine lv_turns (by assumption) (by assumption) ?_ (fun _ h => h)); rfl)
  | ((with_reducible refine lv_whole (by assumption) (by assumption) ?_ (fun _ h => h)); rfl)
  | exact cmp_lt | exact cmp_gt | exact cmp_ge | exact cmp_le | exact cmp_eq | exact cmp_is_bool | exact cmp_isnot_bool
  | exact evs_nil | refine' evs_cons ?_ ?_
  | refine' ev_lenL (by assumption) (by assumption) lk_len ?_ ?_ ?_
  | refine' ev_sumL (by assumption) (by assumption) lk_sum ?_ (by assumption)
  | refine' ev_range1 (by assumption) (by assumption) lk_range (fun _ h => h) ?_
  | refine' ev_range2 (by assumption) (by assumption) lk_range (fun _ h => h) ?_ ?_
  | refine' ev_add ?_ ?_ | refine' ev_sub ?_ ?_ | refine' tst_cmp ?_ ?_ ?_
  | fail "LV"))

local macro_rules | `(tactic| walk_at "CV") => `(tactic| repeat' (first
  | exact ev_int | exact ev_str | exact ev_none | exact ev_bool | exact ev_neg_lit
  | exact ev_local (by assumption) (by rfl) (by rfl) (fun _ h => h) (by decide +kernel)
  | exact ev_cell (by assumption) (by rfl) (by rfl) (by rfl) (fun _ h => h) (by decide +kernel)
  | fail "CV"))

section
noncomputable def cellsOf (ns : List Int) : List Int := (ns.take 8).map (fun x => x % 1000000) ++ ([3, 8, 2, 7, 9, 4] : List Int).drop ns.length
noncomputable def ringOf (ns : List Int) : List Int := (cellsOf ns).map fun x => x % 2
noncomputable def totalOf (ns : List Int) : Int := ((cellsOf ns).map fun x => x / 2).sum
theorem cells_len (ns : List Int) : (cellsOf ns).length = min 8 ns.length + (6 - ns.length) := by
  unfold cellsOf; rw [List.length_append, List.length_map, List.length_take, List.length_drop]; rfl
section
variable {prog : Program} {w : World} {A : Around} {h₀ : Heap} {s₀ s : Shared} {W : List Addr} {env : Env} {H : List Addr} {own : List (Addr × Ow)} {pm : List (Str × Dt)} {mg mb : Str → Option Value} {oa : List Addr} {L m : Nat} {q : Str} {Q : Flow → Shared → Prop} {pms : List Dt}

theorem law_1 {ns : List Int} (B : Base w mg mb h₀) (N : Nm env lawNm) (O : FOk h₀ W env H [172]) (ec : env.cells = lawCells L) (Rm : Room A m) (S : Chg W s₀ s) (hn : ns.length ≤ 63)
    (F : FSt h₀ env H [(172, .tab q)] [(S' "script", .lax (dInts ns))] s)
    (k : ∀ s', Chg W s₀ s' → FSt h₀ env H [(172, .tab q)] [(S' "ring", .list (dInts (ringOf ns))), (S' "cells", .list (dInts (cellsOf ns))), (S' "script", .lax (dInts ns))] s' → Ex prog w A (lawBody.drop 2) env Q s') : Ex prog w A lawBody env Q s := by
  have hh : A.handled = none := Rm.hh
  have lc := cells_len ns
  have X : ∀ {own pm}, Hx (fs h₀ env H own pm) H := hx_fs fun _ h => h
  refine x_asg_local (d := .list (dInts (cellsOf ns))) N O S F ?_ lk_cells fun s₁ S F => ?_
  · refine Ev.to (ev_add_list X (ev_compM (dsrc := .list (dInts (ns.take 8))) (pmf := []) Dt.int (ns.take 8) (fun x => Dt.int (x % 1000000)) 0 N ⟨by decide +kernel, rfl, by decide +kernel, rfl⟩ rfl (Ev.to (ev_lax_upto (ds := dInts ns) (k := 8) X ?_ ?_ (by rw [dInts_len]; omega)) (by rw [dInts_take])) (it_list hh) ?_ trivial fun x hx => elt_of fun C H' hs N' => ?_) (ev_slice_from X (ds := dInts [3, 8, 2, 7, 9, 4]) (k := ns.length) ?_ (ev_lenLax B N lk_len ?_ (by rw [dInts_len]) (by rw [dInts_len]; omega)) (by decide)) ?_) ?_
    · walk_at "LV"
    · walk_at "LV"
    · rw [List.length_take]; omega
    · refine ev_mod ?_ (Ev.int_eq (ev_pow (a := 10) (b := 6) ev_int ev_int (by decide) (by decide) (by decide)) rfl) (by decide)
      walk_at "CV"
    · refine ev_list X (ds := dInts [3, 8, 2, 7, 9, 4]) ?_ (by decide)
      walk_at "LV"
    · walk_at "LV"
    · simp [dInts]; omega
    · unfold cellsOf
      rw [dInts_append, dInts_drop]
      simp [dInts, Function.comp_def]
  refine x_asg_cell (d := .list (dInts (ringOf ns))) N O S F ?_ lk_ring (lc_ring ec) k (by rw [swaps_comp N, lk_ring]; rfl)
  refine Ev.to (ev_compM (pmf := []) Dt.int (cellsOf ns) (fun x => Dt.int (x % 2)) 0 N ⟨by decide +kernel, rfl, by decide +kernel, rfl⟩ rfl ?_ (it_list hh) (by omega) trivial fun x hx => elt_of fun C H' hs N' => ?_) ?_
  · walk_at "LV"
  · refine ev_mod ?_ ev_int (by decide)
    walk_at "CV"
  · simp [ringOf, dInts]

theorem bits_sum : ∀ {g : List Int}, Bits g → 0 ≤ g.sum ∧ g.sum ≤ g.length
  | [], _ => by simp
  | x :: r, h => by
    have ih := bits_sum h.tail
    rw [List.sum_cons, List.length_cons]
    rcases h x (.head _) with rfl | rfl <;> omega
theorem tabs_eq {g : List Int} (h : Bits g) : g.sum = (tabsN g : Int) := by have := bits_sum h; unfold tabsN; omega
theorem blanks_eq {g : List Int} (h : Bits g) : (g.length : Int) - g.sum = (blanksN g : Int) := by have := bits_sum h; unfold blanksN tabsN; omega
theorem h2 : (2 : Nat) ≤ 1000 := by decide
theorem h3 : (3 : Nat) ≤ 1000 := by decide
noncomputable def iOf (T : Nat) : Nat := T % 9
noncomputable def jOf (T : Nat) : Nat := (T % 9 + 1 + T / 9 % 8) % 9
noncomputable def wholeOf (T : Nat) : Bool := T / 72 % 2 == 0
theorem iOf_lt (T : Nat) : iOf T < 9 := by unfold iOf; omega
theorem jOf_lt (T : Nat) : jOf T < 9 := by unfold jOf; omega
theorem ij_ne (T : Nat) : iOf T ≠ jOf T := by unfold iOf jOf; omega
theorem signs_at {i : Nat} (h : i < 9) : (S' " \t\n\r&><\"a").cps.toList[i]? = some (signAt i) := by
  have e : (S' " \t\n\r&><\"a").cps.toList = [32, 9, 10, 13, 38, 62, 60, 34, 97] := by rfl
  rw [e]
  unfold signAt
  rw [List.getD_eq_getElem?_getD, List.getElem?_eq_getElem (by simpa using h)]
  rfl
theorem law_2 {g cs : List Int} {T : Nat} (B : Base w mg mb h₀) (N : Nm env lawNm) (O : FOk h₀ W env H [172]) (ec : env.cells = lawCells L) (Rm : Room A m) (S : Chg W s₀ s) (hb : Bits g) (hz : g.length ≤ 100) (hcz : cs.length ≤ 100) (hT : (cs.map fun x => x / 2).sum = (T : Int))
    (F : FSt h₀ env H [(172, .tab q)] [(S' "ring", .list (dInts g)), (S' "cells", .list (dInts cs)), (S' "script", .lax pms)] s)
    (k : ∀ s', Chg W s₀ s' → FSt h₀ env H [(172, .tab q)] [(S' "drawn", .list (dStrs [one (signAt (iOf T)), one (signAt (jOf T))])), (S' "whole", .bool (wholeOf T)), (S' "blanks", .int (blanksN g)), (S' "tabs", .int (tabsN g)), (S' "n", .int g.length), (S' "ring", .list (dInts g))] s' → Ex prog w A (lawBody.drop 7) env Q s') : Ex prog w A (lawBody.drop 2) env Q s := by
  have hh : A.handled = none := Rm.hh
  have X : ∀ {own pm}, Hx (fs h₀ env H own pm) H := hx_fs fun _ h => h
  have lenZ : ((dInts g).length : Int) = (g.length : Int) := by rw [dInts_len]
  have lenB : (dInts g).length ≤ 1000 := by rw [dInts_len]; omega
  have hbk : env.blockKind = .function := by unfold Env.blockKind; rw [N.kind]; rfl
  refine x_unpack3 (d₁ := .int g.length) (d₂ := .int (tabsN g)) (d₃ := .int (blanksN g)) O S F hh ?_ (sv_n N) (sv_tabs N ec) (sv_blanks N ec) (fun s₁ S F => ?_) ?_
  · refine ev_tuple X (evs_cons ?_ (evs_cons (Ev.int_eq ?_ (tabs_eq hb)) (evs_cons (Ev.int_eq (ev_sub (a := g.length) (b := g.sum) ?_ ?_) (blanks_eq hb)) evs_nil))) h3
    · walk_at "LV"
      · exact lenZ
      · exact lenB
    · walk_at "LV"
    · walk_at "LV"
      · exact lenZ
      · exact lenB
    · walk_at "LV"
  rotate_left
  · have k1 : env.kindOf (S' "n") = some .local := N.of lk_n
    have k2 : env.kindOf (S' "tabs") = some .cell := N.of lk_tabs
    have k3 : env.kindOf (S' "blanks") = some .cell := N.of lk_blanks
    simp only [swappedStores, hbk, List.filterMap_cons, List.filterMap_nil, k1, k2, k3]
    rfl
  refine x_asg_local (d := .int T) N O S F (Ev.int_eq (ev_sumL (ns := cs.map fun x => x / 2) B N lk_sum ?_ hh) hT) lk_total fun s₂ S F => ?_
  · refine Ev.to (ev_compM (pmf := []) Dt.int cs (fun x => Dt.int (x / 2)) 0 N ⟨by decide +kernel, rfl, by decide +kernel, rfl⟩ rfl ?_ (it_list hh) (by omega) trivial fun x hx => elt_of fun C H' hs N' => ?_) ?_
    · walk_at "LV"
    · refine ev_fdiv ?_ ev_int (by decide) (by decide)
      walk_at "CV"
    · simp [dInts]
  refine x_asg_cell (d := .bool (wholeOf T)) N O S F (Ev.to (ev_cmp (ev_mod (a := (T : Int) / 72) (b := 2) (ev_fdiv ?_ ev_int (by decide) (by decide)) ev_int (by decide)) ev_int cmp_eq) ?_) lk_whole (lc_whole ec) fun s₃ S F => ?_
  · walk_at "LV"
  · unfold wholeOf
    congr 1
    rw [Bool.eq_iff_iff, beq_iff_eq, beq_iff_eq]; omega
  refine x_asg_local (d := .str (S' " \t\n\r&><\"a")) N O S F (by walk_at "LV") lk_signs fun s₄ S F => ?_
  refine x_asg_local (d := .list (dStrs [one (signAt (iOf T)), one (signAt (jOf T))])) N O S F (ev_list X (evs_cons (ev_sub_ (d₁ := .str (S' " \t\n\r&><\"a")) (d₂ := .int ((iOf T : Nat) : Int)) ?_ (Ev.int_eq (ev_mod (a := T) (b := 9) ?_ ev_int (by decide)) ?_) (itm_strN (signs_at (iOf_lt T)) (by have := iOf_lt T; omega))) (evs_cons (ev_sub_ (d₁ := .str (S' " \t\n\r&><\"a")) (d₂ := .int ((jOf T : Nat) : Int)) ?_ (Ev.int_eq (ev_mod (a := (T : Int) % 9 + 1 + (T : Int) / 9 % 8) (b := 9) (ev_add (ev_add (ev_mod ?_ ev_int (by decide)) ev_int) (ev_mod (ev_fdiv ?_ ev_int (by decide) (by decide)) ev_int (by decide))) ev_int (by decide)) ?_) (itm_strN (signs_at (jOf_lt T)) (by have := jOf_lt T; omega))) evs_nil)) h2) lk_drawn fun s₅ S F => ?_
  · walk_at "LV"
  · walk_at "LV"
  · unfold iOf; omega
  · walk_at "LV"
  · walk_at "LV"
  · walk_at "LV"
  · unfold jOf; omega
  exact k s₅ S (F.cov ⟨rfl, rfl, rfl, rfl, rfl, rfl, trivial⟩)
end
end

section

theorem pair_run (wh : Bool) {i j : Nat} (hi : i < 9) (hj : j < 9) (hn : i ≠ j) : ∃ a b p, a < 9 ∧ b < 9 ∧ apart (markOf wh (signAt a)) (markOf wh (signAt b)) = true ∧
    runK 2 (fun k l => decide ((([strL (markOf wh (signAt i)), strL (markOf wh (signAt j))] : List Str).getD k ⟨#[]⟩).cps.toList < (([strL (markOf wh (signAt i)), strL (markOf wh (signAt j))] : List Str).getD l ⟨#[]⟩).cps.toList)) (kas_sort 2) = some p ∧
    (∀ k ∈ p.toList, k < 2) ∧ p.toList.map (fun k => (dStrs [one (signAt i), one (signAt j)]).getD k .none) = dStrs [one (signAt a), one (signAt b)] := by
  rcases apart_at wh i j hi hj hn with h | h
  · have := apart_dec h
    refine ⟨i, j, #[0, 1], hi, hj, h, ?_, by simp, rfl⟩
    rw [run2, if_neg, if_pos]
    · exact this.1
    · rw [Bool.not_eq_true]; exact this.2
  · have := apart_dec h
    refine ⟨j, i, #[1, 0], hj, hi, h, ?_, by simp, rfl⟩
    rw [run2, if_pos]
    exact this.1
section
variable {prog : Program} {w : World} {A : Around} {h₀ h₁ : Heap} {s₀ s : Shared} {W : List Addr} {env : Env} {H : List Addr} {own : List (Addr × Ow)} {pm : List (Str × Dt)} {mg mb : Str → Option Value} {oa : List Addr} {L m : Nat} {q : Str} {Q : Flow → Shared → Prop} {nm : List (Str × NameKind)}
theorem pmc1 {x : Str} {d : Dt} (h : pm.lookup x = some d) (hn : nm.lookup x ≠ some .local) : ∀ y e, [(x, d)].lookup y = some e → pm.lookup y = some e ∧ nm.lookup y ≠ some .local := fun y e he => by
  rw [List.lookup_cons] at he
  cases hb : y == x with
  | true => rw [hb] at he; cases he; rw [eq_of_beq hb]; exact ⟨h, hn⟩
  | false => rw [hb] at he; cases he
theorem nl1 {names : List (Str × NameKind)} {x : Str} {d : Dt} (hn : names.lookup x ≠ some .local) : ∀ y e, [(x, d)].lookup y = some e → names.lookup y ≠ some .local := fun y e he => by
  rw [List.lookup_cons] at he
  cases hb : y == x with
  | true => rw [eq_of_beq hb]; exact hn
  | false => rw [hb] at he; cases he
theorem pmc2 {x : Str} {d : Dt} {c : Addr} : ∀ y c', [(x, c)].lookup y = some c' → ∃ e, [(x, d)].lookup y = some e := fun y e he => by
  rw [List.lookup_cons] at he
  cases hb : y == x with
  | true => exact ⟨d, by rw [List.lookup_cons, hb]⟩
  | false => rw [hb] at he; cases he
theorem lam_cells {clos : List (Str × Addr)} {pmc : List (Str × Dt)} {names : List (Str × NameKind)} {x : Str} {dx : Dt} (hx : names.lookup x = some .local) (h : ∀ y c, clos.lookup y = some c → ∃ v, h₁.IsCell c (some v) ∧ ∀ e, pmc.lookup y = some e → Rd h₁ [] e v) :
    ∀ y c, clos.lookup y = some c → ∃ v, h₁.IsCell c (some v) ∧ ∀ e, ((x, dx) :: pmc).lookup y = some e → names.lookup y ≠ some .local → Rd h₁ [] e v := fun y c hc => by
  obtain ⟨v, h1, h2⟩ := h y c hc
  refine ⟨v, h1, fun e he hn => h2 e ?_⟩
  rw [List.lookup_cons] at he
  cases hb : y == x with
  | true => exact absurd (by rw [eq_of_beq hb]; exact hx) hn
  | false => rw [hb] at he; exact he
theorem law_3 {g : List Int} {T : Nat} (B : Base w mg mb h₀) (M : Maker mg h₀) (N : Nm env lawNm) (O : FOk h₀ W env H [172]) (ec : env.cells = lawCells L) (hcode : env.code = .ref 174) (hq : env.qual ++ "<lambda>" = q) (Rm : Room A m) (hm : 8 ≤ m) (S : Chg W s₀ s) (hz : g.length ≤ 100)
    (F : FSt h₀ env H [(172, .tab q)] [(S' "drawn", .list (dStrs [one (signAt (iOf T)), one (signAt (jOf T))])), (S' "whole", .bool (wholeOf T)), (S' "blanks", .int (blanksN g)), (S' "tabs", .int (tabsN g)), (S' "n", .int g.length), (S' "ring", .list (dInts g))] s)
    (k : ∀ a b s', a < 9 → b < 9 → apart (markOf (wholeOf T) (signAt a)) (markOf (wholeOf T) (signAt b)) = true → Chg W s₀ s' → FSt h₀ env H [(172, .tab q)] [(S' "turns", .list (dLists ((List.range g.length).map (turn g)))), (S' "marks", .list (dStrs [strL (markOf (wholeOf T) (signAt a)), strL (markOf (wholeOf T) (signAt b))])), (S' "pair", .list (dStrs [one (signAt a), one (signAt b)])), (S' "whole", .bool (wholeOf T)), (S' "blanks", .int (blanksN g)), (S' "tabs", .int (tabsN g)), (S' "n", .int g.length), (S' "ring", .list (dInts g))] s' → Ex prog w A (lawBody.drop 10) env Q s') : Ex prog w A (lawBody.drop 7) env Q s := by
  have hh : A.handled = none := Rm.hh
  have X : ∀ {own pm}, Hx (fs h₀ env H own pm) H := hx_fs fun _ h => h
  generalize wholeOf T = wh at *
  obtain ⟨a, b, p, ha, hb, hap, hrun, hp, hres⟩ := pair_run wh (iOf_lt T) (jOf_lt T) (ij_ne T)
  refine x_asgW O S F (EvW.to (evw_sorted (pre := []) (post := []) (n := 2) (clos := [(S' "whole", L + 10)]) (pmc := [(S' "whole", .bool wh)]) (ds := dStrs [one (signAt (iOf T)), one (signAt (jOf T))]) (dks := dStrs [strL (markOf wh (signAt (iOf T))), strL (markOf wh (signAt (jOf T)))]) B M N O rfl rfl hcode rfl (by rw [ec]; rfl) hq (fun y c e => ?_) (fun c hc => ?_) (pmc1 rfl (by rw [lk_whole]; decide)) pmc2 (ev_sorted B N lk_sorted) ?_ (.inl ⟨_, rfl⟩) Rm (by omega) (col_list (by simp [dStrs])) (by simp [dStrs]) (by simp [dStrs]) rfl ?_ ?_ (kind_strs (by simp)) (fun Hk i j ks s' C hi hj r hC => cmp_strs Hk i j ks s' C hi hj r hC) hrun hp) (congrArg Dt.list hres)) (sv_pair N ec) fun s₁ S F => ?_
  · rw [List.lookup_cons] at e
    cases hb : y == S' "whole" with
    | true => rw [hb] at e; cases e; rw [eq_of_beq hb]; exact lc_whole ec
    | false => rw [hb] at e; cases e
  · rw [List.map_cons, List.map_nil, List.mem_singleton] at hc
    subst hc
    exact ⟨_, lc_whole ec⟩
  · walk_at "LV"
  · intro dk hdk
    obtain ⟨x, _, rfl⟩ := List.mem_map.mp hdk
    exact noCell_str
  · intro h₁ f pmv cv ctv B₁ hf hcv hcl i di dk hdi hdk
    have key : ∀ z, z < 9 → di = .str (one (signAt z)) → dk = .str (strL (markOf wh (signAt z))) → PC w mg mb h₁ (.ref f) 2 [di] [] dk := fun z hz e1 e2 => by
      subst e1 e2
      refine pc_lam (n := 1) [(S' "whole", .bool wh)] B₁ hf hcv (by decide +kernel) rfl rfl rfl rfl (fun v => rfl) (lam_cells rfl hcl) (nl1 (by decide +kernel)) fun prog A env' L' H' Rm' N' ec' h0' => ?_
      refine ev_call_d (fa_law_spelled B₁) (ev_g_law_spelled B₁ N' rfl) (evs_cons (ev_local N' rfl rfl (fun _ h => h) (by decide +kernel)) (evs_cons (ev_free N' rfl (by rw [ec']; rfl) rfl (fun _ h => h) (by decide +kernel) (by decide +kernel)) evs_nil)) (cl_pc (pc_spelled B₁ (spelled_at wh z hz)) Rm' (Nat.le_refl _) h0' (fun _ h => h))
    have hi2 : i < 2 := by have := (List.getElem?_eq_some_iff.mp hdi).1; simpa [dStrs] using this
    rcases (show i = 0 ∨ i = 1 by omega) with rfl | rfl
    · simp only [dStrs, List.map_cons, List.getElem?_cons_zero, Option.some.injEq] at hdi hdk
      exact key _ (iOf_lt T) hdi.symm hdk.symm
    · simp only [dStrs, List.map_cons, List.getElem?_cons_succ, List.getElem?_cons_zero, Option.some.injEq] at hdi hdk
      exact key _ (jOf_lt T) hdi.symm hdk.symm
  refine x_asg_cell (d := .list (dStrs [strL (markOf wh (signAt a)), strL (markOf wh (signAt b))])) N O S F ?_ lk_marks (lc_marks ec) (fun s₂ S F => ?_) (by rw [swaps_comp N, lk_marks]; rfl)
  · refine ev_compM (pmf := [(S' "whole", .bool wh)]) (fun c => Dt.str (one (signAt c))) [a, b] (fun c => Dt.str (strL (markOf wh (signAt c)))) 0 N ⟨by decide +kernel, rfl, by decide +kernel, rfl⟩ (by rw [ec]; rfl) ?_ (it_list hh) (by simp) ⟨rfl, by rw [lk_whole]; decide, by decide +kernel, trivial⟩ fun x hx => elt_of fun C H' hs N' => ?_
    · walk_at "LV"
    · have hx9 : x < 9 := by
        rcases List.mem_cons.mp hx with rfl | hx
        · exact ha
        · rw [List.mem_singleton.mp hx]; exact hb
      refine Ev.str_any (H' := H) (Ev.show (H' := H) ?_ hs)
      exact ev_call_d (fa_law_spelled B) (ev_g_law_spelled B N' rfl) (evs_cons (ev_local N' rfl rfl (fun _ h => h) (by decide +kernel)) (evs_cons (ev_cell N' rfl rfl rfl (fun _ h => h) (by decide +kernel)) evs_nil)) (cl_pc (pc_spelled B (spelled_at wh x hx9)) Rm (by omega) O.hid (fun _ h => h))
  refine x_asg_cell (d := .list (dLists ((List.range g.length).map (turn g)))) N O S F ?_ lk_turns (lc_turns ec) (fun s₃ S F => k a b s₃ ha hb hap S (F.cov ⟨rfl, rfl, rfl, rfl, rfl, rfl, rfl, rfl, trivial⟩)) (by rw [swaps_comp N, lk_turns]; rfl)
  have lenZ : ((dInts g).length : Int) = (g.length : Int) := by rw [dInts_len]
  refine Ev.to (ev_compM (pmf := [(S' "ring", .list (dInts g))]) (fun i : Nat => Dt.int i) (List.range g.length) (fun i => .list (dInts (turn g i))) 0 N ⟨by decide +kernel, rfl, by decide +kernel, rfl⟩ (by rw [ec]; rfl) (dsrc := .rng 0 g.length 1) ?_ (it_range hh (by omega)) (by simp; omega) ⟨rfl, by rw [lk_ring]; decide, by decide +kernel, trivial⟩ fun x hx => elt_of fun C H' hs N' => ?_) (by simp [dLists, Function.comp_def])
  · walk_at "LV"
  · rw [turn, dInts_append, dInts_drop, dInts_take]
    refine ev_add_list (hx_fs fun _ h => h) (ev_slice_from (hx_fs fun _ h => h) ?_ ?_ (by rw [dInts_len]; omega)) (ev_slice_upto (hx_fs fun _ h => h) ?_ ?_ (by rw [dInts_len]; omega)) (by simp [dInts]; omega)
    · walk_at "CV"
    · walk_at "CV"
    · walk_at "CV"
    · walk_at "CV"
end
end

section
noncomputable def encS (m0 m1 : List Nat) (g : List Int) (j : Nat) : Str := strL (enc m0 m1 (turn g j))
noncomputable def rowD (m0 m1 : List Nat) (g : List Int) (j : Nat) : Dt := .tup [.str (encS m0 m1 g j), .int j]
noncomputable def rowsD (m0 m1 : List Nat) (g : List Int) (r : List Nat) : List Dt := r.map (rowD m0 m1 g)
theorem enc_dec {m0 m1 : List Nat} {g : List Int} {i j : Nat} (ap : apart m0 m1 = true) (hb : Bits g) (hi : i ≤ g.length) (hj : j ≤ g.length) : decide ((encS m0 m1 g i).cps.toList < (encS m0 m1 g j).cps.toList) = decide (turn g i < turn g j) := by
  unfold encS
  rw [strL_list, strL_list, Bool.eq_iff_iff, decide_eq_true_iff, decide_eq_true_iff]
  exact enc_lt ap (hb.turn i) (hb.turn j) (by rw [turn_len hi, turn_len hj])
theorem rows_hpR {m0 m1 : List Nat} {g : List Int} {v : Nat} {col : List Nat} (R : RK g v col) (ap : apart m0 m1 = true) {k : Nat} (hk : k < g.length) : ∀ (i : Nat) (y : Str), ((rowsR v g.length k).map (encS m0 m1 g))[i]? = some y → decide ((encS m0 m1 g k).cps.toList < y.cps.toList) = decide (posR v g.length (rowsR v g.length k) k ≤ i) := by
  intro i y h
  obtain ⟨j, hj, rfl, hm⟩ := get_map h
  have hi : i < k := by have := (List.getElem?_eq_some_iff.mp hj).1; rwa [rowsR_len] at this
  have hjk := rowsR_lt k j hm
  have e := R.rr k hk i hi
  rw [List.getD_eq_getElem?_getD, hj] at e
  rw [enc_dec ap R.bit (by omega) (by omega)]
  exact e
theorem rows_hpL {m0 m1 : List Nat} {g : List Int} {v : Nat} {col : List Nat} (R : RK g v col) (ap : apart m0 m1 = true) {k : Nat} (hk : k < g.length) : ∀ (i : Nat) (y : Str), ((rowsL v g.length k).map (encS m0 m1 g))[i]? = some y → decide (y.cps.toList < (encS m0 m1 g k).cps.toList) = decide (i < posL v g.length (rowsL v g.length k) k) := by
  intro i y h
  obtain ⟨j, hj, rfl, hm⟩ := get_map h
  have hi : i < k := by have := (List.getElem?_eq_some_iff.mp hj).1; rwa [rowsL_len] at this
  have hjk := rowsL_lt k j hm
  have e := R.rl k hk i hi
  rw [List.getD_eq_getElem?_getD, hj] at e
  rw [enc_dec ap R.bit (by omega) (by omega)]
  exact e
theorem rowsD_put {m0 m1 : List Nat} {g : List Int} {r : List Nat} {p k : Nat} : (rowsD m0 m1 g r).take p ++ rowD m0 m1 g k :: (rowsD m0 m1 g r).drop p = rowsD m0 m1 g (putAt r p k) := by
  unfold rowsD putAt
  rw [List.map_append, List.map_cons, List.map_take, List.map_drop]
noncomputable def headsS (m0 m1 : List Nat) (z t : Nat) : List Str := List.replicate z (strL m0) ++ List.replicate t (strL m1)
theorem headsS_len {m0 m1 : List Nat} {z t : Nat} : (headsS m0 m1 z t).length = z + t := by simp [headsS]
theorem heads_get {m0 m1 : List Nat} {z t i : Nat} {y : Str} (h : (headsS m0 m1 z t)[i]? = some y) : (i < z ∧ y = strL m0) ∨ (z ≤ i ∧ y = strL m1) := by
  unfold headsS at h
  rw [List.getElem?_append] at h
  split at h
  · rename_i q
    rw [List.length_replicate] at q
    rw [List.getElem?_replicate, if_pos q] at h
    exact .inl ⟨q, (Option.some.inj h).symm⟩
  · rename_i q
    rw [List.length_replicate] at q
    obtain ⟨hl, e⟩ := List.getElem?_eq_some_iff.mp h
    rw [List.getElem_replicate] at e
    exact .inr ⟨by omega, e.symm⟩
theorem lt_self (a : List Nat) : ¬ a < a := List.lt_irrefl a
theorem heads_hp0 {m0 m1 : List Nat} (ap : apart m0 m1 = true) {z t : Nat} : ∀ (i : Nat) (y : Str), (headsS m0 m1 z t)[i]? = some y → decide (y.cps.toList < (strL m0).cps.toList) = decide (i < 0) := by
  intro i y h
  have := apart_lt' ap
  rcases heads_get h with ⟨_, rfl⟩ | ⟨_, rfl⟩ <;> rw [strL_list]
  · rw [decide_eq_false (lt_self _), decide_eq_false (Nat.not_lt_zero _)]
  · rw [strL_list, decide_eq_false this.2, decide_eq_false (Nat.not_lt_zero _)]
theorem heads_hp1 {m0 m1 : List Nat} (ap : apart m0 m1 = true) {z t : Nat} : ∀ (i : Nat) (y : Str), (headsS m0 m1 z t)[i]? = some y → decide (y.cps.toList < (strL m1).cps.toList) = decide (i < z) := by
  intro i y h
  have := apart_lt' ap
  rcases heads_get h with ⟨hi, rfl⟩ | ⟨hi, rfl⟩ <;> rw [strL_list]
  · rw [strL_list, decide_eq_true this.1, decide_eq_true hi]
  · rw [decide_eq_false (lt_self _), decide_eq_false (by omega)]
theorem heads_put0 {m0 m1 : List Nat} {z t : Nat} : (dStrs (headsS m0 m1 z t)).take 0 ++ .str (strL m0) :: (dStrs (headsS m0 m1 z t)).drop 0 = dStrs (headsS m0 m1 (z + 1) t) := by
  simp [headsS, dStrs, List.replicate_succ]
theorem heads_put1 {m0 m1 : List Nat} {z t : Nat} : (dStrs (headsS m0 m1 z t)).take z ++ .str (strL m1) :: (dStrs (headsS m0 m1 z t)).drop z = dStrs (headsS m0 m1 z (t + 1)) := by
  have e : ∀ (t : Nat), dStrs (headsS m0 m1 z t) = List.replicate z (.str (strL m0)) ++ List.replicate t (.str (strL m1)) := fun t => by simp [headsS, dStrs]
  rw [e, e, List.take_left' (by simp), List.drop_left' (by simp), List.replicate_succ]
noncomputable def tabsTo (g : List Int) (i : Nat) : Nat := tabsN (g.take i)
noncomputable def blanksTo (g : List Int) (i : Nat) : Nat := i - tabsN (g.take i)
theorem Bits.take {g : List Int} (h : Bits g) (i : Nat) : Bits (g.take i) := fun x hx => h x (List.mem_of_mem_take hx)
theorem sum_app (a b : List Int) : (a ++ b).sum = a.sum + b.sum := by
  induction a with
  | nil => simp
  | cons x a ih => simp [ih]; omega
theorem to_step {g : List Int} (hb : Bits g) {i : Nat} {x : Int} (hx : g[i]? = some x) : (x = 0 ∧ tabsTo g (i + 1) = tabsTo g i ∧ blanksTo g (i + 1) = blanksTo g i + 1) ∨ (x = 1 ∧ tabsTo g (i + 1) = tabsTo g i + 1 ∧ blanksTo g (i + 1) = blanksTo g i) := by
  have hi := (List.getElem?_eq_some_iff.mp hx).1
  have e : g.take (i + 1) = g.take i ++ [x] := by rw [List.take_add_one, hx]; rfl
  have s1 := bits_sum (hb.take i)
  have l1 : (g.take i).length = i := by rw [List.length_take]; omega
  unfold tabsTo blanksTo tabsN
  rw [e, sum_app]
  rcases hb x (List.mem_of_getElem? hx) with rfl | rfl
  · left; simp; omega
  · right; simp; omega
theorem to_all {g : List Int} : tabsTo g g.length = tabsN g ∧ blanksTo g g.length = blanksN g := by
  unfold tabsTo blanksTo blanksN; rw [List.take_length]; exact ⟨rfl, rfl⟩
theorem to_le {g : List Int} (hb : Bits g) {i : Nat} (hi : i ≤ g.length) : blanksTo g i + tabsTo g i = i := by
  have s1 := bits_sum (hb.take i)
  have l1 : (g.take i).length = i := by rw [List.length_take]; omega
  unfold tabsTo blanksTo tabsN; omega
end

section
theorem join_flat : ∀ xs : List (List Nat), Txt.join (S' "") (xs.map strL) = strL xs.flatten := by
  have e0 : S' "" = strL [] := rfl
  have key : ∀ xs : List (List Nat), (Str.join (strL []) (xs.map strL)).cps.toList = xs.flatten := by
    intro xs
    induction xs with
    | nil => rfl
    | cons x xs ih =>
      cases xs with
      | nil => show x = _; simp
      | cons y ys =>
        show (strL x ++ strL [] ++ Str.join (strL []) ((y :: ys).map strL)).cps.toList = _
        rw [Str.cps_append, Array.toList_append, ih, Str.cps_append, Array.toList_append]
        simp [strL]
  intro xs
  show Builtin.Str.glued _ _ = _
  rw [e0, StrLaws.glued_eq_join]
  have := key xs
  generalize Str.join (strL []) (xs.map strL) = r at this
  obtain ⟨⟨l⟩⟩ := r
  exact congrArg Str.mk (congrArg Array.mk this)
theorem joinOk_of {xs : List (List Nat)} (h1 : xs.length ≤ 100) (h2 : ∀ x ∈ xs, x.length ≤ 100) : JoinOk (S' "") (xs.map strL) = true := by
  unfold JoinOk
  rw [Bool.not_eq_true']
  refine StrLaws.joinFits (B := 100) (fun y hy => ?_) ?_
  · obtain ⟨x, hx, rfl⟩ := List.mem_map.mp hy
    show (strL x).cps.size ≤ 100
    simpa [strL] using h2 x hx
  · have : (S' "").length = 0 := rfl
    rw [List.length_map, this]; omega
section
variable {prog : Program} {w : World} {A : Around} {Φ : Sp} {H H' : List Addr} {env : Env} {pos : Pos} {e : Expr}
theorem ev_joinE {xs : List (List Nat)} {pl : Sem Bool} {k : Nat} {p apos : Pos} (h : Ev prog w A Φ H env e (.list (dStrs (xs.map strL)))) (h1 : xs.length ≤ 100) (h2 : ∀ x ∈ xs, x.length ≤ 100)
    (hc : eval (.Call (.Attribute (.Constant (.str (S' "")) k p) (S' "join") apos) [e] [] pos) env = (do
      let ov ← eval (.Constant (.str (S' "")) k p) env
      standAt apos.atName
      let (f, first) ← holding [ov] (getMethod ov (S' "join") pl)
      callWith pos f first (backTo pos (starEach [e] env)) []) := by rfl)
    (st0 : starEach [e] env = (false, eval e env) :: starEach [] env := by rfl) (hp : (backTo pos (starEach [] env)).any (·.1) = false := by rfl) :
    Ev prog w A Φ H env (.Call (.Attribute (.Constant (.str (S' "")) k p) (S' "join") apos) [e] [] pos) (.str (strL xs.flatten)) := by
  have c := cl_join (prog := prog) (w := w) (A := A) (Φ := Φ) (H := H) (joinOk_of h1 h2)
  rw [join_flat] at c
  exact ev_meth (id := "str.join") (d₀ := .str (S' "")) ev_str (gm_str PySem.F.slot_str_join PySem.F.type_str_join) (evs_cons h evs_nil st0) c hc st0 hp
end
end

section

section
variable {prog : Program} {w : World} {A : Around} {h₀ h₁ : Heap} {s₀ s : Shared} {W : List Addr} {env : Env} {H : List Addr} {own : List (Addr × Ow)} {pm : List (Str × Dt)} {mg mb : Str → Option Value} {oa : List Addr} {L m : Nat} {q : Str} {Q : Flow → Shared → Prop} {nm : List (Str × NameKind)} {f : Addr}
  {m0 m1 : List Nat} {g : List Int} {v : Nat} {col : List Nat} {p0 p1 : Nat} {wh : Bool}
theorem mc_R (B : Base w mg mb h₁) (hf : FnAt f h₁) (R : RK g v col) (ap : apart m0 m1 = true) {k : Nat} (hk : k < g.length) (hkey : ∀ j, PC w mg mb h₁ (.ref f) 1 [rowD m0 m1 g j] [] (.str (encS m0 m1 g j))) :
    MC w mg mb h₁ (.ref 30) 3 (rowsD m0 m1 g (rowsR v g.length k)) [rowD m0 m1 g k] [(S' "key", .val (.ref f))] (rowsD m0 m1 g (rowsR v g.length (k + 1))) := by
  have n8 := R.n8
  have l1 : (rowsD m0 m1 g (rowsR v g.length k)).length = k := by unfold rowsD; rw [List.length_map, rowsR_len]
  have pl : posR v g.length (rowsR v g.length k) k ≤ k := by have := posR_le (v := v) (n := g.length) (k := k) (r := rowsR v g.length k); rwa [rowsR_len] at this
  rw [rowsR, ← rowsD_put]
  refine mc_insort_right_key (ys := (rowsR v g.length k).map (encS m0 m1 g)) B hf (by omega) (by rw [l1, List.length_map, rowsR_len]) (by omega) (fun i d y hd hy => ?_) (hkey k) (rows_hpR R ap hk)
  obtain ⟨j, hj, rfl, _⟩ := get_map hd
  obtain ⟨j', hj', rfl, _⟩ := get_map hy
  rw [hj] at hj'; cases hj'
  exact hkey j
theorem mc_L (B : Base w mg mb h₁) (hf : FnAt f h₁) (R : RK g v col) (ap : apart m0 m1 = true) {k : Nat} (hk : k < g.length) (hkey : ∀ j, PC w mg mb h₁ (.ref f) 1 [rowD m0 m1 g j] [] (.str (encS m0 m1 g j))) :
    MC w mg mb h₁ (.ref 48) 3 (rowsD m0 m1 g (rowsL v g.length k)) [rowD m0 m1 g k] [(S' "key", .val (.ref f))] (rowsD m0 m1 g (rowsL v g.length (k + 1))) := by
  have n8 := R.n8
  have l1 : (rowsD m0 m1 g (rowsL v g.length k)).length = k := by unfold rowsD; rw [List.length_map, rowsL_len]
  have pl : posL v g.length (rowsL v g.length k) k ≤ k := by have := posL_le (v := v) (n := g.length) (k := k) (r := rowsL v g.length k); rwa [rowsL_len] at this
  rw [rowsL, ← rowsD_put]
  refine mc_insort_left_key (ys := (rowsL v g.length k).map (encS m0 m1 g)) B hf (by omega) (by rw [l1, List.length_map, rowsL_len]) (by omega) (fun i d y hd hy => ?_) (hkey k) (rows_hpL R ap hk)
  obtain ⟨j, hj, rfl, _⟩ := get_map hd
  obtain ⟨j', hj', rfl, _⟩ := get_map hy
  rw [hj] at hj'; cases hj'
  exact hkey j
theorem mc_H (B : Base w mg mb h₁) (hb : Bits g) (hz : g.length ≤ 100) (ap : apart m0 m1 = true) {k : Nat} {x : Int} (hx : g[k]? = some x) :
    MC w mg mb h₁ (.ref 48) 2 (dStrs (headsS m0 m1 (blanksTo g k) (tabsTo g k))) [.str (strL (if x = 1 then m1 else m0))] [] (dStrs (headsS m0 m1 (blanksTo g (k + 1)) (tabsTo g (k + 1)))) := by
  have hk := (List.getElem?_eq_some_iff.mp hx).1
  have tl := to_le hb (i := k) (by omega)
  rcases to_step hb hx with ⟨rfl, e1, e2⟩ | ⟨rfl, e1, e2⟩ <;> rw [e1, e2]
  · rw [← heads_put0]
    exact mc_insort_left B (by rw [headsS_len]; omega) (Nat.zero_le _) (heads_hp0 ap)
  · rw [← heads_put1]
    exact mc_insort_left B (by rw [headsS_len]; omega) (by rw [headsS_len]; omega) (heads_hp1 ap)
noncomputable def pmB (g : List Int) (wh : Bool) (p0 p1 : Nat) : List (Str × Dt) := [(S' "turns", .list (dLists ((List.range g.length).map (turn g)))), (S' "marks", .list (dStrs [strL (markOf wh p0), strL (markOf wh p1)])), (S' "pair", .list (dStrs [one p0, one p1])), (S' "whole", .bool wh), (S' "blanks", .int (blanksN g)), (S' "tabs", .int (tabsN g)), (S' "n", .int g.length), (S' "ring", .list (dInts g))]
noncomputable def ownAt (a b c : Addr) (q : Str) (m0 m1 : List Nat) (g : List Int) (v i : Nat) : List (Addr × Ow) := [(c, .lst (dStrs (headsS m0 m1 (blanksTo g i) (tabsTo g i)))), (b, .lst (rowsD m0 m1 g (rowsL v g.length i))), (a, .lst (rowsD m0 m1 g (rowsR v g.length i))), (172, .tab q)]

theorem law_4 (B : Base w mg mb h₀) (M : Maker mg h₀) (N : Nm env lawNm) (O : FOk h₀ W env H [172]) (ec : env.cells = lawCells L) (hcode : env.code = .ref 174) (hq : env.qual ++ "<lambda>" = q) (Rm : Room A m) (hm : 8 ≤ m) (S : Chg W s₀ s) (R : RK g v col) (ap : apart (markOf wh p0) (markOf wh p1) = true) (l0 : (markOf wh p0).length ≤ 6) (l1 : (markOf wh p1).length ≤ 6)
    (F : FSt h₀ env H [(172, .tab q)] (pmB g wh p0 p1) s)
    (k : ∀ a b c s', FOk h₀ (c :: b :: a :: W) env (c :: b :: a :: H) [c, b, a, 172] → Chg (c :: b :: a :: W) s₀ s' → FSt h₀ env (c :: b :: a :: H) (ownAt a b c q (markOf wh p0) (markOf wh p1) g v g.length) ((S' "right", .val (.ref a)) :: (S' "left", .val (.ref b)) :: (S' "heads", .val (.ref c)) :: pmB g wh p0 p1) s' → Ex prog w A (lawBody.drop 12) env Q s') : Ex prog w A (lawBody.drop 10) env Q s := by
  have hh : A.handled = none := Rm.hh
  have n8 := R.n8
  have hbk : env.blockKind = .function := by unfold Env.blockKind; rw [N.kind]; rfl
  refine x_new3 N O S F hh lk_right lk_left lk_heads ?_ rfl fun a b c s₁ O S F => ?_
  · have k1 : env.kindOf (S' "right") = some .local := N.of lk_right
    have k2 : env.kindOf (S' "left") = some .local := N.of lk_left
    have k3 : env.kindOf (S' "heads") = some .local := N.of lk_heads
    simp only [swappedStores, hbk, List.filterMap_cons, List.filterMap_nil, k1, k2, k3]
    rfl
  refine x_for (dsrc := .rng 0 g.length 1) (fun _ => (S' "right", .val (.ref a)) :: (S' "left", .val (.ref b)) :: (S' "heads", .val (.ref c)) :: pmB g wh p0 p1) (fun i => ownAt a b c q (markOf wh p0) (markOf wh p1) g v i) (fun _ => True) (fun _ => False) (fun _ _ => False) N O S F trivial ?_ (it_range hh (by omega)) lk_k ?_ (fun _ _ _ f => f.elim) (fun _ _ _ f => f.elim) (fun s' _ S F => ?_)
  · unfold pmB ownAt
    walk_at "LV"
  · intro i d s₂ H' hd _ hs O' F
    obtain ⟨hi, rfl⟩ := range_get hd
    have S := Chg.refl (c :: b :: a :: W) s₂
    obtain ⟨x, hx⟩ : ∃ x, g[i]? = some x := ⟨_, List.getElem?_eq_getElem hi⟩
    have hti : ((List.range g.length).map (turn g))[i]? = some (turn g i) := by rw [List.getElem?_map, List.getElem?_range hi]; rfl
    have tl : (turn g i).length = g.length := turn_len (by omega)
    unfold pmB at F ⊢
    unfold ownAt at F ⊢
    refine x_asg_local (d := .str (strL ((turn g i).map fun x => if x = 1 then p1 else p0))) N O' S F (Ev.to (ev_joinE (xs := (turn g i).map fun x => [if x = 1 then p1 else p0]) (Ev.to (ev_compM (pmf := [(S' "pair", .list (dStrs [one p0, one p1]))]) Dt.int (turn g i) (fun x => .str (one (if x = 1 then p1 else p0))) 0 N ⟨by decide +kernel, rfl, by decide +kernel, rfl⟩ (by rw [ec]; rfl) (dsrc := .list (dInts (turn g i))) (ev_sub_ (d₁ := .list (dLists ((List.range g.length).map (turn g)))) (d₂ := .int (i : Nat)) ?_ ?_ (itm_listN (by unfold dLists; rw [List.getElem?_map, hti]; rfl) (by omega))) (it_list hh) (by omega) ⟨rfl, by rw [lk_pair]; decide, by decide +kernel, trivial⟩ fun x hx => elt_of fun C H'' hs N' => ?_) ?_) (by simp; omega) ?_) ?_) lk_text fun s₃ S F => ?_
    · walk_at "LV"
    · walk_at "LV"
    · rcases R.bit.turn i x hx with rfl | rfl
      · exact ev_sub_ (d₁ := .list (dStrs [one p0, one p1])) (d₂ := .int 0) (by walk_at "CV") (by walk_at "CV") (itm_list (by decide) rfl (by decide))
      · exact ev_sub_ (d₁ := .list (dStrs [one p0, one p1])) (d₂ := .int 1) (by walk_at "CV") (by walk_at "CV") (itm_list (by decide) rfl (by decide))
    · simp [dStrs, Function.comp_def]; intro a _; rfl
    · intro x hx
      obtain ⟨z, _, rfl⟩ := List.mem_map.mp hx
      simp
    · congr 1; congr 1
      generalize turn g i = tt
      induction tt with
      | nil => rfl
      | cons z tt ih => simp [ih]
    have hw := written_enc wh p0 p1 (turn g i)
    refine x_asg_local (d := .str (encS (markOf wh p0) (markOf wh p1) g i)) N O' S F (ev_if (b := wh) (tst_value (H := H') ?_) (fun e => ?_) (fun e => ?_)) lk_written fun s₄ S F => ?_
    · walk_at "LV"
    · refine Ev.to (ev_call_d (fa_escape_attrib B) (ev_g_escape_attrib B N lk_escape_attrib) (evs_cons ?_ evs_nil) (cl_pc (pc_escape_attrib (x := strL ((turn g i).map fun x => if x = 1 then p1 else p0)) B (by rw [strL_list, List.length_map]; omega)) Rm (by omega) O'.hid (fun _ h => h))) ?_
      · walk_at "LV"
      · unfold encS; rw [← hw, e]; rfl
    · refine Ev.to (ev_call_d (fa_escape_cdata B) (ev_g_escape_cdata B N lk_escape_cdata) (evs_cons ?_ evs_nil) (cl_pc (pc_escape_cdata (x := strL ((turn g i).map fun x => if x = 1 then p1 else p0)) B (by rw [strL_list, List.length_map]; omega)) Rm (by omega) O'.hid (fun _ h => h))) ?_
      · walk_at "LV"
      · unfold encS; rw [← hw, e]; rfl
    refine x_insort_key (n := 3) (d := rowD (markOf wh p0) (markOf wh p1) g i) (pre := [(c, _), (b, _), (a, _)]) (post := []) (pre₂ := [(c, _), (b, _)]) (post₂ := [(172, .tab q)]) (ds₁ := rowsD (markOf wh p0) (markOf wh p1) g (rowsR v g.length (i + 1))) B M N O' S F rfl rfl rfl hcode rfl rfl hq (ev_g_insort_right B N lk_insort_right) (by rfl) ?_ ?_ Rm (by omega) (fun h₁ f pmv cv ctv B₁ hf hcv => mc_R B₁ ⟨_, _, _, _, hf⟩ R ap hi fun j => ?_) fun s₅ S F => ?_
    · walk_at "LV"
    · refine ev_tuple (hx_fs fun _ h => h) (evs_cons ?_ (evs_cons ?_ evs_nil)) h2
      · walk_at "LV"
      · walk_at "LV"
    · exact pc_lam (n := 0) [] B₁ hf hcv (by decide +kernel) rfl rfl rfl rfl (fun v => rfl) (fun y c e => nomatch e) (fun y c e => nomatch e) fun prog A env' L' H' Rm' N' ec' h0' => ev_sub_ (d₁ := rowD (markOf wh p0) (markOf wh p1) g j) (d₂ := .int 0) (ev_local N' rfl rfl (fun _ h => h) (by decide +kernel)) ev_int (itm_tup (by decide) rfl (by decide))
    dsimp only [List.cons_append, List.nil_append] at F
    refine x_insort_key (n := 3) (d := rowD (markOf wh p0) (markOf wh p1) g i) (pre := [(c, _), (b, _), (a, _)]) (post := []) (pre₂ := [(c, _)]) (post₂ := [(a, _), (172, .tab q)]) (ds₁ := rowsD (markOf wh p0) (markOf wh p1) g (rowsL v g.length (i + 1))) B M N O' S F rfl rfl rfl hcode rfl rfl hq (ev_g_insort_left B N lk_insort_left) (by rfl) ?_ ?_ Rm (by omega) (fun h₁ f pmv cv ctv B₁ hf hcv => mc_L B₁ ⟨_, _, _, _, hf⟩ R ap hi fun j => ?_) fun s₆ S F => ?_
    · walk_at "LV"
    · refine ev_tuple (hx_fs fun _ h => h) (evs_cons ?_ (evs_cons ?_ evs_nil)) h2
      · walk_at "LV"
      · walk_at "LV"
    · exact pc_lam (n := 0) [] B₁ hf hcv (by decide +kernel) rfl rfl rfl rfl (fun v => rfl) (fun y c e => nomatch e) (fun y c e => nomatch e) fun prog A env' L' H' Rm' N' ec' h0' => ev_sub_ (d₁ := rowD (markOf wh p0) (markOf wh p1) g j) (d₂ := .int 0) (ev_local N' rfl rfl (fun _ h => h) (by decide +kernel)) ev_int (itm_tup (by decide) rfl (by decide))
    dsimp only [List.cons_append, List.nil_append] at F
    refine x_call_mc (d := .str (strL (if x = 1 then markOf wh p1 else markOf wh p0))) (pre := []) (post := [(b, _), (a, _), (172, .tab q)]) N O' S F rfl rfl (fa_insort_left B) (ev_g_insort_left B N lk_insort_left) ?_ ?_ Rm (by omega) (mc_H B R.bit (by omega) ap hx) fun s₇ S F => x_nil ⟨S, trivial, F.cov ⟨rfl, rfl, rfl, rfl, rfl, rfl, rfl, rfl, rfl, rfl, rfl, trivial⟩⟩
    · walk_at "LV"
    · have hg : (dInts g)[i]? = some (.int x) := dInts_get hx
      rcases R.bit x (List.mem_of_getElem? hx) with rfl | rfl
      · refine ev_sub_ (d₁ := .list (dStrs [strL (markOf wh p0), strL (markOf wh p1)])) (d₂ := .int 0) ?_ (ev_sub_ (d₁ := .list (dInts g)) (d₂ := .int (i : Nat)) ?_ ?_ (itm_listN hg (by omega))) (itm_list (by decide) rfl (by decide))
        · walk_at "LV"
        · walk_at "LV"
        · walk_at "LV"
      · refine ev_sub_ (d₁ := .list (dStrs [strL (markOf wh p0), strL (markOf wh p1)])) (d₂ := .int 1) ?_ (ev_sub_ (d₁ := .list (dInts g)) (d₂ := .int (i : Nat)) ?_ ?_ (itm_listN hg (by omega))) (itm_list (by decide) rfl (by decide))
        · walk_at "LV"
        · walk_at "LV"
        · walk_at "LV"
  · rw [List.length_map, List.length_range] at F
    exact k a b c s' O S F
end
end

section
noncomputable def turnsL (g : List Int) : List (List Int) := (List.range g.length).map (turn g)
noncomputable def turnsR (g : List Int) : List (List Int) := (List.range g.length).map fun i => turn g (g.length - 1 - i)
noncomputable def dUp (n : Nat) : List Dt := (List.range n).map fun i : Nat => Dt.int i
noncomputable def dDown (n : Nat) : List Dt := (List.range n).map fun i : Nat => Dt.int ((n - 1 - i : Nat) : Int)
theorem dUp_len {n : Nat} : (dUp n).length = n := by simp [dUp]
theorem dDown_len {n : Nat} : (dDown n).length = n := by simp [dDown]
theorem getD_mapR {α : Type} (f : Nat → α) (d : α) {n i : Nat} (h : i < n) : ((List.range n).map f).getD i d = f i := by
  rw [List.getD_eq_getElem?_getD, List.getElem?_map, List.getElem?_range h]; rfl
theorem sort_R {g : List Int} {v : Nat} {col : List Nat} (R : RK g v col) : ∃ p, runK (dUp g.length).length (fun i j => decide ((turnsL g).getD i [] < (turnsL g).getD j [])) (kas_sort (dUp g.length).length) = some p ∧ (∀ i ∈ p.toList, i < (dUp g.length).length) ∧
    p.toList.map (fun i => (dUp g.length).getD i .none) = (rowsR v g.length g.length).map fun i : Nat => Dt.int i := by
  obtain ⟨p, h1, h2⟩ := R.sr
  rw [dUp_len]
  have hlt : ∀ i ∈ p.toList, i < g.length := fun i hi => rowsR_lt g.length i (h2 ▸ hi)
  refine ⟨p, ?_, hlt, ?_⟩
  · rw [← h1]
    exact runK_congr (fun i j hi hj => by unfold turnsL; rw [getD_mapR _ _ hi, getD_mapR _ _ hj]) _
  · rw [← h2]
    exact List.map_congr_left fun i hi => getD_mapR _ _ (hlt i hi)
theorem sort_L {g : List Int} {v : Nat} {col : List Nat} (R : RK g v col) : ∃ p, runK (dDown g.length).length (fun i j => decide ((turnsR g).getD i [] < (turnsR g).getD j [])) (kas_sort (dDown g.length).length) = some p ∧ (∀ i ∈ p.toList, i < (dDown g.length).length) ∧
    p.toList.map (fun i => (dDown g.length).getD i .none) = (rowsL v g.length g.length).map fun i : Nat => Dt.int i := by
  obtain ⟨p, h1, hlt, h2⟩ := R.sl
  rw [dDown_len]
  refine ⟨p, ?_, hlt, ?_⟩
  · rw [← h1]
    exact runK_congr (fun i j hi hj => by unfold turnsR; rw [getD_mapR _ _ hi, getD_mapR _ _ hj]) _
  · rw [← h2, List.map_map]
    exact List.map_congr_left fun i hi => getD_mapR _ _ (hlt i hi)
section
variable {prog : Program} {w : World} {A : Around} {H : List Addr}
theorem col_up {n : Nat} (hh : A.handled = none) (hn : n ≤ 1000) : Col prog w A H (.rng 0 (n : Int) 1) (dUp n) := by
  have h := col_range (prog := prog) (w := w) (A := A) (H := H) (a := 0) (b := n) (c := 1) (n := n) hh (rng_small (by decide) (by omega)) range_size hn
  have e : dUp n = (List.range n).map fun i : Nat => Dt.int (0 + (i : Int) * 1) := List.map_congr_left fun i _ => by rw [Int.mul_one, Int.zero_add]
  rw [e]; exact h
theorem size_down {n : Nat} : Builtin.Range.rangeSize ((n : Int) - 1) (-1) (-1) = (n : Int) := by
  unfold Builtin.Range.rangeSize
  rw [if_neg (by decide)]
  have e : -(-1 : Int) = 1 := rfl
  rw [e, Int.ediv_one]
  split <;> omega
theorem col_down {n : Nat} (hh : A.handled = none) (hn : n ≤ 1000) : Col prog w A H (.rng ((n : Int) - 1) (-1) (-1)) (dDown n) := by
  have h := col_range (prog := prog) (w := w) (A := A) (H := H) (a := (n : Int) - 1) (b := -1) (c := -1) (n := n) hh (rng_small_down (by omega)) size_down hn
  have e : dDown n = (List.range n).map fun i : Nat => Dt.int ((n : Int) - 1 + (i : Int) * (-1)) := List.map_congr_left fun i hi => by
    have := List.mem_range.mp hi
    congr 1; omega
  rw [e]; exact h
end
end

section

section
variable {prog : Program} {w : World} {A : Around} {h₀ h₁ : Heap} {s₀ s : Shared} {W : List Addr} {env : Env} {H : List Addr} {own : List (Addr × Ow)} {pm : List (Str × Dt)} {mg mb : Str → Option Value} {oa : List Addr} {L m : Nat} {q : Str} {Q : Flow → Shared → Prop} {nm : List (Str × NameKind)} {f : Addr}
  {m0 m1 : List Nat} {g : List Int} {v : Nat} {col : List Nat} {p0 p1 : Nat} {wh : Bool} {a b c : Addr}
noncomputable def dueD (m0 m1 : List Nat) (g : List Int) : Dt := .list (rowsD m0 m1 g (List.range g.length))
noncomputable def pmC (a b c : Addr) (g : List Int) (wh : Bool) (p0 p1 : Nat) : List (Str × Dt) := [(S' "right", .val (.ref a)), (S' "left", .val (.ref b)), (S' "heads", .val (.ref c)), (S' "turns", .list (dLists (turnsL g))), (S' "marks", .list (dStrs [strL (markOf wh p0), strL (markOf wh p1)])), (S' "blanks", .int (blanksN g)), (S' "tabs", .int (tabsN g)), (S' "n", .int g.length), (S' "ring", .list (dInts g))]
theorem enc_flat (m0 m1 : List Nat) (tt : List Int) : (tt.map fun x => if x = 1 then m1 else m0).flatten = enc m0 m1 tt := by
  unfold enc; rw [List.flatMap_def]
theorem law_5a (B : Base w mg mb h₀) (N : Nm env lawNm) (O : FOk h₀ W env H [c, b, a, 172]) (ec : env.cells = lawCells L) (Rm : Room A m) (S : Chg W s₀ s) (hb : Bits g) (n8 : g.length ≤ 8) (l0 : (markOf wh p0).length ≤ 6) (l1 : (markOf wh p1).length ≤ 6)
    (F : FSt h₀ env H (ownAt a b c q (markOf wh p0) (markOf wh p1) g v g.length) ((S' "right", .val (.ref a)) :: (S' "left", .val (.ref b)) :: (S' "heads", .val (.ref c)) :: pmB g wh p0 p1) s)
    (k : ∀ s', Chg W s₀ s' → FSt h₀ env H (ownAt a b c q (markOf wh p0) (markOf wh p1) g v g.length) ((S' "due", dueD (markOf wh p0) (markOf wh p1) g) :: pmC a b c g wh p0 p1) s' → Ex prog w A (lawBody.drop 13) env Q s') : Ex prog w A (lawBody.drop 12) env Q s := by
  have hh : A.handled = none := Rm.hh
  unfold pmB at F
  unfold ownAt at F k
  refine x_asg_cell (d := dueD (markOf wh p0) (markOf wh p1) g) N O S F ?_ lk_due (lc_due ec) (fun s₂ S F => k s₂ S (F.cov ⟨rfl, rfl, rfl, rfl, rfl, rfl, rfl, rfl, rfl, rfl, trivial⟩)) (by rw [swaps_comp N, lk_due]; rfl)
  unfold dueD rowsD
  refine ev_compM (pmf := [(S' "marks", .list (dStrs [strL (markOf wh p0), strL (markOf wh p1)])), (S' "turns", .list (dLists (turnsL g)))]) (fun i : Nat => Dt.int i) (List.range g.length) (rowD (markOf wh p0) (markOf wh p1) g) 0 N ⟨by decide +kernel, rfl, by decide +kernel, rfl⟩ (by rw [ec]; rfl) (dsrc := .rng 0 g.length 1) ?_ (it_range hh (by omega)) (by simp; omega) ⟨rfl, by rw [lk_marks]; decide, by decide +kernel, rfl, by rw [lk_turns]; decide, by decide +kernel, trivial⟩ fun i hi => elt_of fun C H' hs N' => ?_
  · walk_at "LV"
  have hi' := List.mem_range.mp hi
  have hti : (turnsL g)[i]? = some (turn g i) := by unfold turnsL; rw [List.getElem?_map, List.getElem?_range hi']; rfl
  have tl : (turn g i).length = g.length := turn_len (by omega)
  refine ev_tuple (hx_fs fun _ h => h) (evs_cons (Ev.to (ev_joinE (xs := (turn g i).map fun x => if x = 1 then markOf wh p1 else markOf wh p0) (Ev.to (ev_compM (pmf := [(S' "marks", .list (dStrs [strL (markOf wh p0), strL (markOf wh p1)]))]) Dt.int (turn g i) (fun x => .str (strL (if x = 1 then markOf wh p1 else markOf wh p0))) 0 N' ⟨by decide +kernel, rfl, by decide +kernel, rfl⟩ (by rfl) (dsrc := .list (dInts (turn g i))) (ev_sub_ (d₁ := .list (dLists (turnsL g))) (d₂ := .int (i : Nat)) ?_ ?_ (itm_listN (by unfold dLists; rw [List.getElem?_map, hti]; rfl) (by omega))) (it_list hh) (by omega) ⟨rfl, by decide +kernel, by decide +kernel, trivial⟩ fun x hx => elt_of fun C' H'' hs' N'' => ?_) ?_) (by simp; omega) ?_) ?_) (evs_cons ?_ evs_nil)) h2
  · walk_at "CV"
  · walk_at "CV"
  · rcases hb.turn i x hx with rfl | rfl
    · exact ev_sub_ (d₁ := .list (dStrs [strL (markOf wh p0), strL (markOf wh p1)])) (d₂ := .int 0) (by walk_at "CV") (by walk_at "CV") (itm_list (by decide) rfl (by decide))
    · exact ev_sub_ (d₁ := .list (dStrs [strL (markOf wh p0), strL (markOf wh p1)])) (d₂ := .int 1) (by walk_at "CV") (by walk_at "CV") (itm_list (by decide) rfl (by decide))
  · simp [dStrs, Function.comp_def]
  · intro x hx
    obtain ⟨z, _, rfl⟩ := List.mem_map.mp hx
    split <;> omega
  · rw [enc_flat]; rfl
  · walk_at "CV"
theorem Room.units2 {n : Nat} (R : Room A n) : A.in1.in1.units < cLine := by have := R.un; show A.units + 1 + 1 < 9900; omega
theorem cmp_rows {r : List Nat} (Rm : Room A m) (hH : ∀ x ∈ H, x ∈ H) : ∀ (s : Shared) (v : Value) (Q : Value → Shared → Prop) (E : Value → Shared → Prop), OwAt s.heap H a (.lst (rowsD m0 m1 g r)) → Rd s.heap H (.list (rowsD m0 m1 g r)) v → (∀ s', Keeps s s' → Q (.bool false) s') → wpAny (model prog w) A (compareOp .NotEq (.ref a) v) Q E s := by
  intro s v Q E ow rd q
  obtain ⟨vs, n, hl, r1⟩ := ow
  obtain ⟨b, us, n', rfl, _, hm, r2⟩ := rd
  refine list_same_ne (k := 1) (fun x hx => ?_) (by have := Rm.un; show A.units + 2 < 9900; omega) hl hm r1 r2 (q s (keepsRefl s))
  obtain ⟨j, _, rfl⟩ := List.mem_map.mp hx
  intro y hy
  rcases List.mem_cons.mp hy with rfl | hy
  · trivial
  · rw [List.mem_singleton.mp hy]; trivial
theorem due_get {j : Nat} (hj : j < g.length) : (rowsD m0 m1 g (List.range g.length))[j]? = some (rowD m0 m1 g j) := by
  unfold rowsD; rw [List.getElem?_map, List.getElem?_range hj]; rfl
theorem turns_get {j : Nat} (hj : j < g.length) : (dLists (turnsL g))[j]? = some (.list (dInts (turn g j))) := by
  unfold dLists turnsL; rw [List.getElem?_map, List.getElem?_map, List.getElem?_range hj]; rfl
theorem one_cell {x : Str} {c : Addr} {cells : List (Str × Addr)} (h : cells.lookup x = some c) : ∀ y c', [(x, c)].lookup y = some c' → cells.lookup y = some c' := fun y c' e => by
  rw [List.lookup_cons] at e
  cases hb : y == x with
  | true => rw [hb] at e; cases e; rw [eq_of_beq hb]; exact h
  | false => rw [hb] at e; cases e
theorem one_cell2 {x : Str} {c : Addr} {cells : List (Str × Addr)} (h : cells.lookup x = some c) : ∀ c' ∈ ([(x, c)] : List (Str × Addr)).map (·.2), ∃ y, cells.lookup y = some c' := fun c' hc => by
  rw [List.map_cons, List.map_nil, List.mem_singleton] at hc
  subst hc
  exact ⟨_, h⟩
theorem law_5b (B : Base w mg mb h₀) (M : Maker mg h₀) (N : Nm env lawNm) (O : FOk h₀ W env H [c, b, a, 172]) (ec : env.cells = lawCells L) (hcode : env.code = .ref 174) (hq : env.qual ++ "<lambda>" = q) (Rm : Room A m) (hm : 8 ≤ m) (S : Chg W s₀ s) (R : RK g v col)
    (F : FSt h₀ env H (ownAt a b c q (markOf wh p0) (markOf wh p1) g v g.length) ((S' "due", dueD (markOf wh p0) (markOf wh p1) g) :: pmC a b c g wh p0 p1) s)
    (k : ∀ s', Chg W s₀ s' → FSt h₀ env H (ownAt a b c q (markOf wh p0) (markOf wh p1) g v g.length) (pmC a b c g wh p0 p1) s' → Ex prog w A (lawBody.drop 15) env Q s') : Ex prog w A (lawBody.drop 13) env Q s := by
  have hh : A.handled = none := Rm.hh
  have n8 := R.n8
  have n6 := R.n6
  unfold pmC dueD at F
  unfold pmC at k
  obtain ⟨p, hrun, hp, hres⟩ := sort_R R
  obtain ⟨p', hrun', hp', hres'⟩ := sort_L R
  have rl : (rowsR v g.length g.length).length = g.length := rowsR_len _
  have ll : (rowsL v g.length g.length).length = g.length := rowsL_len _
  have tlR : ∀ l ∈ turnsL g, l.length = g.length := fun l hl => by
    obtain ⟨i, hi, rfl⟩ := List.mem_map.mp hl
    exact turn_len (Nat.le_of_lt (List.mem_range.mp hi))
  have tlL : ∀ l ∈ turnsR g, l.length = g.length := fun l hl => by
    obtain ⟨i, hi, rfl⟩ := List.mem_map.mp hl
    have := List.mem_range.mp hi
    exact turn_len (by omega)
  refine y_if_neW (la := a) (ds := rowsD (markOf wh p0) (markOf wh p1) g (rowsR v g.length g.length)) (es := rowsD (markOf wh p0) (markOf wh p1) g (rowsR v g.length g.length)) (b := false) O S F ?_ (by simp [ownAt]) (evw_compM (pmf := [(S' "due", .list (rowsD (markOf wh p0) (markOf wh p1) g (List.range g.length)))]) (fun i : Nat => Dt.int i) (rowsR v g.length g.length) (rowD (markOf wh p0) (markOf wh p1) g) 0 N ⟨by decide +kernel, rfl, by decide +kernel, rfl⟩ (by rw [ec]; rfl) (EvW.to (evw_sorted (d := .rng 0 g.length 1) (ds := dUp g.length) (dks := dLists (turnsL g)) (pre := [(c, _), (b, _), (a, _)]) (post := []) (n := 1) (clos := [(S' "turns", L + 9)]) (pmc := [(S' "turns", .list (dLists (turnsL g)))]) B M N O rfl rfl hcode rfl (by rw [ec]; rfl) hq (one_cell (lc_turns ec)) (one_cell2 (lc_turns ec)) (pmc1 rfl (by rw [lk_turns]; decide)) pmc2 (ev_sorted B N lk_sorted) ?_ (.inr ⟨_, _, _, rfl⟩) Rm (by omega) (col_up hh (by omega)) (by rw [dUp_len]; omega) (by rw [dUp_len]; omega) (by rw [dUp_len]; simp [dLists, turnsL]) ?_ ?_ (kind_lists (by simp [turnsL]; omega)) (fun Hk i j ks s' C hi hj r hC => cmp_lists Rm.units2 tlR Hk i j ks s' C (by rw [dUp_len] at hi; simpa [turnsL] using hi) (by rw [dUp_len] at hj; simpa [turnsL] using hj) r hC) hrun hp) (congrArg Dt.list hres)) (it_list hh) (by rw [rl]; omega) ⟨rfl, by rw [lk_due]; decide, by decide +kernel, trivial⟩ fun j hj => elt_of fun C H' hs N' => ?_) (cmp_rows Rm fun _ h => h) (fun e => nomatch e) fun _ s₁ S F => ?_
  · walk_at "LV"
  · walk_at "LV"
  · intro dk hdk
    obtain ⟨l, _, rfl⟩ := List.mem_map.mp hdk
    exact noCell_ints
  · intro h₁ f pmv cv ctv B₁ hf hcv hcl i di dk hdi hdk
    have hi : i < g.length := by have := (List.getElem?_eq_some_iff.mp hdi).1; rwa [dUp_len] at this
    rw [turns_get hi] at hdk
    obtain ⟨_, rfl⟩ := range_get hdi
    cases hdk
    exact pc_lam (n := 0) [(S' "turns", .list (dLists (turnsL g)))] B₁ hf hcv (by decide +kernel) rfl rfl rfl rfl (fun v => rfl) (lam_cells rfl hcl) (nl1 (by decide +kernel)) fun prog A env' L' H' Rm' N' ec' h0' => ev_sub_ (d₁ := .list (dLists (turnsL g))) (d₂ := .int (i : Nat)) (ev_free N' rfl (by rw [ec']; rfl) rfl (fun _ h => h) (by decide +kernel) (by decide +kernel)) (ev_local N' rfl rfl (fun _ h => h) (by decide +kernel)) (itm_listN (turns_get hi) (by omega))
  · exact ev_sub_ (d₁ := .list (rowsD (markOf wh p0) (markOf wh p1) g (List.range g.length))) (d₂ := .int (j : Nat)) (by walk_at "CV") (by walk_at "CV") (itm_listN (due_get (rowsR_lt _ j hj)) (by have := rowsR_lt _ j hj; omega))
  dsimp only [List.nil_append]
  refine y_if_neW (la := b) (ds := rowsD (markOf wh p0) (markOf wh p1) g (rowsL v g.length g.length)) (es := rowsD (markOf wh p0) (markOf wh p1) g (rowsL v g.length g.length)) (b := false) O S F ?_ (by simp [ownAt]) (evw_compM (pmf := [(S' "due", .list (rowsD (markOf wh p0) (markOf wh p1) g (List.range g.length)))]) (fun i : Nat => Dt.int i) (rowsL v g.length g.length) (rowD (markOf wh p0) (markOf wh p1) g) 0 N ⟨by decide +kernel, rfl, by decide +kernel, rfl⟩ (by rw [ec]; rfl) (EvW.to (evw_sorted (d := .rng ((g.length : Int) - 1) (-1) (-1)) (ds := dDown g.length) (dks := dLists (turnsR g)) (pre := [(c, _), (b, _), (a, _)]) (post := []) (n := 1) (clos := [(S' "turns", L + 9)]) (pmc := [(S' "turns", .list (dLists (turnsL g)))]) B M N O rfl rfl hcode rfl (by rw [ec]; rfl) hq (one_cell (lc_turns ec)) (one_cell2 (lc_turns ec)) (pmc1 rfl (by rw [lk_turns]; decide)) pmc2 (ev_sorted B N lk_sorted) ?_ (.inr ⟨_, _, _, rfl⟩) Rm (by omega) (col_down hh (by omega)) (by rw [dDown_len]; omega) (by rw [dDown_len]; omega) (by rw [dDown_len]; simp [dLists, turnsR]) ?_ ?_ (kind_lists (by simp [turnsR]; omega)) (fun Hk i j ks s' C hi hj r hC => cmp_lists Rm.units2 tlL Hk i j ks s' C (by rw [dDown_len] at hi; simpa [turnsR] using hi) (by rw [dDown_len] at hj; simpa [turnsR] using hj) r hC) hrun' hp') (congrArg Dt.list hres')) (it_list hh) (by rw [ll]; omega) ⟨rfl, by rw [lk_due]; decide, by decide +kernel, trivial⟩ fun j hj => elt_of fun C H' hs N' => ?_) (cmp_rows Rm fun _ h => h) (fun e => nomatch e) fun _ s₂ S F => ?_
  · walk_at "LV"
  · refine ev_range3 B N lk_range (fun _ h => h) ?_ ?_ ?_ (by decide) (by decide)
    · walk_at "LV"
    · walk_at "LV"
    · walk_at "LV"
  · intro dk hdk
    obtain ⟨l, _, rfl⟩ := List.mem_map.mp hdk
    exact noCell_ints
  · intro h₁ f pmv cv ctv B₁ hf hcv hcl i di dk hdi hdk
    have hi : i < g.length := by have := (List.getElem?_eq_some_iff.mp hdi).1; rwa [dDown_len] at this
    have hdk' : dk = .list (dInts (turn g (g.length - 1 - i))) := by
      unfold dLists turnsR at hdk
      rw [List.getElem?_map, List.getElem?_map, List.getElem?_range hi] at hdk
      exact (Option.some.inj hdk).symm
    obtain ⟨_, rfl⟩ := range_get hdi
    subst hdk'
    exact pc_lam (n := 0) [(S' "turns", .list (dLists (turnsL g)))] B₁ hf hcv (by decide +kernel) rfl rfl rfl rfl (fun v => rfl) (lam_cells rfl hcl) (nl1 (by decide +kernel)) fun prog A env' L' H' Rm' N' ec' h0' => ev_sub_ (d₁ := .list (dLists (turnsL g))) (d₂ := .int ((g.length - 1 - i : Nat) : Int)) (ev_free N' rfl (by rw [ec']; rfl) rfl (fun _ h => h) (by decide +kernel) (by decide +kernel)) (ev_local N' rfl rfl (fun _ h => h) (by decide +kernel)) (itm_listN (turns_get (by omega)) (by omega))
  · exact ev_sub_ (d₁ := .list (rowsD (markOf wh p0) (markOf wh p1) g (List.range g.length))) (d₂ := .int (j : Nat)) (by walk_at "CV") (by walk_at "CV") (itm_listN (due_get (rowsL_lt _ j hj)) (by have := rowsL_lt _ j hj; omega))
  dsimp only [List.nil_append]
  exact k s₂ S (F.cov ⟨rfl, rfl, rfl, rfl, rfl, rfl, rfl, rfl, rfl, trivial⟩)
end
end

section
theorem runs_le : ∀ (l : List Nat), ∀ x ∈ runsOf l, 0 ≤ x ∧ x ≤ l.length
  | [], x, h => by simp [runsOf] at h; subst h; simp
  | c :: r, x, h => by
    have ih := runs_le r
    unfold runsOf at h
    split at h
    · rcases List.mem_cons.mp h with rfl | h
      · simp; omega
      · have := ih x h; simp; omega
    · split at h
      · simp at h; subst h; simp; omega
      · rename_i y ys e
        rcases List.mem_cons.mp h with rfl | h
        · have := ih y (by rw [e]; exact .head _); simp; omega
        · have := ih x (by rw [e]; exact .tail _ h); simp; omega
theorem runs_len : ∀ (l : List Nat), (runsOf l).length ≤ l.length + 1
  | [] => by simp [runsOf]
  | c :: r => by
    have ih := runs_len r
    unfold runsOf
    split
    · simp; omega
    · split
      · simp
      · rename_i y ys e
        rw [e] at ih
        simp at ih ⊢; omega
noncomputable def AllWs (l : List Nat) : Prop := ∀ c ∈ l, isWs c = true
theorem AllWs.run {l : List Nat} (h : AllWs l) : wsRun l = wsAll l := by unfold wsRun; rw [takeWhile_all h]
theorem AllWs.app {a b : List Nat} (ha : AllWs a) (hb : AllWs b) : AllWs (a ++ b) := fun c hc => (List.mem_append.mp hc).elim (ha c) (hb c)
theorem allWs_rep {n c : Nat} (h : isWs c = true) : AllWs (List.replicate n c) := fun x hx => by rw [List.eq_of_mem_replicate hx]; exact h
theorem AllWs.runX {l r : List Nat} {c : Nat} (h : AllWs l) (hc : isWs c = false) : wsRun (l ++ c :: r) = wsAll l := by
  have : (l ++ c :: r).takeWhile isWs = l := by
    induction l with
    | nil => rw [List.nil_append, List.takeWhile_cons, hc]; rfl
    | cons x l ih => rw [List.cons_append, List.takeWhile_cons, h x (.head _)]; simp only [if_true]; rw [ih fun c hc => h c (.tail _ hc)]
  unfold wsRun; rw [this]
noncomputable def prev (g : List Int) : Nat → Int
  | 0 => g.getLast?.getD 0
  | j + 1 => g.getD j 0
theorem ahead_prev (g : List Int) (j : Nat) : ahead g j = if prev g j = 1 then 9 else 32 := by cases j <;> rfl
theorem prev_bit {g : List Int} (hb : Bits g) (hn : g ≠ []) {j : Nat} (hj : j ≤ g.length) : prev g j = 0 ∨ prev g j = 1 := by
  cases j with
  | zero =>
    unfold prev
    obtain ⟨x, hx⟩ : ∃ x, g.getLast? = some x := ⟨_, List.getLast?_eq_some_getLast hn⟩
    rw [hx]
    exact hb x (List.mem_of_getLast? hx)
  | succ j =>
    show g.getD j 0 = 0 ∨ g.getD j 0 = 1
    rw [List.getD_eq_getElem?_getD, List.getElem?_eq_getElem (by omega)]
    exact hb _ (List.getElem_mem _)
theorem col_ws {g : List Int} {v : Nat} : AllWs (colOf v g) := fun c hc => by
  obtain ⟨j, _, rfl⟩ := List.mem_map.mp hc
  rw [ahead_prev]
  split <;> rfl
theorem col_len {g : List Int} {v : Nat} : (colOf v g).length = g.length := by unfold colOf; rw [List.length_map, rowsR_len]
theorem strL_app (a b : List Nat) : strL a ++ strL b = strL (a ++ b) := by
  show Str.mk (a.toArray ++ b.toArray) = Str.mk (a ++ b).toArray
  rw [List.append_toArray]
section
variable {prog : Program} {w : World} {A : Around} {Φ : Sp} {H : List Addr}
theorem itm_prev {g : List Int} (hn : g ≠ []) (hz : g.length ≤ 1000) {j : Nat} (hj : j ≤ g.length) : Itm prog w A Φ H (.list (dInts g)) (.int ((j : Int) - 1)) (.int (prev g j)) := by
  cases j with
  | zero =>
    refine itm_list_last ?_ (by rw [dInts_len]; exact hz)
    unfold dInts prev
    obtain ⟨x, hx⟩ : ∃ x, g.getLast? = some x := ⟨_, List.getLast?_eq_some_getLast hn⟩
    rw [List.getLast?_map, hx]; rfl
  | succ j =>
    have e : ((j + 1 : Nat) : Int) - 1 = (j : Nat) := by omega
    rw [e]
    refine itm_listN (dInts_get ?_) (by omega)
    show g[j]? = some (g.getD j 0)
    rw [List.getD_eq_getElem?_getD, List.getElem?_eq_getElem (by omega)]; rfl
end
end

section

section
variable {prog : Program} {w : World} {A : Around} {h₀ h₁ : Heap} {s₀ s : Shared} {W : List Addr} {env : Env} {H : List Addr} {own : List (Addr × Ow)} {pm : List (Str × Dt)} {mg mb : Str → Option Value} {oa : List Addr} {L m : Nat} {q : Str} {Q : Flow → Shared → Prop} {nm : List (Str × NameKind)} {f : Addr}
  {m0 m1 : List Nat} {g : List Int} {v : Nat} {col : List Nat} {p0 p1 : Nat} {wh : Bool} {a b c : Addr}
theorem x_asg_compM {α : Type} {rest : List Stmt} (emb : α → Dt) (l : List α) (f : α → Dt) (a0 : α) {elt iter : Expr} {x y : Str} {px py : Pos} {scope : Scope} {cl : List (Str × Addr)} {pos spos : Pos} {dsrc : Dt} {pmf : List (Str × Dt)}
    (N : Nm env nm) (O : FOk h₀ W env H oa) (S : Chg W s₀ s) (F : FSt h₀ env H own pm s) (so : ScOk scope x) (hcl : closOf env.cells scope.names [] = some cl) (hi : Ev prog w A (fs h₀ env H own pm) H env iter dsrc) (src : It prog w A H dsrc (l.map emb)) (hz : l.length ≤ 1000)
    (hpm : CovC nm (relab scope.names nm) pm pmf) (he : ∀ x₀ ∈ l, Elt prog w A h₀ env H own pmf nm x [] elt scope cl (emb x₀) (some (f x₀)))
    (hy : nm.lookup y = some .local) (hline : py.line = pos.line) (hyn : ownName scope y = false)
    (k : ∀ s', Chg W s₀ s' → FSt h₀ env H own ((y, .list (l.map f)) :: pm) s' → Ex prog w A rest env Q s')
    (hs : ∀ x, foldedSetIterable iter env x = pure x := by intro _; rfl) (ho : own.map (·.1) = oa := by rfl) :
    Ex prog w A (.Assign [.Name y py] (.ListComp elt [⟨.Name x px, iter, [], 0⟩] scope pos) spos :: rest) env Q s := by
  refine x_asg_comp (fun i => some (f (l.getD i a0))) N O S F so hcl hi src (by simpa using hz) hpm (fun i d hd => ?_) hy hline hyn (fun s' S' F' => k s' S' ?_) hs ho
  · obtain ⟨x, e, rfl, hx⟩ := get_map hd
    rw [List.getD_eq_getElem?_getD, e]
    exact he x hx
  · rw [List.length_map, fm_map l _ (fun x => some (f x)) (fun i x e => by rw [List.getD_eq_getElem?_getD, e]; rfl), filterMap_some] at F'
    exact F'
theorem tab_one : S' "\t" = one 9 := rfl
noncomputable def pmD (a c : Addr) (g : List Int) (col : List Nat) (wh : Bool) (p0 p1 : Nat) : List (Str × Dt) := [(S' "runs", .list (dInts (runsOf col))), (S' "column", .str (strL col)), (S' "right", .val (.ref a)), (S' "heads", .val (.ref c)), (S' "marks", .list (dStrs [strL (markOf wh p0), strL (markOf wh p1)])), (S' "blanks", .int (blanksN g)), (S' "tabs", .int (tabsN g)), (S' "n", .int g.length), (S' "ring", .list (dInts g))]
theorem law_6a (B : Base w mg mb h₀) (N : Nm env lawNm) (O : FOk h₀ W env H [c, b, a, 172]) (ec : env.cells = lawCells L) (Rm : Room A m) (hm : 8 ≤ m) (S : Chg W s₀ s) (R : RK g v col)
    (F : FSt h₀ env H (ownAt a b c q (markOf wh p0) (markOf wh p1) g v g.length) (pmC a b c g wh p0 p1) s)
    (k : ∀ s', Chg W s₀ s' → FSt h₀ env H (ownAt a b c q (markOf wh p0) (markOf wh p1) g v g.length) (pmD a c g col wh p0 p1) s' → Ex prog w A (lawBody.drop 17) env Q s') : Ex prog w A (lawBody.drop 15) env Q s := by
  have hh : A.handled = none := Rm.hh
  have n8 := R.n8
  have n6 := R.n6
  have gne : g ≠ [] := fun e => by rw [e] at n6; simp at n6
  have cl : col.length = g.length := by rw [R.hcol]; exact col_len
  have rl : (rowsR v g.length g.length).length = g.length := rowsR_len _
  unfold pmC at F
  refine x_asg_cell (d := .str (strL col)) N O S F (Ev.str_any (H' := vis a H) (Ev.show (H' := vis a H) (Ev.to (ev_joinE (xs := (rowsR v g.length g.length).map fun j => [ahead g j]) (Ev.to (ev_compM (pmf := [(S' "ring", .list (dInts g))]) (rowD (markOf wh p0) (markOf wh p1) g) (rowsR v g.length g.length) (fun j => .str (one (ahead g j))) 0 N ⟨by decide +kernel, rfl, by decide +kernel, rfl⟩ (by rw [ec]; rfl) (dsrc := .list (rowsD (markOf wh p0) (markOf wh p1) g (rowsR v g.length g.length))) (ev_owned (l := a) ?_ (by simp [ownAt]) vis_not (fun _ h => h)) (it_list hh) (by omega) ⟨rfl, by rw [lk_ring]; decide, by decide +kernel, trivial⟩ fun j hj => elt_of fun C H'' hs N' => ?_) ?_) (by simp; omega) ?_) ?_) vis_sub)) lk_column (lc_column ec) fun s₁ S F => ?_
  · walk_at "LV"
  · have hj' := rowsR_lt _ j hj
    have pb := prev_bit R.bit gne (j := j) (by omega)
    rw [ahead_prev]
    rcases pb with e | e
    · rw [e]
      refine ev_sub_ (d₁ := .str (S' " \t")) (d₂ := .int 0) ev_str (Ev.int_eq (ev_sub_ (d₁ := .list (dInts g)) (d₂ := .int ((j : Int) - 1)) ?_ (ev_sub (ev_sub_ (d₁ := rowD (markOf wh p0) (markOf wh p1) g j) (d₂ := .int 1) ?_ ev_int (itm_tup (by decide) rfl (by decide))) ev_int) (itm_prev gne (by omega) (by omega))) e) (itm_str (by decide) rfl (by decide))
      · walk_at "CV"
      · walk_at "CV"
    · rw [e]
      refine ev_sub_ (d₁ := .str (S' " \t")) (d₂ := .int 1) ev_str (Ev.int_eq (ev_sub_ (d₁ := .list (dInts g)) (d₂ := .int ((j : Int) - 1)) ?_ (ev_sub (ev_sub_ (d₁ := rowD (markOf wh p0) (markOf wh p1) g j) (d₂ := .int 1) ?_ ev_int (itm_tup (by decide) rfl (by decide))) ev_int) (itm_prev gne (by omega) (by omega))) e) (itm_str (by decide) rfl (by decide))
      · walk_at "CV"
      · walk_at "CV"
  · simp [dStrs, Function.comp_def]; intro a _; rfl
  · intro x hx
    obtain ⟨z, _, rfl⟩ := List.mem_map.mp hx
    simp
  · rw [R.hcol, colOf]
    congr 1; congr 1
    generalize rowsR v g.length g.length = tt
    induction tt with
    | nil => rfl
    | cons z tt ih => simp [ih]
  have X : ∀ {own pm}, Hx (fs h₀ env H own pm) H := hx_fs fun _ h => h
  have sp := runs_split (strL col)
  rw [strL_list] at sp
  have spl : (Txt.split (strL col) (one 9)).length ≤ col.length + 1 := by
    have e := congrArg List.length sp
    rw [List.length_map] at e
    have := runs_len col
    show (Txt.split (strL col) ⟨#[9]⟩).length ≤ _
    omega
  refine x_asg_cell (d := .list (dInts (runsOf col))) N O S F (Ev.to (ev_compM (pmf := []) Dt.str (Txt.split (strL col) (one 9)) (fun y => Dt.int y.cps.size) (one 9) N ⟨by decide +kernel, rfl, by decide +kernel, rfl⟩ rfl (dsrc := .list (dStrs (Txt.split (strL col) (one 9)))) (ev_meth (id := "str.split") (d₀ := .str (strL col)) (ds := [.str (one 9)]) ?_ (gm_str PySem.F.slot_str_split PySem.F.type_str_split) (evs_cons ev_str evs_nil) (cl_split X (by decide) ?_)) (it_list hh) (by omega) trivial fun y hy => elt_of fun C H'' hs N' => ev_lenS B N' rfl (by walk_at "CV") rfl ?_) ?_) lk_runs (lc_runs ec) (fun s₂ S F => k s₂ S (F.cov ⟨rfl, rfl, rfl, rfl, rfl, rfl, rfl, rfl, rfl, trivial⟩)) (by rw [swaps_comp N, lk_runs]; rfl)
  · walk_at "LV"
  · show (strL col).cps.size ≤ 1000
    simp [strL]; omega
  · have := runs_le col (y.cps.size : Int) (by rw [← sp]; exact List.mem_map.mpr ⟨y, hy, rfl⟩)
    omega
  · unfold dInts
    rw [← sp, List.map_map]; rfl
end
end

section

section
variable {prog : Program} {w : World} {A : Around} {h₀ h₁ : Heap} {s₀ s : Shared} {W : List Addr} {env : Env} {H : List Addr} {own : List (Addr × Ow)} {pm : List (Str × Dt)} {mg mb : Str → Option Value} {oa : List Addr} {L m : Nat} {q : Str} {Q : Flow → Shared → Prop} {nm : List (Str × NameKind)} {f : Addr}
  {m0 m1 : List Nat} {g : List Int} {v : Nat} {col : List Nat} {p0 p1 : Nat} {wh : Bool} {a b c : Addr}
structure WsOk (g : List Int) (col : List Nat) : Prop where
  n : (wsAll col).n = g.length
  nt : (wsAll col).nt = tabsN g
  cs : (wsAll col).cs = cntOf (runsOf col).dropLast
  b : (runsOf col).getLast? = some ((wsAll col).b : Int)
theorem wsOk {g : List Int} {col : List Nat} (h : okWs g col = true) : WsOk g col := by
  unfold okWs at h
  simp only [Bool.and_eq_true, beq_iff_eq] at h
  exact ⟨h.1.1.1, h.1.1.2, h.1.2, h.2⟩
noncomputable def leadS (col : List Nat) : Str := strL (col ++ [120, 32, 9])
theorem lead_run {col : List Nat} (h : AllWs col) : wsRun (leadS col).cps.toList = wsAll col := h.runX rfl
noncomputable def pmE (a c : Addr) (g : List Int) (col : List Nat) (wh : Bool) (p0 p1 : Nat) : List (Str × Dt) := [(S' "lead", .obj 119 (wsFields (leadS col))), (S' "runs", .list (dInts (runsOf col))), (S' "column", .str (strL col)), (S' "right", .val (.ref a)), (S' "heads", .val (.ref c)), (S' "marks", .list (dStrs [strL (markOf wh p0), strL (markOf wh p1)])), (S' "blanks", .int (blanksN g)), (S' "tabs", .int (tabsN g)), (S' "ring", .list (dInts g))]
theorem dL_take (l : List Int) : (dInts l).take ((dInts l).length - 1) = dInts l.dropLast := by rw [dInts_len, ← dInts_take, List.dropLast_eq_take]
theorem law_6b (B : Base w mg mb h₀) (N : Nm env lawNm) (O : FOk h₀ W env H [c, b, a, 172]) (ec : env.cells = lawCells L) (Rm : Room A m) (hm : 8 ≤ m) (S : Chg W s₀ s) (R : RK g v col)
    (F : FSt h₀ env H (ownAt a b c q (markOf wh p0) (markOf wh p1) g v g.length) (pmD a c g col wh p0 p1) s)
    (k : ∀ s', Chg W s₀ s' → FSt h₀ env H (ownAt a b c q (markOf wh p0) (markOf wh p1) g v g.length) (pmE a c g col wh p0 p1) s' → Ex prog w A (lawBody.drop 20) env Q s') : Ex prog w A (lawBody.drop 17) env Q s := by
  have hh : A.handled = none := Rm.hh
  have n8 := R.n8
  have n6 := R.n6
  have cl : col.length = g.length := by rw [R.hcol]; exact col_len
  have cw : AllWs col := by rw [R.hcol]; exact col_ws
  have X : ∀ {own pm}, Hx (fs h₀ env H own pm) H := hx_fs fun _ h => h
  have K := wsOk R.ws
  have rlen := runs_len col
  have mle : maxI (-1 :: (runsOf col).dropLast) ≤ 100 := by
    have := maxI_mem (l := -1 :: (runsOf col).dropLast) (by simp)
    rcases List.mem_cons.mp this with e | e
    · omega
    · have := runs_le col _ ((List.dropLast_sublist _).subset e); omega
  have mge : -1 ≤ maxI (-1 :: (runsOf col).dropLast) := maxI_le (.head _)
  have lenB : (dInts (runsOf col)).length ≤ 1000 := by rw [dInts_len]; omega
  unfold pmD at F
  refine x_asg_compM (pmf := [(S' "runs", .list (dInts (runsOf col)))]) (fun i : Nat => Dt.int i) (List.range (maxI (-1 :: (runsOf col).dropLast) + 1).toNat) (fun i => .int ((runsOf col).dropLast.count (i : Int))) 0 N O S F ⟨by decide +kernel, rfl, by decide +kernel, rfl⟩ (by rw [ec]; rfl) (dsrc := .rng 0 ((maxI (-1 :: (runsOf col).dropLast) + 1).toNat : Nat) 1) (ev_range1 B N lk_range (fun _ h => h) (Ev.int_eq (ev_add (ev_maxL (ns := -1 :: (runsOf col).dropLast) B N lk_max (Ev.to (ev_add_list X (ev_list X (evs_cons ev_neg_lit evs_nil) (by show (1 : Nat) ≤ 1000; decide)) (ev_slice_butLast X (ds := dInts (runsOf col)) ?_ ev_neg_lit lenB) ?_) ?_) hh (maxI_mem (by simp)) (fun _ h => maxI_le h)) ev_int) ?_)) (it_range hh (by omega)) (by rw [List.length_range]; omega) ⟨rfl, by rw [lk_runs]; decide, by decide +kernel, trivial⟩ (fun i hi => elt_of fun C H' hs N' => ev_meth (id := "list.count") (d₀ := .list (dInts (runsOf col).dropLast)) (ds := [.int (i : Int)]) (Ev.to (ev_slice_butLast (hx_fs fun _ h => h) (ds := dInts (runsOf col)) ?_ ev_neg_lit lenB) (congrArg Dt.list (dL_take _))) (gm_list PySem.F.slot_list_count PySem.F.type_list_count) (evs_cons ?_ evs_nil) cl_count) lk_counts rfl (by decide +kernel) fun s₁ S F => ?_
  · walk_at "LV"
  · rw [List.length_take]; simp; omega
  · rw [dL_take]; rfl
  · omega
  · walk_at "CV"
  · walk_at "CV"
  have eC : (List.range (maxI (-1 :: (runsOf col).dropLast) + 1).toNat).map (fun i : Nat => Dt.int ((runsOf col).dropLast.count (i : Int))) = dInts (cntOf (runsOf col).dropLast) := by simp [dInts, cntOf, Function.comp_def]
  rw [eC] at F
  clear eC
  have clen : (cntOf (runsOf col).dropLast).length ≤ 1000 := by unfold cntOf; rw [List.length_map, List.length_range]; omega
  refine x_asg_local (d := .obj 119 (wsFields (leadS col))) N O S F (Ev.to (ev_ws (x := strL col ++ S' "x \t") B N lk_Whitespace (ev_add_str ?_ ev_str ?_) ?_ Rm (by omega) O.hid (fun _ h => h)) ?_) lk_lead fun s₂ S F => ?_
  · walk_at "LV"
  · show (strL col).cps.size + 3 ≤ 1000
    simp [strL]; omega
  · show (strL col ++ strL [120, 32, 9]).cps.toList.length ≤ 100
    rw [strL_app, strL_list]; simp; omega
  · show Dt.obj 119 (wsFields (strL col ++ strL [120, 32, 9])) = _
    rw [strL_app]; rfl
  have lr := lead_run cw
  refine y_if S F (b := false) (tst_cmp (H := H) (d₁ := .list [.int g.length, .int (tabsN g), .tup [.tup (dInts (cntOf (runsOf col).dropLast)), .int (wsAll col).b]]) (d₂ := .list [.int g.length, .int (tabsN g), .tup [.tup (dInts (cntOf (runsOf col).dropLast)), .int (wsAll col).b]]) (ev_list X (evs_cons (Ev.int_eq (ev_field (fs₁ := wsFields (leadS col)) B ?_ rfl (by walk_at "FLD") (by walk_at "FLD") (by walk_at "FLD")) ?_) (evs_cons (Ev.int_eq (ev_field (fs₁ := wsFields (leadS col)) B ?_ rfl (by walk_at "FLD") (by walk_at "FLD") (by walk_at "FLD")) ?_) (evs_cons (Ev.to (ev_field (fs₁ := wsFields (leadS col)) B ?_ norm_of (by walk_at "FLD") (by walk_at "FLD") (by walk_at "FLD")) ?_) evs_nil))) h3) (ev_list X (evs_cons ?_ (evs_cons ?_ (evs_cons (ev_tuple X (evs_cons (ev_tuple_ints (H' := H) B N lk_tuple ?_ clen) (evs_cons (ev_sub_ (d₁ := .list (dInts (runsOf col))) (d₂ := .int (-1)) ?_ ev_neg_lit (itm_list_last ?_ lenB)) evs_nil)) h2) evs_nil))) h3) (cmp_ne_list (k := 2) ?_ (by have := Rm.un; show A.units + 3 < 9900; omega))) (fun e => nomatch e) fun _ s₃ S F => k s₃ S (F.cov ⟨rfl, rfl, rfl, rfl, rfl, rfl, rfl, rfl, rfl, trivial⟩)
  · walk_at "LV"
  · rw [lr, K.n]
  · walk_at "LV"
  · rw [lr, K.nt]
  · walk_at "LV"
  · rw [lr, K.cs]
  · walk_at "LV"
  · walk_at "LV"
  · walk_at "LV"
  · walk_at "LV"
  · unfold dInts; rw [List.getLast?_map, K.b]; rfl
  · intro x hx
    rcases List.mem_cons.mp hx with rfl | hx
    · trivial
    rcases List.mem_cons.mp hx with rfl | hx
    · trivial
    rw [List.mem_singleton.mp hx]
    intro y hy
    rcases List.mem_cons.mp hy with rfl | hy
    · intro z hz
      obtain ⟨i, _, rfl⟩ := List.mem_map.mp hz
      trivial
    · rw [List.mem_singleton.mp hy]; trivial
end
end

section

section
variable {prog : Program} {w : World} {A : Around} {h₀ h₁ : Heap} {s₀ s : Shared} {W : List Addr} {env : Env} {H H' : List Addr} {own : List (Addr × Ow)} {pm : List (Str × Dt)} {mg mb : Str → Option Value} {oa : List Addr} {L m : Nat} {q : Str} {Q : Flow → Shared → Prop} {nm : List (Str × NameKind)} {f : Addr}
  {m0 m1 : List Nat} {g : List Int} {v : Nat} {col : List Nat} {p0 p1 : Nat} {wh : Bool} {a b c : Addr} {e o : Expr} {p pos apos : Pos} {l l' : List Nat}
noncomputable def wsD (l : List Nat) : Dt := .obj 119 (wsFields (strL l))
theorem ev_wsL (B : Base w mg mb h₀) (N : Nm env nm) (hl : nm.lookup (S' "Whitespace") = some .globalImplicit) (h : Ev prog w A (fs h₀ env H own pm) H env e (.str (strL l))) (hz : l.length ≤ 100) (Rm : Room A m) (hm : 4 ≤ m) (O : FOk h₀ W env H oa)
    (hc : eval (.Call (.Name (S' "Whitespace") p) [e] [] pos) env = (do callWith pos (← eval (.Name (S' "Whitespace") p) env) [] (backTo pos (starEach [e] env)) (backToKw pos (keywordEach [] env))) := by rfl)
    (he : starEach [e] env = (false, eval e env) :: starEach [] env := by rfl) (hp : (backTo pos (starEach [] env)).any (·.1) = false := by rfl) : Ev prog w A (fs h₀ env H own pm) H env (.Call (.Name (S' "Whitespace") p) [e] [] pos) (wsD l) :=
  ev_ws B N hl h hz Rm hm O.hid (fun _ h => h) hc he hp
theorem ev_lessW {pl : Sem Bool} (B : Base w mg mb h₀) (O : FOk h₀ W env H oa) (Rm : Room A m) (hm : 2 ≤ m) (ho : Ev prog w A (fs h₀ env H own pm) H env o (wsD l)) (ha : Ev prog w A (fs h₀ env H own pm) H env e (wsD l')) (h1 : l.length ≤ 100) (h2 : l'.length ≤ 100) {r r' : WS} (w1 : wsRun l = r) (w2 : wsRun l' = r')
    (hc : eval (.Call (.Attribute o (S' "less") apos) [e] [] pos) env = (do
      let ov ← eval o env
      standAt apos.atName
      let (f, first) ← holding [ov] (getMethod ov (S' "less") pl)
      callWith pos f first (backTo pos (starEach [e] env)) []) := by rfl)
    (he : starEach [e] env = (false, eval e env) :: starEach [] env := by rfl) (hp : (backTo pos (starEach [] env)).any (·.1) = false := by rfl) :
    Ev prog w A (fs h₀ env H own pm) H env (.Call (.Attribute o (S' "less") apos) [e] [] pos) (.bool (lessB r r')) := by
  have P := pc_less (x := strL l) (y := strL l') B h1 h2
  rw [strL_list, strL_list, w1, w2] at P
  exact ev_methD (y := none) (fs₁ := wsFields (strL l)) (f := 109) (ds := [wsD l']) B ho rfl (by kernel_rfl) (by rw [typeLookup_type, builtinLookup_eq_fast]; kernel_rfl) rfl (evs_cons ha evs_nil he) P Rm hm O.hid (fun _ h => h) hc he hp
theorem ev_repL {x y : Expr} {c n : Nat} {z : Str} (hz : z = one c) (h₁ : Ev prog w A (fs h₀ env H own pm) H env x (.str z)) (h₂ : Ev prog w A (fs h₀ env H own pm) H env y (.int n)) (hn : n ≤ 1000) : Ev prog w A (fs h₀ env H own pm) H env (.BinOp x .Mult y pos) (.str (strL (List.replicate n c))) := by
  subst hz; exact ev_rep h₁ h₂ hn
theorem ev_catL {x y : Expr} (h₁ : Ev prog w A (fs h₀ env H own pm) H env x (.str (strL l))) (h₂ : Ev prog w A (fs h₀ env H own pm) H env y (.str (strL l'))) (hn : l.length + l'.length ≤ 1000) : Ev prog w A (fs h₀ env H own pm) H env (.BinOp x .Add y pos) (.str (strL (l ++ l'))) := by
  rw [← strL_app]
  exact ev_add_str h₁ h₂ (by show (strL l).cps.size + (strL l').cps.size ≤ 1000; simpa [strL] using hn)
theorem isnot_same {Φ : Sp} {b : Bool} : Cmp prog w A Φ H .IsNot (.bool b) (.bool b) false := by
  have h := cmp_isnot_bool (prog := prog) (w := w) (A := A) (Φ := Φ) (H := H) (b := b) (c := b)
  rwa [bne_self_eq_false] at h
structure LsOk (g : List Int) (col : List Nat) : Prop where
  simp : simp' (wsAll col) = evenB g
  more : lessB (wsAll (stO (tabsN g) (blanksN g))) (wsAll (col ++ [32])) = evenB g
  lead : lessB (wsAll col) (wsAll (stO (tabsN g) (blanksN g + 1))) = true
  turned : lessB (wsAll (stO (tabsN g) (blanksN g))) (wsAll (stO (blanksN g) (tabsN g + 1))) = decide (tabsN g ≤ blanksN g)
  tabs : lessB (wsAll (stO (tabsN g) 0)) (wsAll (List.replicate (blanksN g) 32 ++ List.replicate (tabsN g) 9)) = decide (tabsN g = 0)
theorem lsOk {g : List Int} {col : List Nat} (h : okLess g col = true) : LsOk g col := by
  unfold okLess at h
  simp only [Bool.and_eq_true, beq_iff_eq] at h
  exact ⟨h.1.1.1.1, h.1.1.1.2, h.1.1.2, h.1.2, h.2⟩
theorem allWs_st {t b : Nat} : AllWs (stO t b) := (allWs_rep rfl).app (allWs_rep rfl)
theorem st_len {t b : Nat} : (stO t b).length = t + b := by simp [stO]
noncomputable def pmF (a c : Addr) (g : List Int) (col : List Nat) (wh : Bool) (p0 p1 : Nat) : List (Str × Dt) := [(S' "more", wsD (col ++ [32])), (S' "straight", wsD (stO (tabsN g) (blanksN g))), (S' "lead", .obj 119 (wsFields (leadS col))), (S' "runs", .list (dInts (runsOf col))), (S' "column", .str (strL col)), (S' "right", .val (.ref a)), (S' "heads", .val (.ref c)), (S' "marks", .list (dStrs [strL (markOf wh p0), strL (markOf wh p1)])), (S' "blanks", .int (blanksN g)), (S' "tabs", .int (tabsN g)), (S' "ring", .list (dInts g))]
theorem law_7 (B : Base w mg mb h₀) (N : Nm env lawNm) (O : FOk h₀ W env H [c, b, a, 172]) (ec : env.cells = lawCells L) (Rm : Room A m) (hm : 8 ≤ m) (S : Chg W s₀ s) (R : RK g v col)
    (F : FSt h₀ env H (ownAt a b c q (markOf wh p0) (markOf wh p1) g v g.length) (pmE a c g col wh p0 p1) s)
    (k : ∀ s', Chg W s₀ s' → FSt h₀ env H (ownAt a b c q (markOf wh p0) (markOf wh p1) g v g.length) (pmF a c g col wh p0 p1) s' → Ex prog w A (lawBody.drop 27) env Q s') : Ex prog w A (lawBody.drop 20) env Q s := by
  have hh : A.handled = none := Rm.hh
  have n8 := R.n8
  have n6 := R.n6
  have gne : g ≠ [] := fun e => by rw [e] at n6; simp at n6
  have cl : col.length = g.length := by rw [R.hcol]; exact col_len
  have cw : AllWs col := by rw [R.hcol]; exact col_ws
  have X : ∀ {own pm}, Hx (fs h₀ env H own pm) H := hx_fs fun _ h => h
  have K := lsOk R.less
  have bs := bits_sum R.bit
  have tl : tabsN g + blanksN g = g.length := by unfold blanksN tabsN; omega
  have lr := lead_run cw
  have ll : (leadS col).cps.toList.length ≤ 100 := by unfold leadS; rw [strL_list]; simp; omega
  have mr : wsRun (col ++ [32]) = wsAll (col ++ [32]) := (cw.app (b := [32]) fun c hc => by rw [List.mem_singleton.mp hc]; rfl).run
  unfold pmE at F
  refine x_asg_local (d := .bool (evenB g)) N O S F (ev_call_d (fa_law_is_even B) (ev_g_law_is_even B N lk_law_is_even) (evs_cons ?_ evs_nil) (cl_pc (pc_is_even B gne (by omega)) Rm (by omega) O.hid (fun _ h => h))) lk_even fun s₁ S F => ?_
  · walk_at "LV"
  refine x_asg_local (d := wsD (stO (tabsN g) (blanksN g))) N O S F (ev_wsL B N lk_Whitespace (ev_catL (ev_repL rfl ev_str ?_ (by omega)) (ev_repL rfl ev_str ?_ (by omega)) (by simp; omega)) (by rw [st_len]; omega) Rm (by omega) O) lk_straight fun s₂ S F => ?_
  · walk_at "LV"
  · walk_at "LV"
  refine x_asg_local (d := wsD (col ++ [32])) N O S F (ev_wsL B N lk_Whitespace (ev_catL ?_ ev_str (by simp; omega)) (by simp; omega) Rm (by omega) O) lk_more fun s₃ S F => ?_
  · walk_at "LV"
  refine y_if S F (b := false || false) (tst_or2 (tst_cmp (H := H) (d₁ := .bool (evenB g)) (d₂ := .bool (evenB g)) (b := false) (Ev.to (ev_field (fs₁ := wsFields (leadS col)) B ?_ rfl (by walk_at "FLD") (by walk_at "FLD") (by walk_at "FLD")) ?_) ?_ ?_) fun _ => tst_cmp (H := H) (d₁ := .bool (evenB g)) (d₂ := .bool (evenB g)) (b := false) (Ev.to (ev_lessW B O Rm (by omega) ?_ ?_ (by rw [st_len]; omega) (by simp; omega) allWs_st.run mr) (congrArg Dt.bool K.more)) ?_ ?_) (fun e => nomatch e) fun _ s₄ S F => ?_
  · walk_at "LV"
  · rw [lr]; exact congrArg Dt.bool K.simp
  · walk_at "LV"
  · exact isnot_same
  · walk_at "LV"
  · walk_at "LV"
  · walk_at "LV"
  · exact isnot_same
  dsimp only [List.nil_append]
  refine y_if S F (b := false) (tst_cmp (H := H) (d₁ := .bool true) (d₂ := .bool true) (Ev.to (ev_lessW B O Rm (by omega) (l := col ++ [120, 32, 9]) ?_ (ev_wsL (l := stO (tabsN g) (blanksN g + 1)) B N lk_Whitespace (ev_catL (ev_repL rfl ev_str ?_ (by omega)) (ev_repL rfl ev_str (Ev.int_eq (ev_add ?_ ev_int) (Int.natCast_add _ _).symm) (by omega)) (by simp; omega)) (by rw [st_len]; omega) Rm (by omega) O) ll (by rw [st_len]; omega) lr allWs_st.run) (congrArg Dt.bool K.lead)) ev_bool isnot_same) (fun e => nomatch e) fun _ s₅ S F => ?_
  · show Ev prog w A _ H env _ (.obj 119 (wsFields (leadS col)))
    walk_at "LV"
  · walk_at "LV"
  · walk_at "LV"
  dsimp only [List.nil_append]
  refine y_if S F (b := false) (tst_cmp (H := H) (d₁ := .bool (decide (tabsN g ≤ blanksN g))) (d₂ := .bool (decide (tabsN g ≤ blanksN g))) (Ev.to (ev_lessW B O Rm (by omega) (l := stO (tabsN g) (blanksN g)) ?_ (ev_wsL (l := stO (blanksN g) (tabsN g + 1)) B N lk_Whitespace (ev_catL (ev_repL rfl ev_str ?_ (by omega)) (ev_repL rfl ev_str (Ev.int_eq (ev_add ?_ ev_int) (Int.natCast_add _ _).symm) (by omega)) (by simp; omega)) (by rw [st_len]; omega) Rm (by omega) O) (by rw [st_len]; omega) (by rw [st_len]; omega) allWs_st.run allWs_st.run) (congrArg Dt.bool K.turned)) (Ev.to (ev_cmp (d₁ := .int (tabsN g)) (d₂ := .int (blanksN g)) ?_ ?_ cmp_le) ?_) isnot_same) (fun e => nomatch e) fun _ s₆ S F => ?_
  · walk_at "LV"
  · walk_at "LV"
  · walk_at "LV"
  · walk_at "LV"
  · walk_at "LV"
  · congr 1; rw [decide_eq_decide]; omega
  dsimp only [List.nil_append]
  refine y_if S F (b := false) (tst_cmp (H := H) (d₁ := .bool (decide (tabsN g = 0))) (d₂ := .bool (decide (tabsN g = 0))) (Ev.to (ev_lessW B O Rm (by omega) (l := stO (tabsN g) 0) (ev_wsL (l := stO (tabsN g) 0) B N lk_Whitespace (Ev.to (ev_repL (c := 9) (n := tabsN g) rfl ev_str ?_ (by omega)) (by unfold stO; rw [List.replicate_zero, List.append_nil])) (by rw [st_len]; omega) Rm (by omega) O) (ev_wsL (l := List.replicate (blanksN g) 32 ++ List.replicate (tabsN g) 9) B N lk_Whitespace (ev_catL (ev_repL rfl ev_str ?_ (by omega)) (ev_repL rfl ev_str ?_ (by omega)) (by simp; omega)) (by simp; omega) Rm (by omega) O) (by rw [st_len]; omega) (by simp; omega) allWs_st.run ((allWs_rep rfl).app (allWs_rep rfl)).run) (congrArg Dt.bool K.tabs)) (Ev.to (ev_cmp (d₁ := .int (tabsN g)) (d₂ := .int 0) ?_ ev_int cmp_eq) ?_) isnot_same) (fun e => nomatch e) fun _ s₇ S F => k s₇ S (F.cov ⟨rfl, rfl, rfl, rfl, rfl, rfl, rfl, rfl, rfl, rfl, rfl, trivial⟩)
  · walk_at "LV"
  · walk_at "LV"
  · walk_at "LV"
  · walk_at "LV"
  · congr 1
    rw [Bool.eq_iff_iff, beq_iff_eq, decide_eq_true_iff]; omega
end
end

section

noncomputable def tD (r : Int × Int × Int) : Dt := .tup [.int r.1, .int r.2.1, .int r.2.2]
theorem wits_tD (r q : WS) : wits r q (topN r q) = (witI r q).map tD := by
  unfold wits witI
  rw [List.map_filterMap]
  congr 1
  funext j
  split <;> rfl
theorem tD_ok (l : List (Int × Int × Int)) : ∀ x ∈ l.map tD, EqOk 1 x := fun x hx => by
  obtain ⟨r, _, rfl⟩ := List.mem_map.mp hx
  intro y hy
  simp only [List.mem_cons, List.not_mem_nil, or_false] at hy
  rcases hy with rfl | rfl | rfl <;> trivial
structure TdOk (g : List Int) (col : List Nat) : Prop where
  st : witI (wsAll (stO (tabsN g) (blanksN g))) (wsAll (col ++ [32])) = (toldI g col).filter (fun r => decide (r.2.1 ≥ r.2.2))
  more : witI (wsAll (col ++ [32])) (wsAll (stO (tabsN g) (blanksN g))) = ((toldI g col).filter fun r => decide (r.2.2 ≥ r.2.1)).map fun r => (r.1, r.2.2, r.2.1)
theorem tdOk {g : List Int} {col : List Nat} (h : okTold g col = true) : TdOk g col := by
  unfold okTold at h
  simp only [Bool.and_eq_true, beq_iff_eq] at h
  exact ⟨h.1, h.2⟩
section
variable {prog : Program} {w : World} {A : Around} {h₀ h₁ : Heap} {s₀ s : Shared} {W : List Addr} {env : Env} {H H' : List Addr} {own : List (Addr × Ow)} {pm : List (Str × Dt)} {mg mb : Str → Option Value} {oa : List Addr} {L m : Nat} {q : Str} {Q : Flow → Shared → Prop} {nm : List (Str × NameKind)} {f : Addr}
  {m0 m1 : List Nat} {g : List Int} {v : Nat} {col : List Nat} {p0 p1 : Nat} {wh : Bool} {a b c : Addr} {e o : Expr} {p pos apos : Pos} {l l' : List Nat}
theorem ev_witW {pl : Sem Bool} (B : Base w mg mb h₀) (O : FOk h₀ W env H oa) (Rm : Room A m) (hm : 2 ≤ m) (ho : Ev prog w A (fs h₀ env H own pm) H env o (wsD l)) (ha : Ev prog w A (fs h₀ env H own pm) H env e (wsD l')) (h1 : l.length ≤ 100) (h2 : l'.length ≤ 100) {r r' : WS} (w1 : wsRun l = r) (w2 : wsRun l' = r')
    (hc : eval (.Call (.Attribute o (S' "not_less_witness") apos) [e] [] pos) env = (do
      let ov ← eval o env
      standAt apos.atName
      let (f, first) ← holding [ov] (getMethod ov (S' "not_less_witness") pl)
      callWith pos f first (backTo pos (starEach [e] env)) []) := by rfl)
    (he : starEach [e] env = (false, eval e env) :: starEach [] env := by rfl) (hp : (backTo pos (starEach [] env)).any (·.1) = false := by rfl) :
    Ev prog w A (fs h₀ env H own pm) H env (.Call (.Attribute o (S' "not_less_witness") apos) [e] [] pos) (.list ((witI r r').map tD)) := by
  have P := pc_wit (x := strL l) (y := strL l') B h1 h2
  rw [strL_list, strL_list, w1, w2, wits_tD] at P
  exact ev_methD (y := none) (fs₁ := wsFields (strL l)) (f := 116) (ds := [wsD l']) B ho rfl (by kernel_rfl) (by rw [typeLookup_type, builtinLookup_eq_fast]; kernel_rfl) rfl (evs_cons ha evs_nil he) P Rm hm O.hid (fun _ h => h) hc he hp
noncomputable def pmG (a c : Addr) (g : List Int) (col : List Nat) (wh : Bool) (p0 p1 : Nat) : List (Str × Dt) := [(S' "lead", .obj 119 (wsFields (leadS col))), (S' "right", .val (.ref a)), (S' "heads", .val (.ref c)), (S' "marks", .list (dStrs [strL (markOf wh p0), strL (markOf wh p1)])), (S' "ring", .list (dInts g))]
theorem top_le {g : List Int} {col : List Nat} (h1 : g.length ≤ 8) (h2 : col.length = g.length) : maxI ([(blanksN g : Int), (runsOf col).getLast?.getD 0 + 1] ++ runsOf col) ≤ 20 ∧ 0 ≤ maxI ([(blanksN g : Int), (runsOf col).getLast?.getD 0 + 1] ++ runsOf col) := by
  have hm := maxI_mem (l := [(blanksN g : Int), (runsOf col).getLast?.getD 0 + 1] ++ runsOf col) (by simp)
  have hb : blanksN g ≤ 8 := by unfold blanksN; omega
  have h0 : (blanksN g : Int) ≤ maxI ([(blanksN g : Int), (runsOf col).getLast?.getD 0 + 1] ++ runsOf col) := maxI_le (.head _)
  refine ⟨?_, by omega⟩
  have rl := runs_le col
  rcases List.mem_append.mp hm with h | h
  · rcases List.mem_cons.mp h with h | h
    · rw [h]; omega
    · rw [List.mem_singleton.mp h]
      cases e : (runsOf col).getLast? with
      | none => simp
      | some x =>
        have := rl x (List.mem_of_getLast? e)
        simp; omega
  · have := rl _ h; omega
theorem law_8a (B : Base w mg mb h₀) (N : Nm env lawNm) (O : FOk h₀ W env H [c, b, a, 172]) (ec : env.cells = lawCells L) (Rm : Room A m) (hm : 8 ≤ m) (S : Chg W s₀ s) (R : RK g v col)
    (F : FSt h₀ env H (ownAt a b c q (markOf wh p0) (markOf wh p1) g v g.length) (pmF a c g col wh p0 p1) s)
    (k : ∀ s', Chg W s₀ s' → FSt h₀ env H (ownAt a b c q (markOf wh p0) (markOf wh p1) g v g.length) (pmG a c g col wh p0 p1) s' → Ex prog w A (lawBody.drop 31) env Q s') : Ex prog w A (lawBody.drop 27) env Q s := by
  have hh : A.handled = none := Rm.hh
  have n8 := R.n8
  have n6 := R.n6
  have cl : col.length = g.length := by rw [R.hcol]; exact col_len
  have cw : AllWs col := by rw [R.hcol]; exact col_ws
  have X : ∀ {own pm}, Hx (fs h₀ env H own pm) H := hx_fs fun _ h => h
  have K := tdOk R.told
  have Kw := wsOk R.ws
  have bs := bits_sum R.bit
  have tl : tabsN g + blanksN g = g.length := by unfold blanksN tabsN; omega
  have mr : wsRun (col ++ [32]) = wsAll (col ++ [32]) := (cw.app (b := [32]) fun c hc => by rw [List.mem_singleton.mp hc]; rfl).run
  have rlen := runs_len col
  have lenB : (dInts (runsOf col)).length ≤ 1000 := by rw [dInts_len]; omega
  obtain ⟨t1, t2⟩ := top_le n8 cl
  have tp : maxI ([(blanksN g : Int), (runsOf col).getLast?.getD 0 + 1] ++ runsOf col) + 1 = (topOf g col : Int) := by unfold topOf; omega
  have tp2 : topOf g col ≤ 21 := by omega
  unfold pmF at F
  unfold pmG at k
  refine x_asg_local (d := .int (topOf g col)) N O S F (Ev.int_eq (ev_add (ev_maxL (ns := [(blanksN g : Int), (runsOf col).getLast?.getD 0 + 1] ++ runsOf col) B N lk_max (Ev.to (ev_add_list (ds := dInts [(blanksN g : Int), (runsOf col).getLast?.getD 0 + 1]) (es := dInts (runsOf col)) X (ev_list X (evs_cons ?_ (evs_cons (ev_add (ev_sub_ (d₁ := .list (dInts (runsOf col))) (d₂ := .int (-1)) (d := .int ((runsOf col).getLast?.getD 0)) ?_ ev_neg_lit (itm_list_last ?_ lenB)) ev_int) evs_nil)) h2) ?_ ?_) ?_) hh (maxI_mem (by simp)) (fun _ h => maxI_le h)) ev_int) tp) lk_top fun s₁ S F => ?_
  · walk_at "LV"
  · walk_at "LV"
  · unfold dInts; rw [List.getLast?_map, Kw.b]; rfl
  · walk_at "LV"
  · show 2 + (dInts (runsOf col)).length ≤ 1000
    rw [dInts_len]; omega
  · rw [dInts_append]
  refine x_asg_compM (pmf := [(S' "tabs", .int (tabsN g)), (S' "blanks", .int (blanksN g)), (S' "column", .str (strL col))]) (fun j : Nat => Dt.int ((1 + j : Nat) : Int)) (List.range (topOf g col)) (fun j => tD (((1 + j : Nat) : Int), (tabsN g : Int) * ((1 + j : Nat) : Int) + (blanksN g : Int), column (col ++ [32]) ((1 + j : Nat) : Int))) 0 N O S F ⟨by decide +kernel, rfl, by decide +kernel, rfl⟩ (by rw [ec]; rfl) (dsrc := .rng ((1 : Nat) : Int) ((topOf g col + 1 : Nat) : Int) 1) (ev_range2 B N lk_range (fun _ h => h) ev_int (Ev.int_eq (ev_add ?_ ev_int) (Int.natCast_add _ _).symm)) (it_range_from hh (by omega) (by omega)) (by rw [List.length_range]; omega) ⟨rfl, by rw [lk_tabs]; decide, by decide +kernel, rfl, by rw [lk_blanks]; decide, by decide +kernel, rfl, by rw [lk_column]; decide, by decide +kernel, trivial⟩ (fun j hj => elt_of fun C H' hs N' => ?_) lk_told rfl (by decide +kernel) fun s₂ S F => ?_
  · walk_at "LV"
  · have hj' := List.mem_range.mp hj
    refine ev_tuple (hx_fs fun _ h => h) (evs_cons ?_ (evs_cons (ev_add (ev_mul ?_ ?_ (by omega)) ?_) (evs_cons (Ev.int_any (H' := H) (Ev.show (H' := H) (ev_call_d (fa_law_column B) (ev_g_law_column B N' rfl) (evs_cons (ev_catL (l := col) (l' := [32]) ?_ ev_str (by simp; omega)) (evs_cons ?_ evs_nil)) (cl_pc (pc_column (x := strL (col ++ [32])) B (by simp [strL]; omega) (by omega) (by omega)) Rm (by omega) O.hid (fun _ h => h))) hs)) evs_nil))) h3
    · walk_at "CV"
    · walk_at "CV"
    · walk_at "CV"
    · walk_at "CV"
    · walk_at "CV"
    · walk_at "CV"
  have eT : (List.range (topOf g col)).map (fun j => tD (((1 + j : Nat) : Int), (tabsN g : Int) * ((1 + j : Nat) : Int) + (blanksN g : Int), column (col ++ [32]) ((1 + j : Nat) : Int))) = (toldI g col).map tD := by unfold toldI; rw [List.map_map]; rfl
  rw [eT] at F
  clear eT
  have tl1 : (toldI g col).length ≤ 1000 := by unfold toldI; rw [List.length_map, List.length_range]; omega
  refine y_if S F (b := false) (tst_cmp (H := H) (d₁ := .list ((witI (wsAll (stO (tabsN g) (blanksN g))) (wsAll (col ++ [32]))).map tD)) (d₂ := .list ((witI (wsAll (stO (tabsN g) (blanksN g))) (wsAll (col ++ [32]))).map tD)) (ev_witW B O Rm (by omega) ?_ ?_ (by rw [st_len]; omega) (by simp; omega) allWs_st.run mr) (Ev.to (ev_compF (pmf := []) tD (toldI g col) tD (fun r => decide (r.2.1 ≥ r.2.2)) (0, 0, 0) N ⟨by decide +kernel, rfl, by decide +kernel, rfl⟩ (by rw [ec]; rfl) (dsrc := .list ((toldI g col).map tD)) ?_ (it_list hh) tl1 trivial fun r hr => elt_if fun C H' hs N' => ⟨tst_cmp (H := H') (d₁ := .int r.2.1) (d₂ := .int r.2.2) (ev_sub_ (d₁ := tD r) (d₂ := .int 1) ?_ ev_int (itm_tup (by decide) rfl (by decide))) (ev_sub_ (d₁ := tD r) (d₂ := .int 2) ?_ ev_int (itm_tup (by decide) rfl (by decide))) cmp_ge, ?_⟩) ?_) (cmp_ne_list (k := 1) (tD_ok _) (by have := Rm.un; show A.units + 2 < 9900; omega))) (fun e => nomatch e) fun _ s₃ S F => ?_
  · walk_at "LV"
  · walk_at "LV"
  · walk_at "LV"
  · walk_at "CV"
  · walk_at "CV"
  · walk_at "CV"
  · rw [K.st]
  dsimp only [List.nil_append]
  refine y_if S F (b := false) (tst_cmp (H := H) (d₁ := .list ((witI (wsAll (col ++ [32])) (wsAll (stO (tabsN g) (blanksN g)))).map tD)) (d₂ := .list ((witI (wsAll (col ++ [32])) (wsAll (stO (tabsN g) (blanksN g)))).map tD)) (ev_witW B O Rm (by omega) ?_ ?_ (by simp; omega) (by rw [st_len]; omega) mr allWs_st.run) (Ev.to (ev_compF (pmf := []) tD (toldI g col) (fun r => tD (r.1, r.2.2, r.2.1)) (fun r => decide (r.2.2 ≥ r.2.1)) (0, 0, 0) N ⟨by decide +kernel, rfl, by decide +kernel, rfl⟩ (by rw [ec]; rfl) (dsrc := .list ((toldI g col).map tD)) ?_ (it_list hh) tl1 trivial fun r hr => elt_if fun C H' hs N' => ⟨tst_cmp (H := H') (d₁ := .int r.2.2) (d₂ := .int r.2.1) (ev_sub_ (d₁ := tD r) (d₂ := .int 2) ?_ ev_int (itm_tup (by decide) rfl (by decide))) (ev_sub_ (d₁ := tD r) (d₂ := .int 1) ?_ ev_int (itm_tup (by decide) rfl (by decide))) cmp_ge, ev_tuple (hx_fs fun _ h => h) (evs_cons (ev_sub_ (d₁ := tD r) (d₂ := .int 0) ?_ ev_int (itm_tup (by decide) rfl (by decide))) (evs_cons (ev_sub_ (d₁ := tD r) (d₂ := .int 2) ?_ ev_int (itm_tup (by decide) rfl (by decide))) (evs_cons (ev_sub_ (d₁ := tD r) (d₂ := .int 1) ?_ ev_int (itm_tup (by decide) rfl (by decide))) evs_nil))) h3⟩) ?_) (cmp_ne_list (k := 1) (tD_ok _) (by have := Rm.un; show A.units + 2 < 9900; omega))) (fun e => nomatch e) fun _ s₄ S F => k s₄ S (F.cov ⟨rfl, rfl, rfl, rfl, rfl, trivial⟩)
  · walk_at "LV"
  · walk_at "LV"
  · walk_at "LV"
  · walk_at "CV"
  · walk_at "CV"
  · walk_at "CV"
  · walk_at "CV"
  · walk_at "CV"
  · rw [K.more, List.map_map]; rfl
end
end

section

structure BkOk (v : Nat) (g : List Int) (col : List Nat) : Prop where
  lt : ∀ i, i < g.length → orbOf v g.length (blanksN g) col i < g.length
  bits : ((List.range g.length).map fun i => bitOf (col.getD (orbOf v g.length (blanksN g) col i) 0)).reverse = g
  start : startOf v g.length < g.length
theorem bkOk {v : Nat} {g : List Int} {col : List Nat} (h : okBack v g col = true) : BkOk v g col := by
  unfold okBack at h
  simp only [Bool.and_eq_true, beq_iff_eq] at h
  refine ⟨fun i hi => ?_, h.1.2, by rw [← Nat.blt_eq]; exact h.2⟩
  have := List.all_eq_true.mp h.1.1 i (List.mem_range.mpr hi)
  rwa [Nat.blt_eq] at this
theorem tw_get {α : Type} (p : α → Bool) : ∀ (l : List α) (h : (l.takeWhile p).length < l.length), ∃ x, l[(l.takeWhile p).length]? = some x ∧ p x = false
  | [], h => by simp at h
  | a :: l, h => by
    rw [List.takeWhile_cons] at h ⊢
    cases e : p a with
    | false => exact ⟨a, by simp, e⟩
    | true =>
      rw [e] at h
      simp only [if_true, List.length_cons] at h ⊢
      obtain ⟨x, h1, h2⟩ := tw_get p l (by omega)
      exact ⟨x, by simpa using h1, h2⟩
theorem tw_before {α : Type} (p : α → Bool) : ∀ (l : List α) (m : Nat) (x : α), m < (l.takeWhile p).length → l[m]? = some x → p x = true
  | [], m, x, h, _ => by simp at h
  | a :: l, m, x, h, e => by
    rw [List.takeWhile_cons] at h
    cases q : p a with
    | false => rw [q] at h; simp at h
    | true =>
      rw [q] at h
      simp only [if_true, List.length_cons] at h
      cases m with
      | zero => simp at e; subst e; exact q
      | succ m => exact tw_before p l m x (by omega) (by simpa using e)
section
variable {prog : Program} {w : World} {A : Around} {h₀ h₁ : Heap} {s₀ s : Shared} {W : List Addr} {env : Env} {H H' : List Addr} {own : List (Addr × Ow)} {pm : List (Str × Dt)} {mg mb : Str → Option Value} {oa : List Addr} {L m : Nat} {q : Str} {Q : Flow → Shared → Prop} {nm : List (Str × NameKind)} {f : Addr}
  {m0 m1 : List Nat} {g : List Int} {v : Nat} {col : List Nat} {p0 p1 : Nat} {wh : Bool} {a b c : Addr} {e o : Expr} {p pos apos : Pos} {l l' : List Nat}
section
variable {Φ : Sp} {value up : Expr} {pp : Pos}
theorem ev_str_uptoA {x : Str} {k : Nat} (hv : Ev prog w A Φ H env value (.str x)) (hu : Ev prog w A Φ H env up (.int k)) (hk : k ≤ x.cps.toList.length) (hz : x.cps.toList.length ≤ 1000) (ht : ∀ t r, letTemporaryGo value (.str x t) r = pure () := by intro _ _; rfl) :
    Ev prog w A Φ H env (.Subscript value (.Slice none (some up) none pp) pos) (.str ⟨(x.cps.toList.take k).toArray⟩) := ⟨fun s hs Q E q => by
  refine Subscript_ (hv.run s hs _ _ fun v s₁ k₁ r₁ => wpAny_Slice (evp_none.run s₁ (Φ.st _ _ hs k₁) _ _ fun vl s₂ k₂ p₂ => hu.run s₂ (Φ.st _ _ hs (keepsTrans k₁ k₂)) _ _ fun vu s₃ k₃ r₃ => evp_none.run s₃ (Φ.st _ _ hs (keepsTrans (keepsTrans k₁ k₂) k₃)) _ _ fun vp s₄ k₄ p₄ => ?_))
  obtain ⟨t, rfl⟩ := r₁
  obtain ⟨u, rfl⟩ := r₃
  cases p₂
  cases p₄
  have hsl : x.length ≤ sizeLine := by
    have : x.length = x.cps.toList.length := by show x.cps.size = _; rw [Array.length_toList]
    rw [sizeLine_eq, this]; omega
  have k14 := keepsTrans (keepsTrans (keepsTrans k₁ k₂) k₃) k₄
  refine tail_of_ItemOn (SBH.sliceItem_ns (P := fun h => ∀ b o, s₄.heap.get? b = some o → h.get? b = some o) (fun h ob hP b o e => Heap.get?_push_of_some _ (hP b o e)) (fun _ _ e => e) (fun h' t' kk hP => ?_) hsl) (by rfl) (ht _)
  refine q _ _ (keepsTrans k14 ⟨h', kk, rfl, hP⟩) ?_
  have h := slice_closes_to (x := x) (j := (k : Int)) ⟨by omega, by omega⟩
  rw [eq_of_beq h]
  exact ⟨t', by simp⟩⟩
end
theorem law_8b (B : Base w mg mb h₀) (N : Nm env lawNm) (O : FOk h₀ W env H [c, b, a, 172]) (ec : env.cells = lawCells L) (Rm : Room A m) (hm : 8 ≤ m) (S : Chg W s₀ s) (R : RK g v col) (ap : apart (markOf wh p0) (markOf wh p1) = true)
    (F : FSt h₀ env H (ownAt a b c q (markOf wh p0) (markOf wh p1) g v g.length) (pmG a c g col wh p0 p1) s)
    (k : ∀ s' pm', Chg W s₀ s' → FSt h₀ env H (ownAt a b c q (markOf wh p0) (markOf wh p1) g v g.length) pm' s' → Q (.ret (.bool true)) s') : Ex prog w A (lawBody.drop 31) env Q s := by
  have hh : A.handled = none := Rm.hh
  have n8 := R.n8
  have n6 := R.n6
  have cl : col.length = g.length := by rw [R.hcol]; exact col_len
  have cw : AllWs col := by rw [R.hcol]; exact col_ws
  have K := bkOk R.back
  have Kw := wsOk R.ws
  have lr := lead_run cw
  have rl : (rowsR v g.length g.length).length = g.length := rowsR_len _
  have ta := to_all (g := g)
  have bs := bits_sum R.bit
  have tl : tabsN g + blanksN g = g.length := by unfold blanksN tabsN; omega
  unfold pmG at F
  refine x_asg_local (d := .int (startOf v g.length : Nat)) N O S F (Ev.int_any (H' := vis a H) (Ev.show (H' := vis a H) (ev_meth (id := "list.index") (d₀ := .list (dInts ((rowsR v g.length g.length).map fun j : Nat => (j : Int)))) (ds := [.int 0]) (Ev.to (ev_compM (pmf := []) (rowD (markOf wh p0) (markOf wh p1) g) (rowsR v g.length g.length) (fun j => .int j) 0 N ⟨by decide +kernel, rfl, by decide +kernel, rfl⟩ rfl (dsrc := .list (rowsD (markOf wh p0) (markOf wh p1) g (rowsR v g.length g.length))) (ev_owned (l := a) ?_ (by simp [ownAt]) vis_not (fun _ h => h)) (it_list hh) (by omega) trivial fun j hj => elt_of fun C H'' hs N' => ev_sub_ (d₁ := rowD (markOf wh p0) (markOf wh p1) g j) (d₂ := .int 1) ?_ ev_int (itm_tup (by decide) rfl (by decide))) ?_) (gm_list PySem.F.slot_list_index PySem.F.type_list_index) (evs_cons ev_int evs_nil) (cl_index (j := startOf v g.length) ?_ ?_ (by simp; omega))) vis_sub)) lk_start fun s₁ S F => ?_
  · walk_at "LV"
  · walk_at "CV"
  · simp [dInts, Function.comp_def]
  · obtain ⟨x, h1, h2⟩ := tw_get (fun j => j != 0) (rowsR v g.length g.length) (by rw [rl]; exact K.start)
    have hx : x = 0 := by simpa using h2
    subst hx
    rw [List.getElem?_map]
    unfold startOf
    rw [h1]; rfl
  · intro m hm' e
    rw [List.getElem?_map] at e
    obtain ⟨x, h1, h2⟩ := Option.map_eq_some_iff.mp e
    have := tw_before (fun j => j != 0) (rowsR v g.length g.length) m x hm' h1
    have hx : x ≠ 0 := by simpa using this
    omega
  refine y_ret (H' := H) (d := .bool true) S F (Ev.bool_any (H' := vis c H) (Ev.show (H' := vis c H) (ev_cmp (d₁ := .list (dInts g)) (d₂ := .list (dInts g)) (Ev.to (ev_call_d (fa_law_back B) (ev_g_law_back B N lk_law_back) (ds := [.str (strL col), .int (startOf v g.length : Nat), .list (dStrs (headsS (markOf wh p0) (markOf wh p1) (blanksN g) (tabsN g))), .list [.str (strL (markOf wh p0)), .str (strL (markOf wh p1))]]) (evs_cons (Ev.to (ev_str_uptoA (x := leadS col) (k := g.length) (ev_field (fs₁ := wsFields (leadS col)) B ?_ rfl (by walk_at "FLD") (by walk_at "FLD") (by walk_at "FLD")) (Ev.int_eq (ev_field (fs₁ := wsFields (leadS col)) B ?_ rfl (by walk_at "FLD") (by walk_at "FLD") (by walk_at "FLD")) ?_) ?_ ?_) ?_) (evs_cons ?_ (evs_cons (ev_owned (l := c) ?_ ?_ vis_not (fun _ h => h)) (evs_cons ?_ evs_nil)))) (cl_pc (pc_back (p0 := 0) (p1 := blanksN g) (start := startOf v g.length) B (orbOf v g.length (blanksN g) col) (fun i => col.getD (orbOf v g.length (blanksN g) col i) 0) ?_ ?_ (Nat.zero_le _) ?_ (heads_hp0 ap) (heads_hp1 ap) rfl ?_ ?_) Rm (by omega) (fun a ha => O.hid a (vis_sub a ha)) (fun _ h => h))) ?_) ?_ (cmp_eq_list (k := 0) ?_ (by have := Rm.un; show A.units + 1 < 9900; omega))) vis_sub)) fun r s' S F e => by obtain rfl : r = .bool true := e; exact k s' _ S F
  · walk_at "LV"
  · walk_at "LV"
  · rw [lr, Kw.n]
  · unfold leadS; rw [strL_list]; simp; omega
  · unfold leadS; rw [strL_list]; simp; omega
  · unfold leadS
    rw [strL_list, ← cl, List.take_left]; rfl
  · walk_at "LV"
  · walk_at "LV"
  · unfold ownAt; rw [ta.1, ta.2]; simp
  · walk_at "LV"
  · rw [strL_list]; omega
  · rw [headsS_len]; omega
  · rw [headsS_len]; omega
  · intro i hi
    rw [strL_list] at hi ⊢
    have := K.lt i (by omega)
    rw [List.getD_eq_getElem?_getD, List.getElem?_eq_getElem (by omega)]; rfl
  · intro i hi; rfl
  · rw [strL_list, cl, K.bits]
  · walk_at "LV"
  · intro x hx
    obtain ⟨i, _, rfl⟩ := List.mem_map.mp hx
    trivial
end
end

section
theorem ring_bits (ns : List Int) : Bits (ringOf ns) := fun x hx => by
  obtain ⟨y, _, rfl⟩ := List.mem_map.mp hx
  omega
theorem cells_nn (ns : List Int) : ∀ x ∈ cellsOf ns, 0 ≤ x := fun x hx => by
  rcases List.mem_append.mp hx with h | h
  · obtain ⟨y, _, rfl⟩ := List.mem_map.mp h
    omega
  · have := List.mem_of_mem_drop h
    simp only [List.mem_cons, List.not_mem_nil, or_false] at this
    omega
theorem sum_nn : ∀ l : List Int, (∀ x ∈ l, 0 ≤ x) → 0 ≤ l.sum
  | [], _ => by simp
  | x :: l, h => by
    rw [List.sum_cons]
    have h1 := h x (.head _)
    have h2 := sum_nn l fun y hy => h y (.tail _ hy)
    omega
theorem total_nat (ns : List Int) : ((cellsOf ns).map fun x => x / 2).sum = (((cellsOf ns).map fun x => x / 2).sum.toNat : Int) := by
  have := sum_nn ((cellsOf ns).map fun x => x / 2) fun y hy => by
    obtain ⟨x, hx, rfl⟩ := List.mem_map.mp hy
    have := cells_nn ns x hx
    show 0 ≤ x / 2
    omega
  omega
section
variable {prog : Program} {w : World} {A : Around} {h₀ h₁ : Heap} {s₀ s : Shared} {W : List Addr} {env : Env} {H H' : List Addr} {mg mb : Str → Option Value} {L m : Nat} {q : Str} {Q : Flow → Shared → Prop}
theorem law_run {ns : List Int} (B : Base w mg mb h₀) (M : Maker mg h₀) (N : Nm env lawNm) (O : FOk h₀ W env H [172]) (ec : env.cells = lawCells L) (hcode : env.code = .ref 174) (hq : env.qual ++ "<lambda>" = q) (Rm : Room A m) (hm : 8 ≤ m) (S : Chg W s₀ s) (hn : ns.length ≤ 63)
    (F : FSt h₀ env H [(172, .tab q)] [(S' "script", .lax (dInts ns))] s)
    (k : ∀ W' H' own pm s', Chg W' s₀ s' → FSt h₀ env H' own pm s' → (172, .tab q) ∈ own → Q (.ret (.bool true)) s') : Ex prog w A lawBody env Q s := by
  have lc := cells_len ns
  have lr : (ringOf ns).length = (cellsOf ns).length := by unfold ringOf; rw [List.length_map]
  have R := ring_ok (g := ringOf ns) (by omega) (by omega) (ring_bits ns)
  refine law_1 B N O ec Rm S hn F fun s S F => ?_
  refine law_2 B N O ec Rm S R.bit (by omega) (by omega) (total_nat ns) F fun s S F => ?_
  refine law_3 B M N O ec hcode hq Rm hm S (by omega) F fun a b s ha hb ap S F => ?_
  refine law_4 B M N O ec hcode hq Rm hm S R ap (mark_len _ _ ha) (mark_len _ _ hb) F fun a' b' c' s O S F => ?_
  refine law_5a B N O ec Rm S R.bit R.n8 (mark_len _ _ ha) (mark_len _ _ hb) F fun s S F => ?_
  refine law_5b B M N O ec hcode hq Rm hm S R F fun s S F => ?_
  refine law_6a B N O ec Rm hm S R F fun s S F => ?_
  refine law_6b B N O ec Rm hm S R F fun s S F => ?_
  refine law_7 B N O ec Rm hm S R F fun s S F => ?_
  refine law_8a B N O ec Rm hm S R F fun s S F => ?_
  exact law_8b B N O ec Rm hm S R ap F fun s' pm' S F => k _ _ _ _ s' S F (by simp [ownAt])
end
theorem rd_intsL {h : Heap} {H : List Addr} : ∀ {vs : List Value} {ns : List Int}, IntsAre vs ns → RdAll h H (dInts ns) vs
  | _, _, .nil => rfl
  | _, _, .cons n t r => ⟨.int n t, _, rfl, ⟨t, rfl⟩, rd_intsL r⟩
end

set_option maxHeartbeats 1000000 in
theorem final : PySem.Challenge.rw_rs0205_01.Holds := Mine.hd ⟨left_ok, by
  k_fill
  intro w s₀ s₁ mg mb G Y fa o pm cd doc dV kV ho hd hcd hD hmg hg args vals as hpre hlay hrd hwl hlo
  have KX := km_in_of Y
  km_tabs Y
  have X := (Ground.X G).1
  have V := (Ground.X G).2
  refine Ground.open G ?_
  intro T B D TE TW
  try (refine guard_noD D (by decide +kernel) ?_; clear D)
  km_lay T hmg ho hd cd
  clear hmg
  wrow_args hpre hlay hrd hwl hlo
  all_goals (
    first | refine callC_kw (enter_call ?_) | refine enter_call ?_)
  w_top on
  kn_posts
  rename_i ns _ _ _ _ _ _ _ la vs _ hL _ _ _ hI _ hlen _
  have edV : dV = .none := by
    rcases hD.pos with h | h
    · exact h.2
    · exact absurd rfl h.1
  have ekV : kV = .none := by
    rcases hD.kw with h | h
    · exact h.2
    · exact absurd rfl h.1
  subst edV ekV
  have T' := ghost_top hT9 T
  have B' : Base w mg mb (ghostOf s₁.heap [(174, 172)]) := ⟨ghost_K hT9 KX (by kernel_rfl), T'.g, T'.b, T'.nolimit, T'.builtins⟩
  have M' : Maker mg (ghostOf s₁.heap [(174, 172)]) := ⟨(ghost_code hT9).1, by
    obtain ⟨bm, ob, h1, h2, h3, h4, h5, h6⟩ := T'.bmain
    refine ⟨bm, ob, h1, h2, fun e => ?_, h3, h4, h5, h6⟩
    obtain ⟨o', es, ep, g1, g2, _⟩ := T'.g
    rw [← e, h3] at g1
    cases g1
    rw [h6] at g2; cases g2⟩
  have h172 : s₁.heap.get? 172 = some (tabObj #[]) := (hT9 _ (.head _)).2
  have la172 : la ∉ ([172] : List Addr) := fun e => by
    rw [List.mem_singleton.mp e] at hL
    obtain ⟨o', g1, g2, _⟩ := hL
    rw [h172] at g1; cases g1; cases g2
  have Rm : Room callerA 9 := ⟨rfl, by decide, by decide⟩
  refine call_fn_c (n := 9) (h₀ := ghostOf s₁.heap [(174, 172)]) (H := [172]) (own := [(172, .tab (S' "law.<locals>.<lambda>"))]) (oa := [172]) (mg := mg) (mb := mb) (body := lawBody) (binds := [(S' "script", .ref la)]) [(S' "script", .lax (dInts ns))] Rm B' (fun b o e => of_hideAll _ e) (fun a ha => hideAll_none _ ha) (fun a ha => ⟨tabObj #[], by obtain rfl := List.mem_singleton.mp ha; exact h172⟩) ho hd hcd (by kernel_rfl) rfl rfl rfl ?_ ?_ ?_ (fun _ h => h) (List.pairwise_singleton ..) rfl (rdb_cons ⟨la, vs, rfl, la172, hL, rd_intsL hI⟩ rdb_nil) ?_ rfl rfl rfl
  · rfl
  · intro L x hx
    rw [List.mem_singleton.mp hx]
    exact .inl (by kernel_rfl)
  · intro p hp
    rw [List.mem_singleton.mp hp]
    exact ⟨#[], h172, trivial, fun pos v e => nomatch e⟩
  · intro env s₂ L CA N eL ec eq ecode fresh O F C
    have N' : Nm env lawNm := by
      refine ⟨?_, N.kind, N.ge, N.be⟩
      rw [N.names]
      kernel_rfl
    have ec' : env.cells = lawCells L := by
      rw [ec]
      kernel_rfl
    refine law_run (m := 8) B' M' N' O ec' ecode (by rw [eq]; kernel_rfl) Rm.deeper (Nat.le_refl _) (C.more fun a ha => nomatch ha) (by omega) F fun W' H' own pm' s' S' F' hm => ?_
    obtain ⟨h', tk, rfl, _⟩ := S'
    obtain ⟨h'', tk', rfl, _⟩ := C
    obtain ⟨ps, g1, _⟩ := F'.owns _ hm
    show GoodW _ _ _ _ _ (.ok (.ret (.bool true))) _ ∧ _
    refine ⟨⟨.inl ⟨.bool true, .bool true, [], rfl, fun _ => rfl, ?_, ?_, ?_⟩, F'.base, rfl, hg⟩, ⟨ps, g1⟩, trivial⟩
    · exact .bool true
    · wrow_post
    · exact fun _ => ⟨.nil, fun _ h => nomatch h⟩⟩
end Mine
theorem PySem.Challenge.cw_rs0205_01_holds : PySem.Challenge.rw_rs0205_01.Holds := by
  exact Mine.final
