import PyProof.Rows.All
import Wide.All
import OpenK.AllK
import Wide.FinOn
import Open.Tops
import PyProof.GenObj
import Lean
import PySem.Challenge.RW_sn0084_01
section
open PySem PySem.W PyProof.Rows PySem.Calls PySem.Spec
set_option Elab.async false
set_option maxRecDepth 100000
set_option maxHeartbeats 4000000
namespace Mine
noncomputable abbrev pg : Program := PySem.Challenge.pw_sn0084_01
noncomputable def fnS (i : Nat) : Stmt := pg.main.body.getD i (.Pass ⟨0, 0, 0, 0⟩)
noncomputable def bodyOf : Stmt → List Stmt
  | .FunctionDef _ _ b _ _ _ _ _ _ _ => b
  | .ClassDef _ _ _ b _ _ _ _ _ _ _ => b
  | _ => []
noncomputable def paramsOf : Stmt → Arguments
  | .FunctionDef _ a _ _ _ _ _ _ _ _ => a
  | _ => ⟨[], [], none, [], [], none, []⟩
noncomputable def nameOf : Stmt → Str
  | .FunctionDef n _ _ _ _ _ _ _ _ _ => n
  | _ => ""
noncomputable def scopeOf : Stmt → Scope
  | .FunctionDef _ _ _ _ _ _ s _ _ _ => s
  | _ => default
noncomputable abbrev Ext (h h' : Heap) : Prop := ∀ b o, h.get? b = some o → h'.get? b = some o
noncomputable def FnAt (h : Heap) (a : Addr) (st : Stmt) : Prop :=
  ∃ o pm code doc, h.get? a = some o ∧ o.data = .func (docDef (nameOf st) (paramsOf st) (bodyOf st) (scopeOf st) pm code doc) ∧ h.CodeRec code (nameOf st)
theorem FnAt.keeps {h h' : Heap} {a : Addr} {st : Stmt} (x : FnAt h a st) (k : Ext h h') : FnAt h' a st :=
  let ⟨o, pm, code, doc, h1, h2, h3⟩ := x; ⟨o, pm, code, doc, k _ _ h1, h2, h3.keeps k⟩

noncomputable def strOfC : PySem.Expr → PyData
  | .Constant (.str x) _ _ => .str x
  | _ => .none
noncomputable def intOfC : PySem.Expr → PyData
  | .Constant (.int i) _ _ => .int i
  | _ => .none
noncomputable def dictOfS : Stmt → List (PyData × PyData)
  | .Assign _ (.Dict ks vs _) _ => (ks.zip vs).map fun p => ((p.1.map intOfC).getD .none, strOfC p.2)
  | _ => []
noncomputable def tabC : List (PyData × PyData) := dictOfS (fnS 4)
noncomputable def tabB : List (PyData × PyData) := dictOfS (fnS 11)

structure GA where
  pf : Addr
  ie : Addr
  sq : Addr
  cp : Addr
  mb : Addr
  lw : Addr
  lu : Addr
  ws : Addr
  dC : Addr
  dB : Addr

/-- what the calls read of the text's top -/
structure Tp (G : GA) (mg mb : Str → Option Value) (w : World) (h : Heap) : Prop where
  g : h.Ns mainGlobals mg
  b : h.Ns builtinsNs mb
  nolimit : h.NoLimit
  bi : ∀ x : Str, x ≠ "__name__" → mb x = bootBuiltins x
  free : ∀ x ∈ (["len", "sum", "chr", "range", "ord", "hex", "enumerate", "tuple"] : List Str), mg x = none
  m_pf : mg "pretty_flags" = some (.ref G.pf)
  m_ie : mg "_iter_escaped_chars" = some (.ref G.ie)
  m_sq : mg "_strip_quoted_realnames" = some (.ref G.sq)
  m_cp : mg "_check_parenthesis" = some (.ref G.cp)
  m_mb : mg "map_table_b3" = some (.ref G.mb)
  m_lw : mg "_law_word" = some (.ref G.lw)
  m_lu : mg "_law_up" = some (.ref G.lu)
  m_ws : mg "Whitespace" = some (.ref G.ws)
  m_dC : mg "COMPILER_FLAG_NAMES" = some (.ref G.dC)
  m_dB : mg "b3_exceptions" = some (.ref G.dB)
  f_pf : FnAt h G.pf (fnS 5)
  f_ie : FnAt h G.ie (fnS 7)
  f_sq : FnAt h G.sq (fnS 8)
  f_cp : FnAt h G.cp (fnS 9)
  f_mb : FnAt h G.mb (fnS 12)
  f_lw : FnAt h G.lw (fnS 14)
  f_lu : FnAt h G.lu (fnS 15)
  t_C : IntTab pg w h G.dC tabC
  t_B : IntTab pg w h G.dB tabB

variable {G : GA} {mg mb : Str → Option Value} {w : World}
theorem Tp.keeps {h h' : Heap} (x : Tp G mg mb w h) (k : Ext h h') : Tp G mg mb w h' where
  g := x.g.keeps k
  b := x.b.keeps k
  nolimit := x.nolimit.keeps k
  bi := x.bi
  free := x.free
  m_pf := x.m_pf
  m_ie := x.m_ie
  m_sq := x.m_sq
  m_cp := x.m_cp
  m_mb := x.m_mb
  m_lw := x.m_lw
  m_lu := x.m_lu
  m_ws := x.m_ws
  m_dC := x.m_dC
  m_dB := x.m_dB
  f_pf := x.f_pf.keeps k
  f_ie := x.f_ie.keeps k
  f_sq := x.f_sq.keeps k
  f_cp := x.f_cp.keeps k
  f_mb := x.f_mb.keeps k
  f_lw := x.f_lw.keeps k
  f_lu := x.f_lu.keeps k
  t_C := TabAt.keep x.t_C k
  t_B := TabAt.keep x.t_B k

section
variable {prog : Program} {M : Model} {A : Around} {E : Value → Shared → Prop} {s : Shared} {env : Env} {x : Str} {pos : Pos} {v : Value} {Q : Value → Shared → Prop}
/-- a name of the top, in any function's block -/
theorem nm_glob (T : Tp G mg mb w s.heap) (hb : mg x = some v) (h : Q v s)
    (hg : env.globals = mainGlobals := by rfl) (hk : env.scope.kind = .function := by rfl) (hx : env.kindOf x = some .globalImplicit := by rfl) (hd : (x == ("__debug__" : Str)) = false := by decide) :
    wpAny M A (eval (.Name x pos) env) Q E s := Name_function_global hk hx (loadGlobal_global (env := env) (hg ▸ T.g) hb h) hd
/-- a built-in's name -/
theorem nm_boot (T : Tp G mg mb w s.heap) (hm : x ∈ (["len", "sum", "chr", "range", "ord", "hex", "enumerate", "tuple"] : List Str)) (hv : bootBuiltins x = some v) (h : Q v s)
    (hn : x ≠ "__name__" := by decide) (hbn : env.builtins = builtinsNs := by rfl)
    (hg : env.globals = mainGlobals := by rfl) (hk : env.scope.kind = .function := by rfl) (hx : env.kindOf x = some .globalImplicit := by rfl) (hd : (x == ("__debug__" : Str)) = false := by decide) :
    wpAny M A (eval (.Name x pos) env) Q E s :=
  Name_function_global hk hx (loadGlobal_builtin (env := env) (hg ▸ T.g) (T.free x hm) (hbn ▸ T.b) ((T.bi x hn).trans hv) h) hd
end
end Mine
end
section
open PySem PySem.W PyProof.Rows PySem.Calls PySem.Spec
set_option Elab.async false
set_option maxRecDepth 100000
set_option maxHeartbeats 4000000
set_option linter.unusedVariables false
set_option autoImplicit false
namespace Mine
section
variable {w : World} {A : Around} {E : Value → Shared → Prop} {s : Shared} {env : Env}
/-- a for loop over anything that walks, by an invariant over the turn's number and the whole state -/
theorem for_walk {R : Result → Shared → Prop} {target : PySem.Expr} {body orelse : List Stmt} {I : Addr} {fp wr : List Addr} {n : Nat} {P : Nat → Value → Prop} {St : Nat → Heap → Prop}
    (W : Walks pg w A I fp wr n P St) (J : Nat → Shared → Prop) (hst : ∀ i s, J i s → St i s.heap)
    (step : ∀ i (s : Shared) v h' tk, i < n → J i s → P i v → St (i + 1) h' → (∀ b o, b ∉ wr → s.heap.get? b = some o → h'.get? b = some o) →
      wpAny (model pg w) A (assign target env v) (fun _ s₂ => wpAny (model pg w) A (execs body env) (fun f s₃ => match f with
          | .next | .cont => J (i + 1) s₃
          | .brk => R (.ok .next) s₃
          | .ret v => R (.ok (.ret v)) s₃) (fun _ _ => False) s₂) (fun _ _ => False) { s with heap := h', toks := tk })
    (done : ∀ (s : Shared) h' tk, J n s → (∀ b o, b ∉ wr → s.heap.get? b = some o → h'.get? b = some o) →
      wpAny (model pg w) A (execs orelse env) (fun f s₃ => R (.ok f) s₃) (fun _ _ => False) { s with heap := h', toks := tk })
    (h0 : J 0 s) (ht : ∀ v, letOwnedTupleGo target (.ref I) v = pure () := by intro _; rfl) : codeAny (model pg w) A (.forLoop target (.ref I) body orelse env) R s := by
  refine codeAny_forLoop (fun k s' => ∃ i, i ≤ n ∧ k = n + 1 - i ∧ J i s') ?_ (n + 1) ⟨0, Nat.zero_le _, rfl, h0⟩ ht
  rintro k s' ⟨i, hi, rfl, hJ⟩
  by_cases hlt : i < n
  · refine W.item i s' _ _ hlt (hst i s' hJ) fun v h' tk hP hS hk => ?_
    refine wpAny_mono (step i s' v h' tk hlt hJ hP hS hk) (fun _ s₂ h₂ => wpAny_mono h₂ (fun f s₃ h₃ => ?_) fun _ _ x => x.elim) fun _ _ x => x.elim
    cases f with
    | next => exact ⟨n + 1 - (i + 1), by omega, i + 1, hlt, rfl, h₃⟩
    | cont => exact ⟨n + 1 - (i + 1), by omega, i + 1, hlt, rfl, h₃⟩
    | brk => exact h₃
    | ret v => exact h₃
  · have e : i = n := by omega
    subst e
    refine W.done s' _ _ (hst i s' hJ) fun h' tk hk => ?_
    exact wpAny_mono (done s' h' tk hJ hk) (fun _ _ x => x) fun _ _ x => x.elim

theorem range_it {a b : Int} {t u : Tok} {Q : Value → Shared → Prop} (ha : -1000 ≤ a) (ha' : a ≤ 1000) (hb : -1000 ≤ b) (hb' : b ≤ 1000)
    (h : ∀ I h' tk, Ext s.heap h' → s.heap.objs.size ≤ I → I < h'.objs.size → IsRangeIter h' I a ((b - a).toNat : Int) 1 → Q (.ref I) { s with heap := h', toks := tk }) :
    wpAny (model pg w) A (call (.type "range") [.int a t, .int b u]) (fun x s₁ => wpAny (model pg w) A (pyIter x) Q E s₁) E s := by
  refine call_range_2 ?_
  refine wpAny_pyIter_range (IsRange.new _ _ _ _ _ _ _) (small_one (by omega) (by omega) (by omega) (by omega)) ?_
  rw [rangeSize_nat]
  refine h _ _ _ (fun b o e => Heap.get?_push_of_some _ (Heap.get?_push_of_some _ e)) ?_ ?_ ?_
  · simp only [Heap.size_push]; omega
  · simp only [Heap.size_push]; omega
  · exact Heap.get?_push_size _ rfl
theorem range_it1 {b : Int} {u : Tok} {Q : Value → Shared → Prop} (hb : -1000 ≤ b) (hb' : b ≤ 1000)
    (h : ∀ I h' tk, Ext s.heap h' → s.heap.objs.size ≤ I → I < h'.objs.size → IsRangeIter h' I 0 (b.toNat : Int) 1 → Q (.ref I) { s with heap := h', toks := tk }) :
    wpAny (model pg w) A (call (.type "range") [.int b u]) (fun x s₁ => wpAny (model pg w) A (pyIter x) Q E s₁) E s := by
  refine call_range_1 ?_
  refine wpAny_pyIter_range (IsRange.new _ _ _ _ _ _ _) (small_one (by omega) (by omega) (by omega) (by omega)) ?_
  rw [rangeSize_nat, show b - 0 = b by omega]
  refine h _ _ _ (fun b o e => Heap.get?_push_of_some _ (Heap.get?_push_of_some _ e)) ?_ ?_ ?_
  · simp only [Heap.size_push]; omega
  · simp only [Heap.size_push]; omega
  · exact Heap.get?_push_size _ rfl
end
end Mine
end
section
open PySem PySem.W PyProof.Rows PySem.Calls PySem.Spec
set_option Elab.async false
set_option maxRecDepth 100000
set_option maxHeartbeats 1000000
set_option autoImplicit false
namespace Mine
section rt
variable {α β : Type} {w : World} {n₀ : Nat} {ann : Option Value}

theorem segRun_mono {tb : String → Option Builtin} {p : Program} {w : World} {n₀ : Nat} {ann : Option Value} {b : Nat} (k : Nat) : ∀ (n : Nat) (s : Shared) (t : Thread) (r : Flow × Shared × Code × Pos),
    segRun tb p w n₀ ann b n s t = some r → segRun tb p w n₀ ann b (n + k) s t = some r
  | 0, _, _, _, h => by simp [segRun] at h
  | n + 1, s, t, r, h => by
    rw [show n + 1 + k = n + k + 1 by omega]
    unfold segRun at h ⊢
    cases he : endAt b t with
    | some f => rw [he] at h; exact h
    | none =>
      rw [he] at h
      cases hk : stepOk n₀ ann t with
      | false => rw [hk] at h; cases h
      | true =>
        rw [hk] at h
        cases hs : step (denote tb) p w s t with
        | halt o s' => rw [hs] at h; cases h
        | go s' t' => rw [hs] at h; exact segRun_mono k n s' t' r h

/-- the tree t, run at p from s, ends in a at p' with s' left, within n steps, whatever stands behind it and whatever frames lie below -/
noncomputable def Rt (w : World) (n₀ : Nat) (ann : Option Value) (t : Sem α) (p : Pos) (s : Shared) (a : α) (p' : Pos) (s' : Shared) (n : Nat) : Prop :=
  ∀ (K : α → Sem Fin) (H : Value → Sem Fin) (gd : Bool → Bool) (lv : List Value → List Value) (c : Code) (B : List Frame) (b N : Nat) (r : Flow × Shared × Code × Pos), b ≤ B.length →
    segRun treeTable pg w n₀ ann b N s' ⟨K a, c, p', B⟩ = some r → segRun treeTable pg w n₀ ann b (n + N) s ⟨t.wrap K H gd lv, c, p, B⟩ = some r

variable {t : Sem α} {f : α → Sem β} {p p' p₁ : Pos} {s s' s₁ : Shared} {a : α} {b : β} {n m : Nat}

theorem Rt.pure : Rt w n₀ ann (Pure.pure a : Sem α) p s a p s n := fun K H gd lv c B b N r hb h => by
  rw [Nat.add_comm]
  exact segRun_mono n _ _ _ _ h
theorem Rt.le {k : Nat} (x : Rt w n₀ ann t p s a p' s' n) (hk : n ≤ k) : Rt w n₀ ann t p s a p' s' k := fun K H gd lv c B b N r hb h => by
  rw [show k + N = (n + N) + (k - n) by omega]
  exact segRun_mono _ _ _ _ _ (x K H gd lv c B b N r hb h)
theorem Rt.bind (x : Rt w n₀ ann t p s a p₁ s₁ n) (y : Rt w n₀ ann (f a) p₁ s₁ b p' s' m) : Rt w n₀ ann (t >>= f) p s b p' s' (n + m) := fun K H gd lv c B b N r hb h => by
  rw [Sem.bind_eq_wrap', Sem.wrap_wrap, Nat.add_assoc]
  exact x (fun a => (f a).wrap K H gd lv) _ _ _ c B b (m + N) r hb (y K H gd lv c B b N r hb h)
theorem Rt.keep {vs : List Value} (x : Rt w n₀ ann t p s a p' s' n) : Rt w n₀ ann (t.keep vs) p s a p' s' n := fun K H gd lv c B b N r hb h => by
  rw [Sem.keep_eq_wrap, Sem.wrap_wrap]
  exact x K _ _ _ c B b N r hb h
theorem Rt.holding {vs : List Value} (x : Rt w n₀ ann t p s a p' s' n) : Rt w n₀ ann (PySem.holding vs t) p s a p' s' n := by
  unfold PySem.holding
  split
  · exact x
  · exact x.keep
theorem Rt.onRaise {h : Value → Sem Unit} (x : Rt w n₀ ann t p s a p' s' n) : Rt w n₀ ann (t.onRaise h) p s a p' s' n := fun K H gd lv c B b N r hb h => by
  rw [Sem.onRaise_eq_wrap, Sem.wrap_wrap]
  exact x K _ _ _ c B b N r hb h
theorem Rt.tryCatch {h : Value → Sem α} (x : Rt w n₀ ann t p s a p' s' n) : Rt w n₀ ann (tryCatch t h) p s a p' s' n := fun K H gd lv c B b N r hb hh => by
  show segRun _ _ _ _ _ _ _ _ ⟨(Sem.tryCatch t h).wrap K H gd lv, _, _, _⟩ = _
  rw [Sem.tryCatch_eq_wrap, Sem.wrap_wrap]
  exact x K _ _ _ c B b N r hb hh
/-- one step of a node that is let by -/
theorem Rt.node {t t₁ : Sem α} (hs : ∀ (K : α → Sem Fin) H gd lv c B, step (denote treeTable) pg w s ⟨t.wrap K H gd lv, c, p, B⟩ = .go s₁ ⟨t₁.wrap K H gd lv, c, p₁, B⟩)
    (he : ∀ (K : α → Sem Fin) H gd lv c B b, endAt b ⟨t.wrap K H gd lv, c, p, B⟩ = none) (hk : ∀ (K : α → Sem Fin) H gd lv c B, stepOk n₀ ann ⟨t.wrap K H gd lv, c, p, B⟩ = true)
    (x : Rt w n₀ ann t₁ p₁ s₁ a p' s' n) : Rt w n₀ ann t p s a p' s' (n + 1) := fun K H gd lv c B b N r hb h => by
  rw [show n + 1 + N = (n + N) + 1 by omega]
  unfold segRun
  rw [he, hk, hs]
  exact x K H gd lv c B b N r hb h
theorem endAt_not {b : Nat} {cur : Sem Fin} {c : Code} {B : List Frame} (h : ∀ f, cur ≠ .pure (.done f)) : endAt b ⟨cur, c, p, B⟩ = none := by
  unfold endAt
  cases (List.length B == b) <;> first | rfl | skip
  cases cur with
  | pure x => cases x with
    | done f => exact absurd rfl (h f)
    | again c => rfl
  | _ => rfl
theorem endAt_long {b : Nat} {cur : Sem Fin} {c : Code} {F : Frame} {B : List Frame} (h : b ≤ B.length) : endAt b ⟨cur, c, p, F :: B⟩ = none := by
  unfold endAt
  rw [show (List.length (F :: B) == b) = false from beq_eq_false_iff_ne.mpr (Nat.ne_of_gt (Nat.lt_succ_of_le h))]
theorem Rt.rule {tag : String} {k : Unit → Sem α} (x : Rt w n₀ ann (k ()) p s a p' s' n) : Rt w n₀ ann (.rule tag k) p s a p' s' (n + 1) :=
  Rt.node (t₁ := k ()) (by intros; rfl) (by intros; exact endAt_not (fun _ => by simp [Sem.wrap])) (by intros; rfl) x
theorem Rt.at {q : Pos} {k : Unit → Sem α} (x : Rt w n₀ ann (k ()) q s a p' s' n) : Rt w n₀ ann (.at q k) p s a p' s' (n + 1) :=
  Rt.node (t₁ := k ()) (by intros; rfl) (by intros; exact endAt_not (fun _ => by simp [Sem.wrap])) (by intros; rfl) x
theorem Rt.point {l : List Value} {k : Unit → Sem α} (x : Rt w n₀ ann (k ()) p s a p' s' n) : Rt w n₀ ann (.point l k) p s a p' s' (n + 1) :=
  Rt.node (t₁ := k ()) (by intros; rfl) (by intros; exact endAt_not (fun _ => by simp [Sem.wrap])) (by intros; rfl) x
theorem Rt.fresh {k : Tok → Sem α} (x : Rt w n₀ ann (k s.toks) p { s with toks := s.toks + 1 } a p' s' n) : Rt w n₀ ann (.fresh k) p s a p' s' (n + 1) :=
  Rt.node (t₁ := k s.toks) (by intros; rfl) (by intros; exact endAt_not (fun _ => by simp [Sem.wrap])) (by intros; rfl) x
theorem Rt.ask {k : Setting → Sem α} (x : Rt w n₀ ann (k ⟨pg, w.params⟩) p s a p' s' n) : Rt w n₀ ann (.ask k) p s a p' s' (n + 1) :=
  Rt.node (t₁ := k ⟨pg, w.params⟩) (by intros; rfl) (by intros; exact endAt_not (fun _ => by simp [Sem.wrap])) (by intros; rfl) x
theorem Rt.alloc {o : Obj} {k : Addr → Sem α} (x : Rt w n₀ ann (k s.heap.objs.size) p { s with heap := s.heap.push o } a p' s' n) : Rt w n₀ ann (.alloc o k) p s a p' s' (n + 1) :=
  Rt.node (t₁ := k s.heap.objs.size) (by intros; rfl) (by intros; exact endAt_not (fun _ => by simp [Sem.wrap])) (by intros; rfl) x
theorem Rt.load {x : Addr} {part : Option Value} {o : Obj} {k : Obj → Sem α} (ho : s.heap.get? x = some o) (y : Rt w n₀ ann (k o) p s a p' s' n) : Rt w n₀ ann (.load x part k) p s a p' s' (n + 1) := by
  obtain ⟨heap, gens, drawn, toks, os⟩ := s
  refine Rt.node (t₁ := k o) (fun K H gd lv c B => ?_) (by intros; exact endAt_not (fun _ => by simp [Sem.wrap])) (by intros; rfl) y
  show (match heap.get? x with | some o => _ | none => _) = _
  rw [show heap.get? x = some o from ho]
theorem Rt.update {x : Addr} {part : Option Value} {f : Obj → Obj} {k : Unit → Sem α} (ho : (s.heap.get? x).isSome = true) (hx : n₀ ≤ x) (y : Rt w n₀ ann (k ()) p { s with heap := s.heap.update x f } a p' s' n) :
    Rt w n₀ ann (.update x part f k) p s a p' s' (n + 1) := by
  obtain ⟨heap, gens, drawn, toks, os⟩ := s
  refine Rt.node (t₁ := k ()) (fun K H gd lv c B => ?_) (by intros; exact endAt_not (fun _ => by simp [Sem.wrap])) (fun K H gd lv c B => ?_) y
  · show (if (heap.get? x).isSome then _ else _) = _
    rw [if_pos ho]
  · show (_ && (Nat.ble n₀ x || _ || _ || _)) = true
    rw [Nat.ble_eq_true_of_le hx]
    rfl
theorem wrap_id {t : Sem α} : t.wrap .pure .raise id id = t := by
  induction t <;> simp only [Sem.wrap, id, *]
/-- a call of a built-in: the call's head names the built-in's own code, and that gives a value -/
theorem Rt.call {c₁ c₂ : Code} {hd : Option Value} {g : Bool} {l : List Value} {k : Result → Sem α} {fl : Flow} {p₂ : Pos} {s₂ : Shared} {n₁ n₂ : Nat}
    (x₁ : Rt w n₀ ann (denote treeTable c₁) p s (.again c₂) p₁ s₁ n₁) (hk : ∀ code p B, stepOk n₀ ann ⟨.pure (.again c₂), code, p, B⟩ = true)
    (x₂ : Rt w n₀ ann (denote treeTable c₂) p₁ s₁ (.done fl) p₂ s₂ n₂) (y : Rt w n₀ ann (k (.ok fl)) p s₂ a p' s' n) : Rt w n₀ ann (.call c₁ hd g l k) p s a p' s' (n₁ + n₂ + n + 3) := fun K H gd lv c B b N r hb h => by
  obtain ⟨heap, gens, drawn, toks, os⟩ := s
  obtain ⟨heap₁, gens₁, drawn₁, toks₁, os₁⟩ := s₁
  obtain ⟨heap₂, gens₂, drawn₂, toks₂, os₂⟩ := s₂
  rw [show n₁ + n₂ + n + 3 + N = (n₁ + ((n₂ + ((n + N) + 1)) + 1)) + 1 by omega]
  unfold segRun
  rw [show Sem.wrap K H gd lv (.call c₁ hd g l k) = .call c₁ hd (gd g) (lv l) (fun x => (k x).wrap K H gd lv) from rfl]
  rw [endAt_not (fun _ h => by cases h)]
  show segRun _ _ _ _ _ _ _ _ (⟨denote treeTable c₁, c₁, p, .ret (fun x => (k x).wrap K H gd lv) hd (gd g) (lv l) c p _ :: B⟩ : Thread) = _
  have z₁ := x₁ .pure .raise id id c₁
  simp only [wrap_id] at z₁
  refine z₁ _ b _ r (Nat.le_succ_of_le hb) ?_
  unfold segRun
  rw [endAt_long hb, hk]
  dsimp only
  rw [PySem.W.step_again]
  dsimp only
  have z₂ := x₂ .pure .raise id id c₂
  simp only [wrap_id] at z₂
  refine z₂ _ b _ r (Nat.le_succ_of_le hb) ?_
  unfold segRun
  rw [endAt_long hb]
  exact y K H gd lv c B b N r hb h
end rt
end Mine
end
section
open PySem PySem.W PyProof.Rows PySem.Calls PySem.Spec
set_option Elab.async false
set_option maxRecDepth 100000
set_option maxHeartbeats 1000000
set_option autoImplicit false
namespace Mine
variable {w : World} {n₀ : Nat} {ann : Option Value} {p : Pos} {s : Shared}
theorem special_hash (k : Int) (t : Tok) : specialOf (.int k t) "__hash__" = .pure (some (.builtin "int.__hash__")) := by rfl
theorem bind_hash (k : Int) (t : Tok) : bindSpecial (.builtin "int.__hash__") (.int k t) = .pure (.builtin "int.__hash__", [.int k t]) := by rfl
theorem call_hash (k : Int) (t : Tok) : denote treeTable (.call (.builtin "int.__hash__") ⟨[.int k t], []⟩) = .pure (.again (.builtin "int.__hash__" ⟨[.int k t], []⟩)) := by rfl
theorem den_hash (k : Int) (t : Tok) : denote treeTable (.builtin "int.__hash__" ⟨[.int k t], []⟩) = .fresh (fun u => .pure (.done (.ret (.int (rawHash k) u)))) := by rfl
theorem quiet_hash {a : Args} {c : Code} {B : List Frame} : stepOk n₀ ann ⟨.pure (.again (.builtin "int.__hash__" a)), c, p, B⟩ = true := by
  have e : ("int.__hash__".startsWith "lifetime.") = false := by decide +kernel
  show ((!("int.__hash__".startsWith "lifetime.") || _) && _ && _ && _) = true
  rw [e]
  rfl
theorem rt_call_hash {k : Int} {t : Tok} : Rt w n₀ ann (call (.builtin "int.__hash__") [.int k t]) p s (.int (rawHash k) s.toks) p { s with toks := s.toks + 1 } 10 := by
  unfold PySem.call runValue run
  refine Rt.le (n := (((0 + 1) + 0 + 3) + 0)) (Rt.bind (Rt.call (fl := .ret (.int (rawHash k) s.toks)) (c₂ := .builtin "int.__hash__" ⟨[.int k t], []⟩) (p₁ := p) (s₁ := s) (p₂ := p) (s₂ := { s with toks := s.toks + 1 }) (n₁ := 0) (n₂ := 1) (n := 0) ?_ (fun _ _ _ => quiet_hash) ?_ Rt.pure) Rt.pure) (by decide)
  · rw [call_hash]; exact Rt.pure
  · rw [den_hash]; exact Rt.fresh Rt.pure
theorem rt_hash {k : Int} {t : Tok} : Rt w n₀ ann (pyHash (.int k t)) p s (hashInt k) p { s with toks := s.toks + 1 } 12 := by
  have hr := rawHash_range k
  unfold pyHash
  show Rt w n₀ ann (pyHashByItsType (.int k t)) p s (hashInt k) p { s with toks := s.toks + 1 } 12
  unfold pyHashByItsType
  rw [special_hash]
  show Rt w n₀ ann ((callSpecialIfBoundUnlessNone? (.int k t) "__hash__" _) >>= _) p s (hashInt k) p { s with toks := s.toks + 1 } 12
  refine Rt.bind (a := some (.int (rawHash k) s.toks)) (n := 11) (m := 1) (p₁ := p) (s₁ := { s with toks := s.toks + 1 }) ?_ ?_
  · unfold callSpecialIfBoundUnlessNone? bindSpecialIfBound?
    refine Rt.holding ?_
    rw [special_hash]
    refine Rt.bind (a := some (.builtin "int.__hash__", [.int k t])) (n := 1) (m := 10) (p₁ := p) (s₁ := s) ?_ ?_
    · show Rt w n₀ ann (.ask fun σ => _) _ _ _ _ _ 1
      refine Rt.ask (n := 0) ?_
      show Rt w n₀ ann (if w.params.followText "special-get-raises" = true then _ else _) _ _ _ _ _ _
      split
      · show Rt w n₀ ann ((bindSpecial _ _) >>= _) _ _ _ _ _ _
        rw [bind_hash]; exact Rt.pure
      · refine Rt.tryCatch ?_
        show Rt w n₀ ann ((bindSpecial _ _) >>= _) _ _ _ _ _ _
        rw [bind_hash]; exact Rt.pure
    · show Rt w n₀ ann ((call _ _) >>= _) _ _ _ _ _ _
      exact Rt.bind (n := 10) (m := 0) rt_call_hash Rt.pure
  · show Rt w n₀ ann (if (decide (-(2 : Int) ^ 63 ≤ rawHash k) && decide (rawHash k < 2 ^ 63)) = true then _ else _) _ _ _ _ _ _
    rw [if_pos (by rw [decide_eq_true hr.1, decide_eq_true hr.2]; rfl)]
    exact Rt.pure
end Mine
end
section
open PySem PySem.W PyProof.Rows PySem.Calls PySem.Spec
set_option Elab.async false
set_option maxRecDepth 100000
set_option maxHeartbeats 1000000
set_option autoImplicit false
namespace Mine
noncomputable def app (h : Heap) (l : List Obj) : Heap := ⟨h.objs ++ l.toArray, h.life⟩
noncomputable def dobj (es : List DictEntry) (n : Nat) : Obj := { cls := .type "dict", data := .dict es.toArray n }
theorem app_nil (h : Heap) : app h [] = h := by simp [app]
theorem app_push (h : Heap) (l : List Obj) (o : Obj) : (app h l).push o = app h (l ++ [o]) := by
  simp [app, Heap.push]
theorem app_size (h : Heap) (l : List Obj) : (app h l).objs.size = h.objs.size + l.length := by simp [app]
theorem app_at (h : Heap) (l₁ l₂ : List Obj) (o : Obj) : (app h (l₁ ++ o :: l₂)).objs[h.objs.size + l₁.length]? = some o := by
  simp [app]
theorem app_get {h : Heap} {l₁ l₂ : List Obj} {es : List DictEntry} {n : Nat} : (app h (l₁ ++ dobj es n :: l₂)).get? (h.objs.size + l₁.length) = some (dobj es n) := by
  unfold Heap.get?
  rw [app_at]
  rfl
theorem app_update {h : Heap} {l₁ l₂ : List Obj} {o : Obj} {f : Obj → Obj} : (app h (l₁ ++ o :: l₂)).update (h.objs.size + l₁.length) f = app h (l₁ ++ f o :: l₂) := by
  show Heap.mk _ _ = Heap.mk _ _
  congr 1
  apply Array.ext_getElem?
  intro i
  rw [Array.getElem?_modify]
  by_cases e : h.objs.size + l₁.length = i
  · subst e
    rw [if_pos rfl]
    show Option.map f ((app h (l₁ ++ o :: l₂)).objs[h.objs.size + l₁.length]?) = (app h (l₁ ++ f o :: l₂)).objs[h.objs.size + l₁.length]?
    rw [app_at, app_at]
    rfl
  · rw [if_neg e]
    by_cases h1 : i < h.objs.size
    · simp [Array.getElem?_append, h1]
    · simp only [Array.getElem?_append, h1, if_false, List.getElem?_toArray]
      rw [List.getElem?_append, List.getElem?_append]
      by_cases h2 : i - h.objs.size < l₁.length
      · simp [h2]
      · simp only [h2, if_false]
        have : i - h.objs.size - l₁.length ≠ 0 := by omega
        cases h3 : i - h.objs.size - l₁.length with
        | zero => exact absurd h3 this
        | succ j => simp

variable {w : World} {n₀ : Nat} {ann : Option Value} {p : Pos} {s : Shared}
/-- s with its heap and its tokens put -/
noncomputable abbrev st (s : Shared) (h : Heap) (k : Nat) : Shared := { s with heap := h, toks := k }

theorem rt_entries {d : Addr} {part : Option Value} {es : Array DictEntry} {ep : Nat} {o : Obj} (ho : s.heap.get? d = some o) (hd : o.data = .dict es ep) : Rt w n₀ ann (dictEntries d part) p s es p s 1 := by
  unfold dictEntries
  refine Rt.load (n := 0) ho ?_
  show Rt w n₀ ann (match o.data with | .dict es _ => _ | _ => _) _ _ _ _ _ _
  rw [hd]
  exact Rt.pure
theorem rt_epoch {d : Addr} {part : Option Value} {es : Array DictEntry} {ep : Nat} {o : Obj} (ho : s.heap.get? d = some o) (hd : o.data = .dict es ep) : Rt w n₀ ann (dictEpoch d part) p s ep p s 1 := by
  unfold dictEpoch
  refine Rt.load (n := 0) ho ?_
  show Rt w n₀ ann (match o.data with | .dict _ n => _ | _ => _) _ _ _ _ _ _
  rw [hd]
  exact Rt.pure
theorem places_none {es : Array DictEntry} {h : Int} (hn : ∀ e ∈ es, e.hash ≠ h) : placesWithHash es.size (fun i => es[i]?.map (·.hash)) h = [] := by
  unfold placesWithHash
  refine List.filter_eq_nil_iff.mpr fun i hi => ?_
  have hi' : i < es.size := List.mem_range.mp hi
  dsimp only
  rw [Array.getElem?_eq_getElem hi', Option.map_some]
  have := hn es[i] (Array.getElem_mem hi')
  simpa using this
theorem rt_find {d : Addr} {k : Int} {t : Tok} {h : Int} {es : Array DictEntry} {ep : Nat} {o : Obj} (ho : s.heap.get? d = some o) (hd : o.data = .dict es ep) (hn : ∀ e ∈ es, e.hash ≠ h) :
    Rt w n₀ ann (dictFind d (.int k t) h) p s none p s 1 := by
  unfold dictFind
  refine Rt.holding ?_
  refine Rt.bind (n := 1) (m := 0) (rt_entries ho hd) ?_
  dsimp only
  rw [places_none hn]
  exact Rt.pure
theorem rt_keys {d : Addr} {part : Option Value} {es : Array DictEntry} {ep : Nat} {o : Obj} {e : DictEntry} (ho : s.heap.get? d = some o) (hd : o.data = .dict es ep) (hx : n₀ ≤ d) (hz : es.size < sizeLine) :
    Rt w n₀ ann (updateDictKeys d (·.push e) part) p s () p { s with heap := s.heap.update d (Obj.mapDictKeys (·.push e)) } 3 := by
  unfold updateDictKeys
  refine Rt.load (n := 2) ho ?_
  show Rt w n₀ ann (match o.data with | .dict _ _ => _ | _ => _) _ _ _ _ _ _
  rw [hd]
  refine Rt.update (n := 1) (by rw [ho]; rfl) hx ?_
  have h2 : (s.heap.update d (Obj.mapDictKeys (·.push e))).get? d = some (o.mapDictKeys (·.push e)) := Heap.get?_update_self _ ho (Obj.isFreed_of_dict (Obj.data_mapDictKeys hd _))
  show Rt w n₀ ann (lookBehind d part) _ _ _ _ _ _
  unfold lookBehind
  refine Rt.load (n := 0) h2 ?_
  show Rt w n₀ ann (match (Obj.mapDictKeys (·.push e) o).data.pastItsLine with | some what => _ | _ => _) _ _ _ _ _ _
  rw [Obj.data_mapDictKeys hd]
  show Rt w n₀ ann (match (if (es.push e).size > sizeLine + 1 then some "dict:memory" else none) with | some what => _ | _ => _) _ _ _ _ _ _
  rw [if_neg (by rw [Array.size_push]; omega)]
  exact Rt.pure
theorem rt_set {d : Addr} {k : Int} {t : Tok} {v : Value} {es : Array DictEntry} {ep : Nat} {o : Obj} (ho : s.heap.get? d = some o) (hd : o.data = .dict es ep) (hx : n₀ ≤ d) (hz : es.size < sizeLine) (hn : ∀ e ∈ es, e.hash ≠ hashInt k) :
    Rt w n₀ ann (dictSet d (.int k t) v) p s () p { s with heap := s.heap.update d (Obj.mapDictKeys (·.push ⟨hashInt k, .int k t, v⟩)), toks := s.toks + 1 } 17 := by
  unfold dictSet
  refine Rt.holding ?_
  refine Rt.bind (n := 12) (m := 5) rt_hash ?_
  unfold dictSetHashed
  refine Rt.holding ?_
  refine Rt.bind (n := 1) (m := 4) (rt_find (s := { s with toks := s.toks + 1 }) ho hd hn) ?_
  refine Rt.rule (n := 3) ?_
  exact rt_keys (s := { s with toks := s.toks + 1 }) ho hd hx hz
theorem rt_put {d : Addr} {k : Int} {t : Tok} {h : Int} {v : Value} {es : Array DictEntry} {ep : Nat} {o : Obj} (ho : s.heap.get? d = some o) (hd : o.data = .dict es ep) (hx : n₀ ≤ d) (hz : es.size < sizeLine) (hn : ∀ e ∈ es, e.hash ≠ h) :
    Rt w n₀ ann (dictPut d h (.int k t) v) p s () p { s with heap := s.heap.update d (Obj.mapDictKeys (·.push ⟨h, .int k t, v⟩)) } 4 := by
  unfold dictPut
  refine Rt.bind (n := 1) (m := 3) (rt_find ho hd hn) ?_
  exact rt_keys ho hd hx hz
/-- the same where the heap is told as a list behind an old one -/
theorem rt_set' {h : Heap} {l₁ l₂ : List Obj} {es : List DictEntry} {n tk : Nat} {d : Addr} {k : Int} {t : Tok} {v : Value} (hd : d = h.objs.size + l₁.length) (hx : n₀ ≤ h.objs.size) (hz : es.length < sizeLine) (hn : ∀ e ∈ es, e.hash ≠ hashInt k) :
    Rt w n₀ ann (dictSet d (.int k t) v) p (st s (app h (l₁ ++ dobj es n :: l₂)) tk) () p (st s (app h (l₁ ++ dobj (es ++ [⟨hashInt k, .int k t, v⟩]) (n + 1) :: l₂)) (tk + 1)) 17 := by
  subst hd
  have x := rt_set (w := w) (n₀ := n₀) (ann := ann) (p := p) (s := st s (app h (l₁ ++ dobj es n :: l₂)) tk) (k := k) (t := t) (v := v) (ho := app_get) (hd := rfl) (hx := by omega) (hz := by simpa using hz) (by simpa using hn)
  simp only [app_update] at x
  simpa [dobj, Obj.mapDictKeys] using x
theorem rt_put' {h : Heap} {l₁ l₂ : List Obj} {es : List DictEntry} {n tk : Nat} {d : Addr} {k : Int} {t : Tok} {g : Int} {v : Value} (hd : d = h.objs.size + l₁.length) (hx : n₀ ≤ h.objs.size) (hz : es.length < sizeLine) (hn : ∀ e ∈ es, e.hash ≠ g) :
    Rt w n₀ ann (dictPut d g (.int k t) v) p (st s (app h (l₁ ++ dobj es n :: l₂)) tk) () p (st s (app h (l₁ ++ dobj (es ++ [⟨g, .int k t, v⟩]) (n + 1) :: l₂)) tk) 4 := by
  subst hd
  have x := rt_put (w := w) (n₀ := n₀) (ann := ann) (p := p) (s := st s (app h (l₁ ++ dobj es n :: l₂)) tk) (k := k) (t := t) (h := g) (v := v) (ho := app_get) (hd := rfl) (hx := by omega) (hz := by simpa using hz) (by simpa using hn)
  simp only [app_update] at x
  simpa [dobj, Obj.mapDictKeys] using x
end Mine
end
section
open PySem PySem.W PyProof.Rows PySem.Calls PySem.Spec
set_option Elab.async false
set_option maxRecDepth 100000
set_option maxHeartbeats 1000000
set_option autoImplicit false
namespace Mine
variable {w : World} {n₀ : Nat} {ann : Option Value} {p : Pos} {s : Shared}
theorem Rt.forIn_nil {α β : Type} {f : α → β → Sem (ForInStep β)} {b : β} {n : Nat} : Rt w n₀ ann (forIn ([] : List α) b f) p s b p s n := by
  rw [List.forIn_nil]; exact Rt.pure
theorem Rt.forIn_cons {α β : Type} {f : α → β → Sem (ForInStep β)} {a : α} {l : List α} {b b₁ b₂ : β} {p₁ p₂ : Pos} {s₁ s₂ : Shared} {n m : Nat} (x : Rt w n₀ ann (f a b) p s (.yield b₁) p₁ s₁ n) (y : Rt w n₀ ann (forIn l b₁ f) p₁ s₁ b₂ p₂ s₂ m) :
    Rt w n₀ ann (forIn (a :: l) b f) p s b₂ p₂ s₂ (n + m) := by
  rw [List.forIn_cons]
  exact Rt.bind x y
noncomputable def mk (pos : Pos) (kv : Int × Str) : Sem Value × Sem Value := (mkInt kv.1, do let x ← mkText kv.2; standAt pos; pure x)
theorem rt_key {k : Int} : Rt w n₀ ann (mkInt k) p s (.int k s.toks) p { s with toks := s.toks + 1 } 1 := Rt.fresh (n := 0) Rt.pure
theorem rt_val {v : Str} {pos : Pos} : Rt w n₀ ann (do let x ← mkText v; standAt pos; pure x) p s (.str v s.toks) pos { s with toks := s.toks + 1 } 2 := Rt.fresh (n := 1) (Rt.at (n := 0) Rt.pure)
noncomputable def entL : List (Int × Str) → Nat → List DictEntry
  | [], _ => []
  | kv :: r, t => ⟨hashInt kv.1, .int kv.1 t, .str kv.2 (t + 1)⟩ :: entL r (t + 3)
noncomputable def entS : List (Int × Str) → Nat → List DictEntry
  | [], _ => []
  | kv :: r, t => ⟨hashInt kv.1, .int kv.1 t, .str kv.2 (t + 1)⟩ :: entS r (t + 2)
noncomputable def Apart (E : List DictEntry) (L : List (Int × Str)) : Prop := (E.map (·.hash) ++ L.map (fun kv => hashInt kv.1)).Nodup
theorem Apart.head {E : List DictEntry} {kv : Int × Str} {L : List (Int × Str)} (x : Apart E (kv :: L)) : ∀ e ∈ E, e.hash ≠ hashInt kv.1 := fun e he q => by
  unfold Apart at x
  rw [List.nodup_append] at x
  exact x.2.2 _ (List.mem_map_of_mem he) _ (by simp) q
theorem Apart.tail {E : List DictEntry} {kv : Int × Str} {L : List (Int × Str)} (x : Apart E (kv :: L)) {a b : Value} : Apart (E ++ [⟨hashInt kv.1, a, b⟩]) L := by
  unfold Apart at x ⊢
  simpa using x
theorem rt_long {h : Heap} {l₁ l₂ : List Obj} {d : Addr} {pos : Pos} (hd : d = h.objs.size + l₁.length) (hx : n₀ ≤ h.objs.size) : ∀ (L : List (Int × Str)) (E : List DictEntry) (n tk : Nat), Apart E L → E.length + L.length < sizeLine →
    Rt w n₀ ann (forIn (L.map (mk pos)) PUnit.unit fun (x : Sem Value × Sem Value) (_ : PUnit) => (do let kv ← x.1; let vv ← holding [kv] x.2; holding [kv, vv] (dictSet d kv vv); pure (ForInStep.yield PUnit.unit) : Sem (ForInStep PUnit))) pos
      (st s (app h (l₁ ++ dobj E n :: l₂)) tk) () pos (st s (app h (l₁ ++ dobj (E ++ entL L tk) (n + L.length) :: l₂)) (tk + 3 * L.length)) (20 * L.length)
  | [], E, n, tk, _, _ => by
    simp only [List.map_nil, entL, List.append_nil, List.length_nil, Nat.mul_zero, Nat.add_zero]
    exact Rt.forIn_nil
  | kv :: L, E, n, tk, ha, hz => by
    rw [List.length_cons] at hz
    have ih := rt_long hd hx (h := h) (l₁ := l₁) (l₂ := l₂) (pos := pos) L (E ++ [⟨hashInt kv.1, .int kv.1 tk, .str kv.2 (tk + 1)⟩]) (n + 1) (tk + 3) ha.tail (by simp only [List.length_append, List.length_cons, List.length_nil]; omega)
    have e1 : E ++ entL (kv :: L) tk = E ++ [⟨hashInt kv.1, .int kv.1 tk, .str kv.2 (tk + 1)⟩] ++ entL L (tk + 3) := by simp [entL]
    rw [e1, List.map_cons, List.length_cons, show 20 * (L.length + 1) = 20 + 20 * L.length by omega, show n + (L.length + 1) = n + 1 + L.length by omega, show tk + 3 * (L.length + 1) = tk + 3 + 3 * L.length by omega]
    refine Rt.forIn_cons ?_ ih
    refine Rt.bind (n := 1) (m := 19) rt_key ?_
    refine Rt.bind (n := 2) (m := 17) (Rt.holding rt_val) ?_
    refine Rt.bind (n := 17) (m := 0) (a := ()) (Rt.holding ?_) Rt.pure
    exact rt_set' hd hx (by omega) ha.head
theorem rt_subLong {h : Heap} {l : List Obj} {L : List (Int × Str)} {pos : Pos} {tk : Nat} (hx : n₀ ≤ h.objs.size) (hL : 15 < L.length) (ha : Apart [] L) (hz : L.length < sizeLine) :
    Rt w n₀ ann (subDict (L.map (mk pos))) pos (st s (app h l) tk) (h.objs.size + l.length) pos (st s (app h (l ++ [dobj (entL L tk) L.length])) (tk + 3 * L.length)) (20 * L.length + 2) := by
  unfold subDict
  refine Rt.alloc (n := 20 * L.length + 1) ?_
  rw [app_push, app_size]
  have := rt_long (w := w) (n₀ := n₀) (ann := ann) (s := s) (h := h) (l₁ := l) (l₂ := []) (pos := pos) rfl hx L [] 0 tk ha (by simpa using hz)
  refine Rt.bind (n := 20 * L.length + 1) (m := 0) (a := ()) (p₁ := pos) (s₁ := st s (app h (l ++ [dobj (entL L tk) L.length])) (tk + 3 * L.length)) (Rt.holding ?_) Rt.pure
  rw [if_neg (by rw [List.length_map]; omega)]
  refine Rt.rule (n := 20 * L.length) ?_
  show Rt w n₀ ann ((forIn (List.map (mk pos) L) PUnit.unit _) >>= _) _ _ _ _ _ _
  refine Rt.bind (n := 20 * L.length) (m := 0) (a := PUnit.unit) (p₁ := pos) (s₁ := st s (app h (l ++ [dobj (entL L tk) L.length])) (tk + 3 * L.length)) ?_ Rt.pure
  simpa [dobj] using this
noncomputable def vsS : List (Int × Str) → Nat → List (Value × Value)
  | [], _ => []
  | kv :: r, t => (.int kv.1 t, .str kv.2 (t + 1)) :: vsS r (t + 2)
theorem rt_pairs {pos : Pos} : ∀ (L : List (Int × Str)) (s : Shared), Rt w n₀ ann (evalPairs (L.map (mk pos))) pos s (vsS L s.toks) pos { s with toks := s.toks + 2 * L.length } (3 * L.length)
  | [], s => Rt.pure
  | kv :: L, s => by
    have x := rt_pairs (pos := pos) L { s with toks := s.toks + 2 }
    rw [List.map_cons]
    unfold mk
    rw [evalPairs, List.length_cons, show 3 * (L.length + 1) = 1 + (2 + (3 * L.length + 0)) by omega, show s.toks + 2 * (L.length + 1) = s.toks + 2 + 2 * L.length by omega]
    refine Rt.bind rt_key ?_
    refine Rt.bind (Rt.holding rt_val) ?_
    exact Rt.bind (Rt.holding x) Rt.pure
theorem rt_store {h : Heap} {l₁ l₂ : List Obj} {d : Addr} {pos : Pos} (hd : d = h.objs.size + l₁.length) (hx : n₀ ≤ h.objs.size) : ∀ (L : List (Int × Str)) (E : List DictEntry) (n t tk : Nat), Apart E L → E.length + L.length < sizeLine →
    Rt w n₀ ann (forIn (vsS L t) PUnit.unit fun (x : Value × Value) (_ : PUnit) => (do dictSet d x.1 x.2; pure (ForInStep.yield PUnit.unit) : Sem (ForInStep PUnit))) pos
      (st s (app h (l₁ ++ dobj E n :: l₂)) tk) () pos (st s (app h (l₁ ++ dobj (E ++ entS L t) (n + L.length) :: l₂)) (tk + L.length)) (17 * L.length)
  | [], E, n, t, tk, _, _ => by
    simp only [vsS, entS, List.append_nil, List.length_nil, Nat.mul_zero, Nat.add_zero]
    exact Rt.forIn_nil
  | kv :: L, E, n, t, tk, ha, hz => by
    rw [List.length_cons] at hz
    have ih := rt_store hd hx (h := h) (l₁ := l₁) (l₂ := l₂) (pos := pos) L (E ++ [⟨hashInt kv.1, .int kv.1 t, .str kv.2 (t + 1)⟩]) (n + 1) (t + 2) (tk + 1) ha.tail (by simp only [List.length_append, List.length_cons, List.length_nil]; omega)
    have e1 : E ++ entS (kv :: L) t = E ++ [⟨hashInt kv.1, .int kv.1 t, .str kv.2 (t + 1)⟩] ++ entS L (t + 2) := by simp [entS]
    rw [e1, List.length_cons, show 17 * (L.length + 1) = 17 + 17 * L.length by omega, show n + (L.length + 1) = n + 1 + L.length by omega, show tk + (L.length + 1) = tk + 1 + L.length by omega]
    refine Rt.forIn_cons ?_ ih
    refine Rt.bind (n := 17) (m := 0) (a := ()) ?_ Rt.pure
    exact rt_set' hd hx (by omega) ha.head
theorem rt_subShort {h : Heap} {l : List Obj} {L : List (Int × Str)} {pos : Pos} {tk : Nat} (hx : n₀ ≤ h.objs.size) (hL : L.length ≤ 15) (ha : Apart [] L) (hz : L.length < sizeLine) :
    Rt w n₀ ann (subDict (L.map (mk pos))) pos (st s (app h l) tk) (h.objs.size + l.length) pos (st s (app h (l ++ [dobj (entS L tk) L.length])) (tk + 3 * L.length)) (20 * L.length + 2) := by
  unfold subDict
  refine Rt.alloc (n := 20 * L.length + 1) ?_
  rw [app_push, app_size]
  have x := rt_pairs (w := w) (n₀ := n₀) (ann := ann) (pos := pos) L (st s (app h (l ++ [dobj [] 0])) tk)
  have y := rt_store (w := w) (n₀ := n₀) (ann := ann) (s := s) (h := h) (l₁ := l) (l₂ := []) (pos := pos) rfl hx L [] 0 tk (tk + 2 * L.length) ha (by simpa using hz)
  rw [show tk + 2 * L.length + L.length = tk + 3 * L.length by omega] at y
  refine Rt.bind (n := 20 * L.length + 1) (m := 0) (a := ()) (p₁ := pos) (s₁ := st s (app h (l ++ [dobj (entS L tk) L.length])) (tk + 3 * L.length)) (Rt.holding ?_) Rt.pure
  rw [if_pos (by rw [List.length_map]; omega)]
  refine Rt.le (n := 3 * L.length + (17 * L.length + 0)) ?_ (by omega)
  refine Rt.bind x ?_
  refine Rt.holding ?_
  refine Rt.bind (a := PUnit.unit) (p₁ := pos) (s₁ := st s (app h (l ++ [dobj (entS L tk) L.length])) (tk + 3 * L.length)) ?_ Rt.pure
  simpa [dobj] using y
end Mine
end
section
open PySem PySem.W PyProof.Rows PySem.Calls PySem.Spec
set_option Elab.async false
set_option maxRecDepth 100000
set_option maxHeartbeats 1000000
set_option autoImplicit false
namespace Mine
variable {w : World} {n₀ : Nat} {ann : Option Value} {p : Pos} {s : Shared}
theorem rt_range {Q : List DictEntry → Shared} {f : Nat → PUnit → Sem (ForInStep PUnit)} {c : Nat} {F : List DictEntry}
    (hf : ∀ F₁ e F₂, F = F₁ ++ e :: F₂ → Rt w n₀ ann (f F₁.length PUnit.unit) p (Q F₁) (.yield PUnit.unit) p (Q (F₁ ++ [e])) c) : ∀ (F₂ F₁ : List DictEntry), F = F₁ ++ F₂ →
    Rt w n₀ ann (forIn (List.range' F₁.length F₂.length) PUnit.unit f) p (Q F₁) PUnit.unit p (Q F) (c * F₂.length)
  | [], F₁, e => by
    subst e
    rw [List.append_nil]
    exact Rt.forIn_nil
  | x :: F₂, F₁, e => by
    rw [List.length_cons, List.range'_succ, show c * (F₂.length + 1) = c + c * F₂.length by rw [Nat.mul_add]; omega]
    have ih := rt_range hf F₂ (F₁ ++ [x]) (by rw [e]; simp)
    rw [List.length_append] at ih
    exact Rt.forIn_cons (hf F₁ x F₂ e) ih
theorem inst_dict : isSubtype (.type "dict") (.type "dict") = .pure true := by rfl
theorem iter_dict : typeLookup (.type "dict") "__iter__" = .pure (some (.builtin "dict.__iter__")) := by rfl
theorem rt_merge {h : Heap} {S : List Obj} {E F : List DictEntry} {n m tk : Nat} {a : Addr} (hx : n₀ ≤ h.objs.size) (h0 : sysModules < h.objs.size) (ha : a = h.objs.size + (S.length + 1)) (hE : E ≠ [])
    (hz : E.length + F.length < sizeLine) (hk : ∀ e ∈ F, ∃ k t, e.key = .int k t) (hn : (E.map (·.hash) ++ F.map (·.hash)).Nodup) :
    Rt w n₀ ann (mergeMapping h.objs.size (.ref a) false) p (st s (app h (dobj E n :: (S ++ [dobj F m]))) tk) () p (st s (app h (dobj (E ++ F) (n + F.length) :: (S ++ [dobj F m]))) tk) (6 * F.length + 5) := by
  have hsub : ∀ (E' : List DictEntry) (n' : Nat), (app h (dobj E' n' :: (S ++ [dobj F m]))).get? a = some (dobj F m) := fun E' n' => by
    have := app_get (h := h) (l₁ := dobj E' n' :: S) (l₂ := []) (es := F) (n := m)
    rw [ha]
    simpa using this
  have hmain : ∀ (E' : List DictEntry) (n' : Nat), (app h (dobj E' n' :: (S ++ [dobj F m]))).get? h.objs.size = some (dobj E' n') := fun E' n' => app_get (h := h) (l₁ := []) (l₂ := S ++ [dobj F m]) (es := E') (n := n')
  unfold mergeMapping
  refine Rt.le (n := 1 + (1 + (6 * F.length + 3))) ?_ (by omega)
  refine Rt.bind (a := true) (p₁ := p) (s₁ := st s (app h (dobj E n :: (S ++ [dobj F m]))) tk) ?_ ?_
  · unfold isInstance typeOf
    show Rt w n₀ ann (.load a _ fun o => _) _ _ _ _ _ 1
    refine Rt.load (n := 0) (hsub E n) ?_
    show Rt w n₀ ann (isSubtype (.type "dict") (.type "dict")) _ _ _ _ _ _
    rw [inst_dict]
    exact Rt.pure
  rw [if_pos rfl]
  refine Rt.bind (a := some (.builtin "dict.__iter__")) (p₁ := p) (s₁ := st s (app h (dobj E n :: (S ++ [dobj F m]))) tk) ?_ ?_
  · unfold specialOf typeOf
    show Rt w n₀ ann (.load a _ fun o => _) _ _ _ _ _ 1
    refine Rt.load (n := 0) (hsub E n) ?_
    show Rt w n₀ ann (typeLookup (.type "dict") "__iter__") _ _ _ _ _ _
    rw [iter_dict]
    exact Rt.pure
  · rw [beq_self_eq_true, pure_bind]
    dsimp only
    have hs : (a == sysModules) = false := beq_eq_false_iff_ne.mpr (Nat.ne_of_gt (Nat.lt_of_lt_of_le h0 (by rw [ha]; exact Nat.le_add_right _ _)))
    rw [hs]
    simp only [Bool.false_eq_true, if_false]
    rw [show 6 * F.length + 3 = 1 + (1 + (1 + (6 * F.length + 0))) by omega]
    refine Rt.bind (n := 1) (m := 1 + (1 + (6 * F.length + 0))) (a := E.toArray) (p₁ := p) (s₁ := st s (app h (dobj E n :: (S ++ [dobj F m]))) tk) (rt_entries (s := st s (app h (dobj E n :: (S ++ [dobj F m]))) tk) (o := dobj E n) (ep := n) (hmain E n) rfl) ?_
    rw [if_neg (by simpa using hE)]
    refine Rt.bind (n := 1) (m := 1 + (6 * F.length + 0)) (a := F.toArray) (p₁ := p) (s₁ := st s (app h (dobj E n :: (S ++ [dobj F m]))) tk) (rt_entries (s := st s (app h (dobj E n :: (S ++ [dobj F m]))) tk) (o := dobj F m) (ep := m) (hsub E n) rfl) ?_
    refine Rt.bind (n := 1) (m := 6 * F.length + 0) (a := m) (p₁ := p) (s₁ := st s (app h (dobj E n :: (S ++ [dobj F m]))) tk) (rt_epoch (s := st s (app h (dobj E n :: (S ++ [dobj F m]))) tk) (o := dobj F m) (es := F.toArray) (hsub E n) rfl) ?_
    have main := rt_range (w := w) (n₀ := n₀) (ann := ann) (p := p) (F := F) (c := 6) (Q := fun F₁ => st s (app h (dobj (E ++ F₁) (n + F₁.length) :: (S ++ [dobj F m]))) tk)
      (f := fun i _ => (do
        let some e := (← dictEntries a)[i]? | (do unsupported "dict.changed-during-merge"; pure (.yield PUnit.unit))
        holding [e.key, e.val] (dictPut h.objs.size e.hash e.key e.val)
        if (← dictEpoch a) != m then unsupported "dict.changed-during-merge"
        pure (.yield PUnit.unit) : Sem (ForInStep PUnit))) (fun F₁ e F₂ hF => by
          refine Rt.bind (n := 1) (m := 5) (a := F.toArray) (p₁ := p) (s₁ := st s (app h (dobj (E ++ F₁) (n + F₁.length) :: (S ++ [dobj F m]))) tk) (rt_entries (s := st s (app h (dobj (E ++ F₁) (n + F₁.length) :: (S ++ [dobj F m]))) tk) (o := dobj F m) (ep := m) (hsub _ _) rfl) ?_
          have he : F.toArray[F₁.length]? = some e := by subst hF; simp
          rw [he]
          dsimp only
          obtain ⟨k, t, hkey⟩ := hk e (by rw [hF]; simp)
          refine Rt.bind (n := 4) (m := 1) (a := ()) (p₁ := p) (s₁ := st s (app h (dobj (E ++ (F₁ ++ [e])) (n + (F₁ ++ [e]).length) :: (S ++ [dobj F m]))) tk) (Rt.holding ?_) ?_
          · have x := rt_put' (w := w) (n₀ := n₀) (ann := ann) (p := p) (s := s) (h := h) (l₁ := []) (l₂ := S ++ [dobj F m]) (es := E ++ F₁) (n := n + F₁.length) (tk := tk) (d := h.objs.size) (k := k) (t := t) (g := e.hash) (v := e.val) rfl hx
              (by rw [hF] at hz; simp only [List.length_append, List.length_cons] at hz ⊢; omega) (fun e' he' q => by
                rw [hF, List.map_append, List.map_cons, ← List.append_assoc, List.nodup_append] at hn
                refine hn.2.2 e'.hash ?_ e.hash (by simp) q
                rw [← List.map_append]
                exact List.mem_map_of_mem he')
            rw [hkey]
            have e1 : (⟨e.hash, .int k t, e.val⟩ : DictEntry) = e := by rw [← hkey]
            rw [e1] at x
            simpa [Nat.add_assoc] using x
          · refine Rt.bind (n := 1) (m := 0) (a := m) (p₁ := p) (s₁ := st s (app h (dobj (E ++ (F₁ ++ [e])) (n + (F₁ ++ [e]).length) :: (S ++ [dobj F m]))) tk) (rt_epoch (s := st s (app h (dobj (E ++ (F₁ ++ [e])) (n + (F₁ ++ [e]).length) :: (S ++ [dobj F m]))) tk) (o := dobj F m) (es := F.toArray) (hsub _ _) rfl) ?_
            rw [if_neg (by simp)]
            exact Rt.pure) F [] rfl
    rw [List.length_nil, ← List.range_eq_range'] at main
    simp only [List.append_nil, Nat.add_zero] at main
    refine Rt.bind (a := PUnit.unit) (p₁ := p) (s₁ := st s (app h (dobj (E ++ F) (n + F.length) :: (S ++ [dobj F m]))) tk) ?_ Rt.pure
    exact main
end Mine
end
section
open PySem PySem.W PyProof.Rows PySem.Calls PySem.Spec
set_option Elab.async false
set_option maxRecDepth 100000
set_option maxHeartbeats 1000000
set_option autoImplicit false
namespace Mine
variable {w : World} {n₀ : Nat} {ann : Option Value} {p : Pos} {s : Shared}
noncomputable abbrev SD := Option (List DictEntry × List Obj)
noncomputable def entD (R : List (Int × Str)) (t : Nat) : List DictEntry := if R.length ≤ 15 then entS R t else entL R t
noncomputable def flP : SD → List (Int × Str) → Nat → SD
  | none, R, t => some (entD R t, [])
  | some x, R, t => some (x.1 ++ entD R t, x.2 ++ [dobj (entD R t) R.length])
noncomputable def hpD (h : Heap) : SD → Heap
  | none => app h []
  | some x => app h (dobj x.1 x.1.length :: x.2)
noncomputable def adD (h : Heap) : SD → Option Addr
  | none => none
  | some _ => some h.objs.size
noncomputable def entsD : SD → List DictEntry
  | none => []
  | some x => x.1
noncomputable def okD : SD → Prop
  | none => True
  | some x => x.1 ≠ []
theorem entL_hash : ∀ (R : List (Int × Str)) (t : Nat), (entL R t).map (·.hash) = R.map (fun kv => hashInt kv.1)
  | [], _ => rfl
  | kv :: R, t => by simp [entL, entL_hash R]
theorem entS_hash : ∀ (R : List (Int × Str)) (t : Nat), (entS R t).map (·.hash) = R.map (fun kv => hashInt kv.1)
  | [], _ => rfl
  | kv :: R, t => by simp [entS, entS_hash R]
theorem entL_int : ∀ (R : List (Int × Str)) (t : Nat), ∀ e ∈ entL R t, ∃ k t, e.key = .int k t
  | [], _, _, h => by simp [entL] at h
  | kv :: R, t, e, h => by
    simp only [entL, List.mem_cons] at h
    rcases h with rfl | h
    · exact ⟨_, _, rfl⟩
    · exact entL_int R _ e h
theorem entS_int : ∀ (R : List (Int × Str)) (t : Nat), ∀ e ∈ entS R t, ∃ k t, e.key = .int k t
  | [], _, _, h => by simp [entS] at h
  | kv :: R, t, e, h => by
    simp only [entS, List.mem_cons] at h
    rcases h with rfl | h
    · exact ⟨_, _, rfl⟩
    · exact entS_int R _ e h
theorem entL_length : ∀ (R : List (Int × Str)) (t : Nat), (entL R t).length = R.length
  | [], _ => rfl
  | kv :: R, t => by simp [entL, entL_length R]
theorem entS_length : ∀ (R : List (Int × Str)) (t : Nat), (entS R t).length = R.length
  | [], _ => rfl
  | kv :: R, t => by simp [entS, entS_length R]
theorem entD_hash (R : List (Int × Str)) (t : Nat) : (entD R t).map (·.hash) = R.map (fun kv => hashInt kv.1) := by
  unfold entD; split; exact entS_hash R t; exact entL_hash R t
theorem entD_int (R : List (Int × Str)) (t : Nat) : ∀ e ∈ entD R t, ∃ k t, e.key = .int k t := by
  unfold entD; split; exact entS_int R t; exact entL_int R t
theorem entD_length (R : List (Int × Str)) (t : Nat) : (entD R t).length = R.length := by
  unfold entD; split; exact entS_length R t; exact entL_length R t
theorem rt_sub {h : Heap} {l : List Obj} {L : List (Int × Str)} {pos : Pos} {tk : Nat} (hx : n₀ ≤ h.objs.size) (ha : Apart [] L) (hz : L.length < sizeLine) :
    Rt w n₀ ann (subDict (L.map (mk pos))) pos (st s (app h l) tk) (h.objs.size + l.length) pos (st s (app h (l ++ [dobj (entD L tk) L.length])) (tk + 3 * L.length)) (20 * L.length + 2) := by
  unfold entD
  split
  · rename_i hL; exact rt_subShort hx hL ha hz
  · rename_i hL; exact rt_subLong hx (by omega) ha hz
/-- one run of pairs goes into the display -/
noncomputable def flushD (run : List (Sem Value × Sem Value)) (main : Option Addr) : Sem (Option Addr) :=
  if run.isEmpty = true then pure main
  else match main with
    | none => do let d ← subDict run; pure (some d)
    | some d => do
      let sub ← holding [Value.ref d] (subDict run)
      (holding [Value.ref d, Value.ref sub] (mergeMapping d (Value.ref sub) false)).onRaise fun x => do
        let _ ← holding [Value.ref d, x] (runValue (Code.builtin "proto.let_go" { }))
        pure ()
      pure (some d)
theorem rt_flush {h : Heap} {D : SD} {R : List (Int × Str)} {pos : Pos} {tk : Nat} (hx : n₀ ≤ h.objs.size) (h0 : sysModules < h.objs.size) (hR : R ≠ []) (hok : okD D) (ha : Apart (entsD D) R) (hz : (entsD D).length + R.length < sizeLine) :
    Rt w n₀ ann (flushD (R.map (mk pos)) (adD h D)) pos (st s (hpD h D) tk) (adD h (flP D R tk)) pos (st s (hpD h (flP D R tk)) (tk + 3 * R.length)) (26 * R.length + 10) := by
  have ha0 : Apart [] R := by
    unfold Apart at ha ⊢
    rw [List.nodup_append] at ha
    simpa using ha.2.1
  unfold flushD
  rw [if_neg (by simpa using hR)]
  cases D with
  | none =>
    have x := rt_sub (w := w) (n₀ := n₀) (ann := ann) (s := s) (h := h) (l := []) (L := R) (pos := pos) (tk := tk) hx ha0 (by omega)
    refine Rt.le (n := (20 * R.length + 2) + 0) (Rt.bind x ?_) (by omega)
    show Rt w n₀ ann (pure (some h.objs.size)) _ (st s (app h [dobj (entD R tk) R.length]) _) (some h.objs.size) _ (st s (app h [dobj (entD R tk) (entD R tk).length]) _) _
    rw [entD_length]
    exact Rt.pure
  | some D =>
    obtain ⟨E, S⟩ := D
    have x := rt_sub (w := w) (n₀ := n₀) (ann := ann) (s := s) (h := h) (l := dobj E E.length :: S) (L := R) (pos := pos) (tk := tk) hx ha0 (by omega)
    have y := rt_merge (w := w) (n₀ := n₀) (ann := ann) (p := pos) (s := s) (h := h) (S := S) (E := E) (F := entD R tk) (n := E.length) (m := R.length) (tk := tk + 3 * R.length) hx h0 rfl hok (by rw [entD_length]; exact hz)
      (entD_int R tk) (by rw [entD_hash]; exact ha)
    rw [entD_length] at y
    refine Rt.le (n := (20 * R.length + 2) + ((6 * R.length + 5) + 0)) (Rt.bind (Rt.holding x) ?_) (by omega)
    refine Rt.bind (Rt.onRaise (Rt.holding y)) ?_
    show Rt w n₀ ann (pure (some h.objs.size)) _ (st s (app h (dobj (E ++ entD R tk) (E.length + R.length) :: (S ++ [dobj (entD R tk) R.length]))) _) (some h.objs.size) _
      (st s (app h (dobj (E ++ entD R tk) (E ++ entD R tk).length :: (S ++ [dobj (entD R tk) R.length]))) _) _
    rw [List.length_append, entD_length]
    exact Rt.pure
noncomputable def turns : SD → Nat → List (Int × Str) → List (Int × Str) → SD × Nat × List (Int × Str)
  | D, tk, R, [] => (D, tk, R)
  | D, tk, R, kv :: L => if R.length + 1 = 17 then turns (flP D (R ++ [kv]) tk) (tk + 51) [] L else turns D tk (R ++ [kv]) L
theorem Apart.move {E : List DictEntry} {R L : List (Int × Str)} (ha : (E.map (·.hash) ++ (R ++ L).map (fun kv => hashInt kv.1)).Nodup) : Apart E R := by
  unfold Apart
  rw [List.map_append, ← List.append_assoc] at ha
  exact (List.nodup_append.mp ha).1
theorem flP_hash (D : SD) (R : List (Int × Str)) (t : Nat) : (entsD (flP D R t)).map (·.hash) = (entsD D).map (·.hash) ++ R.map (fun kv => hashInt kv.1) := by
  cases D <;> simp [flP, entsD, entD_hash]
theorem flP_length (D : SD) (R : List (Int × Str)) (t : Nat) : (entsD (flP D R t)).length = (entsD D).length + R.length := by
  cases D <;> simp [flP, entsD, entD_length]
theorem flP_ok (D : SD) (R : List (Int × Str)) (t : Nat) (hR : R ≠ []) : okD (flP D R t) := by
  have hl : ∀ {E : List DictEntry}, E.length = R.length → E ≠ [] := fun he q => by
    rw [q] at he
    exact hR (List.length_eq_zero_iff.mp he.symm)
  cases D with
  | none => exact hl (entD_length R t)
  | some x => show x.1 ++ entD R t ≠ []; exact fun q => hl (entD_length R t) (List.append_eq_nil_iff.mp q).2
noncomputable abbrev itD (pos : Pos) (kv : Int × Str) : Option (Sem Value) × Sem Value := (some (mk pos kv).1, (mk pos kv).2)
theorem rt_turns {h : Heap} {pos : Pos} (hx : n₀ ≤ h.objs.size) (h0 : sysModules < h.objs.size)
    {f : (Option (Sem Value) × Sem Value) → (Option Addr × List (Sem Value × Sem Value)) → Sem (ForInStep (Option Addr × List (Sem Value × Sem Value)))}
    (hA : ∀ (kv : Int × Str) (R : List (Int × Str)) (m : Option Addr), R.length + 1 ≠ 17 → f (itD pos kv) (m, R.map (mk pos)) = pure (.yield (m, (R ++ [kv]).map (mk pos))))
    (hB : ∀ (kv : Int × Str) (R : List (Int × Str)) (m : Option Addr), R.length + 1 = 17 → f (itD pos kv) (m, R.map (mk pos)) = (do let main ← flushD ((R ++ [kv]).map (mk pos)) m; pure (.yield (main, [])))) :
    ∀ (L : List (Int × Str)) (D : SD) (tk : Nat) (R : List (Int × Str)), okD D → ((entsD D).map (·.hash) ++ (R ++ L).map (fun kv => hashInt kv.1)).Nodup → (entsD D).length + (R ++ L).length < sizeLine →
      Rt w n₀ ann (forIn (L.map (itD pos)) (adD h D, R.map (mk pos)) f) pos (st s (hpD h D) tk) (adD h (turns D tk R L).1, (turns D tk R L).2.2.map (mk pos)) pos (st s (hpD h (turns D tk R L).1) (turns D tk R L).2.1) (500 * L.length)
  | [], D, tk, R, _, _, _ => Rt.forIn_nil
  | kv :: L, D, tk, R, hok, ha, hz => by
    rw [show R ++ kv :: L = (R ++ [kv]) ++ L by simp] at ha hz
    rw [List.map_cons, List.length_cons, show 500 * (L.length + 1) = 500 + 500 * L.length by omega]
    unfold turns
    by_cases h17 : R.length + 1 = 17
    · rw [if_pos h17]
      have hl : (R ++ [kv]).length = 17 := by simpa using h17
      have x := rt_flush (w := w) (n₀ := n₀) (ann := ann) (s := s) (h := h) (D := D) (R := R ++ [kv]) (pos := pos) (tk := tk) hx h0 (by simp) hok (Apart.move ha) (by rw [List.length_append] at hz; omega)
      have y := rt_turns hx h0 hA hB L (flP D (R ++ [kv]) tk) (tk + 51) [] (flP_ok _ _ _ (by simp)) (by rw [flP_hash, List.nil_append, List.append_assoc, ← List.map_append]; exact ha) (by rw [flP_length, List.nil_append, Nat.add_assoc, ← List.length_append]; exact hz)
      refine Rt.forIn_cons ?_ y
      rw [hB kv R _ h17]
      refine Rt.bind (n := 500) (m := 0) (Rt.le x (by rw [hl]; omega)) ?_
      rw [hl]
      exact Rt.pure
    · rw [if_neg h17]
      have y := rt_turns hx h0 hA hB L D tk (R ++ [kv]) hok ha hz
      refine Rt.forIn_cons ?_ y
      rw [hA kv R _ h17]
      exact Rt.pure
end Mine
end
section
open PySem PySem.W PyProof.Rows PySem.Calls PySem.Spec
set_option Elab.async false
set_option maxRecDepth 100000
set_option maxHeartbeats 1000000
set_option autoImplicit false
namespace Mine
variable {w : World} {n₀ : Nat} {ann : Option Value} {p : Pos} {s : Shared}
theorem flP_some (D : SD) (R : List (Int × Str)) (t : Nat) : ∃ x, flP D R t = some x := by
  cases D <;> exact ⟨_, rfl⟩
theorem turns_isSome : ∀ (L R : List (Int × Str)) (D : SD) (tk : Nat), (D.isSome = true ∨ R ++ L ≠ []) → (turns D tk R L).1.isSome = true ∨ (turns D tk R L).2.2 ≠ []
  | [], R, D, tk, h => by
    rw [List.append_nil] at h
    exact h
  | kv :: L, R, D, tk, h => by
    unfold turns
    split
    · exact turns_isSome L [] _ _ (.inl (by obtain ⟨x, e⟩ := flP_some D (R ++ [kv]) tk; rw [e]; rfl))
    · exact turns_isSome L _ _ _ (.inr (by simp))
theorem turns_inv : ∀ (L R : List (Int × Str)) (D : SD) (tk : Nat), okD D → okD (turns D tk R L).1 ∧
    (entsD (turns D tk R L).1).map (·.hash) ++ (turns D tk R L).2.2.map (fun kv => hashInt kv.1) = (entsD D).map (·.hash) ++ (R ++ L).map (fun kv => hashInt kv.1) ∧
    (entsD (turns D tk R L).1).length + (turns D tk R L).2.2.length = (entsD D).length + (R ++ L).length
  | [], R, D, tk, h => by simp [turns, h]
  | kv :: L, R, D, tk, h => by
    unfold turns
    split
    · obtain ⟨a, b, c⟩ := turns_inv L [] (flP D (R ++ [kv]) tk) (tk + 51) (flP_ok _ _ _ (by simp))
      refine ⟨a, b.trans ?_, c.trans ?_⟩
      · rw [flP_hash]; simp
      · rw [flP_length]; simp; omega
    · obtain ⟨a, b, c⟩ := turns_inv L (R ++ [kv]) D tk h
      exact ⟨a, b.trans (by simp), c.trans (by simp)⟩
noncomputable def endD (L : List (Int × Str)) (tk : Nat) : SD := if (turns none tk [] L).2.2 = [] then (turns none tk [] L).1 else flP (turns none tk [] L).1 (turns none tk [] L).2.2 (turns none tk [] L).2.1
noncomputable def endT (L : List (Int × Str)) (tk : Nat) : Nat := (turns none tk [] L).2.1 + 3 * (turns none tk [] L).2.2.length
theorem rt_display {h : Heap} {L : List (Int × Str)} {pos : Pos} {tk : Nat} (hx : n₀ ≤ h.objs.size) (h0 : sysModules < h.objs.size) (hL : L ≠ []) (ha : (L.map (fun kv => hashInt kv.1)).Nodup) (hz : L.length < sizeLine) :
    Rt w n₀ ann (dictDisplay (L.map (itD pos))) pos (st s h tk) (.ref h.objs.size) pos (st s (hpD h (endD L tk)) (endT L tk)) (526 * L.length + 10) := by
  obtain ⟨i1, i2, i3⟩ := turns_inv L [] none tk trivial
  have i4 := turns_isSome L [] none tk (.inr (by simpa using hL))
  have hz' : L.length < sizeLine := hz
  unfold dictDisplay
  dsimp only
  rw [show 526 * L.length + 10 = 500 * L.length + (26 * L.length + 10) by omega]
  have e0 : st s h tk = st s (hpD h none) tk := by show _ = st s (app h []) tk; rw [app_nil]
  rw [e0]
  refine Rt.bind (a := (adD h (turns none tk [] L).1, (turns none tk [] L).2.2.map (mk pos))) (p₁ := pos) (s₁ := st s (hpD h (turns none tk [] L).1) (turns none tk [] L).2.1) ?_ ?_
  · refine rt_turns hx h0 (fun kv R m h17 => ?_) (fun kv R m h17 => ?_) L none tk [] trivial (by simpa [entsD] using ha) (by simpa [entsD] using hz)
    · dsimp only [itD]
      rw [if_neg (by simpa using h17), List.map_append]; rfl
    · dsimp only [itD]
      rw [if_pos (by simpa using h17), List.map_append]; rfl
  · unfold endD endT
    generalize turns none tk [] L = X at i1 i2 i3 i4 ⊢
    obtain ⟨D, t, R⟩ := X
    dsimp only at i1 i2 i3 i4 ⊢
    have hRl : R.length ≤ L.length := by simp [entsD] at i3; omega
    show Rt w n₀ ann ((flushD (R.map (mk pos)) (adD h D)) >>= _) _ _ _ _ _ _
    by_cases hR : R = []
    · subst hR
      rw [if_pos rfl]
      obtain ⟨x, rfl⟩ : ∃ x, D = some x := by
        rcases i4 with i4 | i4
        · exact Option.isSome_iff_exists.mp i4
        · exact absurd rfl i4
      exact Rt.pure
    · rw [if_neg hR]
      have y := rt_flush (w := w) (n₀ := n₀) (ann := ann) (s := s) (h := h) (D := D) (R := R) (pos := pos) (tk := t) hx h0 hR i1 (by unfold Apart; rw [i2]; simpa [entsD] using ha) (by rw [i3]; simpa [entsD] using hz)
      refine Rt.le (n := (26 * R.length + 10) + 0) (Rt.bind y ?_) (by omega)
      obtain ⟨x, e⟩ := flP_some D R t
      rw [e]
      exact Rt.pure
noncomputable def cInt : Option PySem.Expr → Option Int
  | some (.Constant (.int k) _ _) => some k
  | _ => none
noncomputable def cStr : PySem.Expr → Option Str
  | .Constant (.str v) _ _ => some v
  | _ => none
theorem cInt_eq {a : Option PySem.Expr} {k : Int} (h : cInt a = some k) : ∃ i q, a = some (.Constant (.int k) i q) := by
  unfold cInt at h
  split at h
  · obtain rfl := Option.some.inj h; exact ⟨_, _, rfl⟩
  · cases h
theorem cStr_eq {a : PySem.Expr} {v : Str} (h : cStr a = some v) : ∃ i q, a = .Constant (.str v) i q := by
  unfold cStr at h
  split at h
  · obtain rfl := Option.some.inj h; exact ⟨_, _, rfl⟩
  · cases h
noncomputable def shapeOf : List (Option PySem.Expr) → List PySem.Expr → Option (List (Int × Str))
  | [], [] => some []
  | a :: ks, b :: vs => match cInt a, cStr b with
    | some k, some v => (shapeOf ks vs).map ((k, v) :: ·)
    | _, _ => none
  | _, _ => none
theorem zip_shape {env : Env} {pos : Pos} : ∀ {ks : List (Option PySem.Expr)} {vs : List PySem.Expr} {L : List (Int × Str)}, shapeOf ks vs = some L →
    (evalEachOpt ks env).zip ((evalEach vs env).map fun v => do let x ← v; standAt pos; pure x) = L.map (itD pos)
  | [], [], L, h => by obtain rfl := Option.some.inj h; rfl
  | [], _ :: _, L, h => by cases h
  | _ :: _, [], L, h => by cases h
  | a :: ks, b :: vs, L, h => by
    unfold shapeOf at h
    split at h
    · rename_i k v ea eb
      obtain ⟨i, q, rfl⟩ := cInt_eq ea
      obtain ⟨j, r, rfl⟩ := cStr_eq eb
      obtain ⟨L', h', rfl⟩ := Option.map_eq_some_iff.mp h
      have ih := zip_shape (env := env) (pos := pos) h'
      rw [List.map_cons, ← ih]
      rfl
    · cases h
noncomputable def ascB : Int → List (Int × Str) → Bool
  | _, [] => true
  | lo, kv :: r => decide (lo < kv.1) && decide (kv.1 < 2 ^ 40) && ascB kv.1 r
theorem hashInt_small {k : Int} (h0 : 0 ≤ k) (h1 : k < 2 ^ 40) : hashInt k = k := by
  obtain ⟨n, rfl⟩ := Int.eq_ofNat_of_zero_le h0
  have e : rawHash (n : Int) = n := by
    have h2 : (((n : Int).natAbs : Nat) : Int) % ((2 ^ 61 - 1 : Nat) : Int) = n := by
      rw [Int.natAbs_natCast]
      exact Int.emod_eq_of_lt (by omega) (Int.lt_trans h1 (by decide))
    unfold rawHash
    dsimp only
    rw [h2, if_neg (show ¬ ((n : Int) < 0) by omega)]
    have h3 : ((n : Int) == -1) = false := beq_eq_false_iff_ne.mpr (by omega)
    rw [h3]
    simp only [Bool.false_eq_true, if_false]
  unfold hashInt
  rw [e]
  have h3 : ((n : Int) == -1) = false := beq_eq_false_iff_ne.mpr (by omega)
  rw [h3]
  simp only [Bool.false_eq_true, if_false]
theorem asc_hash : ∀ {L : List (Int × Str)} {lo : Int}, ascB lo L = true → 0 ≤ lo → (∀ x ∈ L.map (fun kv => hashInt kv.1), lo < x) ∧ (L.map (fun kv => hashInt kv.1)).Nodup
  | [], _, _, _ => by simp
  | kv :: r, lo, h, h0 => by
    simp only [ascB, Bool.and_eq_true, decide_eq_true_eq] at h
    obtain ⟨⟨h1, h2⟩, h3⟩ := h
    obtain ⟨a, b⟩ := asc_hash h3 (by omega)
    rw [List.map_cons, hashInt_small (by omega) h2]
    refine ⟨fun x hx => ?_, List.nodup_cons.mpr ⟨fun q => ?_, b⟩⟩
    · rcases List.mem_cons.mp hx with rfl | hx
      · exact h1
      · have := a x hx; omega
    · have := a _ q; omega
end Mine
end
section
open PySem PySem.W PyProof.Rows PySem.Calls PySem.Spec
set_option Elab.async false
set_option maxRecDepth 100000
set_option maxHeartbeats 1000000
set_option autoImplicit false
namespace Mine
noncomputable abbrev env1 : Env := { scope := pg.main.scope, locals := mainNs, globals := mainNs, cells := [], code := .ref 13, frame := some 14 }
noncomputable abbrev q0 : Pos := { line := 0, col := 0, endLine := 0, endCol := 0 }
noncomputable abbrev B0 : List Frame := [topFrame q0]
noncomputable abbrev cd0 : Code := .body (behindTheImports pg) env1
noncomputable def asgT : Stmt → List PySem.Expr | .Assign t _ _ => t | _ => []
noncomputable def asgP : Stmt → Pos | .Assign _ _ p => p | _ => default
noncomputable def asgK : Stmt → List (Option PySem.Expr) | .Assign _ (.Dict ks _ _) _ => ks | _ => []
noncomputable def asgV : Stmt → List PySem.Expr | .Assign _ (.Dict _ vs _) _ => vs | _ => []
noncomputable def asgD : Stmt → Pos | .Assign _ (.Dict _ _ p) _ => p | _ => default
noncomputable def b3L : List (Int × Str) := (shapeOf (asgK (fnS 11)) (asgV (fnS 11))).getD []
theorem b3_shape : shapeOf (asgK (fnS 11)) (asgV (fnS 11)) = some b3L := by
  have e : (shapeOf (asgK (fnS 11)) (asgV (fnS 11))).isSome = true := by decide +kernel
  obtain ⟨L, h⟩ := Option.isSome_iff_exists.mp e
  unfold b3L
  rw [h]
  rfl
theorem b3_asc : ascB 0 b3L = true := by decide +kernel
theorem b3_len : b3L.length = 650 := by decide +kernel
theorem b3_toks : endT b3L 371 = 2321 := by decide +kernel
theorem fn11 : fnS 11 = .Assign (asgT (fnS 11)) (.Dict (asgK (fnS 11)) (asgV (fnS 11)) (asgD (fnS 11))) (asgP (fnS 11)) := by rfl
end Mine
end
section
open PySem PySem.W PyProof.Rows PySem.Calls PySem.Spec
set_option Elab.async false
set_option maxRecDepth 100000
set_option maxHeartbeats 1000000
set_option autoImplicit false
namespace Mine
noncomputable def postB (env : Env) (v : Value) : Sem Flow := do
  let sw ← swappedStores (asgT (fnS 11)) (.Dict (asgK (fnS 11)) (asgV (fnS 11)) (asgD (fnS 11))) env
  assignStores env v sw ((assignEach (asgT (fnS 11)) env).map (·.2))
theorem asgT_one : ∃ n q, asgT (fnS 11) = [.Name n q] := ⟨_, _, rfl⟩
theorem exec11 (env : Env) : exec (fnS 11) env = (do
    standAt (asgP (fnS 11))
    standAt (asgD (fnS 11))
    let v ← dictDisplay (b3L.map (itD (asgD (fnS 11))))
    postB env v) := by
  conv => lhs; rw [fn11]
  rw [arm_exec_Assign]
  obtain ⟨n, q, e⟩ := asgT_one
  have e1 : swapsWithSole (asgT (fnS 11)) (.Dict (asgK (fnS 11)) (asgV (fnS 11)) (asgD (fnS 11))) (asgP (fnS 11)).line env = .pure false := by
    rw [e]; rfl
  rw [e1, arm_eval_Dict, zip_shape b3_shape]
  rfl
theorem b3_run {w : World} {s : Shared} {N : Nat} {r : Flow × Shared × Code × Pos} {cd : Code} {p : Pos} {B : List Frame} {env : Env} (hs : s.toks = 371) (h11 : s.heap.objs.size = 117) (hB : B.length = 1)
    (h : segRun treeTable pg w 11 (some (.ref 6)) 1 N { s with heap := hpD s.heap (endD b3L 371), toks := 2321 } ⟨(postB env (.ref 117)).wrap doneF deadEnd id id, cd, asgD (fnS 11), B⟩ = some r) :
    segRun treeTable pg w 11 (some (.ref 6)) 1 (400000 + N) s (pieceOf (fnS 11) env cd p B) = some r := by
  have x := rt_display (w := w) (n₀ := 11) (ann := some (.ref 6)) (s := s) (h := s.heap) (L := b3L) (pos := asgD (fnS 11)) (tk := 371) (by omega) (by rw [h11]; decide) (by intro q; have := b3_len; rw [q] at this; cases this)
    (asc_hash b3_asc (Int.le_refl 0)).2 (by rw [b3_len]; decide)
  rw [b3_toks, h11, b3_len] at x
  have e0 : st s s.heap 371 = s := by rw [← hs]
  rw [e0] at x
  have y : Rt w 11 (some (.ref 6)) (do standAt (asgP (fnS 11)); standAt (asgD (fnS 11)); dictDisplay (b3L.map (itD (asgD (fnS 11)))) : Sem Value) p s (.ref 117) (asgD (fnS 11)) { s with heap := hpD s.heap (endD b3L 371), toks := 2321 } 400000 :=
    Rt.le (n := (526 * 650 + 10) + 1 + 1) (Rt.at (Rt.at x)) (by decide)
  have z := y (fun v => (postB env v).wrap doneF deadEnd id id) deadEnd id id cd B 1 N r (by omega) h
  have e : (exec (fnS 11) env).wrap doneF deadEnd id id = (do standAt (asgP (fnS 11)); standAt (asgD (fnS 11)); dictDisplay (b3L.map (itD (asgD (fnS 11)))) : Sem Value).wrap (fun v => (postB env v).wrap doneF deadEnd id id) deadEnd id id := by
    rw [exec11]
    have e2 : (do standAt (asgP (fnS 11)); standAt (asgD (fnS 11)); let v ← dictDisplay (b3L.map (itD (asgD (fnS 11)))); postB env v : Sem Flow) =
        (do standAt (asgP (fnS 11)); standAt (asgD (fnS 11)); dictDisplay (b3L.map (itD (asgD (fnS 11)))) : Sem Value) >>= postB env := by
      simp only [bind_assoc]
    rw [e2, Sem.bind_eq_wrap', Sem.wrap_wrap]
    rfl
  show segRun _ _ _ _ _ _ _ _ ⟨(exec (fnS 11) env).wrap doneF deadEnd id id, cd, p, B⟩ = _
  rw [e]
  exact z
end Mine
end
section
open PySem PySem.W PyProof.Rows PySem.Calls PySem.Spec
set_option Elab.async false
set_option maxRecDepth 100000
set_option maxHeartbeats 1000000
set_option autoImplicit false
namespace Mine
noncomputable def insL : BT → Nat → List Obj → BT
  | t, _, [] => t
  | t, n, o :: l => insL (t.ins n o) (n + 1) l
noncomputable def okI : BT → Nat → List Obj → Bool
  | _, _, [] => true
  | t, n, o :: l => ((t.ins n o).get n).isSome && okI (t.ins n o) (n + 1) l
theorem abs_insL {life : Life} : ∀ {l : List Obj} {t : BT} {n : Nat}, okI t n l = true → absHeap (insL t n l) (n + l.length) life = app (absHeap t n life) l
  | [], t, n, _ => (app_nil _).symm
  | o :: l, t, n, h => by
    obtain ⟨h1, h2⟩ := Bool.and_eq_true_iff.mp h
    have ih := abs_insL (life := life) h2
    rw [List.length_cons, show n + (l.length + 1) = n + 1 + l.length by omega]
    show absHeap (insL (t.ins n o) (n + 1) l) (n + 1 + l.length) life = _
    rw [ih, absHeap_ins h1]
    simp [app, Heap.push]
noncomputable def b3E : List DictEntry := ((endD b3L 371).getD ([], [])).1
noncomputable def b3S : List Obj := ((endD b3L 371).getD ([], [])).2
theorem b3_end : endD b3L 371 = some (b3E, b3S) := by
  have e : (endD b3L 371).isSome = true := by decide +kernel
  obtain ⟨x, h⟩ := Option.isSome_iff_exists.mp e
  unfold b3E b3S
  rw [h]
  rfl
theorem b3S_len : b3S.length = 38 := by decide +kernel
theorem b3E_len : b3E.length = 650 := by decide +kernel
/-- the world's row that the class's statement asks -/
noncomputable abbrev rowS : String := "special-get-raises"
noncomputable def w0 (P : Params) : World := ⟨fun _ _ => 0, P⟩
noncomputable def objs4 (P : Params) : List Obj :=
  match topGo treeTable pg (w0 P) 11 (some (.ref 6)) 12 ⟨boot_heap P, Array.mk [], boot_drawn, boot_toks, {}⟩ (topStub pg) with
  | some (s, _) => s.heap.objs.toList
  | none => []
noncomputable def sb (w : World) (os : OsState) : SharedT := { tree := insL .nil 0 (objs4 w.params), n := 15, life := {}, gens := { toList := [] }, drawn := {}, toks := 187, os := os }
noncomputable def stsA : List Stmt := [fnS 0, fnS 1, fnS 2, fnS 3, fnS 4, fnS 5, fnS 6, fnS 7, fnS 8, fnS 9, fnS 10]
noncomputable def rA (w : World) (os : OsState) : Option (Flow × SharedT × Code × Pos) :=
  PySem.W.Fast.tw10110043849684766642 PySem.W.Fast.tw14364793385576792824 pg w 11 (some (.ref 6)) 1 900 (sb w os) (piecesOf stsA env1 cd0 q0 B0)
theorem rA_seg (w : World) (os : OsState) : rA w os = segRunT treeTable pg w 11 (some (.ref 6)) 1 900 (sb w os) (piecesOf stsA env1 cd0 q0 B0) := by
  unfold rA
  rw [← PySem.W.Fast.te10110043849684766642, ← PySem.W.Fast.te14364793385576792824]
noncomputable def isNext : Option (Flow × SharedT × Code × Pos) → Bool
  | some (.next, _) => true
  | _ => false
noncomputable def codeAt : Option (Flow × SharedT × Code × Pos) → Code
  | some (_, _, c, _) => c
  | none => cd0
noncomputable def stateAt (d : SharedT) : Option (Flow × SharedT × Code × Pos) → SharedT
  | some (_, s, _) => s
  | none => d
noncomputable def posAt : Option (Flow × SharedT × Code × Pos) → Pos
  | some (_, _, _, p) => p
  | none => q0
theorem next_of {r : Option (Flow × SharedT × Code × Pos)} {d : SharedT} (h : isNext r = true) (hc : codeAt r = cd0) : r = some (.next, stateAt d r, cd0, posAt r) := by
  unfold isNext at h
  split at h
  · rename_i x
    obtain ⟨s, c, p⟩ := x
    exact congrArg (fun c => some (Flow.next, s, c, p)) hc
  · cases h
noncomputable def tr10 (w : World) (os : OsState) : BT := (stateAt (sb w os) (rA (w.withFollow rowS false) os)).tree
noncomputable def s10 (w : World) (os : OsState) : SharedT := { tree := tr10 w os, n := 117, life := {}, gens := { toList := [] }, drawn := {}, toks := 371, os := os }
noncomputable def p10 (w : World) (os : OsState) : Pos := posAt (rA (w.withFollow rowS false) os)
noncomputable def s11 (w : World) (os : OsState) : SharedT := { tree := insL (tr10 w os) 117 (dobj b3E 650 :: b3S), n := 156, life := {}, gens := { toList := [] }, drawn := {}, toks := 2321, os := os }
theorem s11_heap {w : World} {os : OsState} (ok11 : okI (tr10 w os) 117 (dobj b3E 650 :: b3S) = true) : hpD (absHeap (tr10 w os) 117 {}) (endD b3L 371) = absHeap (insL (tr10 w os) 117 (dobj b3E 650 :: b3S)) 156 {} := by
  have e := abs_insL (life := {}) ok11
  rw [List.length_cons, b3S_len] at e
  rw [b3_end]
  unfold hpD
  dsimp only
  rw [b3E_len]
  exact e.symm
theorem s11_abs {w : World} {os : OsState} (ok11 : okI (tr10 w os) 117 (dobj b3E 650 :: b3S) = true) : ({ (s10 w os).abs with heap := hpD (s10 w os).abs.heap (endD b3L 371), toks := 2321 } : Shared) = (s11 w os).abs := by
  unfold s10 s11 SharedT.abs
  dsimp only
  rw [s11_heap ok11]
noncomputable def sts5 : List Stmt := [fnS 12, fnS 13, fnS 14, fnS 15, fnS 16]
noncomputable def r12 (w : World) (os : OsState) : Option (Flow × SharedT × Code × Pos) :=
  segRunT treeTable pg w 11 (some (.ref 6)) 1 200 (s11 w os) ⟨(postB env1 (.ref 117)).wrap doneF deadEnd id id, cd0, asgD (fnS 11), B0⟩
noncomputable def s12 (w : World) (os : OsState) : SharedT := stateAt (s11 w os) (r12 w os)
noncomputable def p12 (w : World) (os : OsState) : Pos := posAt (r12 w os)
noncomputable def r17 (w : World) (os : OsState) : Option (Flow × SharedT × Code × Pos) :=
  segRunT treeTable pg w 11 (some (.ref 6)) 1 600 (s12 w os) (piecesOf sts5 env1 cd0 (p12 w os) B0)
noncomputable def s17 (w : World) (os : OsState) : SharedT := stateAt (s11 w os) (r17 w os)
noncomputable def p17 (w : World) (os : OsState) : Pos := posAt (r17 w os)
end Mine
end
section
open PySem PySem.W PyProof.Rows PySem.Calls PySem.Spec
set_option Elab.async false
set_option maxRecDepth 100000
set_option maxHeartbeats 1000000
set_option autoImplicit false
namespace Mine
noncomputable def q : Program := { pg with main := { pg.main with body := [fnS 5, fnS 7, fnS 8, fnS 9, fnS 12, fnS 14, fnS 15, fnS 16] } }
noncomputable def loose : List Str := ["_wall", "Whitespace", "COMPILER_FLAG_NAMES", "b3_exceptions"]
noncomputable abbrev mods0 : List Str := importedModules pg.main.body
noncomputable def Xt (s : Shared) : Bool := s.heap.nsMap mainGlobals "COMPILER_FLAG_NAMES" == some (.ref 88) && s.heap.nsMap mainGlobals "b3_exceptions" == some (.ref 117) && s.heap.nsMap mainGlobals "Whitespace" == some (.ref 83)
/-- the i-th statement of the class's body -/
noncomputable def mtS (i : Nat) : Stmt := (bodyOf (fnS 2)).getD i (.Pass ⟨0, 0, 0, 0⟩)
noncomputable def pmW : Value := .str "cpy313.tabnanny" 194
noncomputable def enS (P : Params) (x : Str) (t : Nat) (v : Value) : DictEntry := ⟨PyData.keyHash P x, .str x t, v⟩
noncomputable def o82 (P : Params) : Obj := ⟨.type "dict", none, .dict #[enS P "__module__" 203 pmW, enS P "__firstlineno__" 207 (.int 5 206), enS P "S" 211 (.str " " 209), enS P "T" 212 (.str "\t" 210), enS P "__init__" 227 (.ref 38),
  enS P "longest_run_of_spaces" 234 (.ref 45), enS P "indent_level" 246 (.ref 52), enS P "equal" 254 (.ref 59), enS P "not_equal_witness" 262 (.ref 66), enS P "less" 270 (.ref 73), enS P "not_less_witness" 278 (.ref 80),
  enS P "__static_attributes__" 284 (.ref 81), enS P "__dict__" 286 (.ref 84), enS P "__weakref__" 288 (.ref 85), enS P "__doc__" 289 .none] 4, #[]⟩
noncomputable def o83 : Obj := ⟨.type "type", none, .cls { name := "Whitespace", bases := [.type "object"], mro := [.ref 83, .type "object"], ns := 82, qualname := "Whitespace" },
  #[none, none, some (.str "Whitespace" 196), some (.str "Whitespace" 204), some (.builtin "object.__new__"), some (.bool true)]⟩
noncomputable def codeO (x y : Str) (t r line e : Nat) (u : Nat) : Obj := ⟨.type "code", none, .fields #[.str x t, .str y (t + 1), .str "/claim/cut.py" (t + 2), .int line 0, .int 2 0, .int 0 0, .int 0 0, .int 3 0, .ref r, .bool true, .int 181 0, .ref (r + 1), .none,
  .ref (r + 2), .ref (r + 3), .ref (r + 4), .int u 0, .int line 0, .str "/claim/cut.py" e], #[]⟩
noncomputable def fnO (x y : Str) (i a : Nat) : Obj := ⟨.type "function", none, .func (fnOf x y (paramsOf (mtS i)) (bodyOf (mtS i)) (scopeOf (mtS i)) .none .none .none pmW none (.ref a) .none), #[]⟩
noncomputable def addrsK : List Addr := [2, 82, 37, 38, 51, 52, 83]
noncomputable def KF (P : Params) : Frag := [(2, boot_o_2 P), (82, o82 P), (37, codeO "__init__" "Whitespace.__init__" 213 32 8 226 225), (38, fnO "__init__" "Whitespace.__init__" 1 37),
  (51, codeO "indent_level" "Whitespace.indent_level" 235 46 34 245 244), (52, fnO "indent_level" "Whitespace.indent_level" 3 51), (83, o83)]
noncomputable def vInt : Value → Option Int
  | .int k _ => some k
  | _ => none
noncomputable def vStr : Value → Option Str
  | .str y _ => some y
  | _ => none
noncomputable def dInt : PyData → Option Int
  | .int k => some k
  | _ => none
noncomputable def dStr : PyData → Option Str
  | .str y => some y
  | _ => none
theorem vInt_eq {v : Value} {k : Int} (h : vInt v = some k) : ∃ t, v = .int k t := by
  unfold vInt at h
  split at h
  · obtain rfl := Option.some.inj h; exact ⟨_, rfl⟩
  · cases h
theorem vStr_eq {v : Value} {k : Str} (h : vStr v = some k) : ∃ t, v = .str k t := by
  unfold vStr at h
  split at h
  · obtain rfl := Option.some.inj h; exact ⟨_, rfl⟩
  · cases h
theorem dInt_eq {v : PyData} {k : Int} (h : dInt v = some k) : v = .int k := by
  unfold dInt at h
  split at h
  · obtain rfl := Option.some.inj h; rfl
  · cases h
theorem dStr_eq {v : PyData} {k : Str} (h : dStr v = some k) : v = .str k := by
  unfold dStr at h
  split at h
  · obtain rfl := Option.some.inj h; rfl
  · cases h
noncomputable def entOk (e : DictEntry) (d : PyData × PyData) (lo : Int) : Option Int := match vInt e.key, vStr e.val with
  | some k', some y => match dInt d.1, dStr d.2 with
    | some k, some x => if k' == k && y == x && e.hash == hashInt k && decide (lo < k) then some k else none
    | _, _ => none
  | _, _ => none
theorem entOk_eq {e : DictEntry} {d : PyData × PyData} {lo k : Int} (h : entOk e d lo = some k) : ∃ x t u, e = ⟨hashInt k, .int k t, .str x u⟩ ∧ d = (.int k, .str x) ∧ lo < k := by
  unfold entOk at h
  split at h
  · rename_i k' y e1 e2
    split at h
    · rename_i k2 x e3 e4
      split at h
      · rename_i hc
        obtain rfl := Option.some.inj h
        simp only [Bool.and_eq_true, beq_iff_eq, decide_eq_true_eq] at hc
        obtain ⟨⟨⟨rfl, rfl⟩, c3⟩, c4⟩ := hc
        obtain ⟨t, e1⟩ := vInt_eq e1
        obtain ⟨u, e2⟩ := vStr_eq e2
        refine ⟨y, t, u, ?_, Prod.ext (dInt_eq e3) (dStr_eq e4), c4⟩
        obtain ⟨g, a, b⟩ := e
        dsimp only at c3 e1 e2
        rw [c3, e1, e2]
      · cases h
    · cases h
  · cases h
noncomputable def entsOk : List DictEntry → List (PyData × PyData) → Int → Bool
  | [], [], _ => true
  | e :: es, d :: D, lo => match entOk e d lo with
    | some k => entsOk es D k
    | none => false
  | _, _, _ => false
/-- whether an object is a dict display's object with the table's entries -/
noncomputable def isTab (o : Obj) (D : List (PyData × PyData)) : Bool :=
  (match o.cls with | .type x => x == "dict" | _ => false) && o.dict.isNone && (o.slots.size == 0) && (match o.data with | .dict es _ => entsOk es.toList D 0 | _ => false)
theorem isTab_eq {o : Obj} {D : List (PyData × PyData)} (h : isTab o D = true) : ∃ es n, o = dobj es n ∧ entsOk es D 0 = true := by
  obtain ⟨c, d, dt, sl⟩ := o
  unfold isTab at h
  simp only [Bool.and_eq_true, Option.isNone_iff_eq_none, beq_iff_eq] at h
  obtain ⟨⟨⟨h1, h2⟩, h3⟩, h4⟩ := h
  split at h1
  · rename_i x
    obtain rfl := eq_of_beq h1
    split at h4
    · rename_i es n
      refine ⟨es.toList, n, ?_, h4⟩
      obtain rfl := h2
      obtain rfl := Array.eq_empty_of_size_eq_zero h3
      rfl
    · cases h4
  · cases h1
noncomputable abbrev obsK (s : Shared) : List (Option Obj) × Bool × Option Obj := (addrsK.map s.heap.get?, (s.heap.get? 88).any (isTab · tabC), s.heap.get? 117)
noncomputable abbrev valK (w : World) : List (Option Obj) × Bool × Option Obj := ((KF w.params).map (fun p => some p.2), true, some (dobj b3E 650))
noncomputable def looks (w : World) (os : OsState) : Bool :=
  staticsOk mods0 (boot_heap w.params) (s17 w os).abs.heap && namesBound pg (s17 w os).abs.heap && gensDone (s17 w os).abs && laidKept (boot_heap w.params) (s17 w os).abs.heap
/-- all that the kernel runs of the top, in one -/
theorem kAll (w : World) (os : OsState) :
    (rA (w.withFollow rowS false) os, rA (w.withFollow rowS true) os, okI (tr10 w os) 117 (dobj b3E 650 :: b3S), isNext (r12 w os), codeAt (r12 w os), isNext (r17 w os), codeAt (r17 w os), looks w os, obsK (s17 w os).abs, openSeen q loose mods0 Xt true (s17 w os).abs) =
      (some (.next, s10 w os, cd0, p10 w os), some (.next, s10 w os, cd0, p10 w os), true, true, cd0, true, cd0, true, valK w, openGood q loose) := by kernel_rfl
end Mine
end
section
open PySem PySem.W PyProof.Rows PySem.Calls PySem.Spec
set_option Elab.async false
set_option maxRecDepth 100000
set_option maxHeartbeats 1000000
set_option autoImplicit false
namespace Mine
theorem behind_sts : behindTheImports pg = stsA ++ (fnS 11 :: sts5) := by kernel_rfl
theorem pre_run (w : World) (os : OsState) : topGo treeTable pg w 11 (some (.ref 6)) 12 ⟨boot_heap w.params, Array.mk [], boot_drawn, boot_toks, os⟩ (topStub pg) = some ((sb w os).abs, ⟨denote treeTable cd0, cd0, q0, B0⟩) := by kernel_rfl
theorem block_run (w : World) (os : OsState) : segRun treeTable pg w 11 (some (.ref 6)) 1 1 (sb w os).abs (blockOf (behindTheImports pg) env1 cd0 q0 B0) = some (.next, (sb w os).abs, cd0, q0) := by kernel_rfl
theorem fin_run (s : SharedT) (w : World) (p : Pos) : topRun treeTable pg w 11 (some (.ref 6)) 5 s.abs ⟨doneF .next, cd0, p, B0⟩ = some s.abs := by kernel_rfl
theorem tup10 {α1 : Type} {α2 : Type} {α3 : Type} {α4 : Type} {α5 : Type} {α6 : Type} {α7 : Type} {α8 : Type} {α9 : Type} {α10 : Type} {a1 b1 : α1} {a2 b2 : α2} {a3 b3 : α3} {a4 b4 : α4} {a5 b5 : α5} {a6 b6 : α6} {a7 b7 : α7} {a8 b8 : α8} {a9 b9 : α9} {a10 b10 : α10} (h : (a1, a2, a3, a4, a5, a6, a7, a8, a9, a10) = (b1, b2, b3, b4, b5, b6, b7, b8, b9, b10)) : a1 = b1 ∧ a2 = b2 ∧ a3 = b3 ∧ a4 = b4 ∧ a5 = b5 ∧ a6 = b6 ∧ a7 = b7 ∧ a8 = b8 ∧ a9 = b9 ∧ a10 = b10 := by
  simpa only [Prod.mk.injEq] using h
theorem eA (w : World) (os : OsState) : segRunT treeTable pg w 11 (some (.ref 6)) 1 900 (sb w os) (piecesOf stsA env1 cd0 q0 B0) = some (.next, s10 w os, cd0, p10 w os) := by
  have h : ∀ b : Bool, rA (w.withFollow rowS b) os = some (.next, s10 w os, cd0, p10 w os) := fun b => by
    cases b
    · exact (tup10 (kAll w os)).1
    · exact (tup10 (kAll w os)).2.1
  have x := h (w.params.followText rowS)
  rw [World.withFollow_self] at x
  rw [← rA_seg]
  exact x
theorem ok11 (w : World) (os : OsState) : okI (tr10 w os) 117 (dobj b3E 650 :: b3S) = true := (tup10 (kAll w os)).2.2.1
theorem e12 (w : World) (os : OsState) : r12 w os = some (.next, s12 w os, cd0, p12 w os) :=
  next_of ((tup10 (kAll w os)).2.2.2.1) ((tup10 (kAll w os)).2.2.2.2.1)
theorem e17 (w : World) (os : OsState) : r17 w os = some (.next, s17 w os, cd0, p17 w os) :=
  next_of ((tup10 (kAll w os)).2.2.2.2.2.1) ((tup10 (kAll w os)).2.2.2.2.2.2.1)
theorem k1 (w : World) (os : OsState) : (staticsOk mods0 (boot_heap w.params) (s17 w os).abs.heap && namesBound pg (s17 w os).abs.heap && gensDone (s17 w os).abs && laidKept (boot_heap w.params) (s17 w os).abs.heap) = true := by
  have h := (tup10 (kAll w os)).2.2.2.2.2.2.2.1
  unfold looks at h
  exact h
theorem k2 (w : World) (os : OsState) : obsK (s17 w os).abs = valK w := (tup10 (kAll w os)).2.2.2.2.2.2.2.2.1
theorem k3 (w : World) (os : OsState) : openSeen q loose mods0 Xt true (s17 w os).abs = openGood q loose := (tup10 (kAll w os)).2.2.2.2.2.2.2.2.2
noncomputable def Ntop : Nat := 12 + (1 + (900 + ((400000 + 200) + (600 + 5))))
theorem top_run (w : World) (os : OsState) : topRun treeTable pg w 11 (some (.ref 6)) Ntop ⟨boot_heap w.params, Array.mk [], boot_drawn, boot_toks, os⟩ (topStub pg) = some (s17 w os).abs := by
  refine go_top (pre_run w os) ?_
  refine piece_block (block_run w os) ?_
  rw [behind_sts]
  refine piece_app (s' := (s10 w os).abs) (p' := p10 w os) (segRun_of (eA w os)) ?_
  have h10 : (s10 w os).abs.heap.objs.size = 117 := absHeap_size _ _ _
  refine piece_cons (s' := (s12 w os).abs) (p' := p12 w os) (b3_run (s := (s10 w os).abs) (env := env1) rfl h10 rfl ?_) ?_
  · rw [s11_abs (ok11 w os)]
    exact segRun_of (e12 w os)
  · have e : sts5 = sts5 ++ [] := (List.append_nil _).symm
    conv => lhs; rw [e]
    refine piece_app (s' := (s17 w os).abs) (p' := p17 w os) ?_ ?_
    · exact segRun_of (e17 w os)
    · refine piece_nil ?_
      exact fin_run _ w _
end Mine
end
section
open PySem PySem.W PyProof.Rows PySem.Calls PySem.Spec
set_option Elab.async false
set_option maxRecDepth 100000
set_option maxHeartbeats 1000000
set_option autoImplicit false
namespace Mine
structure XPk (mg : Str → Option Value) (_h : Heap) : Prop where
  dC : mg "COMPILER_FLAG_NAMES" = some (.ref 88)
  dB : mg "b3_exceptions" = some (.ref 117)
  ws : mg "Whitespace" = some (.ref 83)
theorem xp_of (s : Shared) (e : Xt s = true) : XPk (s.heap.nsMap mainGlobals) s.heap := by
  unfold Xt at e
  simp only [Bool.and_eq_true, beq_iff_eq] at e
  exact ⟨e.1.1, e.1.2, e.2⟩
theorem XPk.keeps (mg : Str → Option Value) (h h' : Heap) (x : XPk mg h) (_ : ∀ b o, h.get? b = some o → h'.get? b = some o) : XPk mg h' := ⟨x.dC, x.dB, x.ws⟩
structure YPk (w : World) (h : Heap) : Prop where
  frag : (KF w.params).In h
  dC : ∃ es n, h.get? 88 = some (dobj es n) ∧ entsOk es tabC 0 = true
  dB : h.get? 117 = some (dobj b3E 650)
theorem yp_of (w : World) (s : Shared) (e : obsK s = valK w) : YPk w s.heap := by
  refine ⟨Frag.in_of (by rfl) (congrArg Prod.fst e), ?_, congrArg (fun x => x.2.2) e⟩
  have e1 : (s.heap.get? 88).any (isTab · tabC) = true := congrArg (fun x => x.2.1) e
  obtain ⟨o, e2, e3⟩ := (Option.any_eq_true ..).mp e1
  obtain ⟨es, n, rfl, e4⟩ := isTab_eq e3
  exact ⟨es, n, e2, e4⟩
theorem YPk.keeps (w : World) (h h' : Heap) (x : YPk w h) (k : ∀ b o, h.get? b = some o → h'.get? b = some o) : YPk w h' :=
  ⟨x.frag.keeps k, x.dC.imp fun _ => Exists.imp fun _ e => ⟨k _ _ e.1, e.2⟩, k _ _ x.dB⟩
end Mine
end
section
open PySem PySem.W PyProof.Rows PySem.Calls PySem.Spec
set_option Elab.async false
set_option maxRecDepth 100000
set_option maxHeartbeats 1000000
set_option autoImplicit false
namespace Mine
theorem k4 (w : World) : ((boot_heap w.params).isNs mainGlobals && (Array.mk ([] : List GenState)).size == 0) = true := by kernel_rfl
theorem k5 (w : World) : (boot_heap w.params).objs.size = 11 := by kernel_rfl
theorem k6 (w : World) : (boot_heap w.params).nsMap mainGlobals "__annotations__" = some (.ref 6) := by kernel_rfl
noncomputable abbrev N0 : Nat := 500000
theorem top0 (w : World) (os : OsState) : topRun treeTable pg w 11 (some (.ref 6)) N0 ⟨boot_heap w.params, Array.mk [], boot_drawn, boot_toks, os⟩ (topStub pg) = some (s17 w os).abs := by
  have r := topRun_mono (N0 - Ntop) _ _ _ _ (top_run w os)
  rw [show N0 = Ntop + (N0 - Ntop) by decide]
  exact r
theorem topFrom_of {tb : String → Option Builtin} {p : Program} {w : World} {N n : Nat} {ann : Option Value} {s0 s1 : Shared} (h0 : (s0.heap.isNs mainGlobals && s0.gens.size == 0) = true) (h1 : s0.heap.objs.size = n) (h2 : s0.heap.nsMap mainGlobals "__annotations__" = ann)
    (hr : topRun tb p w n ann N s0 (topStub p) = some s1) (hk : (staticsOk (importedModules p.main.body) s0.heap s1.heap && namesBound p s1.heap && gensDone s1 && laidKept s0.heap s1.heap) = true) : topFrom tb p w N s0 = some s1 := by
  unfold topFrom
  rw [h0]
  dsimp only
  rw [h1, h2, hr, Option.bind_some]
  rw [hk]
theorem top1 (w : World) (os : OsState) : topFrom treeTable pg w N0 ⟨boot_heap w.params, Array.mk [], boot_drawn, boot_toks, os⟩ = some (s17 w os).abs :=
  topFrom_of (k4 w) (k5 w) (k6 w) (top0 w os) (k1 w os)
theorem left_q : LeftO pg q loose Xt obsK valK N0 := fun w => by
  obtain ⟨⟨h, gs, d, k, os⟩, e, e'⟩ := Option.map_eq_some_iff.mp (boot_open (p := pg) (N := N0) (by kernel_rfl) (by kernel_rfl) (fun _ => rfl) w)
  obtain ⟨rfl, rfl, rfl, rfl⟩ : h = boot_heap w.params ∧ gs = Array.mk [] ∧ d = boot_drawn ∧ k = boot_toks := by simpa using e'
  have t := top1 w os
  unfold openEnds
  rw [e, Option.bind_some, t, Option.map_some]
  exact congrArg some (looks_pair (k3 w os) (k2 w os))
end Mine
end
section
open PySem PySem.W PyProof.Rows PySem.Calls PySem.Spec
set_option Elab.async false
set_option maxRecDepth 100000
set_option maxHeartbeats 1000000
set_option autoImplicit false
namespace Mine
noncomputable def posOf : Stmt → Pos
  | .FunctionDef _ _ _ _ _ _ _ _ _ p => p
  | _ => default
noncomputable def dLaw : DefRec := ⟨nameOf (fnS 16), paramsOf (fnS 16), bodyOf (fnS 16), scopeOf (fnS 16), posOf (fnS 16)⟩
abbrev rowW : RowW := OpenRow.toRowW (PySem.Challenge.rw_sn0084_01.row)
theorem h_def : defOf q "law" = some (dLaw, []) := by kernel_rfl
theorem h_p : pg.theDef "law" = some (dLaw.params, dLaw.body, dLaw.scope) := by kernel_rfl
theorem h_kw : kwWritten? dLaw.params.kwonlyargs dLaw.params.kw_defaults = some [] := by kernel_rfl
theorem h_ok : (chainsOk q && opensWell pg && (frees rowW && rowW.within.isEmpty)) = true := by kernel_rfl
theorem said_law : PySem.Challenge.rw_sn0084_01.wellSaid = true := by
  rw [PySem.W.Fast.te9446332074065402090]
  kernel_rfl
theorem holds_of_call (hw : rowW.promised) (call : WalkO q loose XPk YPk rowW dLaw [] (fun f vs => PySem.call f vs)) : PySem.Challenge.rw_sn0084_01.Holds := by
  refine holds_law (l := PySem.Challenge.rw_sn0084_01) said_law fun said => ?_
  refine PySem.W.holds_open (q := q) (loose := loose) (Xt := Xt) (XP := XPk) (Yf := obsK) (Ya := valK) (YP := YPk) (N := N0) (d := dLaw) (kwd := []) left_q yp_of YPk.keeps xp_of XPk.keeps h_def h_p h_kw (fun s _ => recFacts_nil rfl) rfl (by assumption) h_ok ⟨rfl, rfl, rfl, rfl, rfl, by decide +kernel⟩ hw call
theorem hw_law : rowW.promised := by
  w_witness2
end Mine
end
section
open PyProof PyProof.V PySem PySem.W PyProof.Rows PySem.Calls PySem.Spec
set_option Elab.async false
set_option maxRecDepth 100000
set_option maxHeartbeats 1000000
set_option autoImplicit false
namespace Mine
theorem ents_ok {w : World} : ∀ {es : List DictEntry} {D : List (PyData × PyData)} {lo : Int}, entsOk es D lo = true →
    ∃ kvs : List (Int × Value), (∀ e ∈ es, ∃ k, (intKind pg w).is k e.key = true ∧ e.hash = (intKind pg w).hash k) ∧ Pairs (intKind pg w) es kvs ∧ (∀ x ∈ kvs.map (·.1), lo < x) ∧ (kvs.map (·.1)).Nodup ∧ FlatPairs PyData.int kvs D
  | [], [], lo, _ => ⟨[], by simp, Pairs.nil, by simp, by simp, .nil⟩
  | [], _ :: _, lo, h => by cases h
  | _ :: _, [], lo, h => by cases h
  | e :: es, d :: D, lo, h => by
    unfold entsOk at h
    split at h
    · rename_i k' he
      obtain ⟨y, t, u, rfl, rfl, hlo⟩ := entOk_eq he
      obtain ⟨kvs, a, b, c, d, e⟩ := ents_ok (w := w) h
      refine ⟨(k', .str y u) :: kvs, ?_, ?_, ?_, ?_, .cons (Flat.str y u) e⟩
      · intro e he
        rcases List.mem_cons.mp he with rfl | he
        · exact ⟨k', by simp [intKind, Value.isInt], rfl⟩
        · exact a e he
      · exact Pairs.cons (by simp [intKind, Value.isInt]) rfl b
      · intro x hx
        rcases List.mem_cons.mp hx with rfl | hx
        · exact hlo
        · exact Int.lt_trans hlo (c x hx)
      · refine List.nodup_cons.mpr ⟨fun q => ?_, d⟩
        exact absurd (c _ q) (Int.lt_irrefl _)
    · cases h
theorem okB : entsOk b3E tabB 0 = true := by kernel_rfl
theorem tab_of {w : World} {h : Heap} {d : Addr} {es : List DictEntry} {n : Nat} {D : List (PyData × PyData)} {lo : Int} (hd : (d == sysModules) = false) (ho : h.get? d = some (dobj es n)) (e : entsOk es D lo = true) : IntTab pg w h d D := by
  obtain ⟨kvs, a, b, _, c, f⟩ := ents_ok (w := w) e
  exact ⟨hd, kvs, ⟨dobj es n, es.toArray, n, ho, ⟨rfl, rfl, rfl⟩, rfl, fun e he => a e (by simpa using he), by simpa using b, c⟩, f⟩
noncomputable def recAt (i : Nat) : DefRec := ⟨nameOf (fnS i), paramsOf (fnS i), bodyOf (fnS i), scopeOf (fnS i), posOf (fnS i)⟩
theorem recs_q : recsOf q = [recAt 5, recAt 7, recAt 8, recAt 9, recAt 12, recAt 14, recAt 15, recAt 16] := by kernel_rfl
noncomputable def isFree (x : Str) : Bool := !startupNames.contains x && !(looseW q loose).contains x && !((recsOf q).map (·.name)).contains x && !((litsOf q).map (·.1)).contains x && !((clssOf q (looseW q loose)).map (·.name)).contains x
theorem free_q : (["len", "sum", "chr", "range", "ord", "hex", "enumerate", "tuple"] : List Str).all isFree = true := by kernel_rfl
/-- all that the calls read of the text's top -/
structure Tq (G : GA) (mg mb : Str → Option Value) (w : World) (h : Heap) : Prop where
  tp : Tp G mg mb w h
  k : (KF w.params).In h
  ws : G.ws = 83
theorem Tq.keeps {G : GA} {mg mb : Str → Option Value} {w : World} {h h' : Heap} (x : Tq G mg mb w h) (e : Ext h h') : Tq G mg mb w h' := ⟨x.tp.keeps e, x.k.keeps e, x.ws⟩
theorem fn_of {mg : Str → Option Value} {h : Heap} {i : Nat} (x : ∃ a o pm code doc, mg (recAt i).name = some (.ref a) ∧ h.get? a = some o ∧ o.data = .func (docDef (recAt i).name (recAt i).params (recAt i).body (recAt i).scope pm code doc) ∧ h.CodeRec code (recAt i).name) :
    ∃ a, mg (nameOf (fnS i)) = some (.ref a) ∧ FnAt h a (fnS i) :=
  let ⟨a, o, pm, code, doc, h1, h2, h3, h4⟩ := x; ⟨a, h1, o, pm, code, doc, h2, h3, h4⟩
theorem tq_of {w : World} {s₀ : Shared} {mg mb : Str → Option Value} {h : Heap} {R : WRecords} (X : Ground q loose R XPk w s₀ mg mb h) (Y : YPk w h) : ∃ G, Tq G mg mb w h := by
  have T := X.T
  have F : ∀ i, recAt i ∈ recsOf q → ∃ a, mg (nameOf (fnS i)) = some (.ref a) ∧ FnAt h a (fnS i) := fun i hi => fn_of (T.fn (recAt i) hi)
  rw [recs_q] at F
  obtain ⟨a5, m5, f5⟩ := F 5 (by simp)
  obtain ⟨a7, m7, f7⟩ := F 7 (by simp)
  obtain ⟨a8, m8, f8⟩ := F 8 (by simp)
  obtain ⟨a9, m9, f9⟩ := F 9 (by simp)
  obtain ⟨a12, m12, f12⟩ := F 12 (by simp)
  obtain ⟨a14, m14, f14⟩ := F 14 (by simp)
  obtain ⟨a15, m15, f15⟩ := F 15 (by simp)
  refine ⟨⟨a5, a7, a8, a9, a12, a14, a15, 83, 88, 117⟩, ⟨T.g, T.b, T.nolimit, T.builtins, fun x hx => ?_, m5, m7, m8, m9, m12, m14, m15, X.X.ws, X.X.dC, X.X.dB, f5, f7, f8, f9, f12, f14, f15, ?_, ?_⟩, Y.frag, rfl⟩
  · have h1 := List.all_eq_true.mp free_q x hx
    unfold isFree at h1
    simp only [Bool.and_eq_true, Bool.not_eq_true', List.contains_eq_mem, decide_eq_false_iff_not] at h1
    exact T.free x h1.1.1.1.1 h1.1.1.1.2 h1.1.1.2 h1.1.2 h1.2
  · obtain ⟨es, n, o, e⟩ := Y.dC
    exact tab_of (show ((88 : Addr) == sysModules) = false by decide) o e
  · exact tab_of (show ((117 : Addr) == sysModules) = false by decide) Y.dB okB
end Mine
end
section
open PySem PySem.W PyProof.Rows PySem.Calls PySem.Spec PyProof PyProof.V PySem.SeqAt
set_option Elab.async false
set_option maxRecDepth 100000
set_option linter.unusedVariables false
set_option autoImplicit false
namespace Mine
local macro_rules | `(tactic| walk_at "eval Name") => `(tactic| (name_kind "globalImplicit"; (with_reducible rename Fr _ _ _ _ => kF); (with_reducible rename Tp _ _ _ _ _ => kT); first
  | (with_unfolding_all refine nm_glob (Tp.keeps kT (Fr.keep kF)) (by with_reducible first | exact Tp.m_pf kT | exact Tp.m_ie kT | exact Tp.m_sq kT | exact Tp.m_cp kT | exact Tp.m_mb kT | exact Tp.m_lw kT | exact Tp.m_lu kT | exact Tp.m_ws kT | exact Tp.m_dC kT | exact Tp.m_dB kT) ?_)
  | (with_unfolding_all refine nm_boot (Tp.keeps kT (Fr.keep kF)) (by decide) (by boot_fast) ?_)))
local macro_rules | `(tactic| walk_at "forall") => `(tactic| fail "no")
local macro_rules | `(tactic| walk_at "newList") => `(tactic| (refine newList_K (by assumption) (by assumption) ?_; intro l' h' F' N' l1))
section
open PySem PySem.W PyProof.Rows PySem.Calls PySem.Spec
set_option Elab.async false
set_option maxRecDepth 100000
set_option maxHeartbeats 4000000
set_option linter.unusedVariables false
set_option autoImplicit false
variable {G : GA} {mg mb : Str → Option Value} {w : World}
theorem get1_str {A : Around} {E : Value → Shared → Prop} {s : Shared} {d : Addr} {D : List (PyData × PyData)} {i : Int} {t : Tok} {r : Str} {Q : Value → Shared → Prop} (T : IntTab pg w s.heap d D)
    (hl : lookup (.int i) D = some (.str r)) (h : ∀ tk, Q (.str r tk) { s with toks := s.toks + 1 }) : wpAny (model pg w) A (call (.builtin "dict.get") [.ref d, .int i t]) Q E s := by
  refine call_get1_intTab T fun v hv => ?_
  rw [hl] at hv
  cases (hv ({} : Heap))
  exact h _
theorem get1_none {A : Around} {E : Value → Shared → Prop} {s : Shared} {d : Addr} {D : List (PyData × PyData)} {i : Int} {t : Tok} {Q : Value → Shared → Prop} (T : IntTab pg w s.heap d D)
    (hl : lookup (.int i) D = none) (h : Q .none { s with toks := s.toks + 1 }) : wpAny (model pg w) A (call (.builtin "dict.get") [.ref d, .int i t]) Q E s := by
  refine call_get1_intTab T fun v hv => ?_
  rw [hl] at hv
  cases (hv ({} : Heap))
  exact h
local macro_rules | `(tactic| walk_at "call builtin:dict.get") => `(tactic| ((with_reducible rename TabAt _ _ _ _ _ => kB); (with_reducible rename Fr _ _ _ _ => kF); with_unfolding_all refine get1_str (TabAt.keep kB (Fr.keep kF)) (by assumption) ?_; intro tkr))
local macro_rules | `(tactic| walk_at "call builtin:dict.get") => `(tactic| ((with_reducible rename TabAt _ _ _ _ _ => kB); (with_reducible rename Fr _ _ _ _ => kF); with_unfolding_all refine get1_none (TabAt.keep kB (Fr.keep kF)) (by assumption) ?_))
theorem c_b3 {A : Around} {E : Value → Shared → Prop} {s : Shared} {c : Nat} {r : Str} {t : Tok} {Q : Value → Shared → Prop}
    (T : Tp G mg mb w s.heap) (hroom : A.depth + 1 < recursionLimit) (hh : A.handled = none)
    (hr : lookup (.int (c : Int)) tabB = some (.str r))
    (hQ : ∀ h' tk tk', Ext s.heap h' → Q (.str r tk') { s with heap := h', toks := tk }) :
    wpAny (model pg w) A (call (.ref G.mb) [.str ⟨#[c]⟩ t]) Q E s := by
  obtain ⟨o, pm, code, doc, ho, hd, hc⟩ := T.f_mb
  refine wpAny_call ?_
  refine call_plain_ret (binds := [("code", .str ⟨#[c]⟩ t)]) (Nat.lt_of_succ_lt hroom) ho hd T.nolimit hc ?_ ?_ (fun h₁ F => ?_)
  · rfl
  · intro x hx; simp at hx; rcases hx with rfl; rfl
  · conv in (occs := *) (fnS _) => all_goals (unfold fnS; whnf)
    simp only [bodyOf, scopeOf, nameOf]
    have tB := T.t_B
    have keep0 : Ext s.heap s.heap := fun _ _ e => e
    repeat' (first | ((try dsimp only); walk1))
    exact hQ _ _ _ (Fr.keep (by assumption))
theorem c_b3n {A : Around} {E : Value → Shared → Prop} {s : Shared} {c : Nat} {r : Str} {t : Tok} {Q : Value → Shared → Prop}
    (T : Tp G mg mb w s.heap) (hroom : A.depth + 1 < recursionLimit) (hh : A.handled = none)
    (hr : lookup (.int (c : Int)) tabB = none) (hr2 : Txt.lower ⟨#[c]⟩ = r) (hr3 : Builtin.Str.tooLong (Txt.lower ⟨#[c]⟩).length = false)
    (hQ : ∀ h' tk tk', Ext s.heap h' → Q (.str r tk') { s with heap := h', toks := tk }) :
    wpAny (model pg w) A (call (.ref G.mb) [.str ⟨#[c]⟩ t]) Q E s := by
  obtain ⟨o, pm, code, doc, ho, hd, hc⟩ := T.f_mb
  refine wpAny_call ?_
  refine call_plain_ret (binds := [("code", .str ⟨#[c]⟩ t)]) (Nat.lt_of_succ_lt hroom) ho hd T.nolimit hc ?_ ?_ (fun h₁ F => ?_)
  · rfl
  · intro x hx; simp at hx; rcases hx with rfl; rfl
  · conv in (occs := *) (fnS _) => all_goals (unfold fnS; whnf)
    simp only [bodyOf, scopeOf, nameOf]
    have tB := T.t_B
    have keep0 : Ext s.heap s.heap := fun _ _ e => e
    repeat' (first | ((try dsimp only); walk1))
    refine SC.lower hr3 ?_
    dsimp only
    rw [hr2]
    exact hQ _ _ _ (Fr.keep (by assumption))
/-- the sign's small letter -/
noncomputable def Low (c : Nat) (r : Str) : Prop := lookup (.int (c : Int)) tabB = some (.str r) ∨ (lookup (.int (c : Int)) tabB = none ∧ Txt.lower ⟨#[c]⟩ = r ∧ Builtin.Str.tooLong (Txt.lower ⟨#[c]⟩).length = false)
theorem c_map {A : Around} {E : Value → Shared → Prop} {s : Shared} {c : Nat} {r : Str} {t : Tok} {Q : Value → Shared → Prop}
    (T : Tp G mg mb w s.heap) (hroom : A.depth + 1 < recursionLimit) (hh : A.handled = none) (hr : Low c r)
    (hQ : ∀ h' tk tk', Ext s.heap h' → Q (.str r tk') { s with heap := h', toks := tk }) :
    wpAny (model pg w) A (call (.ref G.mb) [.str ⟨#[c]⟩ t]) Q E s := by
  rcases hr with h1 | ⟨h1, h2, h3⟩
  · exact c_b3 T hroom hh h1 hQ
  · exact c_b3n T hroom hh h1 h2 h3 hQ
noncomputable def lowB (c : Nat) (r : Str) : Bool := match lookup (.int (c : Int)) tabB with
  | some (.str x) => decide (x = r)
  | some _ => false
  | none => decide (Txt.lower ⟨#[c]⟩ = r) && (Builtin.Str.tooLong (Txt.lower ⟨#[c]⟩).length == false)
theorem low_of {c : Nat} {r : Str} (h : lowB c r = true) : Low c r := by
  unfold lowB at h
  unfold Low
  split at h
  · rename_i x e
    rw [of_decide_eq_true h] at e
    exact .inl e
  · cases h
  · rename_i e
    rw [Bool.and_eq_true] at h
    exact .inr ⟨e, of_decide_eq_true h.1, by simpa using h.2⟩
theorem lows : ∀ p : _root_.Fin 7, lowB (97 + p.1) ⟨#[97 + p.1]⟩ = true ∧ lowB (65 + p.1) ⟨#[97 + p.1]⟩ = true ∧ lowB (119808 + p.1) ⟨#[97 + p.1]⟩ = true ∧ lowB (120432 + p.1) ⟨#[97 + p.1]⟩ = true := by decide +kernel
end
section
open PySem PySem.W PyProof.Rows PySem.Calls PySem.Spec
set_option Elab.async false
set_option maxRecDepth 100000
set_option maxHeartbeats 1000000
set_option linter.unusedVariables false
set_option autoImplicit false
/-- the number of some places' flags -/
noncomputable def bsum (qs : List Nat) : Nat := (qs.map (2 ^ ·)).sum
noncomputable def Asc (i : Nat) : List Nat → Prop
  | [] => True
  | q :: r => i ≤ q ∧ Asc (q + 1) r
theorem asc_mono : ∀ {qs : List Nat} {i j : Nat}, Asc i qs → j ≤ i → Asc j qs
  | [], _, _, _, _ => trivial
  | _ :: _, _, _, h, hj => ⟨Nat.le_trans hj h.1, h.2⟩
theorem bsum_dvd : ∀ {qs : List Nat} {i : Nat}, Asc i qs → ∃ a, bsum qs = 2 ^ i * a
  | [], i, _ => ⟨0, by simp [bsum]⟩
  | q :: r, i, h => by
    obtain ⟨a, ha⟩ := bsum_dvd (asc_mono h.2 (Nat.le_trans h.1 (Nat.le_succ q)))
    refine ⟨2 ^ (q - i) + a, ?_⟩
    have e : bsum (q :: r) = 2 ^ q + bsum r := rfl
    rw [e, ha, Nat.mul_add, ← Nat.pow_add, Nat.add_sub_cancel' h.1]
theorem bsum_tb {qs : List Nat} {i : Nat} (h : Asc (i + 1) qs) : (bsum qs).testBit i = false := by
  obtain ⟨a, ha⟩ := bsum_dvd h
  rw [ha, Nat.testBit_two_pow_mul]
  have : decide (i ≥ i + 1) = false := decide_eq_false (by omega)
  rw [this, Bool.false_and]
theorem and_tp (n i : Nat) (b : Bool) (h : n.testBit i = b) : n &&& 2 ^ i = if b then 2 ^ i else 0 := by
  apply Nat.eq_of_testBit_eq
  intro j
  rw [Nat.testBit_and]
  by_cases e : j = i
  · subst e
    rw [h, Nat.testBit_two_pow_self]
    cases b <;> simp
  · rw [Nat.testBit_two_pow_of_ne (Ne.symm e)]
    cases b <;> simp [Nat.testBit_two_pow_of_ne (Ne.symm e)]
theorem and_off {qs : List Nat} {i : Nat} (h : Asc (i + 1) qs) : bsum qs &&& 2 ^ i = 0 := by
  rw [and_tp _ _ false (bsum_tb h)]; rfl
theorem add_or {qs : List Nat} {i : Nat} (h : Asc (i + 1) qs) : 2 ^ i + bsum qs = bsum qs ||| 2 ^ i := by
  obtain ⟨a, ha⟩ := bsum_dvd h
  rw [ha, Nat.add_comm]
  exact Nat.two_pow_add_eq_or_of_lt (Nat.pow_lt_pow_right (by decide) (Nat.lt_succ_self i)) a
theorem and_on {qs : List Nat} {i : Nat} (h : Asc (i + 1) qs) : (2 ^ i + bsum qs) &&& 2 ^ i = 2 ^ i := by
  rw [and_tp _ _ true (by rw [add_or h, Nat.testBit_or, Nat.testBit_two_pow_self]; simp)]; rfl
theorem xor_on {qs : List Nat} {i : Nat} (h : Asc (i + 1) qs) : (2 ^ i + bsum qs) ^^^ 2 ^ i = bsum qs := by
  rw [add_or h]
  apply Nat.eq_of_testBit_eq
  intro j
  rw [Nat.testBit_xor, Nat.testBit_or]
  by_cases e : j = i
  · subst e
    rw [bsum_tb h, Nat.testBit_two_pow_self]; rfl
  · rw [Nat.testBit_two_pow_of_ne (Ne.symm e)]; simp
theorem bsum_pos : ∀ {qs : List Nat}, qs ≠ [] → bsum qs ≠ 0
  | [], h => absurd rfl h
  | q :: r, _ => by
    have e : bsum (q :: r) = 2 ^ q + bsum r := rfl
    have := Nat.two_pow_pos q
    omega
theorem bsum_lt : ∀ {qs : List Nat} {i n : Nat}, Asc i qs → (∀ q ∈ qs, q < n) → bsum qs + 2 ^ i ≤ 2 ^ n ∨ qs = []
  | [], _, _, _, _ => .inr rfl
  | q :: r, i, n, h, hn => by
    left
    have e : bsum (q :: r) = 2 ^ q + bsum r := rfl
    have h1 : 2 ^ i ≤ 2 ^ q := Nat.pow_le_pow_right (by decide) h.1
    have h2 : q < n := hn q (.head _)
    have h3 : 2 ^ (q + 1) ≤ 2 ^ n := Nat.pow_le_pow_right (by decide) h2
    have h4 : 2 ^ (q + 1) = 2 * 2 ^ q := by rw [Nat.pow_succ, Nat.mul_comm]
    rcases bsum_lt h.2 (fun x hx => hn x (.tail _ hx)) with h5 | h5
    · omega
    · subst h5
      have : bsum [] = 0 := rfl
      omega
theorem wAnd_on {qs : List Nat} {i : Nat} (h : Asc (i + 1) qs) : Builtin.bitAnd ((2 ^ i + bsum qs : Nat) : Int) ((2 ^ i : Nat) : Int) = ((2 ^ i : Nat) : Int) := by
  rw [bitAnd_pp (Int.natCast_nonneg _) (Int.natCast_nonneg _), Int.toNat_natCast, Int.toNat_natCast, and_on h]
theorem wAnd_off {qs : List Nat} {i : Nat} (h : Asc (i + 1) qs) : Builtin.bitAnd ((bsum qs : Nat) : Int) ((2 ^ i : Nat) : Int) = 0 := by
  rw [bitAnd_pp (Int.natCast_nonneg _) (Int.natCast_nonneg _), Int.toNat_natCast, Int.toNat_natCast, and_off h]; rfl
theorem wXor_on {qs : List Nat} {i : Nat} (h : Asc (i + 1) qs) : Builtin.bitXor ((2 ^ i + bsum qs : Nat) : Int) ((2 ^ i : Nat) : Int) = ((bsum qs : Nat) : Int) := by
  unfold Builtin.bitXor
  rw [bitOr_and, wAnd_on h]
  omega

variable {G : GA} {mg mb : Str → Option Value} {w : World}
noncomputable def wordP (p : Nat) : Str := match lookup (.int ((2 ^ p : Nat) : Int)) tabC with
  | some (.str x) => x
  | _ => baseText "0x" 16 ((2 ^ p : Nat) : Int)
noncomputable def isS : PyData → Bool
  | .str _ => true
  | _ => false
theorem lookup_all {k y : PyData} : ∀ {D : List (PyData × PyData)}, (D.all fun p => isS p.2) = true → lookup k D = some y → isS y = true
  | [], _, h => by cases h
  | (a, b) :: r, h, e => by
    rw [List.all_cons, Bool.and_eq_true] at h
    unfold Spec.lookup at e
    split at e
    · cases e; exact h.1
    · exact lookup_all h.2 e
theorem tabC_str (k y : PyData) (e : lookup k tabC = some y) : ∃ x, y = .str x := by
  have h := lookup_all (D := tabC) (by decide +kernel) e
  cases y with
  | str x => exact ⟨x, rfl⟩
  | _ => cases h
theorem asc_len : ∀ {qs : List Nat} {i n : Nat}, Asc i qs → (∀ q ∈ qs, q < n) → qs.length + i ≤ n ∨ qs = []
  | [], _, _, _, _ => .inr rfl
  | q :: r, i, n, h, hn => by
    left
    have h1 := h.1
    have h2 := hn q (.head _)
    rw [List.length_cons]
    rcases asc_len h.2 (fun x hx => hn x (.tail _ hx)) with h5 | h5
    · omega
    · subst h5; simp; omega
section
variable {A : Around} {E : Value → Shared → Prop} {s : Shared}
theorem shl1 {i : Nat} {t u : Tok} {Q : Value → Shared → Prop} (hi : i < 64) (h : ∀ t', Q (.int ((2 ^ i : Nat) : Int) t') { s with toks := s.toks + 1 }) :
    wpAny (model pg w) A (binaryOp .LShift (.int 1 t) (.int (i : Nat) u)) Q E s := by
  refine lshift_int_small (by omega) (by omega) (by decide) ?_
  have e : (1 : Int) * 2 ^ ((i : Nat) : Int).toNat = ((2 ^ i : Nat) : Int) := by
    rw [Int.toNat_natCast, Int.one_mul, Int.natCast_pow]; rfl
  rw [e]
  exact h _
theorem and_eq {a b c : Int} {t u : Tok} {Q : Value → Shared → Prop} (hc : Builtin.bitAnd a b = c) (h : ∀ t', Q (.int c t') { s with toks := s.toks + 1 }) :
    wpAny (model pg w) A (binaryOp .BitAnd (.int a t) (.int b u)) Q E s := and_int (by rw [hc]; exact h _)
theorem ixor_eq {a b c : Int} {t u : Tok} {Q : Value → Shared → Prop} (hc : Builtin.bitXor a b = c) (h : ∀ t', Q (.int c t') { s with toks := s.toks + 1 }) :
    wpAny (model pg w) A (inplaceOp .BitXor (.int a t) (.int b u)) Q E s := ixor_int (by rw [hc]; exact h _)
theorem get2_word {d : Addr} {i : Nat} {t u : Tok} {Q : Value → Shared → Prop} (T : IntTab pg w s.heap d tabC) (h : ∀ tk, Q (.str (wordP i) tk) { s with toks := s.toks + 1 }) :
    wpAny (model pg w) A (call (.builtin "dict.get") [.ref d, .int ((2 ^ i : Nat) : Int) t, .str (baseText "0x" 16 ((2 ^ i : Nat) : Int)) u]) Q E s := by
  refine call_get2_intTab (dd := .str (baseText "0x" 16 ((2 ^ i : Nat) : Int))) T (fun _ => .str _ _) fun v hv => ?_
  have hs : ∃ x, (lookup (.int ((2 ^ i : Nat) : Int)) tabC).getD (.str (baseText "0x" 16 ((2 ^ i : Nat) : Int))) = .str x ∧ x = wordP i := by
    cases e : lookup (.int ((2 ^ i : Nat) : Int)) tabC with
    | none => exact ⟨_, rfl, by unfold wordP; rw [e]⟩
    | some y =>
      have hy : ∃ x, y = .str x := tabC_str _ _ e
      obtain ⟨x, rfl⟩ := hy
      exact ⟨x, rfl, by unfold wordP; rw [e]⟩
  obtain ⟨x, hx, rfl⟩ := hs
  rw [hx] at hv
  cases (hv ({} : Heap))
  exact h _
end
noncomputable def mapPF (u : Str → Option Value) (vf vn : Value) : Str → Option Value := fun y =>
  if y = "i" then u y else if y = "flag" then u y else if y = "flags" then some vf else if y = "names" then some vn else none
theorem mapPF_a {u : Str → Option Value} {vf vl vi vf0 vn : Value} : (fun y : Str => if y = Str.ofString "flags" then some vf else if y = Str.ofString "flag" then some vl else if y = Str.ofString "i" then some vi else mapPF u vf0 vn y) =
    mapPF (fun y => if y = "flag" then some vl else some vi) vf vn := by
  funext y
  unfold mapPF
  by_cases e0 : y = "i"
  · subst e0; rfl
  · by_cases e1 : y = "flag"
    · subst e1; rfl
    · by_cases e2 : y = "flags"
      · subst e2; rfl
      · simp only [if_neg e0, if_neg e1, if_neg e2]
theorem mapPF_b {u : Str → Option Value} {vf vl vi vn : Value} : (fun y : Str => if y = Str.ofString "flag" then some vl else if y = Str.ofString "i" then some vi else mapPF u vf vn y) =
    mapPF (fun y => if y = "flag" then some vl else some vi) vf vn := by
  funext y
  unfold mapPF
  by_cases e0 : y = "i"
  · subst e0; rfl
  · by_cases e1 : y = "flag"
    · subst e1; rfl
    · by_cases e2 : y = "flags"
      · subst e2; rfl
      · simp only [if_neg e0, if_neg e1, if_neg e2]
structure PfSt (s : Shared) (I D : Addr) (ps : List Nat) (i : Nat) (s' : Shared) : Prop where
  ex : ∃ h tk u t' qs dn n l, s' = { s with heap := h, toks := tk } ∧ Fr s.heap s.heap.objs.size h (mapPF u (.int ((bsum qs : Nat) : Int) t') (.ref D)) ∧
    News s.heap s.heap.objs.size h [(I, itR i (32 - i : Int)), (D, W.listOf (strValues l).toArray n)] ∧ l.map (·.1) = dn.map wordP ∧ Asc i qs ∧ qs ≠ [] ∧ ps = dn ++ qs
local macro_rules | `(tactic| walk_at "binaryOp LShift int int") => `(tactic| (refine shl1 (by omega) ?_; intro tS))
local macro_rules | `(tactic| walk_at "binaryOp BitAnd int int") => `(tactic| (refine and_eq (by assumption) ?_; intro tS))
local macro_rules | `(tactic| walk_at "inplaceOp BitXor int int") => `(tactic| (refine ixor_eq (by assumption) ?_; intro tS))
local macro_rules | `(tactic| walk_at "call builtin:hex") => `(tactic| (refine hex_of_int ?_ (by assumption)))
local macro_rules | `(tactic| walk_at "call builtin:dict.get") => `(tactic| ((with_reducible rename TabAt _ _ _ _ _ => kB); (with_reducible rename Fr _ _ _ _ => kF); with_unfolding_all refine get2_word (TabAt.keep kB (Fr.keep kF)) ?_; intro tkr))
local macro_rules | `(tactic| walk_at "call builtin:list.append") => `(tactic| (refine append_K (by assumption) (by assumption) (Upd.tail (by assumption) (Upd.head (List.forall_mem_nil _))) ?_ (by assumption); intro h' F' N'))
local macro_rules | `(tactic| walk_at "call builtin:str.join") => `(tactic| (refine SC.join (News.isList (by assumption) (.tail _ (.head _))) (by assumption) (by assumption) ?_; intro t9 k9))
theorem word_fit : ∀ i : _root_.Fin 32, decide ((wordP i.1).length ≤ 100) = true := by decide +kernel
theorem join_ok {ps : List Nat} (hps : Asc 0 ps) (hlt : ∀ p ∈ ps, p < 32) : JoinOk (Str.ofString ", ") (ps.map wordP) = true := by
  unfold JoinOk
  rw [StrLaws.joinFits (B := 100)]
  · rfl
  · intro y hy
    obtain ⟨p, hp, rfl⟩ := List.mem_map.mp hy
    exact of_decide_eq_true (word_fit ⟨p, hlt p hp⟩)
  · have h2 : (Str.ofString ", ").length = 2 := by decide
    rw [h2, List.length_map]
    rcases asc_len hps hlt with h | h
    · omega
    · subst h; simp
theorem hex_fit : ∀ i : _root_.Fin 32, decide ((baseText "0x" 16 ((2 ^ i.1 : Nat) : Int)).length ≤ 100) = true := by decide +kernel
theorem c_pf {A : Around} {E : Value → Shared → Prop} {s : Shared} {ps : List Nat} {t : Tok} {Q : Value → Shared → Prop}
    (T : Tp G mg mb w s.heap) (hroom : A.depth + 1 < recursionLimit) (hh : A.handled = none) (hps : Asc 0 ps) (hne : ps ≠ []) (hlt : ∀ p ∈ ps, p < 32)
    (hQ : ∀ h' tk tk', Ext s.heap h' → Q (.str (Txt.join (Str.ofString ", ") (ps.map wordP)) tk') { s with heap := h', toks := tk }) :
    wpAny (model pg w) A (call (.ref G.pf) [.int (bsum ps : Nat) t]) Q E s := by
  obtain ⟨o, pm, code, doc, ho, hd, hc⟩ := T.f_pf
  refine wpAny_call ?_
  refine call_plain_ret (binds := [("flags", .int (bsum ps : Nat) t)]) (Nat.lt_of_succ_lt hroom) ho hd T.nolimit hc ?_ ?_ (fun h₁ F => ?_)
  · rfl
  · intro x hx; simp at hx; rcases hx with rfl; rfl
  · conv in (occs := *) (fnS _) => all_goals (unfold fnS; whnf)
    simp only [bodyOf, scopeOf, nameOf]
    have N : News s.heap s.heap.objs.size h₁ [] := News.nil
    have tC := T.t_C
    repeat' (first | ((try dsimp only); (fail_if_success (with_reducible show wpAny _ _ (exec (Stmt.For _ _ _ _ _) _) _ _ _)); walk1))
    refine wpAny_For ?_
    repeat' (first | ((try dsimp only); (fail_if_success (with_reducible show wpAny _ _ (call (Value.type "range") _) _ _ _)); walk1))
    rename_i l' h2 F2 N2 l1 h3 F3 N3
    refine range_it1 (by decide) (by decide) fun I h4 tk4 hx hI1 hI2 hit => ?_
    dsimp only at hx hI1
    have F4 : Fr s.heap s.heap.objs.size h4 _ := F3.keeps hx
    have N4 := N3.grown hx
    have hDI : l' ≠ I := Nat.ne_of_lt (Nat.lt_of_lt_of_le (Heap.lt_size (N3 _ (.head _)).1) hI1)
    have hL : s.heap.objs.size < h3.objs.size := F3.ns.lt
    refine for_walk (Walks.range (by exact hh) I 0 1 32) (PfSt s I l' ps) ?_ ?_ ?_ ?_
    · rintro i s' ⟨h, tk, u, t', qs, dn, n, l, rfl, F, N, h1, h2, h3, h4⟩
      have := (N _ (.head _)).1
      simpa [itR] using this
    · rintro i s' v h' tk hi ⟨h, tk0, u, t', qs, dn, n, l, rfl, F, N, hl, ha, hq, hp⟩ ⟨tv, rfl⟩ hst hk
      have hIn : s.heap.get? I = none := (N _ (.head _)).2.2
      have hIL : I ≠ s.heap.objs.size := (N _ (.head _)).2.1
      have F' : Fr s.heap s.heap.objs.size h' (mapPF u (.int ((bsum qs : Nat) : Int) t') (.ref l')) := by
        refine ⟨F.ns.at' fun o e => hk _ o (by simpa using Ne.symm hIL) e, fun b o e => hk b o ?_ (F.keep b o e), F.above⟩
        intro hb
        rw [List.mem_singleton.mp hb, hIn] at e
        cases e
      have N' : News s.heap s.heap.objs.size h' [(I, itR ((i + 1 : Nat) : Int) (32 - (i + 1 : Nat) : Int)), (l', W.listOf (strValues l).toArray n)] := by
        intro p hp
        rcases List.mem_cons.mp hp with rfl | hp
        · refine ⟨?_, hIL, hIn⟩
          have e2 : (0 : Int) + ((i + 1 : Nat) : Int) * 1 = ((i + 1 : Nat) : Int) := by omega
          rw [e2] at hst
          simpa [itR] using hst
        · rw [List.mem_singleton.mp hp]
          have z := N (l', W.listOf (strValues l).toArray n) (.tail _ (.head _))
          exact ⟨hk _ _ (by simpa using hDI) z.1, z.2⟩
      have eI : (0 : Int) + (i : Nat) * 1 = (i : Nat) := by omega
      rw [eI]
      clear F N hk
      have hfit : (baseText "0x" 16 ((2 ^ i : Nat) : Int)).length ≤ sizeLine := by
        have := of_decide_eq_true (hex_fit ⟨i, hi⟩)
        have h2 : (100 : Nat) ≤ sizeLine := by decide
        exact Nat.le_trans this h2
      have hdn : dn.length ≤ 32 := by
        have h1 : ps.length ≤ 32 := by
          rcases asc_len hps hlt with h | h
          · omega
          · subst h; simp
        rw [hp, List.length_append] at h1
        omega
      have hsz : (strValues l).toArray.size ≤ sizeLine := by
        have h1 : l.length = dn.length := by have := congrArg List.length hl; simpa using this
        have h2 : (strValues l).length = l.length := by simp [strValues]
        have h3 : (32 : Nat) ≤ sizeLine := by decide
        rw [List.size_toArray, h2, h1]
        omega
      have hID : (I, itR ((i + 1 : Nat) : Int) (32 - (i + 1 : Nat) : Int)).1 ≠ l' := Ne.symm hDI
      cases qs with
      | nil => exact absurd rfl hq
      | cons q r =>
        by_cases hqi : q = i
        · subst hqi
          have hb : bsum (q :: r) = 2 ^ q + bsum r := rfl
          have ha1 := wAnd_on ha.2
          have hx1 := wXor_on ha.2
          rw [hb] at F'
          have hs2 : ∀ tk : Tok, (strValues l).toArray.push (.str (wordP q) tk) = (strValues (l ++ [(wordP q, tk)])).toArray := fun tk => by simp [strValues]
          have hj := join_ok hps hlt
          repeat' (first | ((try dsimp only); (fail_if_success (with_reducible show wpAny _ _ (call (Value.builtin "str.join") _) _ _ _)); walk1))
          · rename_i tS2 h8 F8 tS1 hq8 tkr h9 F9 N9 tS3 h10 F10 N10 hr0
            rw [mapPF_a] at F10
            rw [hs2] at N10
            refine ⟨⟨_, _, _, _, r, dn ++ [q], n + 1, l ++ [(wordP q, tkr)], rfl, F10, N10, by simp [hl], ha.2, ?_, by rw [hp]; simp⟩⟩
            rintro rfl
            exact hr0 rfl
          · rename_i tS2 h8 F8 tS1 hq8 tkr h9 F9 N9 tS3 h10 F10 N10 hr0
            have hr1 : r = [] := by
              cases r with
              | nil => rfl
              | cons q1 r1 => exact absurd (by simpa using hr0) (bsum_pos (qs := q1 :: r1) (by simp))
            subst hr1
            rw [hs2] at N10
            refine SC.join (News.isList N10 (.tail _ (.head _))) (texts := ps.map wordP) (by rw [hp]; simp [hl]) hj fun t9 k9 => ?_
            exact hQ _ _ _ F10.keep
          · rename_i hq8
            exact absurd hq8 (by have := Nat.two_pow_pos q; omega)
        · have ha1 := wAnd_off (i := i) (qs := q :: r) ⟨by have := ha.1; omega, ha.2⟩
          repeat' (first | ((try dsimp only); (fail_if_success (with_reducible show wpAny _ _ (exec (Stmt.Expr _ _) _) _ _ _)); walk1))
          rename_i h6 F6 N6 tS h8 F8 N8 tS1
          rw [mapPF_b] at F8
          exact ⟨⟨_, _, _, _, q :: r, dn, n, l, rfl, F8, N8, hl, ⟨by have := ha.1; omega, ha.2⟩, hq, hp⟩⟩
    · rintro s' h' tk ⟨h, tk0, u, t', qs, dn, n, l, rfl, F, N, hl, ha, hq, hp⟩ hk
      exfalso
      cases qs with
      | nil => exact hq rfl
      | cons q r =>
        have h1 := ha.1
        have h2 := hlt q (by rw [hp]; simp)
        omega
    · refine ⟨⟨_, _, fun _ => none, t, ps, [], 0, [], rfl, ?_, ?_, rfl, hps, hne, rfl⟩⟩
      · have e : mapPF (fun _ => none) (.int (bsum ps : Nat) t) (.ref l') = fun y => if y = Str.ofString "names" then some (Value.ref l') else List.lookup y [(Str.ofString "flags", Value.int (↑(bsum ps)) t)].reverse := by
          funext y
          unfold mapPF
          by_cases e0 : y = "i"
          · subst e0; rfl
          · by_cases e3 : y = "flag"
            · subst e3; rfl
            · by_cases e2 : y = "flags"
              · subst e2; rfl
              · by_cases e1 : y = "names"
                · subst e1; rfl
                · have hb : (y == Str.ofString "flags") = false := by simpa using e2
                  simp only [if_neg e0, if_neg e3, if_neg e2, if_neg e1, List.reverse_cons, List.reverse_nil, List.nil_append, List.lookup, hb]
        rw [e]; exact F4
      · intro p hp
        rcases List.mem_cons.mp hp with rfl | hp
        · refine ⟨by simpa [itR] using hit, ?_, ?_⟩
          · show I ≠ s.heap.objs.size
            omega
          · show s.heap.get? I = none
            cases e : s.heap.get? I with
            | none => rfl
            | some o' => exact absurd (Heap.lt_size e) (Nat.not_lt.mpr (show s.heap.objs.size ≤ I by omega))
        · exact N4 p hp
end
section
open PySem PySem.W PyProof.Rows PySem.Calls PySem.Spec
set_option Elab.async false
set_option maxRecDepth 100000
set_option maxHeartbeats 1000000
set_option linter.unusedVariables false
set_option autoImplicit false
variable {G : GA} {mg mb : Str → Option Value} {w : World}
theorem c_up {A : Around} {E : Value → Shared → Prop} {s : Shared} {n z : Int} {t u : Tok} {Q : Value → Shared → Prop}
    (T : Tp G mg mb w s.heap) (hroom : A.depth + 1 < recursionLimit) (hh : A.handled = none) (hz : 0 < z) (hz3 : z < 1000)
    (hQ : ∀ h' tk tk', Ext s.heap h' → Q (.int ((n + z - 1) / z * z) tk') { s with heap := h', toks := tk }) :
    wpAny (model pg w) A (call (.ref G.lu) [.int n t, .int z u]) Q E s := by
  obtain ⟨o, pm, code, doc, ho, hd, hc⟩ := T.f_lu
  refine wpAny_call ?_
  refine call_plain_ret (binds := [("number", .int n t), ("size", .int z u)]) (Nat.lt_of_succ_lt hroom) ho hd T.nolimit hc ?_ ?_ (fun h₁ F => ?_)
  · rfl
  · intro x hx; simp at hx; rcases hx with rfl | rfl <;> rfl
  · conv in (occs := *) (fnS _) => all_goals (unfold fnS; whnf)
    simp only [bodyOf, scopeOf, nameOf]
    have hz0 : z ≠ 0 := by omega
    repeat' (first | ((try dsimp only); walk1))
    try rw [Int.fdiv_eq_ediv_of_nonneg _ (Int.le_of_lt hz)]
    exact hQ _ _ _ (Fr.keep (by assumption))
theorem c_lw {A : Around} {E : Value → Shared → Prop} {s : Shared} {n : Nat} {t : Tok} {Q : Value → Shared → Prop}
    (T : Tp G mg mb w s.heap) (hroom : A.depth + 1 < recursionLimit) (hh : A.handled = none) (hn : n < 32)
    (hQ : ∀ h' tk tk', Ext s.heap h' → Q (.str (wordP n) tk') { s with heap := h', toks := tk }) :
    wpAny (model pg w) A (call (.ref G.lw) [.int n t]) Q E s := by
  obtain ⟨o, pm, code, doc, ho, hd, hc⟩ := T.f_lw
  refine wpAny_call ?_
  refine call_plain_ret (binds := [("place", .int n t)]) (Nat.lt_of_succ_lt hroom) ho hd T.nolimit hc ?_ ?_ (fun h₁ F => ?_)
  · rfl
  · intro x hx; simp at hx; rcases hx with rfl; rfl
  · conv in (occs := *) (fnS _) => all_goals (unfold fnS; whnf)
    simp only [bodyOf, scopeOf, nameOf]
    have N : News s.heap s.heap.objs.size h₁ [] := News.nil
    repeat' (first | ((try dsimp only); (fail_if_success (with_reducible show wpAny _ _ (subscriptTail _ _ _ _) _ _ _)); walk1))
    · rename_i l h2 F2 N2 l1 h3 F3 N3 hlt
      have hL := News.isList N3 (.head _)
      have hlt' : n < 10 := by omega
      have hc10 : n = 0 ∨ n = 1 ∨ n = 2 ∨ n = 3 ∨ n = 4 ∨ n = 5 ∨ n = 6 ∨ n = 7 ∨ n = 8 ∨ n = 9 := by omega
      rcases hc10 with rfl | rfl | rfl | rfl | rfl | rfl | rfl | rfl | rfl | rfl
      · have e : wordP 0 = "OPTIMIZED" := by decide +kernel
        rw [e] at hQ
        exact tail_any hL.typeIs slot_list_getitem.lookup (wpAny_getItem_list hL (by decide) (by decide) (by rfl) (hQ _ _ _ F3.keep)) (by with_unfolding_all rfl)
      · have e : wordP 1 = "NEWLOCALS" := by decide +kernel
        rw [e] at hQ
        exact tail_any hL.typeIs slot_list_getitem.lookup (wpAny_getItem_list hL (by decide) (by decide) (by rfl) (hQ _ _ _ F3.keep)) (by with_unfolding_all rfl)
      · have e : wordP 2 = "VARARGS" := by decide +kernel
        rw [e] at hQ
        exact tail_any hL.typeIs slot_list_getitem.lookup (wpAny_getItem_list hL (by decide) (by decide) (by rfl) (hQ _ _ _ F3.keep)) (by with_unfolding_all rfl)
      · have e : wordP 3 = "VARKEYWORDS" := by decide +kernel
        rw [e] at hQ
        exact tail_any hL.typeIs slot_list_getitem.lookup (wpAny_getItem_list hL (by decide) (by decide) (by rfl) (hQ _ _ _ F3.keep)) (by with_unfolding_all rfl)
      · have e : wordP 4 = "NESTED" := by decide +kernel
        rw [e] at hQ
        exact tail_any hL.typeIs slot_list_getitem.lookup (wpAny_getItem_list hL (by decide) (by decide) (by rfl) (hQ _ _ _ F3.keep)) (by with_unfolding_all rfl)
      · have e : wordP 5 = "GENERATOR" := by decide +kernel
        rw [e] at hQ
        exact tail_any hL.typeIs slot_list_getitem.lookup (wpAny_getItem_list hL (by decide) (by decide) (by rfl) (hQ _ _ _ F3.keep)) (by with_unfolding_all rfl)
      · have e : wordP 6 = "NOFREE" := by decide +kernel
        rw [e] at hQ
        exact tail_any hL.typeIs slot_list_getitem.lookup (wpAny_getItem_list hL (by decide) (by decide) (by rfl) (hQ _ _ _ F3.keep)) (by with_unfolding_all rfl)
      · have e : wordP 7 = "COROUTINE" := by decide +kernel
        rw [e] at hQ
        exact tail_any hL.typeIs slot_list_getitem.lookup (wpAny_getItem_list hL (by decide) (by decide) (by rfl) (hQ _ _ _ F3.keep)) (by with_unfolding_all rfl)
      · have e : wordP 8 = "ITERABLE_COROUTINE" := by decide +kernel
        rw [e] at hQ
        exact tail_any hL.typeIs slot_list_getitem.lookup (wpAny_getItem_list hL (by decide) (by decide) (by rfl) (hQ _ _ _ F3.keep)) (by with_unfolding_all rfl)
      · have e : wordP 9 = "ASYNC_GENERATOR" := by decide +kernel
        rw [e] at hQ
        exact tail_any hL.typeIs slot_list_getitem.lookup (wpAny_getItem_list hL (by decide) (by decide) (by rfl) (hQ _ _ _ F3.keep)) (by with_unfolding_all rfl)
    · rename_i l h2 F2 N2 l1 h3 F3 N3 hlt
      have hc10 : n = 10 ∨ n = 11 ∨ n = 12 ∨ n = 13 ∨ n = 14 ∨ n = 15 ∨ n = 16 ∨ n = 17 ∨ n = 18 ∨ n = 19 ∨ n = 20 ∨ n = 21 ∨ n = 22 ∨ n = 23 ∨ n = 24 ∨ n = 25 ∨ n = 26 ∨ n = 27 ∨ n = 28 ∨ n = 29 ∨ n = 30 ∨ n = 31 := by omega
      have hk := F3.keep
      rcases hc10 with rfl | rfl | rfl | rfl | rfl | rfl | rfl | rfl | rfl | rfl | rfl | rfl | rfl | rfl | rfl | rfl | rfl | rfl | rfl | rfl | rfl | rfl
      · refine tail_any (typeIs_str _ _ _) PySem.F.slot_str_getitem.lookup (getItem_str (c := 52) (by decide) (by decide +kernel) ?_) (by with_unfolding_all rfl)
        repeat' (first | ((try dsimp only); walk1))
        rw [show ((10 : Nat) : Int).fdiv 4 = 2 from by decide]
        repeat' (first | ((try dsimp only); walk1))
        have e : wordP 10 = Str.ofString "0x" ++ ⟨#[52]⟩ ++ Txt.mul (Str.ofString "0") 2 := by decide +kernel
        rw [e] at hQ
        exact hQ _ _ _ hk
      · refine tail_any (typeIs_str _ _ _) PySem.F.slot_str_getitem.lookup (getItem_str (c := 56) (by decide) (by decide +kernel) ?_) (by with_unfolding_all rfl)
        repeat' (first | ((try dsimp only); walk1))
        rw [show ((11 : Nat) : Int).fdiv 4 = 2 from by decide]
        repeat' (first | ((try dsimp only); walk1))
        have e : wordP 11 = Str.ofString "0x" ++ ⟨#[56]⟩ ++ Txt.mul (Str.ofString "0") 2 := by decide +kernel
        rw [e] at hQ
        exact hQ _ _ _ hk
      · refine tail_any (typeIs_str _ _ _) PySem.F.slot_str_getitem.lookup (getItem_str (c := 49) (by decide) (by decide +kernel) ?_) (by with_unfolding_all rfl)
        repeat' (first | ((try dsimp only); walk1))
        rw [show ((12 : Nat) : Int).fdiv 4 = 3 from by decide]
        repeat' (first | ((try dsimp only); walk1))
        have e : wordP 12 = Str.ofString "0x" ++ ⟨#[49]⟩ ++ Txt.mul (Str.ofString "0") 3 := by decide +kernel
        rw [e] at hQ
        exact hQ _ _ _ hk
      · refine tail_any (typeIs_str _ _ _) PySem.F.slot_str_getitem.lookup (getItem_str (c := 50) (by decide) (by decide +kernel) ?_) (by with_unfolding_all rfl)
        repeat' (first | ((try dsimp only); walk1))
        rw [show ((13 : Nat) : Int).fdiv 4 = 3 from by decide]
        repeat' (first | ((try dsimp only); walk1))
        have e : wordP 13 = Str.ofString "0x" ++ ⟨#[50]⟩ ++ Txt.mul (Str.ofString "0") 3 := by decide +kernel
        rw [e] at hQ
        exact hQ _ _ _ hk
      · refine tail_any (typeIs_str _ _ _) PySem.F.slot_str_getitem.lookup (getItem_str (c := 52) (by decide) (by decide +kernel) ?_) (by with_unfolding_all rfl)
        repeat' (first | ((try dsimp only); walk1))
        rw [show ((14 : Nat) : Int).fdiv 4 = 3 from by decide]
        repeat' (first | ((try dsimp only); walk1))
        have e : wordP 14 = Str.ofString "0x" ++ ⟨#[52]⟩ ++ Txt.mul (Str.ofString "0") 3 := by decide +kernel
        rw [e] at hQ
        exact hQ _ _ _ hk
      · refine tail_any (typeIs_str _ _ _) PySem.F.slot_str_getitem.lookup (getItem_str (c := 56) (by decide) (by decide +kernel) ?_) (by with_unfolding_all rfl)
        repeat' (first | ((try dsimp only); walk1))
        rw [show ((15 : Nat) : Int).fdiv 4 = 3 from by decide]
        repeat' (first | ((try dsimp only); walk1))
        have e : wordP 15 = Str.ofString "0x" ++ ⟨#[56]⟩ ++ Txt.mul (Str.ofString "0") 3 := by decide +kernel
        rw [e] at hQ
        exact hQ _ _ _ hk
      · refine tail_any (typeIs_str _ _ _) PySem.F.slot_str_getitem.lookup (getItem_str (c := 49) (by decide) (by decide +kernel) ?_) (by with_unfolding_all rfl)
        repeat' (first | ((try dsimp only); walk1))
        rw [show ((16 : Nat) : Int).fdiv 4 = 4 from by decide]
        repeat' (first | ((try dsimp only); walk1))
        have e : wordP 16 = Str.ofString "0x" ++ ⟨#[49]⟩ ++ Txt.mul (Str.ofString "0") 4 := by decide +kernel
        rw [e] at hQ
        exact hQ _ _ _ hk
      · refine tail_any (typeIs_str _ _ _) PySem.F.slot_str_getitem.lookup (getItem_str (c := 50) (by decide) (by decide +kernel) ?_) (by with_unfolding_all rfl)
        repeat' (first | ((try dsimp only); walk1))
        rw [show ((17 : Nat) : Int).fdiv 4 = 4 from by decide]
        repeat' (first | ((try dsimp only); walk1))
        have e : wordP 17 = Str.ofString "0x" ++ ⟨#[50]⟩ ++ Txt.mul (Str.ofString "0") 4 := by decide +kernel
        rw [e] at hQ
        exact hQ _ _ _ hk
      · refine tail_any (typeIs_str _ _ _) PySem.F.slot_str_getitem.lookup (getItem_str (c := 52) (by decide) (by decide +kernel) ?_) (by with_unfolding_all rfl)
        repeat' (first | ((try dsimp only); walk1))
        rw [show ((18 : Nat) : Int).fdiv 4 = 4 from by decide]
        repeat' (first | ((try dsimp only); walk1))
        have e : wordP 18 = Str.ofString "0x" ++ ⟨#[52]⟩ ++ Txt.mul (Str.ofString "0") 4 := by decide +kernel
        rw [e] at hQ
        exact hQ _ _ _ hk
      · refine tail_any (typeIs_str _ _ _) PySem.F.slot_str_getitem.lookup (getItem_str (c := 56) (by decide) (by decide +kernel) ?_) (by with_unfolding_all rfl)
        repeat' (first | ((try dsimp only); walk1))
        rw [show ((19 : Nat) : Int).fdiv 4 = 4 from by decide]
        repeat' (first | ((try dsimp only); walk1))
        have e : wordP 19 = Str.ofString "0x" ++ ⟨#[56]⟩ ++ Txt.mul (Str.ofString "0") 4 := by decide +kernel
        rw [e] at hQ
        exact hQ _ _ _ hk
      · refine tail_any (typeIs_str _ _ _) PySem.F.slot_str_getitem.lookup (getItem_str (c := 49) (by decide) (by decide +kernel) ?_) (by with_unfolding_all rfl)
        repeat' (first | ((try dsimp only); walk1))
        rw [show ((20 : Nat) : Int).fdiv 4 = 5 from by decide]
        repeat' (first | ((try dsimp only); walk1))
        have e : wordP 20 = Str.ofString "0x" ++ ⟨#[49]⟩ ++ Txt.mul (Str.ofString "0") 5 := by decide +kernel
        rw [e] at hQ
        exact hQ _ _ _ hk
      · refine tail_any (typeIs_str _ _ _) PySem.F.slot_str_getitem.lookup (getItem_str (c := 50) (by decide) (by decide +kernel) ?_) (by with_unfolding_all rfl)
        repeat' (first | ((try dsimp only); walk1))
        rw [show ((21 : Nat) : Int).fdiv 4 = 5 from by decide]
        repeat' (first | ((try dsimp only); walk1))
        have e : wordP 21 = Str.ofString "0x" ++ ⟨#[50]⟩ ++ Txt.mul (Str.ofString "0") 5 := by decide +kernel
        rw [e] at hQ
        exact hQ _ _ _ hk
      · refine tail_any (typeIs_str _ _ _) PySem.F.slot_str_getitem.lookup (getItem_str (c := 52) (by decide) (by decide +kernel) ?_) (by with_unfolding_all rfl)
        repeat' (first | ((try dsimp only); walk1))
        rw [show ((22 : Nat) : Int).fdiv 4 = 5 from by decide]
        repeat' (first | ((try dsimp only); walk1))
        have e : wordP 22 = Str.ofString "0x" ++ ⟨#[52]⟩ ++ Txt.mul (Str.ofString "0") 5 := by decide +kernel
        rw [e] at hQ
        exact hQ _ _ _ hk
      · refine tail_any (typeIs_str _ _ _) PySem.F.slot_str_getitem.lookup (getItem_str (c := 56) (by decide) (by decide +kernel) ?_) (by with_unfolding_all rfl)
        repeat' (first | ((try dsimp only); walk1))
        rw [show ((23 : Nat) : Int).fdiv 4 = 5 from by decide]
        repeat' (first | ((try dsimp only); walk1))
        have e : wordP 23 = Str.ofString "0x" ++ ⟨#[56]⟩ ++ Txt.mul (Str.ofString "0") 5 := by decide +kernel
        rw [e] at hQ
        exact hQ _ _ _ hk
      · refine tail_any (typeIs_str _ _ _) PySem.F.slot_str_getitem.lookup (getItem_str (c := 49) (by decide) (by decide +kernel) ?_) (by with_unfolding_all rfl)
        repeat' (first | ((try dsimp only); walk1))
        rw [show ((24 : Nat) : Int).fdiv 4 = 6 from by decide]
        repeat' (first | ((try dsimp only); walk1))
        have e : wordP 24 = Str.ofString "0x" ++ ⟨#[49]⟩ ++ Txt.mul (Str.ofString "0") 6 := by decide +kernel
        rw [e] at hQ
        exact hQ _ _ _ hk
      · refine tail_any (typeIs_str _ _ _) PySem.F.slot_str_getitem.lookup (getItem_str (c := 50) (by decide) (by decide +kernel) ?_) (by with_unfolding_all rfl)
        repeat' (first | ((try dsimp only); walk1))
        rw [show ((25 : Nat) : Int).fdiv 4 = 6 from by decide]
        repeat' (first | ((try dsimp only); walk1))
        have e : wordP 25 = Str.ofString "0x" ++ ⟨#[50]⟩ ++ Txt.mul (Str.ofString "0") 6 := by decide +kernel
        rw [e] at hQ
        exact hQ _ _ _ hk
      · refine tail_any (typeIs_str _ _ _) PySem.F.slot_str_getitem.lookup (getItem_str (c := 52) (by decide) (by decide +kernel) ?_) (by with_unfolding_all rfl)
        repeat' (first | ((try dsimp only); walk1))
        rw [show ((26 : Nat) : Int).fdiv 4 = 6 from by decide]
        repeat' (first | ((try dsimp only); walk1))
        have e : wordP 26 = Str.ofString "0x" ++ ⟨#[52]⟩ ++ Txt.mul (Str.ofString "0") 6 := by decide +kernel
        rw [e] at hQ
        exact hQ _ _ _ hk
      · refine tail_any (typeIs_str _ _ _) PySem.F.slot_str_getitem.lookup (getItem_str (c := 56) (by decide) (by decide +kernel) ?_) (by with_unfolding_all rfl)
        repeat' (first | ((try dsimp only); walk1))
        rw [show ((27 : Nat) : Int).fdiv 4 = 6 from by decide]
        repeat' (first | ((try dsimp only); walk1))
        have e : wordP 27 = Str.ofString "0x" ++ ⟨#[56]⟩ ++ Txt.mul (Str.ofString "0") 6 := by decide +kernel
        rw [e] at hQ
        exact hQ _ _ _ hk
      · refine tail_any (typeIs_str _ _ _) PySem.F.slot_str_getitem.lookup (getItem_str (c := 49) (by decide) (by decide +kernel) ?_) (by with_unfolding_all rfl)
        repeat' (first | ((try dsimp only); walk1))
        rw [show ((28 : Nat) : Int).fdiv 4 = 7 from by decide]
        repeat' (first | ((try dsimp only); walk1))
        have e : wordP 28 = Str.ofString "0x" ++ ⟨#[49]⟩ ++ Txt.mul (Str.ofString "0") 7 := by decide +kernel
        rw [e] at hQ
        exact hQ _ _ _ hk
      · refine tail_any (typeIs_str _ _ _) PySem.F.slot_str_getitem.lookup (getItem_str (c := 50) (by decide) (by decide +kernel) ?_) (by with_unfolding_all rfl)
        repeat' (first | ((try dsimp only); walk1))
        rw [show ((29 : Nat) : Int).fdiv 4 = 7 from by decide]
        repeat' (first | ((try dsimp only); walk1))
        have e : wordP 29 = Str.ofString "0x" ++ ⟨#[50]⟩ ++ Txt.mul (Str.ofString "0") 7 := by decide +kernel
        rw [e] at hQ
        exact hQ _ _ _ hk
      · refine tail_any (typeIs_str _ _ _) PySem.F.slot_str_getitem.lookup (getItem_str (c := 52) (by decide) (by decide +kernel) ?_) (by with_unfolding_all rfl)
        repeat' (first | ((try dsimp only); walk1))
        rw [show ((30 : Nat) : Int).fdiv 4 = 7 from by decide]
        repeat' (first | ((try dsimp only); walk1))
        have e : wordP 30 = Str.ofString "0x" ++ ⟨#[52]⟩ ++ Txt.mul (Str.ofString "0") 7 := by decide +kernel
        rw [e] at hQ
        exact hQ _ _ _ hk
      · refine tail_any (typeIs_str _ _ _) PySem.F.slot_str_getitem.lookup (getItem_str (c := 56) (by decide) (by decide +kernel) ?_) (by with_unfolding_all rfl)
        repeat' (first | ((try dsimp only); walk1))
        rw [show ((31 : Nat) : Int).fdiv 4 = 7 from by decide]
        repeat' (first | ((try dsimp only); walk1))
        have e : wordP 31 = Str.ofString "0x" ++ ⟨#[56]⟩ ++ Txt.mul (Str.ofString "0") 7 := by decide +kernel
        rw [e] at hQ
        exact hQ _ _ _ hk
end
section
open PySem PySem.W PyProof.Rows PySem.Calls PySem.Spec
set_option Elab.async false
set_option maxRecDepth 100000
set_option maxHeartbeats 1000000
set_option linter.unusedVariables false
set_option autoImplicit false
theorem k38 (P : Params) : (KF P).lookup 38 = some ⟨.type "function", none, .func (fnOf "__init__" "Whitespace.__init__" (paramsOf (mtS 1)) (bodyOf (mtS 1)) (scopeOf (mtS 1)) .none .none .none pmW none (.ref 37) .none), #[]⟩ := by kernel_rfl
theorem k52 (P : Params) : (KF P).lookup 52 = some ⟨.type "function", none, .func (fnOf "indent_level" "Whitespace.indent_level" (paramsOf (mtS 3)) (bodyOf (mtS 3)) (scopeOf (mtS 3)) .none .none .none pmW none (.ref 51) .none), #[]⟩ := by kernel_rfl
theorem k37 (P : Params) : codeIn (KF P) (.ref 37) "Whitespace.__init__" = true := by kernel_rfl
theorem k51 (P : Params) : codeIn (KF P) (.ref 51) "Whitespace.indent_level" = true := by kernel_rfl
theorem kmakes (P : Params) : makesIn (KF P) 83 = true := by kernel_rfl
theorem kinit (P : Params) : findIn (KF P) (.ref 83) "__init__" = some (some (.ref 38)) := by kernel_rfl
theorem kinitT (P : Params) : typeIn (KF P) (.ref 38) = some (.type "function") := by kernel_rfl
theorem ksetattr (P : Params) : findIn (KF P) (.ref 83) "__setattr__" = some (some (.builtin "object.__setattr__")) := by kernel_rfl
theorem kover (P : Params) : plainOver (KF P) 83 = true := by kernel_rfl
theorem khas (P : Params) : (clsIn (KF P) 83).any (·.hasDict) = true := by kernel_rfl
theorem kreads (P : Params) : readsIn (KF P) 83 (.type "type") = true := by kernel_rfl
theorem ktaker (P : Params) : (["raw", "n", "nt", "norm", "is_simple"] : List Str).all (fun n => takerIn (KF P) 83 n == some none) = true := by kernel_rfl
theorem kgetattr (P : Params) : findIn (KF P) (.ref 83) "__getattribute__" = some (some (.builtin "object.__getattribute__")) := by kernel_rfl
theorem kgetattr2 (P : Params) : findIn (KF P) (.ref 83) "__getattr__" = some none := by kernel_rfl
theorem kind (P : Params) : findIn (KF P) (.ref 83) "indent_level" = some (some (.ref 52)) := by kernel_rfl
theorem kindT (P : Params) : typeIn (KF P) (.ref 52) = some (.type "function") := by kernel_rfl
theorem kS (P : Params) : ∃ t, findCls (KF P) (.ref 83) (.type "type") "S" = some (.val (.str " " t)) := ⟨209, by kernel_rfl⟩
theorem kT (P : Params) : ∃ t, findCls (KF P) (.ref 83) (.type "type") "T" = some (.val (.str "\t" t)) := ⟨210, by kernel_rfl⟩
end
section
open PySem PySem.W PyProof.Rows PySem.Calls PySem.Spec
set_option Elab.async false
set_option maxRecDepth 100000
set_option maxHeartbeats 1000000
set_option linter.unusedVariables false
set_option autoImplicit false
variable {G : GA} {mg mb : Str → Option Value} {w : World}
theorem call_fd {A : Around} {R : Result → Shared → Prop} {s : Shared} {name qual : Str} {params : Arguments} {body : List Stmt} {scope : Scope} {pm cd oc : Value} {od : Option Addr} {osl : Array (Option Value)} {a : Addr} {args : List Value} {binds : List (Str × Value)}
    (hroom : A.depth < recursionLimit) (ho : s.heap.get? a = some ⟨oc, od, .func (fnOf name qual params body scope .none .none .none pm none cd .none), osl⟩) (hlim : s.heap.NoLimit) (hcd : s.heap.CodeRec cd qual)
    (hbind : bindArgs (fnOf name qual params body scope .none .none .none pm none cd .none) ⟨args, []⟩ = pure binds) (hloc : ∀ x ∈ binds, scope.names.lookup x.1 = some .local)
    (h : ∀ h₁, Fr s.heap s.heap.objs.size h₁ (fun x => binds.reverse.lookup x) →
      wpAny (model pg w) (A.deeper (envOf qual scope s.heap.objs.size a cd)) (execs body (envOf qual scope s.heap.objs.size a cd))
        (fun f s' => R (.ok (.ret (match f with | .ret v => v | _ => .none))) s') (fun _ _ => False) { s with heap := h₁, toks := s.toks + binds.length })
    (hco : scope.isCoroutine = false := by rfl) (hgen : scope.isGenerator = false := by rfl) (hk : scope.kind = .function := by rfl) (hcell : ∀ x ∈ scope.names, x.2 ≠ .cell := by decide) :
    codeAny (model pg w) A (.call (.ref a) ⟨args, []⟩) R s :=
  codeAny_call_def (fd := fnOf name qual params body scope .none .none .none pm none cd .none) hroom ho rfl hlim hcd rfl (BindsTo.of_eq hbind) hcell hloc
    (fun h₀ hns hkk => wpAny_mono (h h₀ ⟨hns, hkk, Nat.le_refl _⟩) (fun _ _ x => x) fun _ _ x => x.elim) hco hgen hk
/-- a plain object's own dict: names, the tokens of their keys, values -/
noncomputable def adict (P : Params) (l : List (Str × Tok × Value)) : Obj := { cls := .type "dict", data := .dict (l.map fun x => (⟨PyData.keyHash P x.1, .str x.1 x.2.1, x.2.2⟩ : DictEntry)).toArray l.length }
theorem inst_at {h₀ h : Heap} {L x dx : Addr} {news : List (Addr × Obj)} {od : Obj} (N : News h₀ L h news) (hx : (x, instObj 83 dx) ∈ news) (hd : (dx, od) ∈ news) : InstAt h x (instObj 83 dx) 83 (some od) :=
  ⟨(N _ hx).1, rfl, rfl, (N _ hd).1⟩
theorem set_at {A : Around} {E : Value → Shared → Prop} {s : Shared} {h₀ : Heap} {L x dx : Addr} {m : Str → Option Value} {name : Str} {v : Value} {l : List (Str × Tok × Value)} {pre post : List (Addr × Obj)} {Q : Unit → Shared → Prop}
    (F : Fr h₀ L s.heap m) (N : News h₀ L s.heap (pre ++ (dx, adict w.params l) :: post)) (X : (KF w.params).In s.heap) (hx : (x, instObj 83 dx) ∈ pre ++ (dx, adict w.params l) :: post)
    (hn : takerIn (KF w.params) 83 name = some none) (hl : ∀ od, lookIn name (adict w.params l) = od → od.isSome = true) (h1 : ∀ p ∈ pre, p.1 ≠ dx) (h2 : ∀ p ∈ post, p.1 ≠ dx)
    (e : ∀ tk, Obj.putName name (PyData.keyHash w.params name) (.str name tk) v (adict w.params l) = adict w.params (l ++ [(name, tk, v)])) (hz : l.length < 500)
    (h : ∀ h' tk tk', Fr h₀ L h' m → News h₀ L h' (pre ++ (dx, adict w.params (l ++ [(name, tk, v)])) :: post) → Q () { s with heap := h', toks := tk' }) :
    wpAny (model pg w) A (setAttr (.ref x) name v) Q E s := by
  have I := inst_at N hx (List.mem_append_right _ (.head _))
  refine set_plain X I (ksetattr _) ?_
  refine osa_dict (s := { s with toks := s.toks + 1 }) (es := (l ++ [(name, s.toks + 1, v)]).map fun x => (⟨PyData.keyHash w.params x.1, .str x.1 x.2.1, x.2.2⟩ : DictEntry)) (n := (l ++ [(name, s.toks + 1, v)]).length) F N X I rfl (kover _) hn (khas _) (hl _ rfl) h1 h2 (e _) rfl (by simp; omega) ?_
  intro h' F' N'
  exact h h' _ _ F' N'
theorem ktk (P : Params) {name : Str} (h : name ∈ (["raw", "n", "nt", "norm", "is_simple"] : List Str)) : takerIn (KF P) 83 name = some none := by
  have := List.all_eq_true.mp (ktaker P) name h
  simpa using this
structure WS where
  n : Nat
  nt : Nat
  b : Nat
  cnt : List Nat
noncomputable def wext (cnt : List Nat) (b : Nat) : List Nat := if cnt.length ≤ b then cnt ++ List.replicate (b - cnt.length + 1) 0 else cnt
noncomputable def wstep (a : WS) (tab : Bool) : WS := if tab then ⟨a.n + 1, a.nt + 1, 0, (wext a.cnt a.b).set a.b ((wext a.cnt a.b).getD a.b 0 + 1)⟩ else ⟨a.n + 1, a.nt, a.b + 1, a.cnt⟩
noncomputable def wrun (bs : List Bool) : WS := bs.foldl wstep ⟨0, 0, 0, []⟩
/-- blanks and tabs -/
noncomputable def wsign (b : Bool) : Nat := if b then 9 else 32
noncomputable def wtxt (bs : List Bool) : Str := ⟨(bs.map wsign).toArray⟩
noncomputable def mapW (m : Str → Option Value) (c : Option Value) (nt n b cnt : Value) : Str → Option Value := fun y =>
  if y = "ch" then c else if y = "nt" then some nt else if y = "n" then some n else if y = "b" then some b else if y = "count" then some cnt else m y
noncomputable def itS (x : Str) (t : Tok) (i : Nat) : Obj := { cls := .type "str_ascii_iterator", data := .fields #[.str x t, .int i 0] }
noncomputable def LstO (o : Obj) (vs : List Value) : Prop := o.cls = .type "list" ∧ ∃ n, o.data = .seq vs.toArray n
theorem fr_hk {h₀ h h' : Heap} {L I : Addr} {m : Str → Option Value} (F : Fr h₀ L h m) (hk : ∀ b o, b ∉ [I] → h.get? b = some o → h'.get? b = some o) (hL : L ≠ I) (hI : h₀.get? I = none) : Fr h₀ L h' m := by
  obtain ⟨oL, es, ep, hl, r⟩ := F.ns
  refine ⟨⟨oL, es, ep, hk _ _ (by simpa using hL) hl, r⟩, fun b o e => hk _ _ (fun q => ?_) (F.keep b o e), F.above⟩
  rw [List.mem_singleton.mp q, hI] at e
  cases e
theorem news_hk {h₀ h h' : Heap} {L I : Addr} {news : List (Addr × Obj)} (N : News h₀ L h news) (hk : ∀ b o, b ∉ [I] → h.get? b = some o → h'.get? b = some o) (hd : ∀ p ∈ news, p.1 ≠ I) : News h₀ L h' news :=
  fun p hp => ⟨hk _ _ (by simpa using hd p hp) (N p hp).1, (N p hp).2⟩
theorem News.sub {h₀ h : Heap} {L : Addr} {news l : List (Addr × Obj)} (N : News h₀ L h news) (hs : ∀ p ∈ l, p ∈ news) : News h₀ L h l := fun p hp => N p (hs p hp)
theorem wtxt_ascii (bs : List Bool) : (wtxt bs).cps.all (· < 128) = true := by
  unfold wtxt
  simp only [List.all_toArray, List.all_map, List.all_eq_true]
  intro b _
  cases b <;> rfl
theorem wtxt_at {bs : List Bool} {i c : Nat} (h : (wtxt bs).cps[i]? = some c) : ∃ b, bs[i]? = some b ∧ c = wsign b := by
  unfold wtxt at h
  rw [List.getElem?_toArray, List.getElem?_map] at h
  obtain ⟨b, h1, h2⟩ := Option.map_eq_some_iff.mp h
  exact ⟨b, h1, h2.symm⟩
theorem wrun_take {bs : List Bool} {i : Nat} {b : Bool} (h : bs[i]? = some b) : wrun (bs.take (i + 1)) = wstep (wrun (bs.take i)) b := by
  unfold wrun
  rw [List.take_add_one, h, List.foldl_append]
  rfl
theorem wrun_bound (bs : List Bool) : (wrun bs).n ≤ bs.length ∧ (wrun bs).nt ≤ bs.length ∧ (wrun bs).b ≤ bs.length ∧ (wrun bs).cnt.length ≤ bs.length + 1 := by
  suffices h : ∀ (bs : List Bool) (a : WS) (k : Nat), a.n ≤ k ∧ a.nt ≤ k ∧ a.b ≤ k ∧ a.cnt.length ≤ k + 1 → (bs.foldl wstep a).n ≤ k + bs.length ∧ (bs.foldl wstep a).nt ≤ k + bs.length ∧ (bs.foldl wstep a).b ≤ k + bs.length ∧ (bs.foldl wstep a).cnt.length ≤ k + bs.length + 1 by
    have := h bs ⟨0, 0, 0, []⟩ 0 (by simp)
    simpa [wrun] using this
  intro bs
  induction bs with
  | nil => intro a k h; simpa using h
  | cons b r ih =>
    intro a k h
    have := ih (wstep a b) (k + 1) (by
      cases b
      · simp only [wstep, Bool.false_eq_true, if_false]; omega
      · simp only [wstep, if_true, List.length_set, wext]
        split <;> simp <;> omega)
    rw [List.foldl_cons, List.length_cons]
    omega
theorem mapW_sp {m : Str → Option Value} {c : Option Value} {nt n b cnt vb vn vc : Value} : (fun y : Str => if y = Str.ofString "b" then some vb else if y = Str.ofString "n" then some vn else if y = Str.ofString "ch" then some vc else mapW m c nt n b cnt y) = mapW m (some vc) nt vn vb cnt := by
  funext y
  unfold mapW
  by_cases e0 : y = "ch"
  · subst e0; rfl
  · by_cases e1 : y = "nt"
    · subst e1; rfl
    · by_cases e2 : y = "n"
      · subst e2; rfl
      · by_cases e3 : y = "b"
        · subst e3; rfl
        · simp only [if_neg e0, if_neg e1, if_neg e2, if_neg e3]
theorem mapW_tb {m : Str → Option Value} {c : Option Value} {nt n b cnt vb vn vt vc : Value} : (fun y : Str => if y = Str.ofString "b" then some vb else if y = Str.ofString "nt" then some vt else if y = Str.ofString "n" then some vn else if y = Str.ofString "ch" then some vc else mapW m c nt n b cnt y) = mapW m (some vc) vt vn vb cnt := by
  funext y
  unfold mapW
  by_cases e0 : y = "ch"
  · subst e0; rfl
  · by_cases e1 : y = "nt"
    · subst e1; rfl
    · by_cases e2 : y = "n"
      · subst e2; rfl
      · by_cases e3 : y = "b"
        · subst e3; rfl
        · simp only [if_neg e0, if_neg e1, if_neg e2, if_neg e3]
theorem mapW_tc {m : Str → Option Value} {c : Option Value} {nt n b cnt vb vn vt vc vl : Value} : (fun y : Str => if y = Str.ofString "b" then some vb else if y = Str.ofString "count" then some vl else if y = Str.ofString "nt" then some vt else if y = Str.ofString "n" then some vn else if y = Str.ofString "ch" then some vc else mapW m c nt n b cnt y) = mapW m (some vc) vt vn vb vl := by
  funext y
  unfold mapW
  by_cases e0 : y = "ch"
  · subst e0; rfl
  · by_cases e1 : y = "nt"
    · subst e1; rfl
    · by_cases e2 : y = "n"
      · subst e2; rfl
      · by_cases e3 : y = "b"
        · subst e3; rfl
        · by_cases e4 : y = "count"
          · subst e4; rfl
          · simp only [if_neg e0, if_neg e1, if_neg e2, if_neg e3, if_neg e4]
theorem ints_get : ∀ {vs : List Value} {ns : List Int} {j : Nat} {n : Int}, IntsAre vs ns → ns[j]? = some n → ∃ t, vs[j]? = some (.int n t)
  | _, _, 0, n, .cons a t r, h => by
    rw [List.getElem?_cons_zero] at h ⊢
    cases h; exact ⟨t, rfl⟩
  | _, _, j + 1, n, .cons a t r, h => by
    rw [List.getElem?_cons_succ] at h ⊢
    exact ints_get r h
theorem ints_set : ∀ {vs : List Value} {ns : List Int} {j : Nat} {n : Int} {t : Tok}, IntsAre vs ns → IntsAre (vs.set j (.int n t)) (ns.set j n)
  | _, _, _, _, _, .nil => .nil
  | _, _, 0, n, t, .cons a u r => .cons n t r
  | _, _, j + 1, n, t, .cons a u r => .cons a u (ints_set r)
theorem ints_rep (n : Nat) (k : Int) (t : Tok) : IntsAre (List.replicate n (.int k t)) (List.replicate n k) := by
  induction n with
  | zero => exact .nil
  | succ n ih => exact .cons k t ih
theorem ints_app : ∀ {vs us : List Value} {ns ms : List Int}, IntsAre vs ns → IntsAre us ms → IntsAre (vs ++ us) (ns ++ ms)
  | _, _, _, _, .nil, h => h
  | _, _, _, _, .cons a t r, h => .cons a t (ints_app r h)
theorem rep_list (n : Nat) (v : Value) : (List.foldl (fun x1 x2 => x1 ++ x2) (#[] : Array Value) (List.replicate n #[v])).toList = List.replicate n v := by
  suffices h : ∀ a : Array Value, (List.foldl (fun x1 x2 => x1 ++ x2) a (List.replicate n #[v])).toList = a.toList ++ List.replicate n v by
    rw [h]; rfl
  induction n with
  | zero => intro a; simp
  | succ n ih => intro a; rw [List.replicate_succ, List.foldl_cons, ih]; simp [List.replicate_succ]
theorem add_arrays' {A : Around} {E : Value → Shared → Prop} {s : Shared} {h₀ : Heap} {L : Addr} {m : Str → Option Value} {news : List (Addr × Obj)} {l b : Addr} {its its2 : Array Value} {Q : Value → Shared → Prop} (F : Fr h₀ L s.heap m) (N : News h₀ L s.heap news) (hl : s.heap.IsList l its) (hb : s.heap.IsList b its2)
    (hsz : its.size + its2.size ≤ sizeLine) (h : ∀ D h', (∀ p ∈ news, p.1 < D) → Fr h₀ L h' m → News h₀ L h' ((D, W.listOf (its.toList ++ its2.toList).toArray 0) :: news) → Q (.ref D) { s with heap := h' }) :
    wpAny (model pg w) A (binaryOp .Add (.ref l) (.ref b)) Q E s :=
  add_arrays F N hl hb (fun h' F' N' => h s.heap.objs.size h' (fun p hp => Heap.lt_size (N p hp).1) F' N') hsz
theorem fr_same {h₀ h h' : Heap} {L D : Addr} {m : Str → Option Value} (F : Fr h₀ L h m) (hs : Heap.SameBut D h h') (hL : L ≠ D) (hD : h₀.get? D = none) : Fr h₀ L h' m :=
  fr_hk F (fun b o hb e => (hs.2 b (by simpa using hb)).trans e) hL hD
theorem flat_rep (n : Nat) (v : Value) : (List.replicate n [v]).flatten = List.replicate n v := by
  induction n with
  | zero => rfl
  | succ n ih => rw [List.replicate_succ, List.flatten_cons, ih]; rfl
theorem news_ne {h₀ h : Heap} {L a b : Addr} {o o' : Obj} {news : List (Addr × Obj)} (N : News h₀ L h news) (ha : (a, o) ∈ news) (hb : (b, o') ∈ news) (hc : o.cls ≠ o'.cls) : a ≠ b := by
  rintro rfl
  have := (N _ ha).1.symm.trans (N _ hb).1
  cases this
  exact hc rfl
/-- an object of the class, made of blanks and tabs -/
structure WsObj (w : World) (h : Heap) (x : Addr) (a : WS) : Prop where
  ex : ∃ dx aN aC vs t1 t2 t3 t4 t5 u2 u3 u4 v1 v5, h.get? x = some (instObj 83 dx) ∧
    h.get? dx = some (adict w.params [("raw", t1, v1), ("n", t2, .int a.n u2), ("nt", t3, .int a.nt u3), ("norm", t4, .ref aN), ("is_simple", t5, v5)]) ∧
    h.get? aN = some { cls := .type "tuple", data := .seq #[.ref aC, .int a.b u4] } ∧ h.get? aC = some { cls := .type "tuple", data := .seq vs.toArray } ∧ IntsAre vs (a.cnt.map Int.ofNat)
theorem mapW_init {m : Str → Option Value} {nt n b cnt : Value} (h : m "ch" = none) : (fun y : Str => if y = Str.ofString "nt" then some nt else if y = Str.ofString "n" then some n else if y = Str.ofString "b" then some b else if y = Str.ofString "count" then some cnt else m y) = mapW m none nt n b cnt := by
  funext y
  unfold mapW
  by_cases e0 : y = "ch"
  · subst e0
    show m "ch" = none
    exact h
  · simp only [if_neg e0]
structure JS (w : World) (hh0 : Heap) (g : Array GenState) (d : Drawn) (os : OsState) (L I x dx : Addr) (m0 : Str → Option Value) (ad : Obj) (ls : Str) (t : Tok) (a : WS) (i : Nat) (s' : Shared) : Prop where
  ex : ∃ h tk c l oI oc vs t1 t2 t3, s' = ⟨h, g, d, tk, os⟩ ∧ Fr hh0 L h (mapW m0 c (.int a.nt t1) (.int a.n t2) (.int a.b t3) (.ref l)) ∧
    News hh0 L h [(l, oc), (I, oI), (x, instObj 83 dx), (dx, ad)] ∧ LstO oc vs ∧ IntsAre vs (a.cnt.map Int.ofNat) ∧ oI.cls = .type "str_ascii_iterator" ∧ oI.data = .fields #[.str ls t, .int i 0] ∧ l ≠ I ∧ l ≠ x ∧ l ≠ dx
noncomputable abbrev JW (w : World) (hh0 : Heap) (g : Array GenState) (d : Drawn) (os : OsState) (L I x dx : Addr) (m0 : Str → Option Value) (ad : Obj) (ls : Str) (t : Tok) (bs : List Bool) (i : Nat) (s' : Shared) : Prop :=
  JS w hh0 g d os L I x dx m0 ad ls t (wrun (bs.take i)) i s'
/-- the object's four parts stand in a ledger -/
structure WZ (w : World) (Z : List (Addr × Obj)) (x : Addr) (a : WS) : Prop where
  ex : ∃ dx aN aC vs t1 t2 t3 t4 t5 u2 u3 u4 v1 v5, (x, instObj 83 dx) ∈ Z ∧
    (dx, adict w.params [("raw", t1, v1), ("n", t2, .int a.n u2), ("nt", t3, .int a.nt u3), ("norm", t4, .ref aN), ("is_simple", t5, v5)]) ∈ Z ∧
    (aN, ({ cls := .type "tuple", data := .seq #[.ref aC, .int a.b u4] } : Obj)) ∈ Z ∧ (aC, ({ cls := .type "tuple", data := .seq vs.toArray } : Obj)) ∈ Z ∧ IntsAre vs (a.cnt.map Int.ofNat)
theorem WZ.obj {w : World} {Z : List (Addr × Obj)} {x : Addr} {a : WS} {h : Heap} (W : WZ w Z x a) (k : ∀ p ∈ Z, h.get? p.1 = some p.2) : WsObj w h x a := by
  obtain ⟨dx, aN, aC, vs, t1, t2, t3, t4, t5, u2, u3, u4, v1, v5, e1, e2, e3, e4, e5⟩ := W.ex
  exact ⟨dx, aN, aC, vs, t1, t2, t3, t4, t5, u2, u3, u4, v1, v5, k _ e1, k _ e2, k _ e3, k _ e4, e5⟩
theorem c_ws {A : Around} {E : Value → Shared → Prop} {s : Shared} {ls : Str} {t : Tok} {Q : Value → Shared → Prop}
    (T : Tq G mg mb w s.heap) (hroom : A.depth + 2 < recursionLimit) (hh : A.handled = none) (bs : List Bool) (hbs : ls = wtxt bs) (hbl : bs.length < 100)
    (hQ : ∀ h' tk x Z, Ext s.heap h' → (∀ p ∈ Z, h'.get? p.1 = some p.2 ∧ s.heap.get? p.1 = none) → WZ w Z x (wrun bs) → Q (.ref x) { s with heap := h', toks := tk }) :
    wpAny (model pg w) A (call (.ref G.ws) [.str ls t]) Q E s := by
  rw [T.ws]
  have X := T.k
  have T0 := T.tp
  refine wpAny_call ?_
  obtain ⟨hh0, g, d, tk, os⟩ := s
  dsimp only at X T0
  refine make_core (makes_of X (kmakes _)) (looks_findIn X (kinit _)) (fun self => bind_fn X self (kinitT _)) (.inl rfl) ?_
  have k0 : Ext hh0 ((hh0.push emptyDict).push (instObj 83 hh0.objs.size)) := fun b o e => Heap.get?_push_of_some _ (Heap.get?_push_of_some _ e)
  refine call_fd (binds := [("self", .ref (hh0.objs.size + 1)), ("ws", .str ls t)]) ?_ (k0 _ _ (X _ _ (k38 _))) (T0.nolimit.keeps k0) (codeRec_of (X.keeps k0) (k37 _)) ?_ ?_ (fun h₁ F₁ => ?_)
  · show (A.under _).depth < _
    have : (A.under (Code.builtin "type.__call__" ⟨[Value.ref 83, Value.str ls t], []⟩)).depth ≤ A.depth + 1 := by
      first | exact Nat.le_succ _ | exact Nat.le_refl _ | (unfold Around.under; simp)
    omega
  · rfl
  · intro x hx; simp at hx; rcases hx with rfl | rfl <;> rfl
  · have F : Fr hh0 ((hh0.push emptyDict).push (instObj 83 hh0.objs.size)).objs.size h₁ (fun x => [(Str.ofString "self", Value.ref (hh0.objs.size + 1)), (Str.ofString "ws", .str ls t)].reverse.lookup x) :=
      ⟨F₁.ns, fun b o e => F₁.keep b o (k0 b o e), by simp [Heap.size_push]; omega⟩
    have N : News hh0 ((hh0.push emptyDict).push (instObj 83 hh0.objs.size)).objs.size h₁ [(hh0.objs.size + 1, instObj 83 hh0.objs.size), (hh0.objs.size, emptyDict)] := by
      have no : ∀ a, hh0.objs.size ≤ a → hh0.get? a = none := fun a ha => by
        cases e : hh0.get? a with
        | none => rfl
        | some o => exact absurd (Heap.lt_size e) (Nat.not_lt.mpr ha)
      have z : ((hh0.push emptyDict).push (instObj 83 hh0.objs.size)).objs.size = hh0.objs.size + 2 := by simp [Heap.size_push]
      rw [z]
      intro p hp
      rcases List.mem_cons.mp hp with rfl | hp
      · refine ⟨F₁.keep _ _ ?_, Nat.ne_of_lt (Nat.lt_succ_self _), no _ (Nat.le_succ _)⟩
        have := Heap.get?_push_size (hh0.push emptyDict) (o := instObj 83 hh0.objs.size) rfl
        rwa [Heap.size_push] at this
      · rw [List.mem_singleton.mp hp]
        refine ⟨F₁.keep _ _ (Heap.get?_push_of_some _ (Heap.get?_push_size _ rfl)), ?_, no _ (Nat.le_refl _)⟩
        show hh0.objs.size ≠ hh0.objs.size + 2
        omega
    clear F₁
    conv in (occs := *) (mtS _) => all_goals (unfold mtS; whnf)
    simp only [bodyOf, scopeOf]
    repeat' (first | ((try dsimp only); walk1))
    refine set_at (l := []) (pre := [(hh0.objs.size + 1, instObj 83 hh0.objs.size)]) (post := []) F N (X.keeps F.keep) (.head _) (ktk _ (by decide)) (fun _ e => e ▸ rfl) (by simp) (by simp) (fun _ => rfl) (by decide) ?_
    intro h2 tk1 tk2 F2 N2
    clear F N
    repeat' (first | ((try dsimp only); walk1))
    obtain ⟨tS, hS⟩ := kS w.params
    obtain ⟨tT, hT⟩ := kT w.params
    have hws := T.ws
    rw [hws]
    refine cls_value (X.keeps (Fr.keep (by assumption))) (kreads _) hS rfl ?_
    repeat' (first | ((try dsimp only); walk1))
    rw [hws]
    refine cls_value (X.keeps (Fr.keep (by assumption))) (kreads _) hT rfl ?_
    repeat' (first | ((try dsimp only); walk1))
    refine unpackItemsN_ (by assumption) (by assumption) (News.isTup (by assumption) (.head _)) hh (by rfl) ?_
    intro h3 F3 N3
    repeat' (first | ((try dsimp only); (fail_if_success (with_reducible show wpAny _ _ (exec (Stmt.For _ _ _ _ _) _) _ _ _)); walk1))
    refine wpAny_For ?_
    repeat' (first | ((try dsimp only); walk1))
    rename_i D0 hA lA hB hC tkA l0 hD lD hE tk0 hF hG hH FF NN
    simp only [List.cons_append, List.nil_append] at NN
    refine get_value (X.keeps FF.keep) (inst_at NN (.tail _ (.tail _ (.head _))) (.tail _ (.tail _ (.tail _ (.head _))))) (kgetattr _) (v := .str ls t) (by kernel_rfl) rfl ?_
    subst hbs
    have hxI0 : hh0.objs.size + 1 ≠ hH.objs.size := Nat.ne_of_lt (Heap.lt_size (NN _ (.tail _ (.tail _ (.head _)))).1)
    have hdI0 : hh0.objs.size ≠ hH.objs.size := Nat.ne_of_lt (Heap.lt_size (NN _ (.tail _ (.tail _ (.tail _ (.head _))))).1)
    have hlI0 : l0 ≠ hH.objs.size := Nat.ne_of_lt (Heap.lt_size (NN _ (.head _)).1)
    have hsz : (wtxt bs).cps.size = bs.length := by simp [wtxt]
    refine wpAny_pyIter_ascii (wtxt_ascii bs) ?_
    dsimp only
    refine for_walk (Walks.strAscii (by exact hh) _ (wtxt bs) t) (JW w hh0 g d os ((hh0.push emptyDict).push (instObj 83 hh0.objs.size)).objs.size hH.objs.size (hh0.objs.size + 1) hh0.objs.size
      (fun y => if y = "S" then some (.str " " tS) else if y = "T" then some (.str "\t" tT) else List.lookup y [(Str.ofString "self", Value.ref (hh0.objs.size + 1)), (Str.ofString "ws", Value.str (wtxt bs) t)].reverse) (adict w.params [("raw", tk1, .str (wtxt bs) t)]) (wtxt bs) t bs) ?_ ?_ ?_ ?_
    · rintro i s' ⟨h, tk, c, l, oI, oc, vs, t1, t2, t3, rfl, F, N, hoc, hi, e1, e2, d1, d2, d3⟩
      exact ⟨oI, (N (hH.objs.size, oI) (.tail _ (.head _))).1, e1, e2⟩
    · rintro i s' v h' tk' hin ⟨h, tk, c, l, oI, oc, vs, t1, t2, t3, rfl, F, N, hoc, hi, e1, e2, d1, d2, d3⟩ ⟨cc, u, hcc, rfl⟩ hS' hk
      have hLI : ((hh0.push emptyDict).push (instObj 83 hh0.objs.size)).objs.size ≠ hH.objs.size := Ne.symm (N (hH.objs.size, oI) (.tail _ (.head _))).2.1
      have FX : Fr hh0 ((hh0.push emptyDict).push (instObj 83 hh0.objs.size)).objs.size h' (mapW (fun y => if y = "S" then some (.str " " tS) else if y = "T" then some (.str "\t" tT) else List.lookup y [(Str.ofString "self", Value.ref (hh0.objs.size + 1)), (Str.ofString "ws", Value.str (wtxt bs) t)].reverse) c (.int (wrun (bs.take i)).nt t1) (.int (wrun (bs.take i)).n t2) (.int (wrun (bs.take i)).b t3) (.ref l)) := fr_hk F hk hLI (N (hH.objs.size, oI) (.tail _ (.head _))).2.2
      obtain ⟨oI', hI1, hI2, hI3⟩ := hS'
      have hxI : hh0.objs.size + 1 ≠ hH.objs.size := hxI0
      have hdI : hh0.objs.size ≠ hH.objs.size := hdI0
      have NX : News hh0 ((hh0.push emptyDict).push (instObj 83 hh0.objs.size)).objs.size h' [(l, oc), (hH.objs.size, oI'), (hh0.objs.size + 1, instObj 83 hh0.objs.size), (hh0.objs.size, adict w.params [("raw", tk1, .str (wtxt bs) t)])] := by
        intro p hp
        by_cases e : p.1 = hH.objs.size
        · have hp' : p = (hH.objs.size, oI') := by
            rcases List.mem_cons.mp hp with rfl | hp
            · exact absurd e d1
            · rcases List.mem_cons.mp hp with rfl | hp
              · rfl
              · rcases List.mem_cons.mp hp with rfl | hp
                · exact absurd e hxI
                · rcases List.mem_cons.mp hp with rfl | hp
                  · exact absurd e hdI
                  · cases hp
          rw [hp']
          exact ⟨hI1, (N (hH.objs.size, oI) (.tail _ (.head _))).2⟩
        · have hp' : p ∈ [(l, oc), (hH.objs.size, oI), (hh0.objs.size + 1, instObj 83 hh0.objs.size), (hh0.objs.size, adict w.params [("raw", tk1, .str (wtxt bs) t)])] := by
            rcases List.mem_cons.mp hp with rfl | hp
            · exact .head _
            · rcases List.mem_cons.mp hp with rfl | hp
              · exact absurd rfl e
              · exact .tail _ (.tail _ hp)
          exact ⟨hk _ _ (by simpa using e) (N p hp').1, (N p hp').2⟩
      obtain ⟨b, hb, rfl⟩ := wtxt_at hcc
      have hrun := wrun_take hb
      have hbd := wrun_bound (bs.take i)
      have htl : (bs.take i).length ≤ 100 := by rw [List.length_take]; omega
      clear F N hk
      cases b with
      | false =>
        have ew : wsign false = 32 := rfl
        rw [ew]
        repeat' (first | ((try dsimp only); walk1))
        (with_reducible rename News _ _ _ _ => N9)
        (with_reducible rename Fr _ _ _ _ => F9)
        rw [mapW_sp] at F9
        have e3 : wrun (bs.take (i + 1)) = ⟨(wrun (bs.take i)).n + 1, (wrun (bs.take i)).nt, (wrun (bs.take i)).b + 1, (wrun (bs.take i)).cnt⟩ := hrun
        show JS _ _ _ _ _ _ _ _ _ _ _ _ _ (wrun (bs.take (i + 1))) _ _
        rw [e3]
        exact ⟨_, _, _, l, oI', oc, vs, _, _, _, rfl, F9, N9, hoc, hi, hI2, hI3, d1, d2, d3⟩
      | true =>
        have ew : wsign true = 9 := rfl
        rw [ew]
        have hvl : vs.toArray.size = (wrun (bs.take i)).cnt.length := by
          have := hi.length
          simpa using this
        repeat' (first | ((try dsimp only); walk1))
        (with_reducible rename News _ _ _ _ => N4)
        refine len_list ⟨oc, (N4 _ (.head _)).1, hoc.1, hoc.2⟩ (by omega) ?_
        rw [hvl]
        repeat' (first | ((try dsimp only); walk1))
        · rename_i hge
          have hle : (wrun (bs.take i)).cnt.length ≤ (wrun (bs.take i)).b := by omega
          (with_reducible rename News _ _ _ _ => N5)
          refine len_list ⟨oc, (N5 _ (.tail _ (.head _))).1, hoc.1, hoc.2⟩ (by omega) ?_
          rw [hvl]
          repeat' (first | ((try dsimp only); walk1))
          (with_reducible rename News _ _ _ _ => N6)
          (with_reducible rename Fr _ _ _ _ => F6)
          have hx1 : (((wrun (bs.take i)).b : Int) - ((wrun (bs.take i)).cnt.length : Int) + 1).toNat = (wrun (bs.take i)).b - (wrun (bs.take i)).cnt.length + 1 := by omega
          rw [hx1] at N6
          refine add_arrays' F6 N6 ⟨oc, (N6 _ (.tail _ (.tail _ (.head _)))).1, hoc.1, hoc.2⟩ (News.isList N6 (.head _)) ?_ ?_
          · have h2 : (1000 : Nat) ≤ sizeLine := by decide
            rw [flat_rep]
            simp at hvl ⊢
            omega
          intro lX h7 hlt F7 N7
          clear F6
          have hlI : lX ≠ hH.objs.size := Nat.ne_of_gt (hlt (hH.objs.size, oI') (by simp))
          have hlx : lX ≠ hh0.objs.size + 1 := Nat.ne_of_gt (hlt (hh0.objs.size + 1, instObj 83 hh0.objs.size) (by simp))
          have hldx : lX ≠ hh0.objs.size := Nat.ne_of_gt (hlt (hh0.objs.size, adict w.params [("raw", tk1, .str (wtxt bs) t)]) (by simp))
          have N7' := News.sub (l := [(lX, W.listOf (vs.toArray.toList ++ (List.replicate ((wrun (bs.take i)).b - (wrun (bs.take i)).cnt.length + 1) [Value.int 0 tk]).flatten.toArray.toList).toArray 0), (hH.objs.size, oI'), (hh0.objs.size + 1, instObj 83 hh0.objs.size), (hh0.objs.size, adict w.params [("raw", tk1, .str (wtxt bs) t)])]) N7 (by
            intro p hp
            rcases List.mem_cons.mp hp with rfl | hp
            · exact .head _
            · exact .tail _ (.tail _ (.tail _ (.tail _ hp))))
          clear N6 N7
          have hwe : wext (wrun (bs.take i)).cnt (wrun (bs.take i)).b = (wrun (bs.take i)).cnt ++ List.replicate ((wrun (bs.take i)).b - (wrun (bs.take i)).cnt.length + 1) 0 := by unfold wext; rw [if_pos hle]
          have hwl : (wrun (bs.take i)).b < (wext (wrun (bs.take i)).cnt (wrun (bs.take i)).b).length := by rw [hwe]; simp; omega
          repeat' (first | ((try dsimp only); walk1))
          (with_reducible rename News _ _ _ _ => N8)
          (with_reducible rename Fr _ _ _ _ => F8)
          rw [flat_rep] at N8
          obtain ⟨TZ, hN8⟩ : ∃ TZ, News _ _ _ [(lX, W.listOf (vs ++ List.replicate ((wrun (bs.take i)).b - (wrun (bs.take i)).cnt.length + 1) (Value.int 0 TZ)).toArray 0), (hH.objs.size, oI'), (hh0.objs.size + 1, instObj 83 hh0.objs.size), (hh0.objs.size, adict w.params [("raw", tk1, .str (wtxt bs) t)])] := ⟨_, N8⟩
          clear N8
          have N8 := hN8
          clear hN8
          have hvX : IntsAre (vs ++ List.replicate ((wrun (bs.take i)).b - (wrun (bs.take i)).cnt.length + 1) (Value.int 0 TZ)) ((wext (wrun (bs.take i)).cnt (wrun (bs.take i)).b).map Int.ofNat) := by
            rw [hwe, List.map_append, List.map_replicate]
            exact ints_app hi (ints_rep _ _ _)
          obtain ⟨VX, hVX⟩ : ∃ v, v = vs ++ List.replicate ((wrun (bs.take i)).b - (wrun (bs.take i)).cnt.length + 1) (Value.int 0 TZ) := ⟨_, rfl⟩
          rw [← hVX] at hvX
          obtain ⟨OX, hN8, hoX⟩ : ∃ o, News _ _ _ [(lX, o), (hH.objs.size, oI'), (hh0.objs.size + 1, instObj 83 hh0.objs.size), (hh0.objs.size, adict w.params [("raw", tk1, .str (wtxt bs) t)])] ∧ LstO o VX := ⟨W.listOf VX.toArray 0, by rw [hVX]; exact N8, ⟨rfl, 0, rfl⟩⟩
          clear N8
          have N8 := hN8
          clear hN8 hVX
          have hw3 : (wext (wrun (bs.take i)).cnt (wrun (bs.take i)).b)[(wrun (bs.take i)).b]? = some ((wext (wrun (bs.take i)).cnt (wrun (bs.take i)).b).getD (wrun (bs.take i)).b 0) := by
            rw [List.getD_eq_getElem?_getD, List.getElem?_eq_getElem hwl]; rfl
          obtain ⟨tv, hv3⟩ := ints_get (n := (((wext (wrun (bs.take i)).cnt (wrun (bs.take i)).b).getD (wrun (bs.take i)).b 0 : Nat) : Int)) hvX (by rw [List.getElem?_map, hw3]; rfl)
          have hL8 : Heap.IsList _ lX (VX).toArray := ⟨OX, (N8 _ (.head _)).1, hoX.1, hoX.2⟩
          refine tail_any hL8.typeIs slot_list_getitem.lookup (wpAny_getItem_list (x := .int (((wext (wrun (bs.take i)).cnt (wrun (bs.take i)).b).getD (wrun (bs.take i)).b 0 : Nat) : Int) tv) hL8 ?_ ?_ ?_ ?_) (by with_unfolding_all rfl)
          · omega
          · omega
          · simpa using hv3
          repeat' (first | ((try dsimp only); walk1))
          (with_reducible rename News _ _ _ _ => N9)
          (with_reducible rename Fr _ _ _ _ => F9)
          have hL9 : Heap.IsList _ lX (VX).toArray := ⟨OX, (N9 _ (.head _)).1, hoX.1, hoX.2⟩
          refine wpAny_setItem_list hL9 ?_ ?_ ?_ ?_
          · omega
          · omega
          · have := hvX.length; simp at this; simp; omega
          intro hA' hl' hs'
          obtain ⟨oA, hA1, hA2, hA3⟩ := hl'
          have NA := News.setHead N9 (fun p hp => by
            rcases List.mem_cons.mp hp with rfl | hp
            · exact Ne.symm (hlI)
            · rcases List.mem_cons.mp hp with rfl | hp
              · exact Ne.symm (hlx)
              · rw [List.mem_singleton.mp hp]; exact Ne.symm (hldx)) hs' hA1
          have FA := fr_same F9 hs' (Ne.symm (N9 _ (.head _)).2.1) (N9 _ (.head _)).2.2
          clear N9 F9
          repeat' (first | ((try dsimp only); walk1))
          (with_reducible rename News _ _ _ _ => NB)
          (with_reducible rename Fr _ _ _ _ => FB)
          rw [mapW_tc] at FB
          have e3 : wrun (bs.take (i + 1)) = ⟨(wrun (bs.take i)).n + 1, (wrun (bs.take i)).nt + 1, 0, (wext (wrun (bs.take i)).cnt (wrun (bs.take i)).b).set (wrun (bs.take i)).b ((wext (wrun (bs.take i)).cnt (wrun (bs.take i)).b).getD (wrun (bs.take i)).b 0 + 1)⟩ := hrun
          show JS _ _ _ _ _ _ _ _ _ _ _ _ _ (wrun (bs.take (i + 1))) _ _
          rw [e3]
          obtain ⟨TT, hLA⟩ : ∃ TT, LstO oA ((VX).set (wrun (bs.take i)).b (.int (((wext (wrun (bs.take i)).cnt (wrun (bs.take i)).b).getD (wrun (bs.take i)).b 0 : Nat) + 1) TT)) := by
            obtain ⟨nn, hn⟩ := hA3
            exact ⟨_, hA2, nn, hn.trans (by simp; rfl)⟩
          have hIA : IntsAre ((VX).set (wrun (bs.take i)).b (.int (((wext (wrun (bs.take i)).cnt (wrun (bs.take i)).b).getD (wrun (bs.take i)).b 0 : Nat) + 1) TT)) (((wext (wrun (bs.take i)).cnt (wrun (bs.take i)).b).set (wrun (bs.take i)).b (((wext (wrun (bs.take i)).cnt (wrun (bs.take i)).b).getD (wrun (bs.take i)).b 0 : Nat) + 1)).map Int.ofNat) := by
            rw [List.map_set]
            exact ints_set hvX
          exact ⟨_, _, _, lX, oI', oA, _, _, _, _, rfl, FB, NB, hLA, hIA, hI2, hI3, hlI, hlx, hldx⟩
        · rename_i hge
          have hle : (wrun (bs.take i)).b < (wrun (bs.take i)).cnt.length := by omega
          have hwe : wext (wrun (bs.take i)).cnt (wrun (bs.take i)).b = (wrun (bs.take i)).cnt := by unfold wext; rw [if_neg (by omega)]
          have hwl : (wrun (bs.take i)).b < (wext (wrun (bs.take i)).cnt (wrun (bs.take i)).b).length := by rw [hwe]; omega
          (with_reducible rename News _ _ _ _ => N8)
          rw [← hwe] at hi
          have hw3 : (wext (wrun (bs.take i)).cnt (wrun (bs.take i)).b)[(wrun (bs.take i)).b]? = some ((wext (wrun (bs.take i)).cnt (wrun (bs.take i)).b).getD (wrun (bs.take i)).b 0) := by
            rw [List.getD_eq_getElem?_getD, List.getElem?_eq_getElem hwl]; rfl
          obtain ⟨tv, hv3⟩ := ints_get (n := (((wext (wrun (bs.take i)).cnt (wrun (bs.take i)).b).getD (wrun (bs.take i)).b 0 : Nat) : Int)) hi (by rw [List.getElem?_map, hw3]; rfl)
          have hL8 : Heap.IsList _ l (vs).toArray := ⟨oc, (N8 _ (.head _)).1, hoc.1, hoc.2⟩
          refine tail_any hL8.typeIs slot_list_getitem.lookup (wpAny_getItem_list (x := .int (((wext (wrun (bs.take i)).cnt (wrun (bs.take i)).b).getD (wrun (bs.take i)).b 0 : Nat) : Int) tv) hL8 ?_ ?_ ?_ ?_) (by with_unfolding_all rfl)
          · omega
          · omega
          · simpa using hv3
          repeat' (first | ((try dsimp only); walk1))
          (with_reducible rename News _ _ _ _ => N9)
          (with_reducible rename Fr _ _ _ _ => F9)
          have hL9 : Heap.IsList _ l (vs).toArray := ⟨oc, (N9 _ (.head _)).1, hoc.1, hoc.2⟩
          refine wpAny_setItem_list hL9 ?_ ?_ ?_ ?_
          · omega
          · omega
          · have := hi.length; simp at this; simp; omega
          intro hA' hl' hs'
          obtain ⟨oA, hA1, hA2, hA3⟩ := hl'
          have NA := News.setHead N9 (fun p hp => by
            rcases List.mem_cons.mp hp with rfl | hp
            · exact Ne.symm (d1)
            · rcases List.mem_cons.mp hp with rfl | hp
              · exact Ne.symm (d2)
              · rw [List.mem_singleton.mp hp]; exact Ne.symm (d3)) hs' hA1
          have FA := fr_same F9 hs' (Ne.symm (N9 _ (.head _)).2.1) (N9 _ (.head _)).2.2
          clear N9 F9
          repeat' (first | ((try dsimp only); walk1))
          (with_reducible rename News _ _ _ _ => NB)
          (with_reducible rename Fr _ _ _ _ => FB)
          rw [mapW_tb] at FB
          have e3 : wrun (bs.take (i + 1)) = ⟨(wrun (bs.take i)).n + 1, (wrun (bs.take i)).nt + 1, 0, (wext (wrun (bs.take i)).cnt (wrun (bs.take i)).b).set (wrun (bs.take i)).b ((wext (wrun (bs.take i)).cnt (wrun (bs.take i)).b).getD (wrun (bs.take i)).b 0 + 1)⟩ := hrun
          show JS _ _ _ _ _ _ _ _ _ _ _ _ _ (wrun (bs.take (i + 1))) _ _
          rw [e3]
          obtain ⟨TT, hLA⟩ : ∃ TT, LstO oA ((vs).set (wrun (bs.take i)).b (.int (((wext (wrun (bs.take i)).cnt (wrun (bs.take i)).b).getD (wrun (bs.take i)).b 0 : Nat) + 1) TT)) := by
            obtain ⟨nn, hn⟩ := hA3
            exact ⟨_, hA2, nn, hn.trans (by simp; rfl)⟩
          have hIA : IntsAre ((vs).set (wrun (bs.take i)).b (.int (((wext (wrun (bs.take i)).cnt (wrun (bs.take i)).b).getD (wrun (bs.take i)).b 0 : Nat) + 1) TT)) (((wext (wrun (bs.take i)).cnt (wrun (bs.take i)).b).set (wrun (bs.take i)).b (((wext (wrun (bs.take i)).cnt (wrun (bs.take i)).b).getD (wrun (bs.take i)).b 0 : Nat) + 1)).map Int.ofNat) := by
            rw [List.map_set]
            exact ints_set hi
          exact ⟨_, _, _, l, oI', oA, _, _, _, _, rfl, FB, NB, hLA, hIA, hI2, hI3, d1, d2, d3⟩
    · rintro s' h' tk' ⟨h, tk, c, l, oI, oc, vs, t1, t2, t3, rfl, F, N, hoc, hi, e1, e2, d1, d2, d3⟩ hk
      have hLI : ((hh0.push emptyDict).push (instObj 83 hh0.objs.size)).objs.size ≠ hH.objs.size := Ne.symm (N (hH.objs.size, oI) (.tail _ (.head _))).2.1
      have FX := fr_hk F hk hLI (N (hH.objs.size, oI) (.tail _ (.head _))).2.2
      have NX := news_hk (News.sub (l := [(l, oc), (hh0.objs.size + 1, instObj 83 hh0.objs.size), (hh0.objs.size, adict w.params [("raw", tk1, .str (wtxt bs) t)])]) N (by
        intro p hp
        rcases List.mem_cons.mp hp with rfl | hp
        · exact .head _
        · exact .tail _ (.tail _ hp))) hk (by
        intro p hp
        rcases List.mem_cons.mp hp with rfl | hp
        · exact d1
        · rcases List.mem_cons.mp hp with rfl | hp
          · exact hxI0
          · rw [List.mem_singleton.mp hp]; exact hdI0)
      have hbd := wrun_bound bs
      have htk : bs.take (wtxt bs).cps.size = bs := by rw [hsz]; exact List.take_length
      rw [htk] at FX hi
      have hvl : vs.toArray.size = (wrun bs).cnt.length := by
        have := hi.length
        simpa using this
      clear F N hk htk
      repeat' (first | ((try dsimp only); walk1))
      (with_reducible rename News _ _ _ _ => N2)
      (with_reducible rename Fr _ _ _ _ => F2)
      refine set_at (l := [("raw", tk1, .str (wtxt bs) t)]) (pre := [(l, oc), (hh0.objs.size + 1, instObj 83 hh0.objs.size)]) (post := []) F2 N2 (X.keeps F2.keep) (.tail _ (.head _)) (ktk _ (by decide)) (fun _ e => e ▸ rfl) (by simp; exact d3) (by simp) (fun _ => rfl) (by simp) ?_
      intro h2 u1 u2 F2 N2
      repeat' (first | ((try dsimp only); walk1))
      (with_reducible rename News _ _ _ _ => N3)
      (with_reducible rename Fr _ _ _ _ => F3)
      refine set_at (pre := [(l, oc), (hh0.objs.size + 1, instObj 83 hh0.objs.size)]) (post := []) F3 N3 (X.keeps F3.keep) (.tail _ (.head _)) (ktk _ (by decide)) (fun _ e => e ▸ rfl) (by simp; exact d3) (by simp) (fun _ => rfl) (by simp) ?_
      intro h3 u3 u4 F3 N3
      repeat' (first | ((try dsimp only); walk1))
      (with_reducible rename News _ _ _ _ => N4)
      (with_reducible rename Fr _ _ _ _ => F4)
      have hvs : vs.length ≤ sizeLine := by
        have h2 : (1000 : Nat) ≤ sizeLine := by decide
        simp at hvl
        omega
      refine tuple_ofL F4 N4 ⟨oc, (N4 _ (.head _)).1, hoc.1, hoc.2⟩ ?_ hvs
      intro D h5 F5 N5 k5
      clear F4 N4
      repeat' (first | ((try dsimp only); walk1))
      (with_reducible rename News _ _ _ _ => N6)
      (with_reducible rename Fr _ _ _ _ => F6)
      simp only [List.cons_append, List.nil_append] at N6
      have hD2 := news_ne N6 (.head _) (.tail _ (.tail _ (.tail _ (.tail _ (.head _))))) (by intro q; injection q with q; exact absurd q (by decide))
      have hD := news_ne N6 (.tail _ (.head _)) (.tail _ (.tail _ (.tail _ (.tail _ (.head _))))) (by intro q; injection q with q; exact absurd q (by decide))
      refine set_at (pre := [_, _, (l, oc), (hh0.objs.size + 1, instObj 83 hh0.objs.size)]) (post := []) F6 N6 (X.keeps F6.keep) (.tail _ (.tail _ (.tail _ (.head _)))) (ktk _ (by decide)) (fun _ e => e ▸ rfl) ?_ (by simp) (fun _ => rfl) (by simp) ?_
      · intro p hp
        rcases List.mem_cons.mp hp with rfl | hp
        · exact hD2
        · rcases List.mem_cons.mp hp with rfl | hp
          · exact hD
          · rcases List.mem_cons.mp hp with rfl | hp
            · exact d3
            · rw [List.mem_singleton.mp hp]; exact Nat.succ_ne_self _
      intro h7 u5 u6 F7 N7
      repeat' (first | ((try dsimp only); walk1))
      (with_reducible rename News _ _ _ _ => N8)
      (with_reducible rename Fr _ _ _ _ => F8)
      refine len_list ⟨oc, (N8 _ (.tail _ (.tail _ (.head _)))).1, hoc.1, hoc.2⟩ (by omega) ?_
      repeat' (first | ((try dsimp only); walk1))
      (with_reducible rename News _ _ _ _ => N9)
      (with_reducible rename Fr _ _ _ _ => F9)
      simp only [List.cons_append, List.nil_append] at N9
      refine set_at (pre := [_, _, (l, oc), (hh0.objs.size + 1, instObj 83 hh0.objs.size)]) (post := []) F9 N9 (X.keeps F9.keep) (.tail _ (.tail _ (.tail _ (.head _)))) (ktk _ (by decide)) (fun _ e => e ▸ rfl) ?_ (by simp) (fun _ => rfl) (by simp) ?_
      · intro p hp
        rcases List.mem_cons.mp hp with rfl | hp
        · exact hD2
        · rcases List.mem_cons.mp hp with rfl | hp
          · exact hD
          · rcases List.mem_cons.mp hp with rfl | hp
            · exact d3
            · rw [List.mem_singleton.mp hp]; exact Nat.succ_ne_self _
      intro hZ u7 u8 FZ NZ
      simp only [List.cons_append, List.nil_append] at NZ
      repeat' (first | ((try dsimp only); walk1))
      refine ⟨rfl, hQ _ _ _ _ FZ.keep (fun p hp => ⟨(NZ p hp).1, (NZ p hp).2.2⟩) ⟨hh0.objs.size, _, D, vs, tk1, u1, u3, u5, u7, t2, t1, t3, _, _, (.tail _ (.tail _ (.tail _ (.head _)))), (.tail _ (.tail _ (.tail _ (.tail _ (.head _))))), (.head _), (.tail _ (.head _)), hi⟩⟩
    · show JS _ _ _ _ _ _ _ _ _ _ _ _ _ (wrun (bs.take 0)) 0 _
      have e0 : wrun (bs.take 0) = ⟨0, 0, 0, []⟩ := rfl
      rw [e0]
      rw [mapW_init (by rfl)] at FF
      have NP := News.push FF NN { cls := .type "str_ascii_iterator", data := .fields #[.str (wtxt bs) t, .int 0 0] }
      refine ⟨_, _, none, l0, { cls := .type "str_ascii_iterator", data := .fields #[.str (wtxt bs) t, .int 0 0] }, W.listOf #[] 0, [], tk0, tk0, tk0, rfl, FF.push _, News.sub NP (fun p hp => ?_), ⟨rfl, 0, rfl⟩, .nil, rfl, rfl, hlI0, ?_, ?_⟩
      · rcases List.mem_cons.mp hp with rfl | hp
        · exact .tail _ (.head _)
        · rcases List.mem_cons.mp hp with rfl | hp
          · exact .head _
          · exact .tail _ (.tail _ (.tail _ hp))
      · exact news_ne NN (.head _) (.tail _ (.tail _ (.head _))) (by intro q; cases q)
      · exact Nat.ne_of_gt (lD (hh0.objs.size, _) (.tail _ (.tail _ (.head _))))
end
section
open PySem PySem.W PyProof.Rows PySem.Calls PySem.Spec
set_option Elab.async false
set_option maxRecDepth 100000
set_option maxHeartbeats 1000000
set_option linter.unusedVariables false
set_option autoImplicit false
variable {G : GA} {mg mb : Str → Option Value} {w : World}
theorem ws_n {A : Around} {E : Value → Shared → Prop} {s : Shared} {x : Addr} {a : WS} {ex : Bool} {Q : Value → Shared → Prop} (W : WsObj w s.heap x a) (X : (KF w.params).In s.heap) (hQ : ∀ tk u, Q (.int a.n u) { s with toks := tk }) :
    wpAny (model pg w) A (getAttr (.ref x) "n" ex) Q E s := by
  obtain ⟨dx, aN, aC, vs, t1, t2, t3, t4, t5, u2, u3, u4, v1, v5, e1, e2, e3, e4, e5⟩ := W.ex
  have I : InstAt s.heap x (instObj 83 dx) 83 (some (adict w.params [("raw", t1, v1), ("n", t2, .int a.n u2), ("nt", t3, .int a.nt u3), ("norm", t4, .ref aN), ("is_simple", t5, v5)])) := ⟨e1, rfl, rfl, e2⟩
  exact get_value X I (kgetattr _) (v := .int a.n u2) (by kernel_rfl) rfl (hQ _ _)
theorem ws_nt {A : Around} {E : Value → Shared → Prop} {s : Shared} {x : Addr} {a : WS} {ex : Bool} {Q : Value → Shared → Prop} (W : WsObj w s.heap x a) (X : (KF w.params).In s.heap) (hQ : ∀ tk u, Q (.int a.nt u) { s with toks := tk }) :
    wpAny (model pg w) A (getAttr (.ref x) "nt" ex) Q E s := by
  obtain ⟨dx, aN, aC, vs, t1, t2, t3, t4, t5, u2, u3, u4, v1, v5, e1, e2, e3, e4, e5⟩ := W.ex
  have I : InstAt s.heap x (instObj 83 dx) 83 (some (adict w.params [("raw", t1, v1), ("n", t2, .int a.n u2), ("nt", t3, .int a.nt u3), ("norm", t4, .ref aN), ("is_simple", t5, v5)])) := ⟨e1, rfl, rfl, e2⟩
  exact get_value X I (kgetattr _) (v := .int a.nt u3) (by kernel_rfl) rfl (hQ _ _)
theorem ws_meth {A : Around} {E : Value → Shared → Prop} {s : Shared} {x : Addr} {a : WS} {pl : Sem Bool} {Q : Value × List Value → Shared → Prop} (W : WsObj w s.heap x a) (X : (KF w.params).In s.heap) (hQ : Q (.ref 52, [.ref x]) s) :
    wpAny (model pg w) A (getMethod (.ref x) "indent_level" pl) Q E s := by
  obtain ⟨dx, aN, aC, vs, t1, t2, t3, t4, t5, u2, u3, u4, v1, v5, e1, e2, e3, e4, e5⟩ := W.ex
  exact method_fn (od := some (adict w.params [("raw", t1, v1), ("n", t2, .int a.n u2), ("nt", t3, .int a.nt u3), ("norm", t4, .ref aN), ("is_simple", t5, v5)])) X ⟨e1, rfl, rfl, e2⟩ (kgetattr _) (kgetattr2 _) (kind _) (kindT _) (by kernel_rfl) hQ
/-- the columns behind the first k turns -/
noncomputable def ilS (cnt : List Nat) (size : Nat) : Nat → Nat
  | 0 => 0
  | k + 1 => ilS cnt size k + (size + k) / size * cnt.getD (size + k) 0
noncomputable def ilv (a : WS) (size : Nat) : Nat := a.b + size * (ilS a.cnt size (a.cnt.length - size) + a.nt)
noncomputable def mapI (m : Str → Option Value) (c : Option Value) (il : Value) : Str → Option Value := fun y => if y = "i" then c else if y = "il" then some il else m y
theorem mapI_a {m : Str → Option Value} {c : Option Value} {il il' vi : Value} : (fun y : Str => if y = Str.ofString "il" then some il' else if y = Str.ofString "i" then some vi else mapI m c il y) = mapI m (some vi) il' := by
  funext y
  unfold mapI
  by_cases e0 : y = "i"
  · subst e0; rfl
  · by_cases e1 : y = "il"
    · subst e1; rfl
    · simp only [if_neg e0, if_neg e1]
theorem mapI_init {m : Str → Option Value} {il : Value} (h : m "i" = none) : (fun y : Str => if y = Str.ofString "il" then some il else m y) = mapI m none il := by
  funext y
  unfold mapI
  by_cases e0 : y = "i"
  · subst e0
    show m "i" = none
    exact h
  · simp only [if_neg e0]
theorem seq_nat {j n : Nat} (h : j < n) : seqIndex? (j : Int) n = some j := by
  unfold seqIndex?
  have h1 : ¬ ((j : Int) < 0) := by omega
  simp [h1, h]
structure IlSt (s : Shared) (L I : Addr) (m0 : Str → Option Value) (cnt : List Nat) (z n i : Nat) (s' : Shared) : Prop where
  ex : ∃ h tk c t1, s' = { s with heap := h, toks := tk } ∧ Fr s.heap L h (mapI m0 c (.int (ilS cnt z i : Nat) t1)) ∧ News s.heap L h [(I, itR ((z : Int) + (i : Nat) * 1) ((n : Int) - (i : Nat)))]
theorem c_il {A : Around} {E : Value → Shared → Prop} {s : Shared} {x : Addr} {a : WS} {z : Nat} {u : Tok} {Q : Value → Shared → Prop}
    (T : Tq G mg mb w s.heap) (W : WsObj w s.heap x a) (hroom : A.depth + 2 < recursionLimit) (hh : A.handled = none) (hz : 0 < z) (hz2 : z < 100) (hn : a.cnt.length < 500) (hc : ∀ c ∈ a.cnt, c < 1000)
    (hQ : ∀ h' tk u', Ext s.heap h' → Q (.int (ilv a z) u') { s with heap := h', toks := tk }) :
    wpAny (model pg w) A (call (.ref 52) [.ref x, .int z u]) Q E s := by
  have X := T.k
  have T0 := T.tp
  obtain ⟨dx, aN, aC, vs, t1, t2, t3, t4, t5, u2, u3, uN, v1, v5, e1, e2, e3, e4, e5⟩ := W.ex
  refine wpAny_call ?_
  refine call_fd (binds := [("self", .ref x), ("tabsize", .int z u)]) (by omega) (X _ _ (k52 _)) T0.nolimit (codeRec_of X (k51 _)) ?_ ?_ (fun h₁ F => ?_)
  · rfl
  · intro x hx; simp at hx; rcases hx with rfl | rfl <;> rfl
  · have N : News s.heap s.heap.objs.size h₁ [] := News.nil
    conv in (occs := *) (mtS _) => all_goals (unfold mtS; whnf)
    simp only [bodyOf, scopeOf]
    repeat' (first | ((try dsimp only); walk1))
    (with_reducible rename Fr _ _ _ _ => F1)
    have I : InstAt h₁ x (instObj 83 dx) 83 (some (adict w.params [("raw", t1, v1), ("n", t2, .int a.n u2), ("nt", t3, .int a.nt u3), ("norm", t4, .ref aN), ("is_simple", t5, v5)])) := ⟨F1.keep _ _ e1, rfl, rfl, F1.keep _ _ e2⟩
    refine get_value (X.keeps F1.keep) I (kgetattr _) (v := .ref aN) (by kernel_rfl) rfl ?_
    repeat' (first | ((try dsimp only); walk1))
    (with_reducible rename News _ _ _ _ => N2)
    (with_reducible rename Fr _ _ _ _ => F2)
    refine unpackN_ F2 N2 ⟨_, F2.keep _ _ e3, rfl, 0, rfl⟩ hh (by rfl) (by rfl) ?_
    intro h3 F3 N3
    repeat' (first | ((try dsimp only); (fail_if_success (with_reducible show wpAny _ _ (exec (Stmt.For _ _ _ _ _) _) _ _ _)); walk1))
    refine wpAny_For ?_
    repeat' (first | ((try dsimp only); (fail_if_success (with_reducible show wpAny _ _ (call (Value.type "range") _) _ _ _)); walk1))
    have hvl : vs.toArray.size = a.cnt.length := by
      have := e5.length
      simpa using this
    (with_reducible rename News _ _ _ _ => N4)
    (with_reducible rename Fr _ _ _ _ => F4)
    refine PyProof.Rows.len_tuple ⟨_, F4.keep _ _ e4, rfl, 0, rfl⟩ (by omega) ?_
    rw [hvl]
    repeat' (first | ((try dsimp only); (fail_if_success (with_reducible show wpAny _ _ (call (Value.type "range") _) _ _ _)); walk1))
    (with_reducible rename Fr _ _ _ _ => F5)
    refine range_it (by omega) (by omega) (by omega) (by omega) fun I h6 tk6 hx hI1 hI2 hit => ?_
    dsimp only at hx hI1
    have F6 := F5.keeps hx
    have hIn : s.heap.get? I = none := by
      cases e : s.heap.get? I with
      | none => rfl
      | some o' => exact absurd (Heap.lt_size (F5.keep _ _ e)) (Nat.not_lt.mpr hI1)
    have hIL : I ≠ s.heap.objs.size := Nat.ne_of_gt (Nat.lt_of_lt_of_le F5.ns.lt hI1)
    have hnn : ((a.cnt.length : Int) - (z : Int)).toNat = a.cnt.length - z := by omega
    rw [hnn] at hit
    rw [mapI_init (by rfl)] at F6
    refine for_walk (Walks.range (by exact hh) I z 1 (a.cnt.length - z)) (IlSt s s.heap.objs.size I _ a.cnt z (a.cnt.length - z)) ?_ ?_ ?_ ⟨_, _, none, _, rfl, F6, fun p hp => by rw [List.mem_singleton.mp hp]; exact ⟨by simpa [itR] using hit, hIL, hIn⟩⟩
    · rintro i s' ⟨h, tk, c, t1, rfl, F, N⟩
      have := (N _ (.head _)).1
      simpa [itR] using this
    · rintro i s' v h' tk hi ⟨h, tk0, c, t1, rfl, F, N⟩ ⟨tv, rfl⟩ hst hk
      have F' := fr_hk F hk (Ne.symm hIL) hIn
      have eI : (z : Int) + (i : Nat) * 1 = ((z + i : Nat) : Int) := by omega
      rw [eI]
      have NI : News s.heap s.heap.objs.size h' [(I, itR ((z : Int) + ((i + 1 : Nat) : Int) * 1) (((a.cnt.length - z : Nat) : Int) - ((i + 1 : Nat) : Int)))] := fun p hp => by
        rw [List.mem_singleton.mp hp]
        exact ⟨by simpa [itR] using hst, hIL, hIn⟩
      clear F hk N
      have hz0 : (z : Int) ≠ 0 := by omega
      repeat' (first | ((try dsimp only); walk1))
      have hlt : z + i < a.cnt.length := by omega
      have hw3 : a.cnt[z + i]? = some (a.cnt.getD (z + i) 0) := by
        rw [List.getD_eq_getElem?_getD, List.getElem?_eq_getElem hlt]; rfl
      obtain ⟨tv3, hv3⟩ := ints_get (n := ((a.cnt.getD (z + i) 0 : Nat) : Int)) e5 (by rw [List.getElem?_map, hw3]; rfl)
      have efd : ((z + i : Nat) : Int).fdiv (z : Int) = (((z + i) / z : Nat) : Int) := by
        rw [Int.fdiv_eq_ediv_of_nonneg _ (by omega)]; rfl
      rw [efd]
      have hq1 : (z + i) / z ≤ z + i := Nat.div_le_self _ _
      (with_reducible rename Fr _ _ _ _ => F7)
      have hT : IsTup _ aC vs.toArray := ⟨_, F7.keep _ _ e4, rfl, 0, rfl⟩
      have hvl2 : vs.length = a.cnt.length := by simpa using hvl
      refine item_tupleT hT (j := z + i) ?_ ?_ ?_ (x := .int ((a.cnt.getD (z + i) 0 : Nat) : Int) tv3) hv3 ?_ (by with_unfolding_all rfl)
      · omega
      · omega
      · rw [hvl2]; exact seq_nat hlt
      have hcn : a.cnt.getD (z + i) 0 < 1000 := by
        rw [List.getD_eq_getElem?_getD, List.getElem?_eq_getElem hlt]
        exact hc _ (List.getElem_mem hlt)
      have eS : ilS a.cnt z (i + 1) = ilS a.cnt z i + (z + i) / z * a.cnt.getD (z + i) 0 := rfl
      generalize (z + i) / z = qd at eS hq1 ⊢
      generalize a.cnt.getD (z + i) 0 = cd at eS hcn ⊢
      repeat' (first | ((try dsimp only); walk1))
      (with_reducible rename Fr _ _ _ _ => F8)
      rw [mapI_a] at F8
      have eS2 : ((ilS a.cnt z (i + 1) : Nat) : Int) = (ilS a.cnt z i : Nat) + (qd : Int) * (cd : Int) := by
        rw [eS, Int.natCast_add, Int.natCast_mul]
      rw [← eS2] at F8
      exact ⟨_, _, _, _, rfl, F8, by assumption⟩
    · rintro s' h' tk ⟨h, tk0, c, tz1, rfl, F, N⟩ hk
      have F' := fr_hk F hk (Ne.symm hIL) hIn
      clear F hk N
      repeat' (first | ((try dsimp only); walk1))
      (with_reducible rename Fr _ _ _ _ => F7)
      have I7 : InstAt _ x (instObj 83 dx) 83 (some (adict w.params [("raw", t1, v1), ("n", t2, .int a.n u2), ("nt", t3, .int a.nt u3), ("norm", t4, .ref aN), ("is_simple", t5, v5)])) := ⟨F7.keep _ _ e1, rfl, rfl, F7.keep _ _ e2⟩
      refine get_value (X.keeps F7.keep) I7 (kgetattr _) (v := .int a.nt u3) (by kernel_rfl) rfl ?_
      repeat' (first | ((try dsimp only); walk1))
      have eil : ((ilv a z : Nat) : Int) = (a.b : Int) + (z : Int) * ((ilS a.cnt z (a.cnt.length - z) : Nat) + (a.nt : Nat)) := by
        unfold ilv
        rw [Int.natCast_add, Int.natCast_mul, Int.natCast_add]
      rw [← eil]
      exact hQ _ _ _ F7.keep
end
section
open PySem PySem.W PyProof.Rows PySem.Calls PySem.Spec
set_option Elab.async false
set_option maxRecDepth 100000
set_option maxHeartbeats 1000000
set_option linter.unusedVariables false
set_option autoImplicit false
section
variable {prog : Program} {w : World} {A : Around} {R : GenEnd} {Y : Protocol} {n : Nat} {s₀ : Shared} {c : Code} {fs : List Frame} {s : Shared} {env : Env}
  {K : Flow → Sem Fin} {H : Value → Sem Fin} {gd : Bool → Bool} {lv : List Value → List Value}
/-- an if inside a generator -/
theorem seg_If {test : PySem.Expr} {body orelse : List Stmt} {pos : Pos}
    (h : wpAny (model prog w) (A.over c fs) (isTrue test env (eval test env)) (fun b s' => if b = true then Seg (model prog w) A R Y n s₀ c ((execs body env).wrap K H gd lv) fs s'
        else Seg (model prog w) A R Y n s₀ c ((execs orelse env).wrap K H gd lv) fs s') (fun x s' => Seg (model prog w) A R Y n s₀ c (H x) fs s') s) :
    Seg (model prog w) A R Y n s₀ c ((exec (.If test body orelse pos) env).wrap K H gd lv) fs s := by
  rw [arm_exec_If]
  refine seg_at ?_
  show Seg (model prog w) A R Y n s₀ c ((isTrue test env (eval test env) >>= fun b => if b = true then execs body env else execs orelse env).wrap K H gd lv) fs s
  rw [Sem.bind_eq_wrap', Sem.wrap_wrap]
  refine seg_wrap (wpAny_mono h (fun b s' hb => ?_) fun _ _ x => x)
  cases b with
  | true => rw [if_pos rfl] at hb; exact hb
  | false => rw [if_neg Bool.false_ne_true] at hb; exact hb
noncomputable abbrev ownBack (env : Env) : Result → Sem Flow := fun r => (match r with | .ok f => (.pure f : Sem Flow) | .error e => .raise e).onRaise fun (x : Value) => do
  if (← field x 1) == Value.none then unsupported "frame.own-activation:exception-without-traceback"
  setFlight x env.frame
/-- a for inside a generator -/
theorem seg_For {target iter : PySem.Expr} {body orelse : List Stmt} {pos : Pos}
    (h : wpAny (model prog w) (A.over c fs) (eval iter env) (fun x s₁ => wpAny (model prog w) (A.over c fs) (pyIter x) (fun it s₂ =>
        ∀ p, Seg (model prog w) A R Y n s₀ (.forLoop target it body orelse env) ((model prog w).den (.forLoop target it body orelse env)) (.ret (fun r => (ownBack env r).wrap K H gd lv) none (gd false) (lv []) c p [] :: fs) s₂)
      (fun x s' => Seg (model prog w) A R Y n s₀ c (H x) fs s') s₁) (fun x s' => Seg (model prog w) A R Y n s₀ c (H x) fs s') s)
    (hs : ∀ x, foldedSetIterable iter env x = pure x := by intro _; rfl) :
    Seg (model prog w) A R Y n s₀ c ((exec (.For target iter body orelse pos) env).wrap K H gd lv) fs s := by
  rw [arm_exec_For]
  refine seg_at ?_
  show Seg (model prog w) A R Y n s₀ c ((eval iter env >>= fun v => foldedSetIterable iter env v >>= fun x => standAt iter.pos >>= fun _ => holding [x] (pyIter x) >>= fun it => runOwn (.forLoop target it body orelse env) env).wrap K H gd lv) fs s
  rw [Sem.bind_eq_wrap', Sem.wrap_wrap]
  refine seg_wrap (wpAny_mono h (fun v s₁ h₁ => ?_) fun _ _ x => x)
  rw [hs]
  refine seg_at ?_
  show Seg (model prog w) A R Y n s₀ c ((holding [v] (pyIter v) >>= fun it => runOwn (.forLoop target it body orelse env) env).wrap K H gd lv) fs s₁
  rw [Sem.bind_eq_wrap', Sem.wrap_wrap]
  refine seg_wrap (wpAny_holding (wpAny_mono h₁ (fun it s₂ h₂ => ?_) fun _ _ x => x))
  exact seg_call h₂
theorem seg_forLoop {target : PySem.Expr} {it : Value} {body orelse : List Stmt}
    (h : wpAny (model prog w) (A.over (.forLoop target it body orelse env) fs) (pyNext it) (fun r s' => match r with
        | none => Seg (model prog w) A R Y n s₀ (.block orelse env) ((model prog w).den (.block orelse env)) fs s'
        | some v => wpAny (model prog w) (A.over (.forLoop target it body orelse env) fs) (letOwnedTupleGo target it v) (fun _ s₁ => wpAny (model prog w) (A.over (.forLoop target it body orelse env) fs) (assign target env v) (fun _ s₂ =>
          Seg (model prog w) A R Y n s₀ (.forLoop target it body orelse env) ((execs body env).wrap (fun f => match f with
            | .next | .cont => .pure (.again (.forLoop target it body orelse env))
            | .brk => .pure (.done .next)
            | .ret v => .pure (.done (.ret v))) (fun e => (do noteFrame e env; theTreesLotGoes e : Sem Unit).wrap (fun _ => .raise e) .raise id id) id id) fs s₂) (fun _ _ => False) s₁) (fun _ _ => False) s') (fun _ _ => False) s) :
    Seg (model prog w) A R Y n s₀ (.forLoop target it body orelse env) ((model prog w).den (.forLoop target it body orelse env)) fs s := by
  show Seg _ A R Y n s₀ _ ((forTurn target it body orelse env).onRaise (fun x => do noteFrame x env; theTreesLotGoes x)) fs s
  unfold forTurn
  rw [Sem.onRaise_eq_wrap]
  refine seg_at ?_
  show Seg _ A R Y n s₀ _ (((pyNext it).onRaise (fun _ => standAt { target.pos with line := 0 }) >>= fun r => match r with
    | none => again (.block orelse env)
    | some v => do
      letOwnedTupleGo target it v
      assign target env v
      match ← execs body env with
      | .next | .cont => again (.forLoop target it body orelse env)
      | .brk => pure (.done .next)
      | .ret v => pure (.done (.ret v))).wrap _ _ _ _) fs s
  rw [Sem.bind_eq_wrap', Sem.wrap_wrap]
  refine seg_wrap (wpAny_onRaise (wpAny_mono h (fun r s' hr => ?_) fun _ _ x => x.elim))
  cases r with
  | none => exact seg_again rfl hr
  | some v =>
    show Seg _ A R Y n s₀ _ ((letOwnedTupleGo target it v >>= fun _ => assign target env v >>= fun _ => execs body env >>= fun f => match f with
      | .next | .cont => again (.forLoop target it body orelse env)
      | .brk => pure (.done .next)
      | .ret v => pure (.done (.ret v))).wrap _ _ _ _) fs s'
    rw [Sem.bind_eq_wrap', Sem.wrap_wrap]
    refine seg_wrap (wpAny_mono hr (fun _ s₁ h₁ => ?_) fun _ _ x => x.elim)
    show Seg _ A R Y n s₀ _ ((assign target env v >>= fun _ => execs body env >>= fun f => match f with
      | .next | .cont => again (.forLoop target it body orelse env)
      | .brk => pure (.done .next)
      | .ret v => pure (.done (.ret v))).wrap _ _ _ _) fs s₁
    rw [Sem.bind_eq_wrap', Sem.wrap_wrap]
    refine seg_wrap (wpAny_mono h₁ (fun _ s₂ h₂ => ?_) fun _ _ x => x.elim)
    show Seg _ A R Y n s₀ _ ((execs body env >>= fun f => match f with
      | .next | .cont => again (.forLoop target it body orelse env)
      | .brk => pure (.done .next)
      | .ret v => pure (.done (.ret v))).wrap _ _ _ _) fs s₂
    rw [Sem.bind_eq_wrap', Sem.wrap_wrap]
    rw [Sem.wrap_congr (execs body env) _ _ (K' := fun f => match f with
            | .next | .cont => .pure (.again (.forLoop target it body orelse env))
            | .brk => .pure (.done .next)
            | .ret v => .pure (.done (.ret v))) (H' := (fun e => (do noteFrame e env; theTreesLotGoes e : Sem Unit).wrap (fun _ => .raise e) .raise id id))
        (fun f => by cases f <;> rfl)
        (fun e => by first | exact Sem.bind_eq_wrap _ _ | (show (do noteFrame e env; theTreesLotGoes e : Sem Unit).bind (fun _ => .raise e) = _; rw [Sem.bind_eq_wrap]))]
    exact h₂
theorem seg_block_nil (h : Seg (model prog w) A R Y n s₀ (.block [] env) (.pure (.done .next)) fs s) : Seg (model prog w) A R Y n s₀ (.block [] env) ((model prog w).den (.block [] env)) fs s := h
/-- a plain statement inside a generator -/
theorem seg_plain {st : Stmt} (h : wpAny (model prog w) (A.over c fs) (exec st env) (fun f s' => Seg (model prog w) A R Y n s₀ c (K f) fs s') (fun _ _ => False) s) :
    Seg (model prog w) A R Y n s₀ c ((exec st env).wrap K H gd lv) fs s := seg_wrap (wpAny_mono h (fun _ _ x => x) fun _ _ x => x.elim)
end
end
section
open PySem PySem.W PyProof.Rows PySem.Calls PySem.Spec
set_option Elab.async false
set_option maxRecDepth 100000
set_option maxHeartbeats 1000000
set_option linter.unusedVariables false
set_option autoImplicit false
variable {w : World}
/-- the generator's frame -/
noncomputable def mapG (x : Str) (t : Tok) (c1 c2 : Option Value) : Str → Option Value := fun y => if y = "ch" then c1 else if y = "pos" then c2 else if y = "escape" then some (.bool false) else if y = "addr" then some (.str x t) else none
theorem mapG_st {x : Str} {t : Tok} {c1 c2 : Option Value} {v1 v2 : Value} : (fun y : Str => if y = Str.ofString "ch" then some v1 else if y = Str.ofString "pos" then some v2 else mapG x t c1 c2 y) = mapG x t (some v1) (some v2) := by
  funext y
  unfold mapG
  by_cases e0 : y = "ch"
  · subst e0; rfl
  · by_cases e1 : y = "pos"
    · subst e1; rfl
    · simp only [if_neg e0, if_neg e1]
noncomputable def bodyG : List Stmt := bodyOf (fnS 7)
noncomputable abbrev envG (L a : Addr) (cd : Value) : Env := envOf "_iter_escaped_chars" (scopeOf (fnS 7)) L a cd
structure GI (x : Str) (t : Tok) (L e it : Addr) (i : Nat) (h : Heap) : Prop where
  ex : ∃ c1 c2 old, h.Ns L (mapG x t c1 c2) ∧ IsEnum h e it i old ∧ h.IsStrIter it (strIterType x) x t i
theorem GI.agree {x : Str} {t : Tok} {L e it : Addr} {i : Nat} {h h' : Heap} (g : GI x t L e it i h) (k : ∀ b ∈ [L, e, it], h'.get? b = h.get? b) : GI x t L e it i h' := by
  obtain ⟨c1, c2, old, ⟨oL, es, ep, hL, r⟩, he, o, ho, r2⟩ := g.ex
  exact ⟨c1, c2, old, ⟨oL, es, ep, (k L (by simp)).trans hL, r⟩, (k e (by simp)).trans he, o, (k it (by simp)).trans ho, r2⟩
/-- what the generator gives at a turn, and what it asks of those who go on -/
noncomputable def GY (hb : Heap) (x : Str) : Protocol := fun n s₀ v s' Kp => ∃ (own : List Addr) (a : Addr) (i c : Nat) (u tk : Tok), v = .ref a ∧ hb.get? a = none ∧ s'.heap.get? a = some { cls := .type "tuple", data := .seq #[.int (i : Nat) tk, .str ⟨#[c]⟩ u] } ∧ a ∉ own ∧
  x.cps[i]? = some c ∧ n + i + 1 = x.cps.size ∧ (∃ h k, s' = { s₀ with heap := h, toks := k }) ∧ (∀ b ∈ own, hb.get? b = none) ∧ (∀ b ∈ own, (s'.heap.get? b).isSome = true) ∧ (∀ b o, b ∉ own → s₀.heap.get? b = some o → s'.heap.get? b = some o) ∧
  ∀ s'' : Shared, (∀ b ∈ own, s''.heap.get? b = s'.heap.get? b) → hb.objs.size ≤ s''.heap.objs.size → Kp (.send .none) s''
noncomputable def GP (hb : Heap) : Nat → Shared → Shared → Prop := fun n s₀ s₁ => n = 0 ∧ (∃ h k, s₁ = { s₀ with heap := h, toks := k }) ∧ ∀ b o, hb.get? b ≠ none → s₀.heap.get? b = some o → s₁.heap.get? b = some o
noncomputable abbrev GR (hb : Heap) : GenEnd := fun n s₀ r s₁ => r = .ok (.ret .none) ∧ GP hb n s₀ s₁
noncomputable def forG : Stmt := bodyG.getD 2 (.Pass ⟨0, 0, 0, 0⟩)
noncomputable def forGt : Stmt → PySem.Expr | .For t _ _ _ _ => t | _ => .Constant .none 0 ⟨0, 0, 0, 0⟩
noncomputable def forGb : Stmt → List Stmt | .For _ _ b _ _ => b | _ => []
section
variable {A : Around}
theorem gen_step {hb : Heap} {x : Str} {t : Tok} {L a e it : Addr} {cd : Value} {fs : List Frame} (hfs : splitAtGen fs = none) (hfg : fs.any Frame.guarded = false) (hh : ∀ c, (A.over c fs).handled = none) (hbs : ∀ (i c : Nat), x.cps[i]? = some c → c ≠ 92)
    (hLe : L ≠ e) (hLi : L ≠ it) (hei : e ≠ it) (hbL : hb.get? L = none) (hbe : hb.get? e = none) (hbi : hb.get? it = none)
    (hend : ∀ s₀ s : Shared, (∃ h k, s = { s₀ with heap := h, toks := k }) → (∀ b o, b ∉ [L, e, it] → s₀.heap.get? b = some o → s.heap.get? b = some o) → (∃ c1 c2, s.heap.Ns L (mapG x t c1 c2)) →
      Seg (model pg w) A (GR hb) (GY hb x) 0 s₀ (.block [] (envG L a cd)) (.pure (.done .next)) fs s) :
    ∀ k i, k + i = x.cps.size → ∀ s₀ s : Shared, (∃ h k, s = { s₀ with heap := h, toks := k }) → (∀ b o, b ∉ [L, e, it] → s₀.heap.get? b = some o → s.heap.get? b = some o) → hb.objs.size ≤ s.heap.objs.size → GI x t L e it i s.heap →
      Seg (model pg w) A (GR hb) (GY hb x) k s₀ (.forLoop (forGt forG) (.ref e) (forGb forG) [] (envG L a cd)) ((model pg w).den (.forLoop (forGt forG) (.ref e) (forGb forG) [] (envG L a cd))) fs s := by
  intro k
  induction k with
  | zero =>
    intro i hk s₀ s hs hkeep hsz0 hg
    obtain ⟨c1, c2, old, hns, he, hit⟩ := hg.ex
    have hi : i = x.cps.size := by omega
    subst hi
    refine seg_forLoop ?_
    have hA := hh (.forLoop (forGt forG) (.ref e) (forGb forG) [] (envG L a cd))
    have D : Draws pg w (A.over (.forLoop (forGt forG) (.ref e) (forGb forG) [] (envG L a cd)) fs).in1 it [it] x.cps.size (fun i v => ∃ c u, x.cps[i]? = some c ∧ v = .str ⟨#[c]⟩ u) (fun i h => h.IsStrIter it (strIterType x) x t i) := by
      unfold strIterType
      split
      · exact Draws.strAscii (by exact hA) it x t
      · exact Draws.strWide (by exact hA) it x t
    refine wpAny_pyNext_enum_endD D he hit (fun h' hx => ?_)
    obtain ⟨hs0, ks0, rfl⟩ := hs
    refine seg_block_nil (hend s₀ _ ⟨_, _, rfl⟩ (fun b o hb e' => ?_) ⟨c1, c2, ?_⟩)
    · have hb2 : b ≠ it := fun q => hb (by rw [q]; simp)
      exact hx b o hb2 (hkeep b o hb e')
    · obtain ⟨oL, es, ep, hL, r⟩ := hns
      exact ⟨oL, es, ep, hx L oL hLi hL, r⟩
  | succ k ih =>
    intro i hk s₀ s hs hkeep hsz0 hg
    obtain ⟨c1, c2, old, hns, he, hit⟩ := hg.ex
    have hi : i < x.cps.size := by omega
    refine seg_forLoop ?_
    have hA := hh (.forLoop (forGt forG) (.ref e) (forGb forG) [] (envG L a cd))
    have D : Draws pg w (A.over (.forLoop (forGt forG) (.ref e) (forGb forG) [] (envG L a cd)) fs).in1 it [it] x.cps.size (fun i v => ∃ c u, x.cps[i]? = some c ∧ v = .str ⟨#[c]⟩ u) (fun i h => h.IsStrIter it (strIterType x) x t i) := by
      unfold strIterType
      split
      · exact Draws.strAscii (by exact hA) it x t
      · exact Draws.strWide (by exact hA) it x t
    refine wpAny_pyNext_enum_itemD D he hit hi hei (by simp [hei]) (fun xv h1 tk1 hP ho hst hT hsz hk1 => ?_)
    obtain ⟨c, u, hc, rfl⟩ := hP
    dsimp only
    clear D
    unfold forG bodyG
    conv in (occs := *) (fnS _) => all_goals (unfold fnS; whnf)
    simp only [bodyOf, scopeOf, forGt, forGb, List.getD_cons_succ, List.getD_cons_zero]
    refine wpAny_letOwnedTupleGo_enum ho (fun h2 he2 hs2 => ?_)
    dsimp only at he2 hs2
    have hgL : s.heap.get? L ≠ none := by
      obtain ⟨oL, es, ep, hL, r⟩ := hns
      rw [hL]; simp
    have hLs : L < s.heap.objs.size := by
      obtain ⟨oL, es, ep, hL, r⟩ := hns
      exact Heap.lt_size hL
    have hes : e < s.heap.objs.size := Heap.lt_size he
    have his : it < s.heap.objs.size := by
      obtain ⟨o, ho, _⟩ := hit
      exact Heap.lt_size ho
    have F : Fr {} L h2 (mapG x t c1 c2) := by
      obtain ⟨oL, es, ep, hL, r⟩ := hns
      exact ⟨⟨oL, es, ep, (hs2.2 L hLe).trans (hk1 L oL hLe hLi hL), r⟩, fun b o e' => (by simp [Heap.get?] at e'), Nat.zero_le _⟩
    obtain ⟨oI, hI1, hI2⟩ := hst
    have N : News {} L h2 [(s.heap.objs.size, { cls := .type "tuple", data := .seq #[.int (i : Nat) tk1, .str ⟨#[c]⟩ u] }), (e, { cls := .type "enumerate", dict := none, data := .fields #[.none, .bool false, .ref it, rawInt ((i : Int) + 1), .none, .str ⟨#[c]⟩ u], slots := #[] }), (it, oI)] := by
      intro p hp
      rcases List.mem_cons.mp hp with rfl | hp
      · exact ⟨(hs2.2 _ (Nat.ne_of_gt hes)).trans hT, Nat.ne_of_gt hLs, rfl⟩
      · rcases List.mem_cons.mp hp with rfl | hp
        · exact ⟨he2, Ne.symm hLe, rfl⟩
        · rw [List.mem_singleton.mp hp]
          exact ⟨(hs2.2 _ (Ne.symm hei)).trans hI1, Ne.symm hLi, rfl⟩
    refine assign_Tuple_tuple (hh _) ⟨_, (N _ (.head _)).1, rfl, 0, rfl⟩ (by rfl) (by rfl) (fun h3 hx3 => ?_)
    have hx3' : ∀ b o, h2.get? b = some o → h3.get? b = some o := fun b o e' => hx3 b o (Nat.ne_of_lt (Heap.lt_size e')) e'
    refine assignInOrder_cons (PyProof.Rows.assign_Name (wpAny_storeName_local (by rfl) (F.ns.keeps hx3') (fun h4 hn4 hs4 => ?_)))
    refine assignInOrder_cons (PyProof.Rows.assign_Name (wpAny_storeName_local (by rfl) hn4 (fun h5 hn5 hs5 => ?_)))
    refine assignInOrder_nil ?_
    have hn5' : h5.Ns L (mapG x t (some (.str ⟨#[c]⟩ u)) (some (.int (i : Nat) tk1))) := by
      have := hn5
      rw [mapG_st] at this
      exact this
    have hto : ∀ b o, b ≠ L → h2.get? b = some o → h5.get? b = some o := fun b o hb e' => (hs5.2 b hb).trans ((hs4.2 b hb).trans (hx3' b o e'))
    have hall : ∀ b o, b ∉ [L, e, it] → s.heap.get? b = some o → h5.get? b = some o := fun b o hb e' => by
      simp only [List.mem_cons, List.not_mem_nil, or_false, not_or] at hb
      exact hto b o hb.1 ((hs2.2 b hb.2.1).trans (hk1 b o hb.2.1 hb.2.2 e'))
    have F5 : Fr {} L h5 (mapG x t (some (.str ⟨#[c]⟩ u)) (some (.int (i : Nat) tk1))) := ⟨hn5', fun b o e' => (by simp [Heap.get?] at e'), Nat.zero_le _⟩
    have N5 : News {} L h5 [(s.heap.objs.size, { cls := .type "tuple", data := .seq #[.int (i : Nat) tk1, .str ⟨#[c]⟩ u] }), (e, { cls := .type "enumerate", dict := none, data := .fields #[.none, .bool false, .ref it, rawInt ((i : Int) + 1), .none, .str ⟨#[c]⟩ u], slots := #[] }), (it, oI)] :=
      fun p hp => ⟨hto _ _ (N p hp).2.1 (N p hp).1, (N p hp).2⟩
    clear F hn4 hn5 hx3 hx3' hs4 hs5
    refine seg_execs_cons (seg_If ?_)
    repeat' (first | ((try dsimp only); walk1))
    refine seg_execs_cons (seg_If ?_)
    repeat' (first | ((try dsimp only); walk1))
    · rename_i hq
      exfalso
      have e1 : (⟨#[c]⟩ : Str) = Str.ofString "\\" := beq_iff_eq.mp hq
      have e2 : #[c] = #[92] := congrArg Str.cps e1
      exact hbs i c hc (by simpa using e2)
    · refine seg_execs_cons (seg_Expr_Yield hfs rfl hfg ?_)
      repeat' (first | ((try dsimp only); (fail_if_success (with_reducible show wpAny _ _ (newTuple _) _ _ _)); walk1))
      refine wpAny_newTuple ?_
      intro kap hkap
      have hlt5 : s.heap.objs.size < h5.objs.size := Heap.lt_size (N5 _ (.head _)).1
      have hbig : ∀ b, b < s.heap.objs.size → b ≠ h5.objs.size := fun b hb => Nat.ne_of_lt (Nat.lt_trans hb hlt5)
      have hold : ∀ b o, h5.get? b = some o → (h5.push { cls := .type "tuple", data := .seq #[.int (i : Nat) tk1, .str ⟨#[c]⟩ u] }).get? b = some o := fun b o e' => Heap.get?_push_of_some _ e'
      obtain ⟨hs0, ks0, rfl⟩ := hs
      refine ⟨[L, e, it], h5.objs.size, i, c, u, tk1, rfl, ?_, Heap.get?_push_size _ rfl, ?_, hc, by omega, ⟨_, _, rfl⟩, ?_, ?_, fun b o hb e' => hold _ _ (hall b o hb (hkeep b o hb e')), fun s'' hag hsz2 => ?_⟩
      · exact Heap.get?_none_of_le (Nat.le_trans hsz0 (Nat.le_of_lt hlt5))
      · simp only [List.mem_cons, List.not_mem_nil, or_false, not_or]
        exact ⟨Ne.symm (hbig _ hLs), Ne.symm (hbig _ hes), Ne.symm (hbig _ his)⟩
      · intro b hb
        simp only [List.mem_cons, List.not_mem_nil, or_false] at hb
        rcases hb with rfl | rfl | rfl
        · exact hbL
        · exact hbe
        · exact hbi
      · intro b hb
        simp only [List.mem_cons, List.not_mem_nil, or_false] at hb
        rcases hb with rfl | rfl | rfl
        · obtain ⟨oL, es, ep, hL, r⟩ := hn5'.keeps hold
          rw [hL]; rfl
        · rw [hold _ _ (N5 _ (.tail _ (.head _))).1]; rfl
        · rw [hold _ _ (N5 _ (.tail _ (.tail _ (.head _)))).1]; rfl
      · refine hkap .none s'' ?_
        refine seg_again rfl ?_
        have hg2 : GI x t L e it (i + 1) s''.heap := by
          have g5 : GI x t L e it (i + 1) (h5.push { cls := .type "tuple", data := .seq #[.int (i : Nat) tk1, .str ⟨#[c]⟩ u] }) :=
            ⟨_, _, .str ⟨#[c]⟩ u, hn5'.keeps hold, hold _ _ (N5 _ (.tail _ (.head _))).1, oI, hold _ _ (N5 _ (.tail _ (.tail _ (.head _)))).1, hI2⟩
          exact g5.agree hag
        exact ih (i + 1) (by omega) s'' s'' ⟨_, _, rfl⟩ (fun _ _ _ e' => e') hsz2 hg2
end
end
section
open PySem PySem.W PyProof.Rows PySem.Calls PySem.Spec
set_option Elab.async false
set_option maxRecDepth 100000
set_option maxHeartbeats 1000000
set_option linter.unusedVariables false
set_option autoImplicit false
variable {G : GA} {mg mb : Str → Option Value} {w : World}
theorem mapG_init {x : Str} {t : Tok} {v : Value} : (fun y : Str => if y = Str.ofString "escape" then some (Value.bool false) else if y = Str.ofString "pos" then some v else [(Str.ofString "addr", Value.str x t)].reverse.lookup y) = mapG x t none (some v) := by
  funext y
  unfold mapG
  by_cases e0 : y = "ch"
  · subst e0; rfl
  · by_cases e1 : y = "pos"
    · subst e1; rfl
    · by_cases e2 : y = "escape"
      · subst e2; rfl
      · by_cases e3 : y = "addr"
        · subst e3; rfl
        · have hb : (y == Str.ofString "addr") = false := by simpa using e3
          simp only [if_neg e0, if_neg e1, if_neg e2, if_neg e3, List.reverse_cons, List.reverse_nil, List.nil_append, List.lookup, hb]
theorem gen_fresh {A : Around} {hq hb : Heap} {x : Str} {t : Tok} {L a : Addr} {cd : Value} {s : Shared} (T : Tp G mg mb w hq) (hA : A.handled = none) (hbs : ∀ (i c : Nat), x.cps[i]? = some c → c ≠ 92)
    (hqs : ∀ b o, hq.get? b = some o → s.heap.get? b = some o) (hqL : hq.objs.size ≤ L) (hbL : hb.get? L = none) (hsz : hb.objs.size ≤ s.heap.objs.size) (hns : s.heap.Ns L (fun y => [(Str.ofString "addr", Value.str x t)].reverse.lookup y)) :
    Seg (model pg w) A (GR hb) (GY hb x) x.cps.size s (.func bodyG (envG L a cd)) ((model pg w).den (.func bodyG (envG L a cd))) [] s := by
  refine seg_func ?_
  have F : Fr hq L s.heap _ := ⟨hns, hqs, hqL⟩
  obtain ⟨h0, g0, d0, tk0, os0⟩ := s
  dsimp only at F hsz hns hqs
  unfold bodyG
  conv in (occs := *) (fnS _) => all_goals (unfold fnS; whnf)
  simp only [bodyOf, scopeOf]
  refine seg_execs_cons (seg_plain ?_)
  repeat' (first | ((try dsimp only); (fail_if_success (with_reducible show wpAny _ _ (storeName _ _ _) _ _ _)); walk1))
  refine wpAny_storeName_local (by rfl) hns (fun h1 hn1 hs1 => ?_)
  refine seg_execs_cons (seg_plain ?_)
  repeat' (first | ((try dsimp only); (fail_if_success (with_reducible show wpAny _ _ (storeName _ _ _) _ _ _)); walk1))
  refine wpAny_storeName_local (by rfl) hn1 (fun h2 hn2 hs2 => ?_)
  have hL2 : ∀ b o, b ≠ L → h0.get? b = some o → h2.get? b = some o := fun b o hb' e => (hs2.2 b hb').trans ((hs1.2 b hb').trans e)
  have hqn : ∀ b o, hq.get? b = some o → b ≠ L := fun b o e => Nat.ne_of_lt (Nat.lt_of_lt_of_le (Heap.lt_size e) hqL)
  have F2 : Fr hq L h2 _ := ⟨hn2, fun b o e => hL2 b o (hqn b o e) (hqs b o e), hqL⟩
  have hz2 : h2.objs.size = h0.objs.size := by rw [hs2.1, hs1.1]
  clear F hn1 hs1 hs2
  refine seg_execs_cons (seg_For ?_)
  repeat' (first | ((try dsimp only); (fail_if_success (with_reducible show wpAny _ _ (call (Value.type "enumerate") _) _ _ _)); walk1))
  refine call_enumerate_str (fun h3 he3 hit3 hz3 hk3 => ?_)
  repeat' (first | ((try dsimp only); walk1))
  refine wpAny_pyIter_enum he3 ?_
  intro p
  dsimp only at he3 hit3 hz3 hk3
  have hLs : L < h2.objs.size := by
    obtain ⟨oL, es, ep, hL, r⟩ := hn2
    exact Heap.lt_size hL
  have hh : ∀ (c : Code) (k : Result → Sem Fin) (c2 : Code) (p2 : Pos), (A.over c [.ret k none false [] c2 p2 []]).handled = none := fun c k c2 p2 => hA
  obtain ⟨tp, hnsG⟩ : ∃ tp, h3.Ns L (mapG x t none (some (.int 0 tp))) := ⟨_, by
    have := hn2.keeps hk3
    rw [mapG_init] at this
    exact this⟩
  refine gen_step (e := h2.objs.size + 1) (it := h2.objs.size) rfl rfl (fun c => hh c _ _ _) hbs (Nat.ne_of_lt (Nat.lt_succ_of_lt hLs)) (Nat.ne_of_lt hLs) (Nat.succ_ne_self _) hbL (Heap.get?_none_of_le (hz2 ▸ Nat.le_succ_of_le hsz)) (Heap.get?_none_of_le (hz2 ▸ hsz)) ?_
    x.cps.size 0 (by omega) _ _ ⟨_, _, rfl⟩ (fun b o hb' e => ?_) (by show _ ≤ h3.objs.size; rw [hz3, hz2]; exact Nat.le_add_right_of_le hsz) ⟨none, some (.int 0 tp), .none, hnsG, he3, hit3⟩
  · intro s₀ s1 hs1 hk1 hn1
    obtain ⟨c1, c2, hn1⟩ := hn1
    obtain ⟨hE, kE, rfl⟩ := hs1
    refine seg_leaf (.ok .next) ?_
    have FE : Fr {} L hE (mapG x t c1 c2) := ⟨hn1, fun b o e => (by simp [Heap.get?] at e), Nat.zero_le _⟩
    refine seg_execs_cons (seg_If ?_)
    repeat' (first | ((try dsimp only); walk1))
    refine seg_end (.ok (.ret .none)) ⟨rfl, rfl, ⟨_, _, rfl⟩, fun b o hbb e => hk1 b o (fun q => ?_) e⟩
    simp only [List.mem_cons, List.not_mem_nil, or_false] at q
    rcases q with rfl | rfl | rfl
    · exact hbb hbL
    · exact hbb (Heap.get?_none_of_le (hz2 ▸ Nat.le_succ_of_le hsz))
    · exact hbb (Heap.get?_none_of_le (hz2 ▸ hsz))
  · have hb2 : b ≠ L := fun q => hb' (by rw [q]; simp)
    exact hk3 b o (hL2 b o hb2 e)
end
section
open PySem PySem.W PyProof.Rows PySem.Calls PySem.Spec
set_option Elab.async false
set_option maxRecDepth 100000
set_option maxHeartbeats 1000000
set_option linter.unusedVariables false
set_option autoImplicit false
variable {w : World} {A : Around}
/-- the generator sleeps behind i turns -/
structure GS (w : World) (A : Around) (hq hb : Heap) (x : Str) (ga : Addr) (g i : Nat) (own : List Addr) (s : Shared) : Prop where
  ex : ∃ gs, s.gens[g]? = some gs ∧ ∀ s'' : Shared, (∀ b ∈ own, s''.heap.get? b = s.heap.get? b) → hb.objs.size ≤ s''.heap.objs.size → (∀ b o, hq.get? b = some o → s''.heap.get? b = some o) → gs.Goes (model pg w) A.in1 (GR hb) (GY hb x) (x.cps.size - i) (.send .none) s''
  apart : ∀ b ∈ own, hb.get? b = none
  dom : ∀ b ∈ own, (s.heap.get? b).isSome = true
  size : hb.objs.size ≤ s.heap.objs.size
  gen : s.heap.IsGen ga g
/-- a waking leaves what the consumer had -/
structure Woke (hb : Heap) (g : Nat) (s s' : Shared) : Prop where
  ex : ∃ h k gs, s' = { s with heap := h, toks := k, gens := s.gens.setIfInBounds g gs }
  keep : ∀ b o, hb.get? b ≠ none → s.heap.get? b = some o → s'.heap.get? b = some o
theorem next_gen {hq hb : Heap} {x : Str} {ga g i : Nat} {own : List Addr} {s : Shared} {Q : Option Value → Shared → Prop} {E : Value → Shared → Prop} (S : GS w A hq hb x ga g i own s) (hh : A.handled = none) (hl : s.heap.NoLimit) (hroom : A.depth < recursionLimit)
    (hqs : ∀ b o, hq.get? b = some o → s.heap.get? b = some o) (hga : hb.get? ga ≠ none) (hgl : g < s.gens.size) (hi : i ≤ x.cps.size) (hsz : ∀ s', Woke hb g s s' → hb.objs.size ≤ s'.heap.objs.size)
    (hsome : ∀ (s' : Shared) (a : Addr) (c : Nat) (u tk : Tok) (own' : List Addr), i < x.cps.size → x.cps[i]? = some c → hb.get? a = none → s'.heap.get? a = some { cls := .type "tuple", data := .seq #[.int (i : Nat) tk, .str ⟨#[c]⟩ u] } → Woke hb g s s' → GS w A hq hb x ga g (i + 1) own' s' → a ∉ own' → Q (some (.ref a)) s')
    (hnone : ∀ s', i = x.cps.size → Woke hb g s s' → (∃ h k, s' = { s with heap := h, toks := k, gens := s.gens.setIfInBounds g .finished }) → Q none s') : wpAny (model pg w) A (pyNext (.ref ga)) Q E s := by
  obtain ⟨gs, hgs, hgo⟩ := S.ex
  refine wpAny_pyNext_gen (P := GP hb) (Y := GY hb x) (n := x.cps.size - i) hh hl hroom S.gen hgs (hgo _ (fun _ _ => rfl) S.size hqs) (fun v s₁ gs' hy => ?_) (fun s₁ hp h' hx => ?_)
  · obtain ⟨own', a, i', c, u, tk, rfl, ha, hT, hao, hc, hn, ⟨h, k, rfl⟩, hown, hdom, hk, hgo'⟩ := hy
    have W : Woke hb g s (({ s.setGen g .running with heap := h, toks := k } : Shared).setGen g gs') := ⟨⟨h, k, gs', by simp [Shared.setGen]⟩, fun b o hb' e => hk b o (fun q => hb' (hown b q)) e⟩
    cases hN : x.cps.size - i with
    | zero =>
      rw [hN] at hgo'
      exact (hgo' _ (fun _ _ => rfl) (show hb.objs.size ≤ h.objs.size from hsz _ W)).elim
    | succ m =>
      rw [hN] at hgo' hn
      have hii : i' = i := by omega
      subst hii
      refine hsome _ a c u tk own' (by omega) hc ha hT W ⟨⟨gs', ?_, fun s'' h1 h2 _ => ?_⟩, hown, hdom, hsz _ W, ?_⟩ hao
      · simp [Shared.setGen, hgl]
      · have := hgo' s'' h1 h2
        rw [show x.cps.size - (i' + 1) = m by omega]
        exact this
      · obtain ⟨o, nm, qn, ho, r⟩ := S.gen
        exact ⟨o, nm, qn, W.keep _ _ hga ho, r⟩
  · obtain ⟨hn, ⟨h, k, rfl⟩, hk⟩ := hp
    refine hnone _ (by omega) ⟨⟨h', k, .finished, by simp [Shared.setGen]⟩, fun b o hb' e => hx b o (hk b o hb' e)⟩ ⟨h', k, by simp [Shared.setGen]⟩
theorem letgo_gen {elts : List PySem.Expr} {x1 : Nat} {pos : Pos} {ga g a : Nat} {s : Shared} {Q : Unit → Shared → Prop} {E : Value → Shared → Prop} (hg : s.heap.IsGen ga g) (h : Q () s) :
    wpAny (model pg w) A (letOwnedTupleGo (.Tuple elts x1 pos) (.ref ga) (.ref a)) Q E s := by
  obtain ⟨o, nm, qn, ho, hc, hd, hsl⟩ := hg
  unfold letOwnedTupleGo
  refine wpAny_bind (wpAny_load ho ?_)
  rw [hc, hd]
  dsimp only
  have hc0 : (["enumerate", "zip", "dict_itemiterator", "dict_reverseitemiterator", "odict_iterator", "itertools.zip_longest", "itertools.pairwise"] : List String).contains "generator" = false := by decide
  rw [hc0, Bool.false_and, if_neg Bool.false_ne_true]
  exact wpAny_pure h
theorem for_gen {R : Result → Shared → Prop} {hq hb : Heap} {x : Str} {ga g : Nat} {elts : List PySem.Expr} {x1 : Nat} {tpos : Pos} {body : List Stmt} {env : Env} {s : Shared} {own : List Addr} (J : Nat → Shared → Prop) (hh : A.handled = none) (hroom : A.depth < recursionLimit)
    (hga : hb.get? ga ≠ none) (hgz : hb.objs.size ≤ ga + 1) (hJl : ∀ i s, J i s → s.heap.NoLimit ∧ g < s.gens.size ∧ ∀ b o, hq.get? b = some o → s.heap.get? b = some o)
    (step : ∀ i s s' a c u tk own', J i s → i < x.cps.size → x.cps[i]? = some c → s'.heap.get? a = some { cls := .type "tuple", data := .seq #[.int (i : Nat) tk, .str ⟨#[c]⟩ u] } → Woke hb g s s' → GS w A hq hb x ga g (i + 1) own' s' → a ∉ own' → hb.get? a = none →
      wpAny (model pg w) A (assign (.Tuple elts x1 tpos) env (.ref a)) (fun _ s₂ => wpAny (model pg w) A (execs body env) (fun f s₃ => match f with
        | .next | .cont => J (i + 1) s₃ ∧ s₃.gens = s'.gens ∧ (∀ b ∈ ga :: own', s₃.heap.get? b = s'.heap.get? b)
        | .brk => False
        | .ret v => R (.ok (.ret v)) s₃) (fun _ _ => False) s₂) (fun _ _ => False) s')
    (done : ∀ s s', J x.cps.size s → Woke hb g s s' → (∃ h k, s' = { s with heap := h, toks := k, gens := s.gens.setIfInBounds g .finished }) → R (.ok .next) s')
    (h0 : J 0 s) (S0 : GS w A hq hb x ga g 0 own s) : codeAny (model pg w) A (.forLoop (.Tuple elts x1 tpos) (.ref ga) body [] env) R s := by
  refine codeAny_forLoop_any (fun n s => ∃ i own, i ≤ x.cps.size ∧ n = x.cps.size + 1 - i ∧ J i s ∧ GS w A hq hb x ga g i own s) ?_ (x.cps.size + 1) ⟨0, own, Nat.zero_le _, rfl, h0, S0⟩
  rintro n s ⟨i, own, hi, rfl, hJ, S⟩
  obtain ⟨hl, hgl, hqs⟩ := hJl i s hJ
  have hkz : ∀ s', Woke hb g s s' → hb.objs.size ≤ s'.heap.objs.size := fun s' W => by
    obtain ⟨o, nm, qn, ho, r⟩ := S.gen
    exact Nat.le_trans hgz (Heap.lt_size (W.keep _ _ hga ho))
  refine next_gen S hh hl hroom hqs hga hgl hi hkz (fun s' a c u tk own' hlt hc ha hT W S' hao => ?_) (fun s' he W WF => ?_)
  · dsimp only
    refine letgo_gen S'.gen (wpAny_mono (step i s s' a c u tk own' hJ hlt hc hT W S' hao ha) (fun _ s₂ h₂ => wpAny_mono h₂ (fun f s₃ h₃ => ?_) fun _ _ x => x.elim) fun _ _ x => x.elim)
    have fin : J (i + 1) s₃ ∧ s₃.gens = s'.gens ∧ (∀ b ∈ ga :: own', s₃.heap.get? b = s'.heap.get? b) → ∃ m, m < x.cps.size + 1 - i ∧ ∃ i' own, i' ≤ x.cps.size ∧ m = x.cps.size + 1 - i' ∧ J i' s₃ ∧ GS w A hq hb x ga g i' own s₃ := by
      rintro ⟨a1, a2, a3⟩
      obtain ⟨gs, hgs, hgo⟩ := S'.ex
      obtain ⟨o, nm, qn, ho, r⟩ := S'.gen
      have hg3 : s₃.heap.get? ga = some o := (a3 ga (.head _)).trans ho
      refine ⟨x.cps.size + 1 - (i + 1), by omega, i + 1, own', hlt, rfl, a1, ⟨⟨gs, by rw [a2]; exact hgs, fun s'' h1 h2 h3 => hgo s'' (fun b hb' => (h1 b hb').trans (a3 b (.tail _ hb'))) h2 h3⟩, S'.apart, fun b hb' => by rw [a3 b (.tail _ hb')]; exact S'.dom b hb', Nat.le_trans hgz (Heap.lt_size hg3), ⟨o, nm, qn, hg3, r⟩⟩⟩
    cases f with
    | next => exact fin h₃
    | cont => exact fin h₃
    | brk => exact h₃.elim
    | ret v => exact h₃
  · dsimp only
    refine wpAny_execs_nil ?_
    exact done s s' (he ▸ hJ) W WF
end
section
open PySem PySem.W PyProof.Rows PySem.Calls PySem.Spec
set_option Elab.async false
set_option maxRecDepth 100000
set_option maxHeartbeats 1000000
set_option linter.unusedVariables false
set_option autoImplicit false
variable {G : GA} {mg mb : Str → Option Value} {w : World}
theorem c_ie {A A' : Around} {hq : Heap} {E : Value → Shared → Prop} {s : Shared} {x : Str} {t : Tok} {Q : Value → Shared → Prop} (T : Tp G mg mb w hq) (hqs : ∀ b o, hq.get? b = some o → s.heap.get? b = some o) (hqz : hq.objs.size ≤ s.heap.objs.size)
    (hroom : A.depth < recursionLimit) (hh : A'.handled = none) (hl : s.heap.NoLimit) (hbs : ∀ (i c : Nat), x.cps[i]? = some c → c ≠ 92)
    (hQ : ∀ h' tk hb ga L c, (∀ b o, s.heap.get? b = some o → h'.get? b = some o) → s.heap.get? L = none → s.heap.get? ga = none → ga ≠ L → (∀ b, b ≠ L → hb.get? b = h'.get? b) → hb.objs.size ≤ ga + 1 → hb.get? ga ≠ none → h'.NoLimit → s.gens.size < (s.gens.push (.fresh c)).size →
      GS w A' hq hb x ga s.gens.size 0 [L] { s with heap := h', toks := tk, gens := s.gens.push (.fresh c) } → Q (.ref ga) { s with heap := h', toks := tk, gens := s.gens.push (.fresh c) }) :
    wpAny (model pg w) A (call (.ref G.ie) [.str x t]) Q E s := by
  obtain ⟨o, pm, code, doc, ho, hd, hc⟩ := T.f_ie
  have k0 : Ext hq s.heap := hqs
  refine wpAny_call ?_
  refine codeAny_call_generator (body := bodyG) hroom (hqs _ _ ho) hd rfl rfl rfl (hc.keeps k0) ?_
  have hbind : bindArgs (docDef (nameOf (fnS 7)) (paramsOf (fnS 7)) (bodyOf (fnS 7)) (scopeOf (fnS 7)) pm code doc) ⟨[.str x t], []⟩ = (pure [((Str.ofString "addr" : Str), Value.str x t)] : Sem (List (Str × Value))) := rfl
  rw [hbind]
  refine wpAny_pure (wpAny_newFunctionEnv (by show ∀ y ∈ (scopeOf (fnS 7)).names, y.2 ≠ NameKind.cell; decide) (by intro y hy; simp at hy; rcases hy with rfl; rfl) (fun h1 hns hsb => ?_) (by rfl))
  have hx : Ext s.heap h1 := fun b o e => hsb.extBut b o (Nat.ne_of_lt (Heap.lt_size e)) (Heap.get?_push_of_some _ e)
  have z1 : h1.objs.size = s.heap.objs.size + 1 := by rw [hsb.1, Heap.size_push]
  have hn1 : h1.get? h1.objs.size = none := Heap.get?_none_of_le (Nat.le_refl _)
  refine ⟨hl.keeps hx, ?_⟩
  dsimp only
  refine hQ _ _ (Heap.hide (h1.push _) s.heap.objs.size) _ s.heap.objs.size _ (fun b o e => Heap.get?_push_of_some _ (hx b o e)) (Heap.get?_none_of_le (Nat.le_refl _)) (Heap.get?_none_of_le (by rw [z1]; exact Nat.le_succ _)) (by rw [z1]; exact Nat.succ_ne_self _) (fun b hb => Heap.hide_ne _ hb) ?_ ?_ ((hl.keeps hx).keeps fun b o e => Heap.get?_push_of_some _ e) (by simp) ?_
  · rw [Heap.hide_size, Heap.size_push]; exact Nat.le_refl _
  · rw [Heap.hide_ne _ (by rw [z1]; exact Nat.succ_ne_self _), Heap.get?_push_size _ rfl]; simp
  · refine ⟨⟨_, Array.getElem?_push_size .., fun s'' k1 k2 k3 => ⟨rfl, ?_⟩⟩, ?_, ?_, ?_, ?_⟩
    · rw [Nat.sub_zero]
      have hnp := hns.keeps (h' := h1.push { cls := .type "generator", data := .fields #[.int s.gens.size 0, .str (nameOf (fnS 7)) (s.toks + 1), .str (nameOf (fnS 7)) (s.toks + 1 + 1)] }) (fun b o e => Heap.get?_push_of_some _ e)
      obtain ⟨oL, es, ep, hL, r⟩ := hnp
      exact gen_fresh T hh hbs k3 hqz (Heap.hide_self _ _) k2 ⟨oL, es, ep, (k1 _ (.head _)).trans hL, r⟩
    · intro b hb; rw [List.mem_singleton.mp hb]; exact Heap.hide_self _ _
    · intro b hb
      rw [List.mem_singleton.mp hb]
      obtain ⟨oL, es, ep, hL, r⟩ := hns
      show ((h1.push _).get? _).isSome = true
      rw [Heap.get?_push_of_some _ hL]
      rfl
    · rw [Heap.hide_size]; exact Nat.le_refl _
    · exact ⟨_, _, _, Heap.get?_push_size _ rfl, rfl, rfl, rfl⟩
end
section
open PySem PySem.W PyProof.Rows PySem.Calls PySem.Spec
set_option Elab.async false
set_option maxRecDepth 100000
set_option maxHeartbeats 1000000
set_option linter.unusedVariables false
set_option autoImplicit false
variable {G : GA} {mg mb : Str → Option Value} {w : World}
theorem set_push {α : Type} (a : Array α) (x y : α) : (a.push x).setIfInBounds a.size y = a.push y := by
  refine Array.ext_getElem? fun i => ?_
  rw [Array.getElem?_setIfInBounds, Array.getElem?_push, Array.getElem?_push]
  by_cases e : i = a.size
  · subst e; simp
  · rw [if_neg (Ne.symm e), if_neg e, if_neg e]
theorem reserve {h₀ h' : Heap} {L : Addr} : ∀ {l : List Addr}, (∀ b ∈ l, (h'.get? b).isSome = true ∧ b ≠ L ∧ h₀.get? b = none) → ∃ res : List (Addr × Obj), res.map Prod.fst = l ∧ News h₀ L h' res
  | [], _ => ⟨[], rfl, News.nil⟩
  | b :: r, h => by
    obtain ⟨res, e, N⟩ := reserve (l := r) fun c hc => h c (.tail _ hc)
    obtain ⟨o, ho⟩ := Option.isSome_iff_exists.mp (h b (.head _)).1
    refine ⟨(b, o) :: res, by rw [List.map_cons, e], fun p hp => ?_⟩
    rcases List.mem_cons.mp hp with rfl | hp
    · exact ⟨ho, (h b (.head _)).2⟩
    · exact N p hp
theorem news_cat {h₀ h : Heap} {L : Addr} {l r : List (Addr × Obj)} (N : News h₀ L h l) (N2 : News h₀ L h r) : News h₀ L h (l ++ r) := fun p hp => (List.mem_append.mp hp).elim (N p) (N2 p)
structure Turn (s : Shared) (h₀ : Heap) (L : Addr) (gens : Array GenState) (res : List (Addr × Obj)) (P : (Str → Option Value) → List (Addr × Obj) → Prop) (s₃ : Shared) : Prop where
  ex : ∃ h m' ne' tk, s₃ = { s with heap := h, toks := tk, gens := gens } ∧ Fr h₀ L h m' ∧ News h₀ L h (ne' ++ res) ∧ P m' ne'
/-- a for over the generator, with the consumer's frame and ledger -/
theorem for_genC {A : Around} {R : Result → Shared → Prop} {hq hb h₀ : Heap} {L : Addr} {x : Str} {ga : Addr} {elts : List PySem.Expr} {x1 : Nat} {tpos : Pos} {body : List Stmt} {env : Env} {s : Shared} {g0 : Array GenState} {gx : GenState} {own : List Addr}
    {h : Heap} {tk : Nat} {m : Str → Option Value} {ne : List (Addr × Obj)}
    (P : Nat → (Str → Option Value) → List (Addr × Obj) → Prop) (hh : A.handled = none) (hroom : A.depth < recursionLimit)
    (hga : hb.get? ga ≠ none) (hgz : hb.objs.size ≤ ga + 1) (hbL : hb.get? L ≠ none) (hb0 : ∀ b, h₀.get? b ≠ none → hb.get? b ≠ none) (hgaL : ga ≠ L) (hga0 : h₀.get? ga = none) (hlim : h₀.NoLimit) (hq0 : Ext hq h₀)
    (hPa : ∀ i m ne, P i m ne → ∀ p ∈ ne, hb.get? p.1 ≠ none ∧ p.1 ≠ ga)
    (step : ∀ i m ne res c u tk tk' a h' gx, P i m ne → i < x.cps.size → x.cps[i]? = some c → Fr h₀ L h' m → News h₀ L h' (ne ++ res) → (a, { cls := .type "tuple", data := .seq #[.int (i : Nat) tk, .str ⟨#[c]⟩ u] }) ∈ res → (∀ p ∈ ne, ∀ q ∈ res, p.1 ≠ q.1) →
      wpAny (model pg w) A (assign (.Tuple elts x1 tpos) env (.ref a)) (fun _ s₂ => wpAny (model pg w) A (execs body env) (fun f s₃ => match f with
        | .next | .cont => Turn s h₀ L (g0.push gx) res (P (i + 1)) s₃
        | .brk => False
        | .ret v => R (.ok (.ret v)) s₃) (fun _ _ => False) s₂) (fun _ _ => False) { s with heap := h', toks := tk', gens := g0.push gx })
    (done : ∀ h tk m ne, P x.cps.size m ne → Fr h₀ L h m → News h₀ L h ne → R (.ok .next) { s with heap := h, toks := tk, gens := g0.push .finished })
    (hP : P 0 m ne) (F : Fr h₀ L h m) (N : News h₀ L h ne) (S0 : GS w A hq hb x ga g0.size 0 own { s with heap := h, toks := tk, gens := g0.push gx }) :
    codeAny (model pg w) A (.forLoop (.Tuple elts x1 tpos) (.ref ga) body [] env) R { s with heap := h, toks := tk, gens := g0.push gx } := by
  refine for_gen (J := fun i s' => ∃ h tk gx m ne, s' = { s with heap := h, toks := tk, gens := g0.push gx } ∧ P i m ne ∧ Fr h₀ L h m ∧ News h₀ L h ne) hh hroom hga hgz ?_ ?_ ?_ ⟨h, tk, gx, m, ne, rfl, hP, F, N⟩ S0
  · rintro i s' ⟨h, tk, gx, m, ne, rfl, hP, F, N⟩
    exact ⟨hlim.keeps F.keep, by simp, fun b o e => F.keep _ _ (hq0 _ _ e)⟩
  · rintro i s1 s2 a c u tk own' ⟨h, tk0, gx, m, ne, rfl, hP, F, N⟩ hlt hc hT W S hao ha
    obtain ⟨⟨h', k', gs, rfl⟩, hkeep⟩ := W
    dsimp only at hkeep hT
    rw [set_push]
    have F' : Fr h₀ L h' m := by
      obtain ⟨oL, es, ep, hL, r⟩ := F.ns
      exact ⟨⟨oL, es, ep, hkeep _ _ hbL hL, r⟩, fun b o e => hkeep _ _ (hb0 b (by rw [e]; simp)) (F.keep b o e), F.above⟩
    have N' : News h₀ L h' ne := fun p hp => ⟨hkeep _ _ (hPa i m ne hP p hp).1 (N p hp).1, (N p hp).2⟩
    have hnone : ∀ b, hb.get? b = none → b ≠ L ∧ h₀.get? b = none := fun b hb' => ⟨fun q => hbL (q ▸ hb'), by
      cases e : h₀.get? b with
      | none => rfl
      | some o => exact absurd hb' (hb0 b (by rw [e]; simp))⟩
    obtain ⟨res, hre, hNr⟩ := reserve (h₀ := h₀) (h' := h') (L := L) (l := ga :: own') (fun b hb' => by
      rcases List.mem_cons.mp hb' with rfl | hb'
      · obtain ⟨o, nm, qn, ho, r⟩ := S.gen
        exact ⟨by rw [show h'.get? b = some o from ho]; rfl, hgaL, hga0⟩
      · exact ⟨S.dom b hb', hnone b (S.apart b hb')⟩)
    have hap : ∀ p ∈ ne, ∀ q ∈ (a, { cls := .type "tuple", data := .seq #[.int (i : Nat) tk, .str ⟨#[c]⟩ u] }) :: res, p.1 ≠ q.1 := by
      intro p hp q hq' e
      have := hPa i m ne hP p hp
      rcases List.mem_cons.mp hq' with rfl | hq'
      · exact this.1 (e ▸ ha)
      · have hm : q.1 ∈ ga :: own' := by rw [← hre]; exact List.mem_map_of_mem hq'
        rcases List.mem_cons.mp hm with h1 | h1
        · exact this.2 (e.trans h1)
        · exact this.1 (e ▸ S.apart _ h1)
    refine wpAny_mono (step i m ne _ c u tk k' a h' gs hP hlt hc F' (news_cat N' (fun p hp => by
      rcases List.mem_cons.mp hp with rfl | hp
      · exact ⟨hT, hnone a ha⟩
      · exact hNr p hp)) (.head _) hap) (fun _ s₂ h₂ => wpAny_mono h₂ (fun f s₃ h₃ => ?_) fun _ _ x => x.elim) fun _ _ x => x.elim
    have fin : (∃ h m' ne' tk', s₃ = { s with heap := h, toks := tk', gens := g0.push gs } ∧ Fr h₀ L h m' ∧ News h₀ L h (ne' ++ (a, { cls := .type "tuple", data := .seq #[.int (i : Nat) tk, .str ⟨#[c]⟩ u] }) :: res) ∧ P (i + 1) m' ne') →
        (∃ h tk gx m ne, s₃ = { s with heap := h, toks := tk, gens := g0.push gx } ∧ P (i + 1) m ne ∧ Fr h₀ L h m ∧ News h₀ L h ne) ∧ s₃.gens = g0.push gs ∧ ∀ b ∈ ga :: own', s₃.heap.get? b = h'.get? b := by
      rintro ⟨h3, m', ne', tk3, rfl, F3, N3, hP3⟩
      refine ⟨⟨h3, tk3, gs, m', ne', rfl, hP3, F3, fun p hp => N3 p (List.mem_append_left _ hp)⟩, rfl, fun b hb' => ?_⟩
      rw [← hre] at hb'
      obtain ⟨p, hp, rfl⟩ := List.mem_map.mp hb'
      rw [(hNr p hp).1]
      exact (N3 p (List.mem_append_right _ (.tail _ hp))).1
    cases f with
    | next => exact fin h₃.ex
    | cont => exact fin h₃.ex
    | brk => exact h₃
    | ret v => exact h₃
  · rintro s1 s2 ⟨h, tk0, gx, m, ne, rfl, hP, F, N⟩ W ⟨h', k', rfl⟩
    have hkeep := W.keep
    dsimp only at hkeep
    rw [set_push]
    have F' : Fr h₀ L h' m := by
      obtain ⟨oL, es, ep, hL, r⟩ := F.ns
      exact ⟨⟨oL, es, ep, hkeep _ _ hbL hL, r⟩, fun b o e => hkeep _ _ (hb0 b (by rw [e]; simp)) (F.keep b o e), F.above⟩
    exact done h' k' m ne hP F' (fun p hp => ⟨hkeep _ _ (hPa _ m ne hP p hp).1 (N p hp).1, (N p hp).2⟩)
end
section
open PySem PySem.W PyProof.Rows PySem.Calls PySem.Spec
set_option Elab.async false
set_option maxRecDepth 100000
set_option maxHeartbeats 1000000
set_option linter.unusedVariables false
set_option autoImplicit false
variable {G : GA} {mg mb : Str → Option Value} {w : World}
theorem st_FN {M : Model} {A : Around} {E : Value → Shared → Prop} {s : Shared} {h₀ : Heap} {L a : Addr} {m : Str → Option Value} {name : Str} {scope : Scope} {cd : Value} {x : Str} {v : Value} {Q : Unit → Shared → Prop} {news : List (Addr × Obj)} (F : Fr h₀ L s.heap m) (N : News h₀ L s.heap news)
    (h : ∀ h', Fr h₀ L h' (fun y => if y = x then some v else m y) → News h₀ L h' news → Q () { s with heap := h', toks := s.toks + 1 }) (hk : scope.kind = .function := by rfl) (hx : (envOf name scope L a cd).kindOf x = some .local := by rfl) :
    wpAny M A (storeName (envOf name scope L a cd) x v) Q E s :=
  wpAny_storeName_local hx F.ns (fun h' hn hs => h h' (F.set hn hs) (N.set hs)) (by show (scope.kind == .class || (scope.kind == .module && L != mainGlobals)) = false; rw [hk]; rfl)
theorem c_ie1 {A : Around} {hq : Heap} {E : Value → Shared → Prop} {s : Shared} {x : Str} {t : Tok} {Q : Value → Shared → Prop} (T : Tp G mg mb w hq) (hqs : ∀ b o, hq.get? b = some o → s.heap.get? b = some o) (hqz : hq.objs.size ≤ s.heap.objs.size)
    (hroom : A.depth < recursionLimit) (hh : A.handled = none) (hl : s.heap.NoLimit) (hbs : ∀ (i c : Nat), x.cps[i]? = some c → c ≠ 92)
    (hQ : ∀ h' tk hb ga L c, (∀ b o, s.heap.get? b = some o → h'.get? b = some o) → s.heap.get? L = none → s.heap.get? ga = none → ga ≠ L → (∀ b, b ≠ L → hb.get? b = h'.get? b) → hb.objs.size ≤ ga + 1 → hb.get? ga ≠ none → h'.NoLimit → s.gens.size < (s.gens.push (.fresh c)).size →
      GS w A hq hb x ga s.gens.size 0 [L] { s with heap := h', toks := tk, gens := s.gens.push (.fresh c) } → Q (.ref ga) { s with heap := h', toks := tk, gens := s.gens.push (.fresh c) }) :
    wpAny (model pg w) A (call (.ref G.ie) [.str x t]) Q E s := c_ie T hqs hqz hroom hh hl hbs hQ
theorem callWith_fn {M : Model} {A : Around} {E : Value → Shared → Prop} {s : Shared} {env : Env} {h₀ : Heap} {st : Stmt} {pos : Pos} {a : Addr} {e : PySem.Expr} {rest : List PySem.Expr} {Q : Value → Shared → Prop} (f : FnAt h₀ a st)
    (h : wpAny M A (spliced (backTo pos (starEach (e :: rest) env))) (fun vs s₁ => Ext h₀ s₁.heap ∧ wpAny M A (call (.ref a) vs) Q E s₁) E s)
    (he : starEach (e :: rest) env = (false, eval e env) :: starEach rest env := by rfl) :
    wpAny M A (callWith pos (.ref a) [] (backTo pos (starEach (e :: rest) env)) []) Q E s := by
  obtain ⟨o, pm, code, doc, h1, h2, h3⟩ := f
  exact callWith_def_at h1 h2 (wpAny_mono h (fun x s₁ hx => ⟨hx.1 _ _ h1, hx.2⟩) fun _ _ x => x) he
end
local macro_rules | `(tactic| walk_at "callWith ref") => `(tactic| ((with_reducible rename Tp _ _ _ _ _ => kT); first
  | refine callWith_fn (Tp.f_ie kT) ?_ | refine callWith_fn (Tp.f_sq kT) ?_ | refine callWith_fn (Tp.f_cp kT) ?_ | refine callWith_fn (Tp.f_pf kT) ?_ | refine callWith_fn (Tp.f_mb kT) ?_ | refine callWith_fn (Tp.f_lw kT) ?_ | refine callWith_fn (Tp.f_lu kT) ?_))
local macro_rules | `(tactic| walk_at "spliced") => `(tactic| refine args_nil ⟨Fr.keep (by assumption), ?_⟩)
section
local macro_rules | `(tactic| walk_at "storeName") => `(tactic| ((with_reducible rename Fr _ _ _ _ => kF); (with_reducible rename News _ _ _ _ => kN); with_unfolding_all refine st_FN kF kN ?_; intro h' F' N'))
section
open PySem PySem.W PyProof.Rows PySem.Calls PySem.Spec
set_option Elab.async false
set_option maxRecDepth 100000
set_option maxHeartbeats 1000000
set_option linter.unusedVariables false
set_option autoImplicit false
variable {G : GA} {mg mb : Str → Option Value} {w : World}
local macro_rules | `(tactic| walk_at "call builtin:list.append") => `(tactic| (refine append_K (by assumption) (by assumption) (Upd.head (by assumption)) ?_ (by assumption); intro h' F' N'))
structure SQ where
  st : Nat
  op : Option Nat
  ps : List Str
noncomputable def sqStep (x : Str) (a : SQ) (i c : Nat) : SQ := if c = 34 then (match a.op with
  | none => ⟨a.st, some i, a.ps⟩
  | some o => ⟨i + 1, none, if a.st = o then a.ps else a.ps ++ [Txt.slice x (some (a.st : Int)) (some (o : Int))]⟩) else a
noncomputable def sqRun (x : Str) : Nat → SQ
  | 0 => ⟨0, none, []⟩
  | i + 1 => sqStep x (sqRun x i) i (x.cps.getD i 0)
noncomputable def sqEnd (x : Str) (a : SQ) : List Str := if a.st < x.cps.size then a.ps ++ [Txt.slice x (some (a.st : Int)) none] else a.ps
noncomputable def stripF (x : Str) : Str := Txt.join (Str.ofString "") (sqEnd x (sqRun x x.cps.size))
noncomputable def mapQ (x : Str) (t : Tok) (cp cc : Option Value) (vr vo vs : Value) : Str → Option Value := fun y =>
  if y = "ch" then cc else if y = "pos" then cp else if y = "result" then some vr else if y = "open_pos" then some vo else if y = "start" then some vs else if y = "addr" then some (.str x t) else none
noncomputable def OpIs : Option Nat → Value → Prop
  | none, v => v = .none
  | some p, v => ∃ t, v = .int p t
theorem mapQ_a {x : Str} {t : Tok} {cp cc : Option Value} {vr vo vs vp vc : Value} : (fun y : Str => if y = Str.ofString "ch" then some vc else if y = Str.ofString "pos" then some vp else mapQ x t cp cc vr vo vs y) = mapQ x t (some vp) (some vc) vr vo vs := by
  funext y
  unfold mapQ
  by_cases e0 : y = "ch"
  · subst e0; rfl
  · by_cases e1 : y = "pos"
    · subst e1; rfl
    · by_cases e2 : y = "result"
      · subst e2; rfl
      · by_cases e3 : y = "open_pos"
        · subst e3; rfl
        · by_cases e4 : y = "start"
          · subst e4; rfl
          · by_cases e5 : y = "addr"
            · subst e5; rfl
            · simp only [if_neg e0, if_neg e1, if_neg e2, if_neg e3, if_neg e4, if_neg e5]
theorem mapQ_b {x : Str} {t : Tok} {cp cc : Option Value} {vr vo vs vp vc vo2 : Value} : (fun y : Str => if y = Str.ofString "open_pos" then some vo2 else if y = Str.ofString "ch" then some vc else if y = Str.ofString "pos" then some vp else mapQ x t cp cc vr vo vs y) = mapQ x t (some vp) (some vc) vr vo2 vs := by
  funext y
  unfold mapQ
  by_cases e0 : y = "ch"
  · subst e0; rfl
  · by_cases e1 : y = "pos"
    · subst e1; rfl
    · by_cases e2 : y = "result"
      · subst e2; rfl
      · by_cases e3 : y = "open_pos"
        · subst e3; rfl
        · by_cases e4 : y = "start"
          · subst e4; rfl
          · by_cases e5 : y = "addr"
            · subst e5; rfl
            · simp only [if_neg e0, if_neg e1, if_neg e2, if_neg e3, if_neg e4, if_neg e5]
theorem mapQ_c {x : Str} {t : Tok} {cp cc : Option Value} {vr vo vs vp vc vo2 vs2 : Value} : (fun y : Str => if y = Str.ofString "open_pos" then some vo2 else if y = Str.ofString "start" then some vs2 else if y = Str.ofString "ch" then some vc else if y = Str.ofString "pos" then some vp else mapQ x t cp cc vr vo vs y) = mapQ x t (some vp) (some vc) vr vo2 vs2 := by
  funext y
  unfold mapQ
  by_cases e0 : y = "ch"
  · subst e0; rfl
  · by_cases e1 : y = "pos"
    · subst e1; rfl
    · by_cases e2 : y = "result"
      · subst e2; rfl
      · by_cases e3 : y = "open_pos"
        · subst e3; rfl
        · by_cases e4 : y = "start"
          · subst e4; rfl
          · by_cases e5 : y = "addr"
            · subst e5; rfl
            · simp only [if_neg e0, if_neg e1, if_neg e2, if_neg e3, if_neg e4, if_neg e5]
theorem sq_ps (x : Str) : ∀ i, (sqRun x i).ps.length ≤ i
  | 0 => Nat.le_refl _
  | i + 1 => by
    have := sq_ps x i
    show (sqStep x (sqRun x i) i (x.cps.getD i 0)).ps.length ≤ i + 1
    unfold sqStep
    split
    · split
      · exact Nat.le_succ_of_le this
      · dsimp only
        split
        · exact Nat.le_succ_of_le this
        · rw [List.length_append]; exact Nat.succ_le_succ this
    · exact Nat.le_succ_of_le this
theorem sq_fit (x : Str) : ∀ i, ∀ y ∈ (sqRun x i).ps, y.length ≤ x.length
  | 0, _, h => nomatch h
  | i + 1, y, h => by
    have := sq_fit x i
    change y ∈ (sqStep x (sqRun x i) i (x.cps.getD i 0)).ps at h
    unfold sqStep at h
    split at h
    · split at h
      · exact this y h
      · dsimp only at h
        split at h
        · exact this y h
        · rcases List.mem_append.mp h with h | h
          · exact this y h
          · rw [List.mem_singleton.mp h]; exact Txt.slice_le _ _ _
    · exact this y h
theorem strs_push {l : List (Str × Tok)} {x : Str} {t : Tok} : (strValues l).toArray.push (.str x t) = (strValues (l ++ [(x, t)])).toArray := by simp [strValues]
theorem eq34 {c : Nat} (h : ((⟨#[c]⟩ : Str) == Str.ofString "\"") = true) : c = 34 := by
  have e1 : (⟨#[c]⟩ : Str) = Str.ofString "\"" := beq_iff_eq.mp h
  have e2 : #[c] = #[34] := congrArg Str.cps e1
  simpa using e2
theorem ne34 {c : Nat} (h : ((⟨#[c]⟩ : Str) == Str.ofString "\"") = false) : c ≠ 34 := by
  rintro rfl
  revert h
  decide
theorem mapQ_init {x : Str} {t : Tok} {vr vo vs : Value} : (fun y : Str => if y = Str.ofString "result" then some vr else if y = Str.ofString "open_pos" then some vo else if y = Str.ofString "start" then some vs else List.lookup y [(Str.ofString "addr", Value.str x t)].reverse) = mapQ x t none none vr vo vs := by
  funext y
  unfold mapQ
  by_cases e0 : y = "ch"
  · subst e0; rfl
  · by_cases e1 : y = "pos"
    · subst e1; rfl
    · by_cases e2 : y = "result"
      · subst e2; rfl
      · by_cases e3 : y = "open_pos"
        · subst e3; rfl
        · by_cases e4 : y = "start"
          · subst e4; rfl
          · by_cases e5 : y = "addr"
            · subst e5; rfl
            · have hb : (y == Str.ofString "addr") = false := by simpa using e5
              simp only [if_neg e0, if_neg e1, if_neg e2, if_neg e3, if_neg e4, if_neg e5, List.reverse_cons, List.reverse_nil, List.nil_append, List.lookup, hb]
structure SqP (x : Str) (t : Tok) (D : Addr) (i : Nat) (m : Str → Option Value) (ne : List (Addr × Obj)) : Prop where
  ex : ∃ cp cc vo t1 n l, m = mapQ x t cp cc (.ref D) vo (.int (((sqRun x i).st : Nat) : Int) t1) ∧ OpIs (sqRun x i).op vo ∧ ne = [(D, W.listOf (strValues l).toArray n)] ∧ l.map (·.1) = (sqRun x i).ps
theorem join0 {l : List Str} (h : ∀ y ∈ l, y.length ≤ 100) (hl : l.length ≤ 101) : JoinOk (Str.ofString "") l = true := by
  unfold JoinOk
  rw [StrLaws.joinFits (B := 100)]
  · rfl
  · exact h
  · have h2 : (Str.ofString "").length = 0 := by decide
    rw [h2]
    omega
theorem SqP.of {x : Str} {t : Tok} {D : Addr} {i st : Nat} {op : Option Nat} {ps : List Str} {m : Str → Option Value} {ne : List (Addr × Obj)} (h : sqRun x i = ⟨st, op, ps⟩)
    (ex : ∃ cp cc vo t1 n l, m = mapQ x t cp cc (.ref D) vo (.int ((st : Nat) : Int) t1) ∧ OpIs op vo ∧ ne = [(D, W.listOf (strValues l).toArray n)] ∧ l.map (·.1) = ps) : SqP x t D i m ne := ⟨by rw [h]; exact ex⟩
theorem c_sq {A : Around} {E : Value → Shared → Prop} {s : Shared} {x : Str} {t : Tok} {Q : Value → Shared → Prop}
    (T : Tp G mg mb w s.heap) (hroom : A.depth + 2 < recursionLimit) (hh : A.handled = none) (hbs : ∀ (i c : Nat), x.cps[i]? = some c → c ≠ 92) (hx : x.cps.size < 100) (hq : (Builtin.Str.occurrences x (Str.ofString "\"") 0 x.length 1).isEmpty = false)
    (hQ : ∀ h' tk tk', Ext s.heap h' → Q (.str (stripF x) tk') { s with heap := h', toks := tk, gens := s.gens.push .finished }) :
    wpAny (model pg w) A (call (.ref G.sq) [.str x t]) Q E s := by
  obtain ⟨o, pm, code, doc, ho, hd, hc⟩ := T.f_sq
  refine wpAny_call ?_
  refine call_plain_ret (binds := [("addr", .str x t)]) (by omega) ho hd T.nolimit hc ?_ ?_ (fun h₁ F => ?_)
  · rfl
  · intro x hx; simp at hx; rcases hx with rfl; rfl
  · conv in (occs := *) (fnS _) => all_goals (unfold fnS; whnf)
    simp only [bodyOf, scopeOf, nameOf]
    have N : News s.heap s.heap.objs.size h₁ [] := News.nil
    repeat' (first | ((try dsimp only); (fail_if_success (with_reducible show wpAny _ _ (exec (Stmt.For _ _ _ _ _) _) _ _ _)); walk1))
    · rename_i hq1
      rw [hq] at hq1
      cases hq1
    refine wpAny_For ?_
    repeat' (first | ((try dsimp only); (fail_if_success (with_reducible show wpAny _ _ (call (.ref _) _) _ _ _)); walk1))
    (with_reducible rename News _ _ _ _ => N2)
    (with_reducible rename Fr _ _ _ _ => F2)
    (with_reducible rename Tp _ _ _ _ _ => T)
    refine c_ie1 T ?_ ?_ ?_ ?_ ?_ hbs ?_
    · exact F2.keep
    · exact Nat.le_of_lt F2.ns.lt
    · show A.depth + 1 < recursionLimit
      omega
    · exact hh
    · exact T.nolimit.keeps F2.keep
    intro h3 tk3 hb ga Lg cg hx3 hLn hgn hgL hbe hbz hbg hl3 hsz3 S
    refine wpAny_pyIter_gen S.gen ?_
    repeat' (first | ((try dsimp only); walk1))
    (with_reducible rename News _ _ _ _ => N2)
    (with_reducible rename Fr _ _ _ _ => F2)
    rw [mapQ_init] at F2
    obtain ⟨D, hH, t1, F3, N3, ehH⟩ : ∃ D hH t1, Fr s.heap s.heap.objs.size hH (mapQ x t none none (.ref D) .none (.int 0 t1)) ∧ News s.heap s.heap.objs.size hH [(D, W.listOf #[] 0)] ∧ (∀ b o, hH.get? b = some o → h3.get? b = some o) ∧ hH.get? Lg = none ∧ hH.get? ga = none := ⟨_, _, _, F2, N2, hx3, hLn, hgn⟩
    clear F2 N2 hx3 hLn hgn
    obtain ⟨hx3, hLn, hgn⟩ := ehH
    have hnew : ∀ b o, hH.get? b = some o → hb.get? b ≠ none := fun b o e => by
      rw [hbe b (fun q => by rw [q] at e; rw [e] at hLn; cases hLn), hx3 _ _ e]; simp
    obtain ⟨oL, hoL⟩ : ∃ o, hH.get? s.heap.objs.size = some o := by
      obtain ⟨oL, es, ep, hL, r⟩ := F3.ns
      exact ⟨oL, hL⟩
    have hDga : D ≠ ga := fun q => by
      have := (N3 _ (.head _)).1
      rw [q] at this
      rw [this] at hgn
      cases hgn
    refine for_genC (hq := s.heap) (hb := hb) (h₀ := s.heap) (L := s.heap.objs.size) (x := x) (ga := ga) (own := [Lg]) (ne := [(D, W.listOf #[] 0)]) (SqP x t D) ?_ ?_ hbg hbz ?_ ?_ ?_ ?_ T.nolimit (fun _ _ e => e) ?_ ?_ ?_ ?_ (F3.keeps hx3) (N3.grown hx3) S
    · exact hh
    · show A.depth + 1 < recursionLimit
      omega
    · exact hnew _ _ hoL
    · intro b hb'
      obtain ⟨o, ho⟩ := Option.ne_none_iff_exists'.mp hb'
      exact hnew _ _ (F3.keep _ _ ho)
    · intro q
      rw [q, hoL] at hgn
      cases hgn
    · cases e : s.heap.get? ga with
      | none => rfl
      | some o =>
        rw [F3.keep _ _ e] at hgn
        cases hgn
    · rintro i m ne ⟨cp, cc, vo, t1, n, l, rfl, ho, rfl, hl⟩ p hp
      rw [List.mem_singleton.mp hp]
      exact ⟨hnew _ _ (N3 _ (.head _)).1, hDga⟩
    · rintro i m ne res c u tk tk' a h' gx ⟨cp, cc, vo, t1, n, l, rfl, ho, rfl, hl⟩ hi hc F N ha hap
      have hres : ∀ q ∈ res, q.1 ≠ D := fun q hq => Ne.symm (hap (D, W.listOf (strValues l).toArray n) (.head _) q hq)
      rw [List.cons_append, List.nil_append] at N
      have hsz : (strValues l).toArray.size ≤ sizeLine := by
        have h1 := sq_ps x i
        have h2 : l.length = (sqRun x i).ps.length := by rw [← hl, List.length_map]
        have h3 : (100 : Nat) ≤ sizeLine := by decide
        have h4 : (strValues l).toArray.size = l.length := by simp [strValues]
        omega
      have hxl : x.length < 100 := hx
      have hstep : sqRun x (i + 1) = sqStep x (sqRun x i) i c := by
        show sqStep x (sqRun x i) i (x.cps.getD i 0) = _
        rw [Array.getD_eq_getD_getElem?, hc]; rfl
      cases hop : (sqRun x i).op with
      | none =>
        rw [hop] at ho
        cases ho
        refine unpackN_ F N ⟨_, (N _ (.tail _ ha)).1, rfl, 0, rfl⟩ hh (by rfl) (by rfl) ?_
        intro h3 F3 N3
        clear F N
        repeat' (first | ((try dsimp only); walk1))
        · (with_reducible rename News _ _ _ _ => N9)
          (with_reducible rename Fr _ _ _ _ => F9)
          rw [mapQ_b] at F9
          have e34 : c = 34 := eq34 (by assumption)
          exact ⟨⟨_, _, _, _, rfl, F9, N9, SqP.of (st := (sqRun x i).st) (op := some i) (ps := (sqRun x i).ps) (by rw [hstep]; unfold sqStep; rw [if_pos e34, hop]) ⟨_, _, _, t1, n, l, rfl, ⟨_, rfl⟩, rfl, hl⟩⟩⟩
        · (with_reducible rename News _ _ _ _ => N9)
          (with_reducible rename Fr _ _ _ _ => F9)
          rw [mapQ_a] at F9
          have e34 : c ≠ 34 := ne34 (by assumption)
          exact ⟨⟨_, _, _, _, rfl, F9, N9, SqP.of (st := (sqRun x i).st) (op := none) (ps := (sqRun x i).ps) (by rw [hstep]; unfold sqStep; rw [if_neg e34, ← hop]) ⟨_, _, _, t1, n, l, rfl, rfl, rfl, hl⟩⟩⟩
      | some p =>
        rw [hop] at ho
        obtain ⟨tp, rfl⟩ := ho
        refine unpackN_ F N ⟨_, (N _ (.tail _ ha)).1, rfl, 0, rfl⟩ hh (by rfl) (by rfl) ?_
        intro h3 F3 N3
        clear F N
        repeat' (first | ((try dsimp only); walk1))
        · (with_reducible rename News _ _ _ _ => N9)
          (with_reducible rename Fr _ _ _ _ => F9)
          rw [mapQ_c] at F9
          rw [strs_push] at N9
          have e34 : c = 34 := eq34 (by assumption)
          have hne : ¬ (((sqRun x i).st : Int) = (p : Int)) := by assumption
          have hne' : (sqRun x i).st ≠ p := fun q => hne (by rw [q])
          exact ⟨⟨_, _, _, _, rfl, F9, N9, SqP.of (st := i + 1) (op := none) (ps := (sqRun x i).ps ++ [Txt.slice x (some ((sqRun x i).st : Int)) (some (p : Int))]) (by rw [hstep]; unfold sqStep; rw [if_pos e34, hop]; dsimp only; rw [if_neg hne']) ⟨_, _, _, _, n + 1, _, rfl, rfl, rfl, by rw [List.map_append, hl]; rfl⟩⟩⟩
        · (with_reducible rename News _ _ _ _ => N9)
          (with_reducible rename Fr _ _ _ _ => F9)
          rw [mapQ_c] at F9
          have e34 : c = 34 := eq34 (by assumption)
          have hne : (((sqRun x i).st : Int) = (p : Int)) := by assumption
          have hne' : (sqRun x i).st = p := Int.ofNat.inj hne
          exact ⟨⟨_, _, _, _, rfl, F9, N9, SqP.of (st := i + 1) (op := none) (ps := (sqRun x i).ps) (by rw [hstep]; unfold sqStep; rw [if_pos e34, hop]; dsimp only; rw [if_pos hne']) ⟨_, _, _, _, n, _, rfl, rfl, rfl, hl⟩⟩⟩
        · (with_reducible rename News _ _ _ _ => N9)
          (with_reducible rename Fr _ _ _ _ => F9)
          rw [mapQ_a] at F9
          have e34 : c ≠ 34 := ne34 (by assumption)
          exact ⟨⟨_, _, _, _, rfl, F9, N9, SqP.of (st := (sqRun x i).st) (op := some p) (ps := (sqRun x i).ps) (by rw [hstep]; unfold sqStep; rw [if_neg e34, ← hop]) ⟨_, _, _, t1, n, l, rfl, ⟨_, rfl⟩, rfl, hl⟩⟩⟩
    · rintro h tk m ne ⟨cp, cc, vo, t1, n, l, rfl, ho, rfl, hl⟩ F N
      have hxl : x.length < 100 := hx
      have hll : l.length ≤ 100 := by
        have h1 := sq_ps x x.cps.size
        have h2 : l.length = (sqRun x x.cps.size).ps.length := by rw [← hl, List.length_map]
        omega
      have hsz : (strValues l).toArray.size ≤ sizeLine := by
        have h3 : (100 : Nat) ≤ sizeLine := by decide
        have h4 : (strValues l).toArray.size = l.length := by simp [strValues]
        omega
      have hnil : ∀ q ∈ ([] : List (Addr × Obj)), q.1 ≠ D := fun _ h => nomatch h
      clear S F3 N3 hx3 hLn hgn hnew hoL hbe hbs
      repeat' (first | ((try dsimp only); (fail_if_success (with_reducible show wpAny _ _ (call (Value.builtin "str.join") _) _ _ _)); walk1))
      · (with_reducible rename News _ _ _ _ => N9)
        (with_reducible rename Fr _ _ _ _ => F9)
        rw [strs_push] at N9
        have hlt : (((sqRun x x.cps.size).st : Int) < (x.length : Int)) := by assumption
        have hlt' : (sqRun x x.cps.size).st < x.cps.size := Int.ofNat_lt.mp hlt
        have hE : sqEnd x (sqRun x x.cps.size) = (sqRun x x.cps.size).ps ++ [Txt.slice x (some ((sqRun x x.cps.size).st : Int)) none] := if_pos hlt'
        refine SC.join (News.isList N9 (.head _)) (texts := sqEnd x (sqRun x x.cps.size)) (by rw [hE, List.map_append, hl]; rfl) ?_ fun t9 k9 => hQ _ _ _ F9.keep
        rw [hE]
        refine join0 (fun y hy => ?_) (by simp [← hl]; omega)
        rcases List.mem_append.mp hy with hy | hy
        · exact Nat.le_trans (sq_fit x _ y hy) (Nat.le_of_lt hxl)
        · rw [List.mem_singleton.mp hy]; exact Nat.le_trans (Txt.slice_le _ _ _) (Nat.le_of_lt hxl)
      · (with_reducible rename News _ _ _ _ => N9)
        (with_reducible rename Fr _ _ _ _ => F9)
        have hlt : ¬ (((sqRun x x.cps.size).st : Int) < (x.length : Int)) := by assumption
        have hlt' : ¬ (sqRun x x.cps.size).st < x.cps.size := fun q => hlt (Int.ofNat_lt.mpr q)
        have hE : sqEnd x (sqRun x x.cps.size) = (sqRun x x.cps.size).ps := if_neg hlt'
        refine SC.join (News.isList N9 (.head _)) (texts := sqEnd x (sqRun x x.cps.size)) (by rw [hE]; exact hl) ?_ fun t9 k9 => hQ _ _ _ F9.keep
        rw [hE]
        refine join0 (fun y hy => ?_) (by rw [← hl, List.length_map]; omega)
        exact Nat.le_trans (sq_fit x _ y hy) (Nat.le_of_lt hxl)
    · exact SqP.of (st := 0) (op := none) (ps := []) rfl ⟨_, _, _, t1, 0, [], rfl, rfl, rfl, rfl⟩
end
section
open PySem PySem.W PyProof.Rows PySem.Calls PySem.Spec
set_option Elab.async false
set_option maxRecDepth 100000
set_option maxHeartbeats 1000000
set_option linter.unusedVariables false
set_option autoImplicit false
variable {G : GA} {mg mb : Str → Option Value} {w : World}
noncomputable def opN (y : Str) : Nat → Nat
  | 0 => 0
  | i + 1 => if y.cps.getD i 0 = 40 then opN y i + 1 else opN y i
theorem opN_le (y : Str) : ∀ i, opN y i ≤ i
  | 0 => Nat.le_refl _
  | i + 1 => by
    have := opN_le y i
    unfold opN
    split <;> omega
noncomputable def mapC (y : Str) (t : Tok) (cp cc : Option Value) (vo : Value) : Str → Option Value := fun z =>
  if z = "ch" then cc else if z = "pos" then cp else if z = "opens" then some vo else if z = "addr" then some (.str y t) else none
theorem mapC_a {x : Str} {t : Tok} {cp cc : Option Value} {vo vp vc : Value} : (fun y : Str => if y = Str.ofString "ch" then some vc else if y = Str.ofString "pos" then some vp else mapC x t cp cc vo y) = mapC x t (some vp) (some vc) vo := by
  funext y
  unfold mapC
  by_cases e0 : y = "ch"
  · subst e0; rfl
  · by_cases e1 : y = "pos"
    · subst e1; rfl
    · by_cases e2 : y = "opens"
      · subst e2; rfl
      · by_cases e3 : y = "addr"
        · subst e3; rfl
        · simp only [if_neg e0, if_neg e1, if_neg e2, if_neg e3]
theorem mapC_b {x : Str} {t : Tok} {cp cc : Option Value} {vo vo2 vp vc : Value} : (fun y : Str => if y = Str.ofString "opens" then some vo2 else if y = Str.ofString "ch" then some vc else if y = Str.ofString "pos" then some vp else mapC x t cp cc vo y) = mapC x t (some vp) (some vc) vo2 := by
  funext y
  unfold mapC
  by_cases e0 : y = "ch"
  · subst e0; rfl
  · by_cases e1 : y = "pos"
    · subst e1; rfl
    · by_cases e2 : y = "opens"
      · subst e2; rfl
      · by_cases e3 : y = "addr"
        · subst e3; rfl
        · simp only [if_neg e0, if_neg e1, if_neg e2, if_neg e3]
theorem mapC_init {x y : Str} {t u : Tok} {vo : Value} : (fun z : Str => if z = Str.ofString "opens" then some vo else if z = Str.ofString "addr" then some (Value.str y u) else List.lookup z [(Str.ofString "addr", Value.str x t)].reverse) = mapC y u none none vo := by
  funext z
  unfold mapC
  by_cases e0 : z = "ch"
  · subst e0; rfl
  · by_cases e1 : z = "pos"
    · subst e1; rfl
    · by_cases e2 : z = "opens"
      · subst e2; rfl
      · by_cases e3 : z = "addr"
        · subst e3; rfl
        · have hb : (z == Str.ofString "addr") = false := by simpa using e3
          simp only [if_neg e0, if_neg e1, if_neg e2, if_neg e3, List.reverse_cons, List.reverse_nil, List.nil_append, List.lookup, hb]
theorem eqC {c d : Nat} {y : Str} (hy : y.cps = #[d]) (h : ((⟨#[c]⟩ : Str) == y) = true) : c = d := by
  have e1 : (⟨#[c]⟩ : Str) = y := beq_iff_eq.mp h
  have e2 : #[c] = #[d] := (congrArg Str.cps e1).trans hy
  simpa using e2
theorem neC {c d : Nat} {y : Str} (hy : y.cps = #[d]) (h : ((⟨#[c]⟩ : Str) == y) = false) : c ≠ d := by
  rintro rfl
  have : (⟨#[c]⟩ : Str) = y := by cases y; cases hy; rfl
  rw [this] at h
  simp at h
structure CpP (y : Str) (t : Tok) (i : Nat) (m : Str → Option Value) (ne : List (Addr × Obj)) : Prop where
  ex : ∃ cp cc t1, m = mapC y t cp cc (.int ((opN y i : Nat) : Int) t1) ∧ ne = []
theorem c_cp {A : Around} {E : Value → Shared → Prop} {s : Shared} {x y : Str} {t : Tok} {Q : Value → Shared → Prop}
    (T : Tp G mg mb w s.heap) (hroom : A.depth + 3 < recursionLimit) (hh : A.handled = none) (hbs : ∀ (i c : Nat), x.cps[i]? = some c → c ≠ 92) (hx : x.cps.size < 100) (hq : (Builtin.Str.occurrences x (Str.ofString "\"") 0 x.length 1).isEmpty = false)
    (hy : stripF x = y) (hyz : y.cps.size < 1000) (hys : ∀ (i c : Nat), y.cps[i]? = some c → c ≠ 92 ∧ c ≠ 41)
    (hQ : ∀ h' tk, Ext s.heap h' → Q (.bool (opN y y.cps.size == 0)) { s with heap := h', toks := tk, gens := (s.gens.push .finished).push .finished }) :
    wpAny (model pg w) A (call (.ref G.cp) [.str x t]) Q E s := by
  obtain ⟨o, pm, code, doc, ho, hd, hc⟩ := T.f_cp
  refine wpAny_call ?_
  refine call_plain_ret (binds := [("addr", .str x t)]) (by omega) ho hd T.nolimit hc ?_ ?_ (fun h₁ F => ?_)
  · rfl
  · intro x hx; simp at hx; rcases hx with rfl; rfl
  · conv in (occs := *) (fnS _) => all_goals (unfold fnS; whnf)
    simp only [bodyOf, scopeOf, nameOf]
    have N : News s.heap s.heap.objs.size h₁ [] := News.nil
    repeat' (first | ((try dsimp only); (fail_if_success (with_reducible show wpAny _ _ (call (.ref _) _) _ _ _)); walk1))
    (with_reducible rename News _ _ _ _ => N2)
    (with_reducible rename Fr _ _ _ _ => F2)
    (with_reducible rename Tp _ _ _ _ _ => T)
    refine c_sq (mg := mg) (mb := mb) ?_ ?_ ?_ hbs hx hq ?_
    · exact T.keeps F2.keep
    · show A.depth + 1 + 2 < recursionLimit
      omega
    · exact hh
    intro h2 tk2 tk2' hk2
    rw [hy]
    have F3 := F2.keeps hk2
    have N3 := N2.grown hk2
    clear F2 N2 hk2
    repeat' (first | ((try dsimp only); (fail_if_success (with_reducible show wpAny _ _ (exec (Stmt.For _ _ _ _ _) _) _ _ _)); walk1))
    refine wpAny_For ?_
    repeat' (first | ((try dsimp only); (fail_if_success (with_reducible show wpAny _ _ (call (.ref _) _) _ _ _)); walk1))
    (with_reducible rename News _ _ _ _ => N2)
    (with_reducible rename Fr _ _ _ _ => F2)
    (with_reducible rename Tp _ _ _ _ _ => T)
    refine c_ie1 T ?_ ?_ ?_ ?_ ?_ (fun i c e => (hys i c e).1) ?_
    · exact F2.keep
    · exact Nat.le_of_lt F2.ns.lt
    · show A.depth + 1 < recursionLimit
      omega
    · exact hh
    · exact T.nolimit.keeps F2.keep
    intro h3 tk3 hb ga Lg cg hx3 hLn hgn hgL hbe hbz hbg hl3 hsz3 S
    refine wpAny_pyIter_gen S.gen ?_
    dsimp only at hx3 hLn hgn S F2 N2
    rw [mapC_init] at F2
    obtain ⟨hH, t1, F3, N3, ehH⟩ : ∃ hH t1, Fr s.heap s.heap.objs.size hH (mapC y tk2' none none (.int 0 t1)) ∧ News s.heap s.heap.objs.size hH [] ∧ (∀ b o, hH.get? b = some o → h3.get? b = some o) ∧ hH.get? Lg = none ∧ hH.get? ga = none := ⟨_, _, F2, N2, hx3, hLn, hgn⟩
    clear F2 N2 hx3 hLn hgn
    obtain ⟨hx3, hLn, hgn⟩ := ehH
    have hnew : ∀ b o, hH.get? b = some o → hb.get? b ≠ none := fun b o e => by
      rw [hbe b (fun q => by rw [q] at e; rw [e] at hLn; cases hLn), hx3 _ _ e]; simp
    obtain ⟨oL, hoL⟩ : ∃ o, hH.get? s.heap.objs.size = some o := by
      obtain ⟨oL, es, ep, hL, r⟩ := F3.ns
      exact ⟨oL, hL⟩
    refine for_genC (hq := s.heap) (hb := hb) (h₀ := s.heap) (L := s.heap.objs.size) (x := y) (ga := ga) (own := [Lg]) (ne := []) (g0 := s.gens.push .finished) (CpP y tk2') ?_ ?_ hbg hbz ?_ ?_ ?_ ?_ T.nolimit (fun _ _ e => e) ?_ ?_ ?_ ?_ (F3.keeps hx3) (N3.grown hx3) S
    · exact hh
    · show A.depth + 1 < recursionLimit
      omega
    · exact hnew _ _ hoL
    · intro b hb'
      obtain ⟨o, ho⟩ := Option.ne_none_iff_exists'.mp hb'
      exact hnew _ _ (F3.keep _ _ ho)
    · intro q
      rw [q, hoL] at hgn
      cases hgn
    · cases e : s.heap.get? ga with
      | none => rfl
      | some o =>
        rw [F3.keep _ _ e] at hgn
        cases hgn
    · rintro i m ne ⟨cp, cc, t1, rfl, rfl⟩ p hp
      cases hp
    · rintro i m ne res c u tk tk' a h' gx ⟨cp, cc, t1, rfl, rfl⟩ hi hc F N ha hap
      rw [List.nil_append] at N
      have hn := opN_le y i
      have hstep : opN y (i + 1) = if c = 40 then opN y i + 1 else opN y i := by
        show (if y.cps.getD i 0 = 40 then opN y i + 1 else opN y i) = _
        rw [Array.getD_eq_getD_getElem?, hc]; rfl
      refine unpackN_ F N ⟨_, (N _ ha).1, rfl, 0, rfl⟩ hh (by rfl) (by rfl) ?_
      intro h3 F3 N3
      clear F N hQ hbs hnew
      repeat' (first | ((try dsimp only); walk1))
      · (with_reducible rename News _ _ _ _ => N9)
        (with_reducible rename Fr _ _ _ _ => F9)
        rw [mapC_b] at F9
        have e40 : c = 40 := eqC (y := Str.ofString "(") (by rfl) (by assumption)
        exact ⟨⟨_, _, [], _, rfl, F9, N9, ⟨_, _, _, by rw [hstep, if_pos e40]; rfl, rfl⟩⟩⟩
      · exact absurd (eqC (y := Str.ofString ")") (d := 41) (by rfl) (by assumption)) (hys i c hc).2
      · exact absurd (eqC (y := Str.ofString ")") (d := 41) (by rfl) (by assumption)) (hys i c hc).2
      · (with_reducible rename News _ _ _ _ => N9)
        (with_reducible rename Fr _ _ _ _ => F9)
        rw [mapC_a] at F9
        have e40 : c ≠ 40 := neC (y := Str.ofString "(") (by rfl) (by assumption)
        exact ⟨⟨_, _, [], _, rfl, F9, N9, ⟨_, _, _, by rw [hstep, if_neg e40], rfl⟩⟩⟩
    · rintro h tk m ne ⟨cp, cc, t1, rfl, rfl⟩ F N
      clear S F3 N3 hx3 hLn hgn hnew hoL hbe hbs
      repeat' (first | ((try dsimp only); walk1))
      have e : (((opN y y.cps.size : Nat) : Int) == 0) = (opN y y.cps.size == 0) := by
        cases opN y y.cps.size with
        | zero => rfl
        | succ k => rfl
      rw [e]
      exact hQ _ _ F.keep
    · exact ⟨_, _, _, rfl, rfl⟩
end
end
section
open PySem PySem.W PyProof.Rows PySem.Calls PySem.Spec
set_option Elab.async false
set_option maxRecDepth 100000
set_option maxHeartbeats 1000000
set_option linter.unusedVariables false
set_option autoImplicit false
variable {G : GA} {mg mb : Str → Option Value} {w : World}
/-- the law's frame -/
noncomputable def lawSc : Scope := scopeOf (fnS 16)
noncomputable abbrev envL (L a : Addr) (cd : Value) : Env := envOfC "law" lawSc L a cd
noncomputable abbrev csL (L : Addr) : List (Str × Addr) := cellsFrom (L + 1) lawSc.names []
noncomputable def cellNs : List Str := ["total", "chosen", "places", "small", "great", "base", "tables", "signs", "mask", "picked", "word", "folded", "typed", "within"]
theorem cell_kind (L a : Addr) (cd : Value) : ∀ x ∈ cellNs, (envL L a cd).kindOf x = some .cell := by
  intro x hx
  have h : cellNs.all (fun x => lawSc.names.lookup x == some .cell) = true := by decide +kernel
  have := List.all_eq_true.mp h x hx
  exact eq_of_beq this
noncomputable def cellIx : List Str → Nat → List (Str × NameKind) → List (Str × Nat)
  | _, _, _ => []
theorem cellsFrom_has : ∀ (ns : List (Str × NameKind)) (n : Nat) (acc : List (Str × Addr)) (x : Str), (ns.any fun p => p.1 == x && p.2 == .cell) = true ∨ (acc.lookup x).isSome = true → ((cellsFrom n ns acc).lookup x).isSome = true
  | [], n, acc, x, h => by
    rcases h with h | h
    · cases h
    · exact h
  | (nm, k) :: r, n, acc, x, h => by
    unfold cellsFrom
    split
    · rename_i hk
      refine cellsFrom_has r _ _ x ?_
      by_cases e : nm = x
      · subst e; right; simp
      · rcases h with h | h
        · left
          rw [List.any_cons, Bool.or_eq_true] at h
          rcases h with h | h
          · rw [Bool.and_eq_true] at h
            exact absurd (eq_of_beq h.1) e
          · exact h
        · right
          rw [List.lookup_cons, beq_eq_false_iff_ne.mpr (Ne.symm e)]
          exact h
    · rename_i hk
      refine cellsFrom_has r _ _ x ?_
      rcases h with h | h
      · rw [List.any_cons, Bool.or_eq_true] at h
        rcases h with h | h
        · rw [Bool.and_eq_true] at h
          exact absurd h.2 hk
        · exact .inl h
      · exact .inr h
theorem cell_has (L : Addr) : ∀ x ∈ cellNs, ∃ c, (csL L).lookup x = some c := by
  intro x hx
  have h : cellNs.all (fun x => lawSc.names.any fun p => p.1 == x && p.2 == .cell) = true := by decide +kernel
  exact Option.isSome_iff_exists.mp (cellsFrom_has _ _ _ x (.inl (List.all_eq_true.mp h x hx)))
noncomputable def upd (cm : Str → Option Value) (x : Str) (v : Value) : Str → Option Value := fun y => if y = x then some v else cm y
theorem upd_eq {cm : Str → Option Value} {x : Str} {v : Value} : upd cm x v x = some v := if_pos rfl
theorem upd_ne {cm : Str → Option Value} {x n : Str} {v : Value} {r : Option Value} (h : n ≠ x) (e : cm n = r) : upd cm x v n = r := (if_neg h).trans e
/-- the cells, in the ledger -/
structure Cz (cs : List (Str × Addr)) (cm : Str → Option Value) (Z : List (Addr × Obj)) : Prop where
  get : ∀ n c, cs.lookup n = some c → ∃ o, (c, o) ∈ Z ∧ o.data = .cell (cm n)
  ap : cs.Pairwise fun x y => x.2 ≠ y.2
theorem Cz.sub {cs : List (Str × Addr)} {cm : Str → Option Value} {Z Z' : List (Addr × Obj)} (C : Cz cs cm Z) (h : ∀ p ∈ Z, p ∈ Z') : Cz cs cm Z' := ⟨fun n c e => let ⟨o, a, b⟩ := C.get n c e; ⟨o, h _ a, b⟩, C.ap⟩
noncomputable def Lasts (Z Z' : List (Addr × Obj)) : Prop := ∀ p ∈ Z, (∀ v, p.2.data ≠ .cell v) → p ∈ Z'
theorem Lasts.refl (Z : List (Addr × Obj)) : Lasts Z Z := fun _ h _ => h
theorem Lasts.trans {a b c : List (Addr × Obj)} (h : Lasts a b) (k : Lasts b c) : Lasts a c := fun p hp hv => k p (h p hp hv) hv
theorem Lasts.sub {Z Z' : List (Addr × Obj)} (h : ∀ p ∈ Z, p ∈ Z') : Lasts Z Z' := fun p hp _ => h p hp
noncomputable def LI (Z : List (Addr × Obj)) (a : Addr) (ds : List PyData) : Prop := ∃ vs n, (a, W.listOf vs.toArray n) ∈ Z ∧ CarriedAll vs ds
theorem LI.lasts {Z Z' : List (Addr × Obj)} {a : Addr} {ds : List PyData} (x : LI Z a ds) (h : Lasts Z Z') : LI Z' a ds :=
  let ⟨vs, n, h1, h2⟩ := x; ⟨vs, n, h _ h1 (fun v => by intro q; cases q), h2⟩
section
variable {M : Model} {A : Around} {E : Value → Shared → Prop} {s : Shared} {h₀ : Heap} {L a : Addr} {cd : Value} {m cm : Str → Option Value} {Z news : List (Addr × Obj)}
theorem nm_cell {x : Str} {pos : Pos} {v : Value} {Q : Value → Shared → Prop} (N : News h₀ L s.heap news) (C : Cz (csL L) cm Z) (hs : ∀ p ∈ Z, p ∈ news) (hv : cm x = some v) (h : Q v s) (hx : x ∈ cellNs) (hd : (x == ("__debug__" : Str)) = false) :
    wpAny M A (eval (.Name x pos) (envL L a cd)) Q E s := by
  obtain ⟨c, hc⟩ := cell_has L x hx
  obtain ⟨o, ho, hd'⟩ := C.get x c hc
  exact wpAny_Name (wpAny_loadName_cell (by rfl) (cell_kind L a cd x hx) hc ⟨o, (N _ (hs _ ho)).1, hd'.trans (by rw [hv])⟩ h) hd
theorem nm_loc {x : Str} {pos : Pos} {v : Value} {Q : Value → Shared → Prop} (F : Fr h₀ L s.heap m) (hv : m x = some v) (h : Q v s) (hx : (envL L a cd).kindOf x = some .local) (hd : (x == ("__debug__" : Str)) = false) :
    wpAny M A (eval (.Name x pos) (envL L a cd)) Q E s := wpAny_Name (wpAny_loadName_local (by rfl) hx F.ns hv h) hd
theorem st_loc {x : Str} {v : Value} {Q : Unit → Shared → Prop} (F : Fr h₀ L s.heap m) (N : News h₀ L s.heap news) (hx : (envL L a cd).kindOf x = some .local)
    (h : ∀ h', Fr h₀ L h' (upd m x v) → News h₀ L h' news → Q () { s with heap := h', toks := s.toks + 1 }) :
    wpAny M A (storeName (envL L a cd) x v) Q E s :=
  wpAny_storeName_local hx F.ns (fun h' hn hs => h h' (F.set hn hs) (N.set hs)) (by rfl)
theorem st_cell {x : Str} {v : Value} {Q : Unit → Shared → Prop} (F : Fr h₀ L s.heap m) (N : News h₀ L s.heap news) (C : Cz (csL L) cm Z) (hs : ∀ p ∈ Z, p ∈ news) (hx : x ∈ cellNs)
    (h : ∀ h' Z', Fr h₀ L h' m → News h₀ L h' Z' → Cz (csL L) (upd cm x v) Z' → Lasts news Z' → Q () { s with heap := h' }) :
    wpAny M A (storeName (envL L a cd) x v) Q E s := by
  obtain ⟨c, hc⟩ := cell_has L x hx
  obtain ⟨o, ho, hd'⟩ := C.get x c hc
  have hN := N _ (hs _ ho)
  refine wpAny_storeName_cell (by rfl) (cell_kind L a cd x hx) hc ⟨o, hN.1, hd'⟩ fun h' hv hsb => ?_
  obtain ⟨o', ho', hdo⟩ := hv
  have hfn : ∀ p ∈ news, p.1 = c → p.2 = o := fun p hp e => by
    have := (N p hp).1
    rw [e] at this
    exact Option.some.inj (this.symm.trans hN.1)
  refine h h' (news.map fun p => if p.1 = c then (c, o') else p) (F.change hsb hN.2.1 hN.2.2) ?_ ⟨fun n c' hn => ?_, C.ap⟩ ?_
  · intro p hp
    obtain ⟨q, hq, rfl⟩ := List.mem_map.mp hp
    by_cases e : q.1 = c
    · rw [if_pos e]; exact ⟨ho', hN.2⟩
    · rw [if_neg e]; exact ⟨(hsb.2 _ e).trans (N q hq).1, (N q hq).2⟩
  · by_cases e : n = x
    · subst e
      rw [hc] at hn
      cases hn
      exact ⟨o', List.mem_map.mpr ⟨(c, o), hs _ ho, if_pos rfl⟩, by rw [hdo, upd_eq]⟩
    · obtain ⟨o2, ho2, hd2⟩ := C.get n c' hn
      have hcc : c' ≠ c := fun q => e (name_of_addr C.ap (mem_of_lookup hn) (q ▸ mem_of_lookup hc))
      exact ⟨o2, List.mem_map.mpr ⟨(c', o2), hs _ ho2, if_neg hcc⟩, by rw [hd2, upd_ne e rfl]⟩
  · intro p hp hv
    refine List.mem_map.mpr ⟨p, hp, if_neg fun e => ?_⟩
    exact hv _ ((hfn p hp e) ▸ hd')
end
noncomputable def cAt (L : Addr) (x : Str) : Addr := ((csL L).lookup x).getD 0
theorem cAt_has (L : Addr) {x : Str} (h : x ∈ cellNs) : (csL L).lookup x = some (cAt L x) := by
  obtain ⟨c, hc⟩ := cell_has L x h
  unfold cAt
  rw [hc]; rfl
noncomputable def CellsIn (L : Addr) (cm : Str → Option Value) (h : Heap) : Prop := ∀ x ∈ cellNs, h.IsCell (cAt L x) (cm x)
theorem cellsIn {h₀ h h' : Heap} {L : Addr} {cm : Str → Option Value} {Z news : List (Addr × Obj)} (N : News h₀ L h news) (C : Cz (csL L) cm Z) (hs : ∀ p ∈ Z, p ∈ news) (k : Ext h h') : CellsIn L cm h' := by
  intro x hx
  obtain ⟨o, ho, hd⟩ := C.get x _ (cAt_has L hx)
  exact ⟨o, k _ _ (N _ (hs _ ho)).1, hd⟩
theorem nm_cc {M : Model} {A : Around} {E : Value → Shared → Prop} {s : Shared} {L C : Addr} {cm : Str → Option Value} {scope : Scope} {cl : List (Str × Addr)} {env : Env} {x : Str} {pos : Pos} {v : Value} {Q : Value → Shared → Prop}
    (kc : CellsIn L cm s.heap) (hv : cm x = some v) (h : Q v s) (hx : x ∈ cellNs) (hk : scope.kind = .function) (hl : (compEnvC scope cl C env).kindOf x = some .cell) (hc : cl.lookup x = some (cAt L x)) (hd : (x == ("__debug__" : Str)) = false) :
    wpAny M A (eval (.Name x pos) (compEnvC scope cl C env)) Q E s :=
  wpAny_Name (wpAny_loadName_cell hk hl hc (hv ▸ kc x hx) h) hd
theorem nm_cx {M : Model} {A : Around} {E : Value → Shared → Prop} {s : Shared} {C : Addr} {m : Str → Option Value} {scope : Scope} {cl : List (Str × Addr)} {env : Env} {x : Str} {pos : Pos} {v : Value} {Q : Value → Shared → Prop}
    (hn : s.heap.Ns (compEnvC scope cl C env).locals m) (hv : m x = some v) (h : Q v s) (hk : scope.kind = .function) (hl : (compEnvC scope cl C env).kindOf x = some .local) (hd : (x == ("__debug__" : Str)) = false) :
    wpAny M A (eval (.Name x pos) (compEnvC scope cl C env)) Q E s :=
  wpAny_Name (wpAny_loadName_local hk hl hn hv h) hd
theorem cells_cz {cm : Str → Option Value} {cs : List (Str × Addr)} {cells : List (Addr × Obj)} (x : CellsAre cm cs cells) : ∀ n c, cs.lookup n = some c → ∃ o, (c, o) ∈ cells ∧ o.data = .cell (cm n) := by
  induction x with
  | nil => intro n c e; cases e
  | @cons n' c' o cs cells hd r ih =>
    intro n c e
    rw [List.lookup_cons] at e
    cases hb : n == n' with
    | true => rw [hb] at e; cases e; rw [eq_of_beq hb]; exact ⟨o, .head _, hd⟩
    | false =>
      rw [hb] at e
      obtain ⟨o2, h1, h2⟩ := ih n c e
      exact ⟨o2, .tail _ h1, h2⟩
/-- the i-th statement of the law -/
noncomputable def lawS (i : Nat) : Stmt := (bodyOf (fnS 16)).getD i (.Pass ⟨0, 0, 0, 0⟩)
/-- the call of the law -/
theorem law_call {A : Around} {Q : Value → Shared → Prop} {s : Shared} {a l : Addr} (T : Tp G mg mb w s.heap) (f : FnAt s.heap a (fnS 16)) (hroom : A.depth < recursionLimit) 
    (h : ∀ cd h₁ tk Z, Fr s.heap s.heap.objs.size h₁ (upd (fun _ => none) "script" (.ref l)) → News s.heap s.heap.objs.size h₁ Z → Cz (csL s.heap.objs.size) (fun _ => none) Z →
      wpAny (model pg w) (A.deeper (envL s.heap.objs.size a cd)) (execs (bodyOf (fnS 16)) (envL s.heap.objs.size a cd)) (fun f s' => Q (match f with | .ret v => v | _ => .none) s') (fun _ _ => False) { s with heap := h₁, toks := tk }) :
    wpAny (model pg w) A (call (.ref a) [.ref l]) Q (fun _ _ => False) s := by
  obtain ⟨o, pm, code, doc, ho, hd, hc⟩ := f
  refine wpAny_call ?_
  refine call_cells_ret (binds := [("script", .ref l)]) hroom ho hd T.nolimit hc (by rfl) ?_ (fun h₁ tk F X => ?_) (by kernel_rfl) (by kernel_rfl) (by kernel_rfl)
  · intro x hx
    rw [List.mem_singleton.mp hx]
    left
    kernel_rfl
  · have hnm : ((cellsFrom 0 lawSc.names []).map (·.1)).Nodup := by
      have : ((cellsFrom 0 lawSc.names []).map (·.1)) = cellNs.reverse := by decide +kernel
      rw [this]; decide +kernel
    obtain ⟨cells, N, Y⟩ := Cl.news (h₀ := s.heap) (L := s.heap.objs.size) (Nat.le_refl _) fun n c hm => ⟨X.cell n c (lookup_of_mem_nodup (cellsFrom_names lawSc.names 0 (s.heap.objs.size + 1) [] [] rfl ▸ hnm) hm), X.above n c hm⟩
    refine h code h₁ tk cells ?_ N ?_
    · have e : bindL (envOfC (nameOf (fnS 16)) (scopeOf (fnS 16)) s.heap.objs.size a code).kindOf [("script", .ref l)] (fun _ => none) = upd (fun _ => none) "script" (.ref l) := by
        have hk : (envOfC (nameOf (fnS 16)) (scopeOf (fnS 16)) s.heap.objs.size a code).kindOf (Str.ofString "script") = some .local := by kernel_rfl
        unfold bindL
        rw [if_pos hk]
        rfl
      rw [← e]; exact F
    · have e : bindC (envOfC (nameOf (fnS 16)) (scopeOf (fnS 16)) s.heap.objs.size a code).kindOf [("script", .ref l)] (fun _ => none) = fun _ => none := by
        have hk : (envOfC (nameOf (fnS 16)) (scopeOf (fnS 16)) s.heap.objs.size a code).kindOf (Str.ofString "script") = some .local := by kernel_rfl
        unfold bindC
        rw [if_pos hk]
        rfl
      have := cells_cz Y
      rw [e] at this
      exact ⟨this, X.apart⟩
end
section
open PySem PySem.W PyProof.Rows PySem.Calls PySem.Spec
set_option Elab.async false
set_option maxRecDepth 100000
set_option maxHeartbeats 1000000
set_option linter.unusedVariables false
set_option autoImplicit false
variable {w : World} {A : Around} {E : Value → Shared → Prop} {s : Shared} {h₀ : Heap} {L : Addr} {m : Str → Option Value} {env : Env} {Z : List (Addr × Obj)}
theorem test_one {M : Model} {c : PySem.Expr} {cenv : Env} {Q : Bool → Shared → Prop} {E : Value → Shared → Prop} {s : Shared}
    (h : wpAny M A (isTrue c cenv (eval c cenv)) Q E s) :
    wpAny M A (forIn [c] true fun c r => if r = true then do let ok ← isTrue c cenv (eval c cenv); pure (ForInStep.yield ok) else pure (ForInStep.yield r)) Q E s := by
  rw [List.forIn_cons]
  rw [if_pos rfl]
  refine wpAny_bind (wpAny_bind (wpAny_mono h (fun b s' hb => wpAny_pure ?_) fun _ _ x => x))
  dsimp only
  rw [List.forIn_nil]
  exact wpAny_pure hb
/-- a list comprehension over a range -/
theorem lcR {elt iter : PySem.Expr} {x : Str} {px : Pos} {ifs : List PySem.Expr} {scope : Scope} {cl : List (Str × Addr)} {pos : Pos} {Q : Value → Shared → Prop} {a b : Int} {n : Nat} (pz : Int → Bool) (d : Int → PyData)
    (hh : A.handled = none) (F : Fr h₀ L s.heap m) (N : News h₀ L s.heap Z)
    (hiter : ∀ Q' : Value → Shared → Prop, (∀ I tk h', Ext s.heap h' → Fr h₀ L h' m → News h₀ L h' Z → (∃ t u v, IsRange h' I a b 1 t u v) → Q' (.ref I) { s with heap := h', toks := tk }) → wpAny (model pg w) A (eval iter env) Q' E s)
    (ha : -1000 ≤ a) (ha' : a ≤ 1000) (hb : -1000 ≤ b) (hb' : b ≤ 1000) (hn : (b - a).toNat = n)
    (ht : ∀ C i t s₂ m₂ E', i ∈ rangeInts a 1 n → s₂.heap.Ns (compEnvC scope cl C env).locals m₂ → m₂ x = some (.int i t) → Ext s.heap s₂.heap →
      wpAny (model pg w) A (forIn ifs true fun c r => if r = true then do let ok ← isTrue c (compEnvC scope cl C env) (eval c (compEnvC scope cl C env)); pure (ForInStep.yield ok) else pure (ForInStep.yield r)) (fun ok s₃ => ok = pz i ∧ Keeps s₂ s₃) E' s₂)
    (he : ∀ C i t s₂ m₂ E', i ∈ rangeInts a 1 n → pz i = true → s₂.heap.Ns (compEnvC scope cl C env).locals m₂ → m₂ x = some (.int i t) → Ext s.heap s₂.heap →
      wpAny (model pg w) A (eval elt (compEnvC scope cl C env)) (fun y s₃ => Carried y (d i) ∧ Keeps s₂ s₃) E' s₂)
    (hQ : ∀ D ys n' h' tk, Fr h₀ L h' m → News h₀ L h' ((D, W.listOf ys.toArray n') :: Z) → (∀ p ∈ Z, p.1 ≠ D) → CarriedAll ys (((rangeInts a 1 n).filter pz).map d) → Q (.ref D) { s with heap := h', toks := tk })
    (hclos : closureFor scope env = pure cl) (hcell : ∀ y ∈ scope.names, y.2 ≠ .cell) (hkind : scope.kind = .function)
    (hnames : ∀ y ∈ scope.names, y.2 = .local → scope.names.lookup y.1 = some .local) (hx : scope.names.lookup x = some .local) (hs : ∀ x, foldedSetIterable iter env x = pure x) :
    wpAny (model pg w) A (eval (.ListComp elt [⟨.Name x px, iter, ifs, 0⟩] scope pos) env) Q E s := by
  refine ListComp_DCr (h₀ := h₀) (L := L) (m := m) (cl := cl) (pz := pz) (d := d) hh hclos hcell hkind hnames hx (hiter _ fun I tk h' hxt F' N' hr => ?_) hs
  obtain ⟨t, u, v, hr⟩ := hr
  have hsz : n ≤ sizeLine := Nat.le_trans (show n ≤ 2000 by omega) (by decide)
  refine ⟨Z, I, a, b, 1, t, u, v, n, rfl, hr, small_one (by omega) (by omega) (by omega) (by omega), by rw [rangeSize_nat, hn], hsz, F', N', ?_, ?_, ?_⟩
  · rintro C i v s₂ m₂ E' hC hi ⟨tv, rfl⟩ hNs hx2 hk
    exact ht C i tv s₂ m₂ E' hi hNs hx2 fun b o e => hk b o (hxt b o e)
  · rintro C i v s₂ m₂ E' hC hi ⟨tv, rfl⟩ hp hNs hx2 hk
    exact he C i tv s₂ m₂ E' hi hp hNs hx2 fun b o e => hk b o (hxt b o e)
  · intro D ys h2 tk2 F2 N2 hD hl hnp hc
    obtain ⟨n', e⟩ := hnp.1
    have hDL := hnp.ne_locals F2
    refine hQ D ys n' h2 tk2 F2 (fun p hp => ?_) hnp.2 hc
    rcases List.mem_cons.mp hp with rfl | hp
    · exact ⟨e, hDL, hD⟩
    · exact N2 p hp
/-- a list comprehension over a list, without tests -/
theorem lcL {α : Type} (K : ItemKind α) {elt iter : PySem.Expr} {x : Str} {px : Pos} {scope : Scope} {cl : List (Str × Addr)} {pos : Pos} {Q : Value → Shared → Prop} {as : List α} (d : α → PyData)
    (hh : A.handled = none) 
    (hiter : ∀ Q' : Value → Shared → Prop, (∀ I tk h' vs Z', (∀ p ∈ Z, p ∈ Z') → Ext s.heap h' → Fr h₀ L h' m → News h₀ L h' Z' → h'.IsList I vs.toArray → AreOf K vs as → Q' (.ref I) { s with heap := h', toks := tk }) → wpAny (model pg w) A (eval iter env) Q' E s)
    (hlen : as.length ≤ 10000)
    (he : ∀ C i v s₂ m₂ E', i ∈ as → K.is i v → s₂.heap.Ns (compEnvC scope cl C env).locals m₂ → m₂ x = some v → Ext s.heap s₂.heap →
      wpAny (model pg w) A (eval elt (compEnvC scope cl C env)) (fun y s₃ => Carried y (d i) ∧ Keeps s₂ s₃) E' s₂)
    (hQ : ∀ D ys n' h' tk Z', (∀ p ∈ Z, p ∈ Z') → Fr h₀ L h' m → News h₀ L h' ((D, W.listOf ys.toArray n') :: Z') → (∀ p ∈ Z', p.1 ≠ D) → CarriedAll ys (as.map d) → Q (.ref D) { s with heap := h', toks := tk })
    (hclos : closureFor scope env = pure cl) (hcell : ∀ y ∈ scope.names, y.2 ≠ .cell) (hkind : scope.kind = .function)
    (hnames : ∀ y ∈ scope.names, y.2 = .local → scope.names.lookup y.1 = some .local) (hx : scope.names.lookup x = some .local) (hs : ∀ x, foldedSetIterable iter env x = pure x) :
    wpAny (model pg w) A (eval (.ListComp elt [⟨.Name x px, iter, [], 0⟩] scope pos) env) Q E s := by
  refine ListComp_DCn (K := K) (h₀ := h₀) (L := L) (m := m) (cl := cl) (pz := fun _ => true) (d := d) hh hclos hcell hkind hnames hx (hiter _ fun I tk h' vs Z' hZ hxt F' N' hl hi => ?_) hs
  refine ⟨Z', I, vs, as, rfl, hl, hi, Nat.le_trans hlen (by decide), F', N', ?_, ?_, ?_⟩
  · intro C i v s₂ m₂ E' hC hia hv hNs hx2 hk
    rw [List.forIn_nil]
    exact wpAny_pure ⟨rfl, ⟨_, _, rfl, fun _ _ e => e⟩⟩
  · intro C i v s₂ m₂ E' hC hia hv hp hNs hx2 hk
    exact he C i v s₂ m₂ E' hia hv hNs hx2 fun b o e => hk b o (hxt b o e)
  · intro D ys h2 tk2 F2 N2 hD hl hnp hc
    obtain ⟨n', e⟩ := hnp.1
    have hDL := hnp.ne_locals F2
    refine hQ D ys n' h2 tk2 Z' hZ F2 (fun p hp => ?_) hnp.2 (by rw [List.filter_eq_self.mpr (fun _ _ => rfl)] at hc; exact hc)
    rcases List.mem_cons.mp hp with rfl | hp
    · exact ⟨e, hDL, hD⟩
    · exact N2 p hp
theorem test_nil {M : Model} {cenv : Env} {s : Shared} {E : Value → Shared → Prop} : wpAny M A (forIn ([] : List PySem.Expr) true fun c r => if r = true then do let ok ← isTrue c cenv (eval c cenv); pure (ForInStep.yield ok) else pure (ForInStep.yield r)) (fun ok s₃ => ok = true ∧ Keeps s s₃) E s := by
  rw [List.forIn_nil]
  exact wpAny_pure ⟨rfl, ⟨_, _, rfl, fun _ _ e => e⟩⟩
/-- the call of range -/
theorem rng2 {a b : Int} {t u : Tok} {Q' : Value → Shared → Prop} {s₀ s : Shared} (F : Fr h₀ L s.heap m) (N : News h₀ L s.heap Z) (hs : ∃ tk, s = { s₀ with toks := tk })
    (k : ∀ I tk h', Ext s₀.heap h' → Fr h₀ L h' m → News h₀ L h' Z → (∃ t u v, IsRange h' I a b 1 t u v) → Q' (.ref I) { s₀ with heap := h', toks := tk }) : wpAny (model pg w) A (call (.type "range") [.int a t, .int b u]) Q' E s := by
  obtain ⟨tk, rfl⟩ := hs
  refine call_range_2 ?_
  exact k _ _ _ (fun b o e => Heap.get?_push_of_some _ e) (F.keeps fun b o e => Heap.get?_push_of_some _ e) (N.grown fun b o e => Heap.get?_push_of_some _ e) ⟨_, _, _, IsRange.new ..⟩
theorem rng1 {b : Int} {u : Tok} {Q' : Value → Shared → Prop} {s₀ s : Shared} (F : Fr h₀ L s.heap m) (N : News h₀ L s.heap Z) (hs : ∃ tk, s = { s₀ with toks := tk })
    (k : ∀ I tk h', Ext s₀.heap h' → Fr h₀ L h' m → News h₀ L h' Z → (∃ t u v, IsRange h' I 0 b 1 t u v) → Q' (.ref I) { s₀ with heap := h', toks := tk }) : wpAny (model pg w) A (call (.type "range") [.int b u]) Q' E s := by
  obtain ⟨tk, rfl⟩ := hs
  refine call_range_1 ?_
  exact k _ _ _ (fun b o e => Heap.get?_push_of_some _ e) (F.keeps fun b o e => Heap.get?_push_of_some _ e) (N.grown fun b o e => Heap.get?_push_of_some _ e) ⟨_, _, _, IsRange.new ..⟩
end
local macro_rules | `(tactic| walk_at "eval Name") => `(tactic| ((with_reducible rename Fr _ _ _ _ => kF); (with_reducible rename News _ _ _ _ => kN); (with_reducible rename Cz _ _ _ => kC); (with_reducible rename Tp _ _ _ _ _ => kT); first
  | refine nm_cell kN kC (by first | exact fun _ h => h | exact fun _ h => .tail _ h | exact fun _ h => .tail _ (.tail _ h) | exact fun _ h => .tail _ (.tail _ (.tail _ h)) | exact fun _ h => .tail _ (.tail _ (.tail _ (.tail _ h))) | assumption) (by assumption) ?_ (by decide) (by decide)
  | refine nm_loc kF (by assumption) ?_ (by kernel_rfl) (by decide)
  | with_unfolding_all refine nm_glob (Tp.keeps kT (Fr.keep kF)) (by with_reducible first | exact Tp.m_pf kT | exact Tp.m_ie kT | exact Tp.m_sq kT | exact Tp.m_cp kT | exact Tp.m_mb kT | exact Tp.m_lw kT | exact Tp.m_lu kT | exact Tp.m_ws kT | exact Tp.m_dC kT | exact Tp.m_dB kT) ?_
  | with_unfolding_all refine nm_boot (Tp.keeps kT (Fr.keep kF)) (by decide) (by boot_fast) ?_))
local macro_rules | `(tactic| walk_at "eval Name") => `(tactic| ((with_reducible show wpAny _ _ (eval _ (compEnvC _ _ _ _)) _ _ _); (with_reducible rename CellsIn _ _ _ => kC); (with_reducible rename Heap.Ns _ _ _ => kS); (with_reducible rename Tp _ _ _ _ _ => kT); first
  | refine nm_cx kS (by assumption) ?_ (by rfl) (by kernel_rfl) (by decide)
  | refine nm_cc kC (by assumption) ?_ (by decide) (by rfl) (by kernel_rfl) (by kernel_rfl) (by decide)
  | refine nm_glob kT (by with_reducible first | exact Tp.m_pf kT | exact Tp.m_ie kT | exact Tp.m_sq kT | exact Tp.m_cp kT | exact Tp.m_mb kT | exact Tp.m_lw kT | exact Tp.m_lu kT | exact Tp.m_ws kT | exact Tp.m_dC kT | exact Tp.m_dB kT) ?_
  | refine nm_boot kT (by decide) (by boot_fast) ?_))
section
open PySem PySem.W PyProof.Rows PySem.Calls PySem.Spec
set_option Elab.async false
set_option maxRecDepth 100000
set_option maxHeartbeats 1000000
set_option linter.unusedVariables false
set_option autoImplicit false
variable {G : GA} {mg mb : Str → Option Value} {w : World}
theorem areInts {vs : List Value} {ns : List Int} (h : CarriedAll vs (ns.map .int)) : AreOf .int vs ns := (IntsAre.ofCarried h).areOf
theorem strsAreOf : ∀ {vs : List Value} {ns : List Str}, CarriedAll vs (ns.map .str) → AreOf .str vs ns
  | _, [], .nil => .nil
  | _, _ :: _, .cons (.str x t) h => .cons ⟨t, rfl⟩ (strsAreOf h)
theorem newList_E {M : Model} {A : Around} {E : Value → Shared → Prop} {s : Shared} {vs : List Value} {Q : Value → Shared → Prop} (h : ∀ h' l, Ext s.heap h' → h'.get? l = some (W.listOf vs.toArray 0) → Q (.ref l) { s with heap := h' }) (hz : vs.length ≤ sizeLine) :
    wpAny M A (newList vs) Q E s :=
  wpAny_newObj_type (h _ _ (fun b o e => Heap.get?_push_of_some _ e) (Heap.get?_push_size _ rfl)) (by show vs.toArray.size ≤ sizeLine; simpa using hz)
theorem sum_ix {A : Around} {E : Value → Shared → Prop} {s : Shared} {l : Addr} {vs : List Value} {ns : List Int} {Q : Value → Shared → Prop} (hh : A.handled = none) (hl : s.heap.IsList l vs.toArray) (hi : IntsAre vs ns)
    (h : ∀ h' tk t', Ext s.heap h' → Q (.int ns.sum t') { s with heap := h', toks := tk }) : wpAny (model pg w) A (call (.builtin "sum") [.ref l]) Q E s := by
  obtain ⟨xs, e⟩ := hi.allInts.items
  rw [e] at hl
  have hn : numsOf (intItems xs).toList = ns := by rw [← e]; exact hi.numsOf
  rw [nums_intItems] at hn
  refine sum_intListG hh hl fun h' tk t' hk => ?_
  have := h h' tk t' hk
  rw [preSum_eq, List.take_of_length_le (by simp), hn]
  exact this
theorem slice_T {A : Around} {E : Value → Shared → Prop} {s : Shared} {h₀ : Heap} {L : Addr} {m : Str → Option Value} {news : List (Addr × Obj)} {value slice : PySem.Expr} {l : Addr} {items : Array Value} {vl vu : Value} {lo hi : Option Int} {Q : Value → Shared → Prop}
    (F : Fr h₀ L s.heap m) (N : News h₀ L s.heap news) (hl : s.heap.IsList l items) (pl : IsPart vl lo) (pu : IsPart vu hi) (hsz : items.size ≤ sizeLine)
    (h : ∀ D h', Fr h₀ L h' m → News h₀ L h' ((D, W.listOf (slicePick items lo hi none) 0) :: news) → Q (.ref D) { s with heap := h' })
    (hs : subscripted slice false (.ref l) (.ref s.heap.objs.size) = operate [.ref s.heap.objs.size, .ref l] (getItem (.ref l) (.ref s.heap.objs.size)) := by with_unfolding_all rfl) :
    wpAny (model pg w) A (subscriptTail value slice (.ref l) (.ref s.heap.objs.size)) Q E { s with heap := s.heap.push { cls := .type "slice", data := .fields #[vl, vu, .none] } } := by
  have F1 := F.push { cls := .type "slice", data := .fields #[vl, vu, .none] }
  have N1 := News.push F1 (N.grown fun _ _ e => Heap.get?_push_of_some _ e) { cls := .type "list", data := .seq (slicePick items lo hi none) }
  exact tail_any (Heap.IsList.typeIs (s := { s with heap := s.heap.push { cls := .type "slice", data := .fields #[vl, vu, .none] } }) (hl.push _)) slot_list_getitem.lookup
    (wpAny_getItem_list_slice (hl.push _) (Heap.IsSliceOf.new ..) pl pu .none (by simp) (h _ _ (F1.push _) N1) hsz) hs
theorem hits_contains (i : Int) (cs : List Int) : (cs.map PyData.int).any (datHitsInt i) = cs.contains i := by
  rw [List.any_map]
  induction cs with
  | nil => rfl
  | cons c r ih =>
    rw [List.any_cons, ih, List.contains_cons]
    congr 1
    by_cases e : c = i
    · subst e; simp [datHitsInt]
    · have e' : ¬ i = c := fun q => e q.symm
      simp only [Function.comp, datHitsInt]
      rw [beq_eq_false_iff_ne.mpr e, beq_eq_false_iff_ne.mpr e']
section
variable {A : Around} {E : Value → Shared → Prop} {s : Shared} {h₀ : Heap} {L a : Addr} {cd : Value} {m cm : Str → Option Value} {Z : List (Addr × Obj)} {Q : Flow → Shared → Prop}
theorem s5 (T : Tp G mg mb w h₀) (F : Fr h₀ L s.heap m) (N : News h₀ L s.heap Z) (C : Cz (csL L) cm Z) (hh : A.handled = none)
    (h : ∀ h' tk Z' D, Fr h₀ L h' m → News h₀ L h' Z' → Cz (csL L) (upd cm "small" (.ref D)) Z' → Lasts Z Z' → LI Z' D ((rangeInts 1 1 7).map fun i => .str ⟨#[(96 + i).toNat]⟩) → Q .next { s with heap := h', toks := tk }) :
    wpAny (model pg w) A (exec (lawS 5) (envL L a cd)) Q E s := by
  conv in (occs := *) (lawS _) => all_goals (unfold lawS fnS; whnf)
  repeat' (first | ((try dsimp only); (fail_if_success (with_reducible show wpAny _ _ (eval (Expr.ListComp _ _ _ _) _) _ _ _)); walk1))
  refine lcR (A := A) (Z := Z) (cl := []) (a := 1) (b := 8) (n := 7) (fun _ => true) (fun i => .str ⟨#[(96 + i).toNat]⟩) hh F N ?_ (by decide) (by decide) (by decide) (by decide) (by decide) ?_ ?_ ?_ (by kernel_rfl) (by decide) (by rfl) (by decide) (by rfl) (fun _ => by rfl)
  · intro Q' hk
    repeat' (first | ((try dsimp only); (fail_if_success (with_reducible show wpAny _ _ (call (Value.type "range") _) _ _ _)); walk1))
    exact rng2 (by assumption) (by assumption) ⟨_, rfl⟩ hk
  · intros; exact test_nil
  · rintro Cx i t ⟨h3, g3, d3, t3, o3⟩ m₃ E' hi hp hNs hx hk
    dsimp only at hNs hk
    have hi2 := mem_rangeInts hi
    have kT : Tp G mg mb w h3 := T.keeps fun b o e => hk _ _ (F.keep _ _ e)
    have kC2 : CellsIn L cm h3 := cellsIn N C (fun _ h => h) hk
    repeat' (first | ((try dsimp only); walk1))
    · exact .str _ _
    · exact ⟨_, _, rfl, fun _ _ e => e⟩
  · intro D ys n' h' tk F' N' hD hc
    repeat' (first | ((try dsimp only); (fail_if_success (with_reducible show wpAny _ _ (storeName _ _ _) _ _ _)); walk1))
    refine st_cell F' N' C (fun _ h => .tail _ h) (by decide) fun h2 Z' F2 N2 C2 hl => ?_
    dsimp only
    refine h _ _ _ _ F2 N2 C2 (Lasts.trans (Lasts.sub fun _ h => .tail _ h) hl) (LI.lasts ⟨_, _, .head _, ?_⟩ hl)
    exact hc
theorem s3 {dl : Addr} {ns : List Int} (T : Tp G mg mb w h₀) (F : Fr h₀ L s.heap m) (N : News h₀ L s.heap Z) (C : Cz (csL L) cm Z) (hh : A.handled = none) (hd : m "drawn" = some (.ref dl)) (hl : LI Z dl (ns.map .int)) (hns : ns.length ≤ 100)
    (h : ∀ h' tk Z' D, Fr h₀ L h' m → News h₀ L h' Z' → Cz (csL L) (upd cm "chosen" (.ref D)) Z' → Lasts Z Z' → LI Z' D (ns.map fun i => .int (i % 6 + 1)) → Q .next { s with heap := h', toks := tk }) :
    wpAny (model pg w) A (exec (lawS 3) (envL L a cd)) Q E s := by
  conv in (occs := *) (lawS _) => all_goals (unfold lawS fnS; whnf)
  repeat' (first | ((try dsimp only); (fail_if_success (with_reducible show wpAny _ _ (eval (Expr.ListComp _ _ _ _) _) _ _ _)); walk1))
  obtain ⟨vs, n0, hm, hc⟩ := hl
  refine lcL (A := A) (Z := Z) (L := L) (h₀ := h₀) (m := m) (cl := []) (as := ns) .int (fun i => .int (i % 6 + 1)) hh ?_ (by omega) ?_ ?_ (by kernel_rfl) (by decide) (by rfl) (by decide) (by rfl) (fun _ => by rfl)
  · intro Q' hk
    repeat' (first | ((try dsimp only); walk1))
    exact hk _ _ _ vs Z (fun _ h => h) (fun _ _ e => e) (by assumption) (by assumption) (News.isList (by assumption) hm) (areInts hc)
  · rintro Cx i _ ⟨h3, g3, d3, t3, o3⟩ m₃ E' hi ⟨t, rfl⟩ hNs hx hk
    dsimp only at hNs hk
    have kT : Tp G mg mb w h3 := T.keeps fun b o e => hk _ _ (F.keep _ _ e)
    have kC2 : CellsIn L cm h3 := cellsIn N C (fun _ h => h) hk
    repeat' (first | ((try dsimp only); walk1))
    · rw [Int.fmod_eq_emod_of_nonneg _ (by decide)]; exact .int _ _
    · exact ⟨_, _, rfl, fun _ _ e => e⟩
  · intro D ys n' h' tk Z1 hZ1 F' N' hD hc
    repeat' (first | ((try dsimp only); (fail_if_success (with_reducible show wpAny _ _ (storeName _ _ _) _ _ _)); walk1))
    refine st_cell F' N' C (fun _ h => .tail _ (hZ1 _ h)) (by decide) fun h2 Z' F2 N2 C2 hl => ?_
    dsimp only
    refine h _ _ _ _ F2 N2 C2 (Lasts.trans (Lasts.sub fun _ h => .tail _ (hZ1 _ h)) hl) (LI.lasts ⟨_, _, .head _, ?_⟩ hl)
    exact hc
theorem s4 {ch : Addr} {cs : List Int} (T : Tp G mg mb w h₀) (F : Fr h₀ L s.heap m) (N : News h₀ L s.heap Z) (C : Cz (csL L) cm Z) (hh : A.handled = none) (hd : cm "chosen" = some (.ref ch)) (hl : LI Z ch (cs.map .int)) (hns : cs.length ≤ 100)
    (h : ∀ h' tk Z' D, Fr h₀ L h' m → News h₀ L h' Z' → Cz (csL L) (upd cm "places" (.ref D)) Z' → Lasts Z Z' → LI Z' D (((rangeInts 1 1 6).filter fun i => cs.contains i).map .int) → Q .next { s with heap := h', toks := tk }) :
    wpAny (model pg w) A (exec (lawS 4) (envL L a cd)) Q E s := by
  conv in (occs := *) (lawS _) => all_goals (unfold lawS fnS; whnf)
  repeat' (first | ((try dsimp only); (fail_if_success (with_reducible show wpAny _ _ (eval (Expr.ListComp _ _ _ _) _) _ _ _)); walk1))
  obtain ⟨vs, n0, hm, hc⟩ := hl
  refine lcR (A := A) (Z := Z) (cl := [("chosen", cAt L "chosen")]) (a := 1) (b := 7) (n := 6) (fun i => cs.contains i) (fun i => .int i) hh F N ?_ (by decide) (by decide) (by decide) (by decide) (by decide) ?_ ?_ ?_ (by kernel_rfl) (by decide) (by rfl) (by decide) (by rfl) (fun _ => by rfl)
  · intro Q' hk
    repeat' (first | ((try dsimp only); (fail_if_success (with_reducible show wpAny _ _ (call (Value.type "range") _) _ _ _)); walk1))
    exact rng2 (by assumption) (by assumption) ⟨_, rfl⟩ hk
  · rintro Cx i t ⟨h3, g3, d3, t3, o3⟩ m₃ E' hi hNs hx hk
    dsimp only at hNs hk
    have kT : Tp G mg mb w h3 := T.keeps fun b o e => hk _ _ (F.keep _ _ e)
    have kC2 : CellsIn L cm h3 := cellsIn N C (fun _ h => h) hk
    have hL3 : h3.IsList ch vs.toArray := (News.isList N hm).at fun o e => hk _ _ e
    refine test_one ?_
    repeat' (first | ((try dsimp only); walk1))
    · exact hits_contains i cs
    · exact ⟨_, _, rfl, fun _ _ e => e⟩
  · rintro Cx i t ⟨h3, g3, d3, t3, o3⟩ m₃ E' hi hp hNs hx hk
    dsimp only at hNs hk
    have kT : Tp G mg mb w h3 := T.keeps fun b o e => hk _ _ (F.keep _ _ e)
    have kC2 : CellsIn L cm h3 := cellsIn N C (fun _ h => h) hk
    repeat' (first | ((try dsimp only); walk1))
    · exact .int _ _
    · exact ⟨_, _, rfl, fun _ _ e => e⟩
  · intro D ys n' h' tk F' N' hD hc
    repeat' (first | ((try dsimp only); (fail_if_success (with_reducible show wpAny _ _ (storeName _ _ _) _ _ _)); walk1))
    refine st_cell F' N' C (fun _ h => .tail _ h) (by decide) fun h2 Z' F2 N2 C2 hl => ?_
    dsimp only
    refine h _ _ _ _ F2 N2 C2 (Lasts.trans (Lasts.sub fun _ h => .tail _ h) hl) (LI.lasts ⟨_, _, .head _, ?_⟩ hl)
    exact hc
theorem s6 {total : Int} {tt : Tok} (T : Tp G mg mb w h₀) (F : Fr h₀ L s.heap m) (N : News h₀ L s.heap Z) (C : Cz (csL L) cm Z) (hh : A.handled = none) (hd : cm "total" = some (.int total tt)) (h0 : 0 ≤ total)
    (h : ∀ h' tk Z' D, Fr h₀ L h' m → News h₀ L h' Z' → Cz (csL L) (upd cm "great" (.ref D)) Z' → Lasts Z Z' → LI Z' D ((rangeInts 1 1 7).map fun i => .str ⟨#[(([64, 119807, 120431] : List Int).getD ((i + total) % 3).toNat 0 + i).toNat]⟩) → Q .next { s with heap := h', toks := tk }) :
    wpAny (model pg w) A (exec (lawS 6) (envL L a cd)) Q E s := by
  conv in (occs := *) (lawS _) => all_goals (unfold lawS fnS; whnf)
  repeat' (first | ((try dsimp only); (fail_if_success (with_reducible show wpAny _ _ (eval (Expr.ListComp _ _ _ _) _) _ _ _)); walk1))
  refine lcR (A := A) (Z := Z) (cl := [("total", cAt L "total")]) (a := 1) (b := 8) (n := 7) (fun _ => true) (fun i => .str ⟨#[(([64, 119807, 120431] : List Int).getD ((i + total) % 3).toNat 0 + i).toNat]⟩) hh F N ?_ (by decide) (by decide) (by decide) (by decide) (by decide) ?_ ?_ ?_ (by kernel_rfl) (by decide) (by rfl) (by decide) (by rfl) (fun _ => by rfl)
  · intro Q' hk
    repeat' (first | ((try dsimp only); (fail_if_success (with_reducible show wpAny _ _ (call (Value.type "range") _) _ _ _)); walk1))
    exact rng2 (by assumption) (by assumption) ⟨_, rfl⟩ hk
  · intros; exact test_nil
  · rintro Cx i t ⟨h3, g3, d3, t3, o3⟩ m₃ E' hi hp hNs hx hk
    dsimp only at hNs hk
    have hi2 := mem_rangeInts hi
    have kT : Tp G mg mb w h3 := T.keeps fun b o e => hk _ _ (F.keep _ _ e)
    have kC2 : CellsIn L cm h3 := cellsIn N C (fun _ h => h) hk
    repeat' (first | ((try dsimp only); (fail_if_success (with_reducible show wpAny _ _ (newList _) _ _ _)); walk1))
    refine newList_E ?_ (show 3 ≤ sizeLine by decide)
    intro h4 l hx4 hl4
    (with_reducible rename Heap.Ns _ _ _ => hNs)
    (with_reducible rename CellsIn _ _ _ => kC2)
    (with_reducible rename Tp _ _ _ _ _ => kT)
    have hNs4 := Heap.Ns.keeps hNs hx4
    have kT4 : Tp G mg mb w h4 := kT.keeps hx4
    have kC4 : CellsIn L cm h4 := fun x hx => (kC2 x hx).keeps hx4
    repeat' (first | ((try dsimp only); (fail_if_success (with_reducible show wpAny _ _ (subscriptTail _ _ _ _) _ _ _)); walk1))
    rw [Int.fmod_eq_emod_of_nonneg _ (by decide)]
    have hL4 : h4.IsList l #[.int 64 t3, .int 119807 (t3 + 1), .int 120431 (t3 + 1 + 1)] := ⟨_, hl4, rfl, 0, rfl⟩
    have hr : (i + total) % 3 = 0 ∨ (i + total) % 3 = 1 ∨ (i + total) % 3 = 2 := by omega
    generalize (i + total) % 3 = r at hr ⊢
    rcases hr with rfl | rfl | rfl
    · refine tail_any hL4.typeIs slot_list_getitem.lookup (wpAny_getItem_list (x := .int 64 t3) hL4 (by decide) (by decide) (by rfl) ?_) (by with_unfolding_all rfl)
      repeat' (first | ((try dsimp only); walk1))
      · exact .str _ _
      · exact ⟨_, _, rfl, hx4⟩
    · refine tail_any hL4.typeIs slot_list_getitem.lookup (wpAny_getItem_list (x := .int 119807 (t3 + 1)) hL4 (by decide) (by decide) (by rfl) ?_) (by with_unfolding_all rfl)
      repeat' (first | ((try dsimp only); walk1))
      · exact .str _ _
      · exact ⟨_, _, rfl, hx4⟩
    · refine tail_any hL4.typeIs slot_list_getitem.lookup (wpAny_getItem_list (x := .int 120431 (t3 + 1 + 1)) hL4 (by decide) (by decide) (by rfl) ?_) (by with_unfolding_all rfl)
      repeat' (first | ((try dsimp only); walk1))
      · exact .str _ _
      · exact ⟨_, _, rfl, hx4⟩
  · intro D ys n' h' tk F' N' hD hc
    repeat' (first | ((try dsimp only); (fail_if_success (with_reducible show wpAny _ _ (storeName _ _ _) _ _ _)); walk1))
    refine st_cell F' N' C (fun _ h => .tail _ h) (by decide) fun h2 Z' F2 N2 C2 hl => ?_
    dsimp only
    refine h _ _ _ _ F2 N2 C2 (Lasts.trans (Lasts.sub fun _ h => .tail _ h) hl) (LI.lasts ⟨_, _, .head _, ?_⟩ hl)
    exact hc
theorem s7 {total : Int} {tt : Tok} (T : Tp G mg mb w h₀) (F : Fr h₀ L s.heap m) (N : News h₀ L s.heap Z) (C : Cz (csL L) cm Z) (hh : A.handled = none) (hd : cm "total" = some (.int total tt)) (h0 : 0 ≤ total)
    (h : ∀ h' tk Z' tb, Fr h₀ L h' m → News h₀ L h' Z' → Cz (csL L) (upd cm "base" (.int (total % 26) tb)) Z' → Lasts Z Z' → Q .next { s with heap := h', toks := tk }) :
    wpAny (model pg w) A (exec (lawS 7) (envL L a cd)) Q E s := by
  conv in (occs := *) (lawS _) => all_goals (unfold lawS fnS; whnf)
  repeat' (first | ((try dsimp only); (fail_if_success (with_reducible show wpAny _ _ (storeName _ _ _) _ _ _)); walk1))
  rw [Int.fmod_eq_emod_of_nonneg _ (by decide)]
  (with_reducible rename Fr _ _ _ _ => F2)
  (with_reducible rename News _ _ _ _ => N2)
  (with_reducible rename Cz _ _ _ => C2)
  refine st_cell F2 N2 C2 (fun _ h => h) (by decide) fun h2 Z' F2 N2 C2 hl => ?_
  exact h _ _ _ _ F2 N2 C2 hl
theorem s8 (T : Tp G mg mb w h₀) (F : Fr h₀ L s.heap m) (N : News h₀ L s.heap Z) (C : Cz (csL L) cm Z) (hh : A.handled = none) 
    (h : ∀ h' tk Z' D, Fr h₀ L h' m → News h₀ L h' Z' → Cz (csL L) (upd cm "tables" (.ref D)) Z' → Lasts Z Z' → (∀ p ∈ Z, p.1 ≠ D) → LI Z' D [] → Q .next { s with heap := h', toks := tk }) :
    wpAny (model pg w) A (exec (lawS 8) (envL L a cd)) Q E s := by
  conv in (occs := *) (lawS _) => all_goals (unfold lawS fnS; whnf)
  repeat' (first | ((try dsimp only); (fail_if_success (with_reducible show wpAny _ _ (storeName _ _ _) _ _ _)); walk1))
  (with_reducible rename Fr _ _ _ _ => F2)
  (with_reducible rename News _ _ _ _ => N2)
  (with_reducible rename Cz _ _ _ => C2)
  rename (∀ (p : Addr × Obj), p ∈ Z → p.1 < _) => hfr
  refine st_cell F2 N2 C2 (fun _ h => .tail _ h) (by decide) fun h2 Z' F2 N2 C2 hl => ?_
  exact h _ _ _ _ F2 N2 C2 (Lasts.trans (Lasts.sub fun _ h => .tail _ h) hl) (fun p hp => Nat.ne_of_lt (hfr p hp)) (LI.lasts ⟨[], 0, .head _, .nil⟩ hl)
theorem s9 (T : Tp G mg mb w h₀) (F : Fr h₀ L s.heap m) (N : News h₀ L s.heap Z) (C : Cz (csL L) cm Z) (hh : A.handled = none) 
    (h : ∀ h' tk Z' D, Fr h₀ L h' m → News h₀ L h' Z' → Cz (csL L) (upd cm "signs" (.ref D)) Z' → Lasts Z Z' → (∀ p ∈ Z, p.1 ≠ D) → LI Z' D [] → Q .next { s with heap := h', toks := tk }) :
    wpAny (model pg w) A (exec (lawS 9) (envL L a cd)) Q E s := by
  conv in (occs := *) (lawS _) => all_goals (unfold lawS fnS; whnf)
  repeat' (first | ((try dsimp only); (fail_if_success (with_reducible show wpAny _ _ (storeName _ _ _) _ _ _)); walk1))
  (with_reducible rename Fr _ _ _ _ => F2)
  (with_reducible rename News _ _ _ _ => N2)
  (with_reducible rename Cz _ _ _ => C2)
  rename (∀ (p : Addr × Obj), p ∈ Z → p.1 < _) => hfr
  refine st_cell F2 N2 C2 (fun _ h => .tail _ h) (by decide) fun h2 Z' F2 N2 C2 hl => ?_
  exact h _ _ _ _ F2 N2 C2 (Lasts.trans (Lasts.sub fun _ h => .tail _ h) hl) (fun p hp => Nat.ne_of_lt (hfr p hp)) (LI.lasts ⟨[], 0, .head _, .nil⟩ hl)
theorem s2 {dl : Addr} {ns : List Int} (T : Tp G mg mb w h₀) (F : Fr h₀ L s.heap m) (N : News h₀ L s.heap Z) (C : Cz (csL L) cm Z) (hh : A.handled = none) (hd : m "drawn" = some (.ref dl)) (hl : LI Z dl (ns.map .int)) (hns : ns.length ≤ 100)
    (h : ∀ h' tk Z' tb, Fr h₀ L h' m → News h₀ L h' Z' → Cz (csL L) (upd cm "total" (.int ns.sum tb)) Z' → Lasts Z Z' → Q .next { s with heap := h', toks := tk }) :
    wpAny (model pg w) A (exec (lawS 2) (envL L a cd)) Q E s := by
  conv in (occs := *) (lawS _) => all_goals (unfold lawS fnS; whnf)
  obtain ⟨vs, n0, hm, hc⟩ := hl
  have hL := News.isList N hm
  have hI : IntsAre vs ns := IntsAre.ofCarried hc
  repeat' (first | ((try dsimp only); (fail_if_success (with_reducible show wpAny _ _ (storeName _ _ _) _ _ _)); walk1))
  (with_reducible rename Fr _ _ _ _ => F)
  (with_reducible rename News _ _ _ _ => N)
  refine sum_ix hh hL hI fun h' tk t' hx => ?_
  (with_reducible rename Cz _ _ _ => C2)
  refine st_cell (F.keeps hx) (N.grown hx) C2 (fun _ h => h) (by decide) fun h2 Z' F2 N2 C2 hl => ?_
  exact h _ _ _ _ F2 N2 C2 hl
theorem s1 {dl : Addr} {ns : List Int} (T : Tp G mg mb w h₀) (F : Fr h₀ L s.heap m) (N : News h₀ L s.heap Z) (C : Cz (csL L) cm Z) (hh : A.handled = none) (hd : m "drawn" = some (.ref dl)) (hl : LI Z dl (ns.map .int)) (hns : ns.length ≤ 3)
    (h : ∀ h' tk Z' D, Fr h₀ L h' (upd m "drawn" (.ref D)) → News h₀ L h' Z' → Cz (csL L) cm Z' → Lasts Z Z' → LI Z' D ((ns ++ ([4, 1, 2] : List Int).drop ns.length).map .int) → Q .next { s with heap := h', toks := tk }) :
    wpAny (model pg w) A (exec (lawS 1) (envL L a cd)) Q E s := by
  conv in (occs := *) (lawS _) => all_goals (unfold lawS fnS; whnf)
  obtain ⟨vs, n0, hm, hc⟩ := hl
  have hL := News.isList N hm
  have hI : IntsAre vs ns := IntsAre.ofCarried hc
  repeat' (first | ((try dsimp only); (fail_if_success (with_reducible show wpAny _ _ (storeName _ _ _) _ _ _)); walk1))
  (with_reducible rename Fr _ _ _ _ => F2)
  (with_reducible rename News _ _ _ _ => N2)
  (with_reducible rename Cz _ _ _ => C2)
  have hvl : vs.length = ns.length := hI.length
  refine len_list (News.isList N2 (.tail _ hm)) (by simp; omega) ?_
  repeat' (first | ((try dsimp only); (fail_if_success (with_reducible show wpAny _ _ (subscriptTail _ _ _ _) _ _ _)); walk1))
  refine slice_T F2 N2 (News.isList N2 (.head _)) (.int _ _) .none (show 3 ≤ sizeLine by decide) ?_
  intro D3 h3 F3 N3
  have hL3 := News.isList N3 (.tail _ (.tail _ hm))
  have hI3 : IntsAre (slicePick (List.toArray [Value.int 4 s.toks, Value.int 1 (s.toks + 1), Value.int 2 (s.toks + 1 + 1)]) (some (vs.toArray.size : Int)) none none).toList (([4, 1, 2] : List Int).drop ((vs.toArray.size : Int)).toNat) :=
    slice_ints_fromW (.cons _ _ (.cons _ _ (.cons _ _ .nil))) (by omega)
  have hlen := hI3.length
  have h100 : (100 : Nat) ≤ sizeLine := by decide
  refine add_arrays' F3 N3 hL3 (News.isList N3 (.head _)) ?_ ?_
  · simp only [List.length_drop, Array.length_toList] at hlen
    rw [hlen]
    simp
    omega
  intro D h4 hlt F4 N4
  refine st_loc F4 N4 (by kernel_rfl) fun h5 F5 N5 => ?_
  dsimp only
  refine h _ _ _ D F5 N5 (C2.sub fun _ h => .tail _ (.tail _ (.tail _ h))) (Lasts.sub fun _ h => .tail _ (.tail _ (.tail _ h))) ⟨_, _, .head _, ?_⟩
  have := (hI.append hI3).carried
  have e : ((vs.toArray.size : Int)).toNat = ns.length := by simp [hvl]
  rw [e] at this
  exact this
theorem s0 {sl : Addr} {ns : List Int} (T : Tp G mg mb w h₀) (F : Fr h₀ L s.heap m) (N : News h₀ L s.heap Z) (C : Cz (csL L) cm Z) (hh : A.handled = none) (hd : m "script" = some (.ref sl)) (vs : List Value) (hsl : h₀.IsList sl vs.toArray) (hI : IntsAre vs ns) (hns : ns.length ≤ 63)
    (h : ∀ h' tk Z' D, Fr h₀ L h' (upd m "drawn" (.ref D)) → News h₀ L h' Z' → Cz (csL L) cm Z' → Lasts Z Z' → LI Z' D ((ns.take 3).map fun i => .int (i % 1000000)) → Q .next { s with heap := h', toks := tk }) :
    wpAny (model pg w) A (exec (lawS 0) (envL L a cd)) Q E s := by
  conv in (occs := *) (lawS _) => all_goals (unfold lawS fnS; whnf)
  refine Assign_ListComp_DCn (K := .int) (h₀ := h₀) (L := L) (m := m) (cl := []) (pz := fun _ => true) (d := fun i => .int (i % 1000000)) (by kernel_rfl) rfl hh (by kernel_rfl) (by decide) (by rfl) (by decide) (by rfl) (by kernel_rfl) (by rfl) ?_ (fun _ => by rfl)
  have hL : s.heap.IsList sl vs.toArray := hsl.at fun o e => F.keep _ _ e
  repeat' (first | ((try dsimp only); walk1))
  (with_reducible rename Fr _ _ _ _ => F2)
  (with_reducible rename News _ _ _ _ => N2)
  (with_reducible rename Cz _ _ _ => C2)
  (with_reducible rename Tp _ _ _ _ _ => kT)
  have hvl : vs.length = ns.length := hI.length
  have h64 : (64 : Nat) ≤ sizeLine := by decide
  refine slice_T F2 N2 hL .none (.int _ _) (by simp; omega) ?_
  intro D3 h3 F3 N3
  refine ⟨_, D3, (slicePick vs.toArray none (some 3) none).toList, ns.take 3, rfl, News.isList N3 (.head _), (slice_ints_uptoW hI (by decide)).areOf, ?_, F3, N3, ?_, ?_, ?_⟩
  · simp; omega
  · intro Cx i v s₂ m₂ E' hC hia hv hNs hx2 hk
    rw [List.forIn_nil]
    exact wpAny_pure ⟨rfl, ⟨_, _, rfl, fun _ _ e => e⟩⟩
  · rintro Cx i v ⟨h4, g4, d4, t4, o4⟩ m₂ E' hC hia ⟨tv, rfl⟩ hp hNs hx2 hk
    dsimp only at hNs hk
    have kT4 : Tp G mg mb w h4 := kT.keeps fun b o e => hk _ _ (F3.keep _ _ e)
    have kC4 : CellsIn L cm h4 := cellsIn N3 C2 (fun _ h => .tail _ h) hk
    repeat' (first | ((try dsimp only); walk1))
    · rw [Int.fmod_eq_emod_of_nonneg _ (by decide)]; exact .int _ _
    · exact ⟨_, _, rfl, fun _ _ e => e⟩
  · intro D ys h5 tk5 F5 N5 hD hl5 hnp hc5
    obtain ⟨n', e⟩ := hnp.1
    rw [List.filter_eq_self.mpr (fun _ _ => rfl)] at hc5
    have N6 : News h₀ L h5 ((D, W.listOf ys.toArray n') :: _) := fun p hp => by
      rcases List.mem_cons.mp hp with rfl | hp
      · exact ⟨e, hnp.ne_locals F5, hD⟩
      · exact N5 p hp
    exact h _ _ _ D F5 N6 (C2.sub fun _ h => .tail _ (.tail _ h)) (Lasts.sub fun _ h => .tail _ (.tail _ h)) ⟨_, _, .head _, hc5⟩
end
end
section
open PySem PySem.W PyProof.Rows PySem.Calls PySem.Spec PyProof.V PySem.SeqAt
set_option Elab.async false
set_option maxRecDepth 100000
set_option maxHeartbeats 1000000
set_option linter.unusedVariables false
set_option autoImplicit false
variable {G : GA} {mg mb : Str → Option Value} {w : World}
/-- the i-th statement of the loop -/
noncomputable def loopB : List Stmt := forGb (lawS 10)
noncomputable def loopS (i : Nat) : Stmt := loopB.getD i (.Pass ⟨0, 0, 0, 0⟩)
theorem pow_small {n : Nat} (h : n ≤ 6) : 1 ≤ (2 : Int) ^ n ∧ (2 : Int) ^ n ≤ 64 := by
  have : n = 0 ∨ n = 1 ∨ n = 2 ∨ n = 3 ∨ n = 4 ∨ n = 5 ∨ n = 6 := by omega
  rcases this with rfl | rfl | rfl | rfl | rfl | rfl | rfl <;> decide
theorem carried_get : ∀ {vs : List Value} {ds : List PyData} {j : Nat} {d : PyData}, CarriedAll vs ds → ds[j]? = some d → ∃ v, vs[j]? = some v ∧ Carried v d
  | _, _, 0, d, .cons (v := v) h _, e => by
    rw [List.getElem?_cons_zero] at e
    cases e
    exact ⟨_, rfl, h⟩
  | _, _, j + 1, d, .cons _ h, e => by
    rw [List.getElem?_cons_succ] at e ⊢
    exact carried_get h e
theorem ints_at {vs : List Value} {ns : List Int} {k : Int} (h : CarriedAll vs (ns.map .int)) (h0 : 0 ≤ k) (h1 : k < ns.length) : ∃ t, vs[k.toNat]? = some (.int (ns.getD k.toNat 0) t) := by
  have hk : k.toNat < ns.length := by omega
  obtain ⟨v, hv, hc⟩ := carried_get (j := k.toNat) (d := .int (ns.getD k.toNat 0)) h (by rw [List.getElem?_map, List.getD_eq_getElem?_getD, List.getElem?_eq_getElem hk]; rfl)
  cases hc
  exact ⟨_, hv⟩
theorem strs_at {vs : List Value} {ns : List Str} {k : Int} (h : CarriedAll vs (ns.map .str)) (h0 : 0 ≤ k) (h1 : k < ns.length) : ∃ t, vs[k.toNat]? = some (.str (ns.getD k.toNat ⟨#[]⟩) t) := by
  have hk : k.toNat < ns.length := by omega
  obtain ⟨v, hv, hc⟩ := carried_get (j := k.toNat) (d := .str (ns.getD k.toNat ⟨#[]⟩)) h (by rw [List.getElem?_map, List.getD_eq_getElem?_getD, List.getElem?_eq_getElem hk]; rfl)
  cases hc
  exact ⟨_, hv⟩
theorem canStrs : ∀ {ns : List Str}, (∀ x ∈ ns, PyData.strOk x = true) → PyData.canLayAll0 (ns.map PyData.str) = true
  | [], _ => by simp [PyData.canLayAll0]
  | n :: r, h => by
    have h1 := h n (.head _)
    have h2 := canStrs (ns := r) fun x hx => h x (.tail _ hx)
    simp [PyData.canLayAll0, PyData.canLay0, h1, h2]
theorem depthStrs : ∀ ns : List Str, PyData.depthAll (ns.map PyData.str) ≤ 1
  | [] => by simp [PyData.depthAll]
  | n :: r => by
    have := depthStrs r
    simp only [List.map_cons, PyData.depthAll, PyData.depth]
    omega
theorem shapedStrs {ns : List Str} (h : ∀ x ∈ ns, PyData.strOk x = true) : shaped (.list (ns.map PyData.str)) = true := by
  have h1 := depthStrs ns
  have h2 : PyData.depth (.list (ns.map PyData.str)) ≤ 64 := by simp only [PyData.depth]; omega
  show (PyData.canLay0 (.list (ns.map PyData.str)) && decide (PyData.depth (.list (ns.map PyData.str)) ≤ 64)) = true
  rw [Bool.and_eq_true]
  exact ⟨by simp only [PyData.canLay0]; exact canStrs h, decide_eq_true h2⟩
theorem noMixStrs : ∀ ns ms : List Str, noMixAll (ns.map PyData.str) (ms.map PyData.str) = true
  | [], [] => by simp [noMixAll]
  | [], _ :: _ => by simp [noMixAll]
  | _ :: _, [] => by simp [noMixAll]
  | _ :: r, _ :: q => by simp [noMixAll, noMix, noMixStrs r q]
theorem sameStrs : ∀ ns : List Str, PySem.Spec.sameAll (ns.map PyData.str) (ns.map PyData.str) = true
  | [] => by simp [PySem.Spec.sameAll]
  | n :: r => by simp [PySem.Spec.sameAll, PySem.Spec.same, sameStrs r]
/-- two lists of the same texts are equal -/
theorem ne_strs {A : Around} {E : Value → Shared → Prop} {s : Shared} {a b : Addr} {vs us : List Value} {ns : List Str} {Q : Value → Shared → Prop} (hl : s.heap.IsList a vs.toArray) (hi : CarriedAll vs (ns.map .str)) (hl' : s.heap.IsList b us.toArray) (hi' : CarriedAll us (ns.map .str)) (hok : ∀ x ∈ ns, PyData.strOk x = true) (hu : A.units + 64 < cLine)
    (h : Q (.bool false) s) : wpAny (model pg w) A (compareOp .NotEq (.ref a) (.ref b)) Q E s :=
  ne_dataH_same (reads_newData hl hi) (reads_newData hl' hi') (shapedStrs hok) (shapedStrs hok) hu (by simp only [noMix]; exact noMixStrs ns ns) (by simp only [PySem.Spec.same]; rw [sameStrs]; exact h)
section
variable {A : Around} {E : Value → Shared → Prop} {s : Shared} {h₀ : Heap} {L a : Addr} {cd : Value} {m cm : Str → Option Value} {Z : List (Addr × Obj)} {Q : Flow → Shared → Prop}
theorem b0 {pl : Addr} {ps : List Int} {mask : Nat} {tm : Tok} (T : Tp G mg mb w h₀) (F : Fr h₀ L s.heap m) (N : News h₀ L s.heap Z) (C : Cz (csL L) cm Z) (hh : A.handled = none) (hd : cm "places" = some (.ref pl)) (hl : LI Z pl (ps.map .int)) (hps : ps.length ≤ 6)
    (hm : cm "mask" = some (.int (mask : Nat) tm)) (hm8 : mask < 64)
    (h : ∀ h' tk Z' D, Fr h₀ L h' m → News h₀ L h' Z' → Cz (csL L) (upd cm "picked" (.ref D)) Z' → Lasts Z Z' → (∀ p ∈ Z, p.1 ≠ D) → LI Z' D (((rangeInts 0 1 ps.length).filter fun k => ((mask : Int) / 2 ^ k.toNat % 2 == 1)).map fun k => .int (ps.getD k.toNat 0)) → Q .next { s with heap := h', toks := tk }) :
    wpAny (model pg w) A (exec (loopS 0) (envL L a cd)) Q E s := by
  conv in (occs := *) (loopS _) => all_goals (unfold loopS loopB lawS fnS; whnf)
  repeat' (first | ((try dsimp only); (fail_if_success (with_reducible show wpAny _ _ (eval (Expr.ListComp _ _ _ _) _) _ _ _)); walk1))
  obtain ⟨vs, n0, hm1, hc⟩ := hl
  have hvl : vs.length = ps.length := by have := hc.length_eq; simpa using this
  refine lcR (A := A) (Z := Z) (cl := [("places", cAt L "places"), ("mask", cAt L "mask")]) (a := 0) (b := ps.length) (n := ps.length) (fun k => ((mask : Int) / 2 ^ k.toNat % 2 == 1)) (fun k => .int (ps.getD k.toNat 0)) hh F N ?_ (by omega) (by omega) (by omega) (by omega) (by omega) ?_ ?_ ?_ (by kernel_rfl) (by decide) (by rfl) (by decide) (by rfl) (fun _ => by rfl)
  · intro Q' hk
    repeat' (first | ((try dsimp only); (fail_if_success (with_reducible show wpAny _ _ (call (Value.builtin "len") _) _ _ _)); walk1))
    (with_reducible rename Fr _ _ _ _ => F2)
    (with_reducible rename News _ _ _ _ => N2)
    refine len_list (News.isList N2 hm1) (by simp; omega) ?_
    repeat' (first | ((try dsimp only); (fail_if_success (with_reducible show wpAny _ _ (call (Value.type "range") _) _ _ _)); walk1))
    have e : (vs.toArray.size : Int) = (ps.length : Int) := by simp [hvl]
    rw [e]
    exact rng1 F2 N2 ⟨_, rfl⟩ hk
  · rintro Cx i t ⟨h3, g3, d3, t3, o3⟩ m₃ E' hi hNs hx hk
    dsimp only at hNs hk
    have hi2 := mem_rangeInts hi
    have kT : Tp G mg mb w h3 := T.keeps fun b o e => hk _ _ (F.keep _ _ e)
    have kC2 : CellsIn L cm h3 := cellsIn N C (fun _ h => h) hk
    obtain ⟨hp1, hp2⟩ := pow_small (n := i.toNat) (by omega)
    refine test_one ?_
    repeat' (first | ((try dsimp only); (fail_if_success (with_reducible show wpAny _ _ (binaryOp .FloorDiv _ _) _ _ _)); walk1))
    generalize (2 : Int) ^ i.toNat = p2 at hp1 hp2 ⊢
    repeat' (first | ((try dsimp only); walk1))
    · rw [Int.fdiv_eq_ediv_of_nonneg _ (by omega), Int.fmod_eq_emod_of_nonneg _ (by decide)]
    · exact ⟨_, _, rfl, fun _ _ e => e⟩
  · rintro Cx i t ⟨h3, g3, d3, t3, o3⟩ m₃ E' hi hp hNs hx hk
    dsimp only at hNs hk
    have hi2 := mem_rangeInts hi
    have kT : Tp G mg mb w h3 := T.keeps fun b o e => hk _ _ (F.keep _ _ e)
    have kC2 : CellsIn L cm h3 := cellsIn N C (fun _ h => h) hk
    have hL3 : h3.IsList pl vs.toArray := (News.isList N hm1).at fun o e => hk _ _ e
    repeat' (first | ((try dsimp only); (fail_if_success (with_reducible show wpAny _ _ (subscriptTail _ _ _ _) _ _ _)); walk1))
    obtain ⟨tv, hv⟩ := ints_at hc (k := i) (by omega) (by omega)
    refine item_listL hL3 (by omega) (by omega) hv ?_
    exact ⟨.int _ _, ⟨_, _, rfl, fun _ _ e => e⟩⟩
  · intro D ys n' h' tk F' N' hD hc
    repeat' (first | ((try dsimp only); (fail_if_success (with_reducible show wpAny _ _ (storeName _ _ _) _ _ _)); walk1))
    refine st_cell F' N' C (fun _ h => .tail _ h) (by decide) fun h2 Z' F2 N2 C2 hl => ?_
    dsimp only
    refine h _ _ _ _ F2 N2 C2 (Lasts.trans (Lasts.sub fun _ h => .tail _ h) hl) hD (LI.lasts ⟨_, _, .head _, ?_⟩ hl)
    exact hc
theorem b1 {pl gl sl : Addr} {pk : List Int} {gr sm : List Str} (T : Tp G mg mb w h₀) (F : Fr h₀ L s.heap m) (N : News h₀ L s.heap Z) (C : Cz (csL L) cm Z) (hh : A.handled = none)
    (hd : cm "picked" = some (.ref pl)) (hl : LI Z pl (pk.map .int)) (hg : cm "great" = some (.ref gl)) (hgl : LI Z gl (gr.map .str)) (hgr : gr.length = 7) (hs : cm "small" = some (.ref sl)) (hsl : LI Z sl (sm.map .str)) (hsm : sm.length = 7)
    (h : ∀ h' tk Z' D, Fr h₀ L h' m → News h₀ L h' Z' → Cz (csL L) (upd cm "word" (.ref D)) Z' → Lasts Z Z' → LI Z' D ((rangeInts 1 1 7).map fun i => .str (if pk.contains i || i == 7 then gr.getD (i - 1).toNat ⟨#[]⟩ else sm.getD (i - 1).toNat ⟨#[]⟩)) → Q .next { s with heap := h', toks := tk }) :
    wpAny (model pg w) A (exec (loopS 1) (envL L a cd)) Q E s := by
  conv in (occs := *) (loopS _) => all_goals (unfold loopS loopB lawS fnS; whnf)
  repeat' (first | ((try dsimp only); (fail_if_success (with_reducible show wpAny _ _ (eval (Expr.ListComp _ _ _ _) _) _ _ _)); walk1))
  refine lcR (A := A) (Z := Z) (cl := [("small", cAt L "small"), ("picked", cAt L "picked"), ("great", cAt L "great")]) (a := 1) (b := 8) (n := 7) (fun _ => true) (fun i => .str (if pk.contains i || i == 7 then gr.getD (i - 1).toNat ⟨#[]⟩ else sm.getD (i - 1).toNat ⟨#[]⟩)) hh F N ?_ (by omega) (by omega) (by omega) (by omega) (by omega) ?_ ?_ ?_ (by kernel_rfl) (by decide) (by rfl) (by decide) (by rfl) (fun _ => by rfl)
  · intro Q' hk
    repeat' (first | ((try dsimp only); (fail_if_success (with_reducible show wpAny _ _ (call (Value.type "range") _) _ _ _)); walk1))
    exact rng2 (by assumption) (by assumption) ⟨_, rfl⟩ hk
  · intros; exact test_nil
  · rintro Cx i t ⟨h3, g3, d3, t3, o3⟩ m₃ E' hi hp hNs hx hk
    dsimp only at hNs hk
    have hi2 := mem_rangeInts hi
    have kT : Tp G mg mb w h3 := T.keeps fun b o e => hk _ _ (F.keep _ _ e)
    have kC2 : CellsIn L cm h3 := cellsIn N C (fun _ h => h) hk
    obtain ⟨vs, n0, hm1, hc⟩ := hl
    have hL3 : h3.IsList pl vs.toArray := (News.isList N hm1).at fun o e => hk _ _ e
    repeat' (first | ((try dsimp only); (fail_if_success (with_reducible show wpAny _ _ (subscriptTail _ _ _ _) _ _ _)); walk1))
    · (with_reducible rename CarriedAll _ _ => hc)
      rename_i hq
      rw [hits_contains] at hq
      rw [hq, Bool.true_or, if_pos rfl]
      obtain ⟨vs2, n2, hm2, hc2⟩ := hgl
      obtain ⟨tv, hv⟩ := strs_at hc2 (k := i - 1) (by omega) (by omega)
      refine item_listL ((News.isList N hm2).at fun o e => hk _ _ e) (by omega) (by omega) hv ?_
      exact ⟨.str _ _, ⟨_, _, rfl, fun _ _ e => e⟩⟩
    · (with_reducible rename CarriedAll _ _ => hc)
      rename_i hq hq7
      subst hq7
      rw [show (pk.contains 7 || (7 : Int) == 7) = true by simp, if_pos rfl]
      obtain ⟨vs2, n2, hm2, hc2⟩ := hgl
      obtain ⟨tv, hv⟩ := strs_at hc2 (k := 7 - 1) (by omega) (by omega)
      refine item_listL ((News.isList N hm2).at fun o e => hk _ _ e) (by omega) (by omega) hv ?_
      exact ⟨.str _ _, ⟨_, _, rfl, fun _ _ e => e⟩⟩
    · (with_reducible rename CarriedAll _ _ => hc)
      rename_i hq hq7
      rw [hits_contains] at hq
      rw [hq, Bool.false_or, if_neg (by simpa using hq7)]
      obtain ⟨vs2, n2, hm2, hc2⟩ := hsl
      obtain ⟨tv, hv⟩ := strs_at hc2 (k := i - 1) (by omega) (by omega)
      refine item_listL ((News.isList N hm2).at fun o e => hk _ _ e) (by omega) (by omega) hv ?_
      exact ⟨.str _ _, ⟨_, _, rfl, fun _ _ e => e⟩⟩
  · intro D ys n' h' tk F' N' hD hc
    repeat' (first | ((try dsimp only); (fail_if_success (with_reducible show wpAny _ _ (storeName _ _ _) _ _ _)); walk1))
    refine st_cell F' N' C (fun _ h => .tail _ h) (by decide) fun h2 Z' F2 N2 C2 hl => ?_
    dsimp only
    refine h _ _ _ _ F2 N2 C2 (Lasts.trans (Lasts.sub fun _ h => .tail _ h) hl) (LI.lasts ⟨_, _, .head _, ?_⟩ hl)
    exact hc
theorem b2 {wl : Addr} {wd : List Str} {low : Str → Str} (T : Tp G mg mb w h₀) (F : Fr h₀ L s.heap m) (N : News h₀ L s.heap Z) (C : Cz (csL L) cm Z) (hh : A.handled = none) (hroom : A.depth + 1 < recursionLimit)
    (hd : cm "word" = some (.ref wl)) (hl : LI Z wl (wd.map .str)) (hwl : wd.length = 7) (hlow : ∀ x ∈ wd, ∃ c, x = ⟨#[c]⟩ ∧ Low c (low x))
    (h : ∀ h' tk Z' D, Fr h₀ L h' m → News h₀ L h' Z' → Cz (csL L) (upd cm "folded" (.ref D)) Z' → Lasts Z Z' → LI Z' D (wd.map fun x => .str (low x)) → Q .next { s with heap := h', toks := tk }) :
    wpAny (model pg w) A (exec (loopS 2) (envL L a cd)) Q E s := by
  conv in (occs := *) (loopS _) => all_goals (unfold loopS loopB lawS fnS; whnf)
  repeat' (first | ((try dsimp only); (fail_if_success (with_reducible show wpAny _ _ (eval (Expr.ListComp _ _ _ _) _) _ _ _)); walk1))
  obtain ⟨vs, n0, hm, hc⟩ := hl
  refine lcL (A := A) (Z := Z) (L := L) (h₀ := h₀) (m := m) (cl := []) (as := wd) .str (fun x => .str (low x)) hh ?_ (by omega) ?_ ?_ (by kernel_rfl) (by decide) (by rfl) (by decide) (by rfl) (fun _ => by rfl)
  · intro Q' hk
    repeat' (first | ((try dsimp only); walk1))
    exact hk _ _ _ vs Z (fun _ h => h) (fun _ _ e => e) (by assumption) (by assumption) (News.isList (by assumption) hm) (strsAreOf hc)
  · rintro Cx i _ ⟨h3, g3, d3, t3, o3⟩ m₃ E' hi ⟨t, rfl⟩ hNs hx hk
    dsimp only at hNs hk
    obtain ⟨c, rfl, hlo⟩ := hlow i hi
    have kT : Tp G mg mb w h3 := T.keeps fun b o e => hk _ _ (F.keep _ _ e)
    have kC2 : CellsIn L cm h3 := cellsIn N C (fun _ h => h) hk
    repeat' (first | ((try dsimp only); (fail_if_success (with_reducible show wpAny _ _ (callWith _ _ _ _ _) _ _ _)); walk1))
    (with_reducible rename Tp _ _ _ _ _ => T3)
    refine callWith_fn T3.f_mb ?_
    repeat' (first | ((try dsimp only); walk1))
    refine c_map (mg := mg) (mb := mb) ?_ hroom hh hlo fun h4 tk4 tk4' hx4 => ⟨.str _ _, ⟨_, _, rfl, hx4⟩⟩
    assumption
  · intro D ys n' h' tk Z1 hZ1 F' N' hD hc
    repeat' (first | ((try dsimp only); (fail_if_success (with_reducible show wpAny _ _ (storeName _ _ _) _ _ _)); walk1))
    refine st_cell F' N' C (fun _ h => .tail _ (hZ1 _ h)) (by decide) fun h2 Z' F2 N2 C2 hl => ?_
    dsimp only
    refine h _ _ _ _ F2 N2 C2 (Lasts.trans (Lasts.sub fun _ h => .tail _ (hZ1 _ h)) hl) (LI.lasts ⟨_, _, .head _, ?_⟩ hl)
    exact hc
theorem b3 {fl sl : Addr} {sm : List Str} (T : Tp G mg mb w h₀) (F : Fr h₀ L s.heap m) (N : News h₀ L s.heap Z) (C : Cz (csL L) cm Z) (hh : A.handled = none)
    (hd : cm "folded" = some (.ref fl)) (hfl : LI Z fl (sm.map .str)) (hs : cm "small" = some (.ref sl)) (hsl : LI Z sl (sm.map .str)) (hok : ∀ x ∈ sm, PyData.strOk x = true) (hu : A.units + 64 < cLine)
    (h : ∀ h' tk Z', Fr h₀ L h' m → News h₀ L h' Z' → Cz (csL L) cm Z' → Lasts Z Z' → Q .next { s with heap := h', toks := tk }) :
    wpAny (model pg w) A (exec (loopS 3) (envL L a cd)) Q E s := by
  conv in (occs := *) (loopS _) => all_goals (unfold loopS loopB lawS fnS; whnf)
  obtain ⟨vs, n0, hm, hc⟩ := hfl
  obtain ⟨vs2, n2, hm2, hc2⟩ := hsl
  have hL := News.isList N hm
  have hL2 := News.isList N hm2
  repeat' (first | ((try dsimp only); (fail_if_success (with_reducible show wpAny _ _ (compareOp _ _ _) _ _ _)); walk1))
  refine ne_strs hL hc hL2 hc2 hok hu ?_
  repeat' (first | ((try dsimp only); walk1))
  exact h _ _ Z (by assumption) (by assumption) (by assumption) (Lasts.refl Z)
end
end
section
open PySem PySem.W PyProof.Rows PySem.Calls PySem.Spec
set_option Elab.async false
set_option maxRecDepth 100000
set_option maxHeartbeats 1000000
set_option linter.unusedVariables false
set_option autoImplicit false
variable {G : GA} {mg mb : Str → Option Value} {w : World}
theorem q_len : (Str.ofString "\"").length = 1 := by decide
theorem strs_l : ∀ {vs : List Value} {ts : List Str}, CarriedAll vs (ts.map .str) → ∃ l : List (Str × Tok), vs = strValues l ∧ l.map (·.1) = ts
  | _, [], .nil => ⟨[], rfl, rfl⟩
  | _, x :: r, .cons (.str _ t) h => by
    obtain ⟨l, rfl, e⟩ := strs_l h
    exact ⟨(x, t) :: l, rfl, by rw [List.map_cons, e]⟩
section
variable {A : Around} {E : Value → Shared → Prop} {s : Shared} {h₀ : Heap} {L a : Addr} {cd : Value} {m cm : Str → Option Value} {Z : List (Addr × Obj)} {Q : Flow → Shared → Prop}
theorem b4 {fl wl : Addr} {fd wd : List Str} (T : Tp G mg mb w h₀) (F : Fr h₀ L s.heap m) (N : News h₀ L s.heap Z) (C : Cz (csL L) cm Z) (hh : A.handled = none)
    (hf : cm "folded" = some (.ref fl)) (hfl : LI Z fl (fd.map .str)) (hfd : fd.length = 7) (hw : cm "word" = some (.ref wl)) (hwl : LI Z wl (wd.map .str)) (hwd : wd.length = 7) (hx1 : ∀ x ∈ wd, x.length ≤ 10)
    (h : ∀ h' tk Z' t, Fr h₀ L h' (upd m "lead" (.str (Txt.join (Str.ofString "") ((rangeInts 0 1 7).map fun k => if fd.getD k.toNat ⟨#[]⟩ == wd.getD k.toNat ⟨#[]⟩ then Str.ofString " " else Str.ofString "\t")) t)) → News h₀ L h' Z' → Cz (csL L) cm Z' → Lasts Z Z' → Q .next { s with heap := h', toks := tk }) :
    wpAny (model pg w) A (exec (loopS 4) (envL L a cd)) Q E s := by
  conv in (occs := *) (loopS _) => all_goals (unfold loopS loopB lawS fnS; whnf)
  repeat' (first | ((try dsimp only); (fail_if_success (with_reducible show wpAny _ _ (eval (Expr.ListComp _ _ _ _) _) _ _ _)); walk1))
  refine lcR (A := A) (Z := Z) (cl := [("word", cAt L "word"), ("folded", cAt L "folded")]) (a := 0) (b := 7) (n := 7) (fun _ => true) (fun k => .str (if fd.getD k.toNat ⟨#[]⟩ == wd.getD k.toNat ⟨#[]⟩ then Str.ofString " " else Str.ofString "\t")) hh F N ?_ (by omega) (by omega) (by omega) (by omega) (by omega) ?_ ?_ ?_ (by kernel_rfl) (by decide) (by rfl) (by decide) (by rfl) (fun _ => by rfl)
  · intro Q' hk
    repeat' (first | ((try dsimp only); (fail_if_success (with_reducible show wpAny _ _ (call (Value.type "range") _) _ _ _)); walk1))
    exact rng1 (by assumption) (by assumption) ⟨_, rfl⟩ hk
  · intros; exact test_nil
  · rintro Cx i t ⟨h3, g3, d3, t3, o3⟩ m₃ E' hi hp hNs hx hk
    dsimp only at hNs hk
    have hi2 := mem_rangeInts hi
    have kT : Tp G mg mb w h3 := T.keeps fun b o e => hk _ _ (F.keep _ _ e)
    have kC2 : CellsIn L cm h3 := cellsIn N C (fun _ h => h) hk
    obtain ⟨vf, nf, hmf, hcf⟩ := hfl
    obtain ⟨vw, nw, hmw, hcw⟩ := hwl
    obtain ⟨tf, hvf⟩ := strs_at hcf (k := i) (by omega) (by omega)
    obtain ⟨tw, hvw⟩ := strs_at hcw (k := i) (by omega) (by omega)
    have hlen : (wd.getD i.toNat ⟨#[]⟩).length ≤ 10 := by
      have hk7 : i.toNat < wd.length := by omega
      rw [List.getD_eq_getElem?_getD, List.getElem?_eq_getElem hk7]
      exact hx1 _ (List.getElem_mem hk7)
    generalize fd.getD i.toNat ⟨#[]⟩ = fx at hvf ⊢
    generalize wd.getD i.toNat ⟨#[]⟩ = wx at hvw hlen ⊢
    repeat' (first | ((try dsimp only); (fail_if_success (with_reducible show wpAny _ _ (subscriptTail _ _ _ _) _ _ _)); walk1))
    refine item_listL ((News.isList N hmf).at fun o e => hk _ _ e) (by omega) (by omega) hvf ?_
    repeat' (first | ((try dsimp only); (fail_if_success (with_reducible show wpAny _ _ (subscriptTail _ _ _ _) _ _ _)); walk1))
    refine item_listL ((News.isList N hmw).at fun o e => hk _ _ e) (by omega) (by omega) hvw ?_
    repeat' (first | ((try dsimp only); (fail_if_success (with_reducible show wpAny _ _ (subscriptTail _ _ _ _) _ _ _)); walk1))
    · rename_i hq
      rw [if_pos hq]
      exact .str _ _
    · exact ⟨_, _, rfl, fun _ _ e => e⟩
    · rename_i hq
      rw [if_neg (by rw [hq]; exact Bool.false_ne_true)]
      exact .str _ _
    · exact ⟨_, _, rfl, fun _ _ e => e⟩
  · intro D ys n' h' tk F' N' hD hc
    rw [List.filter_eq_self.mpr (fun _ _ => rfl)] at hc
    obtain ⟨l, rfl, hl⟩ := strs_l (ts := (rangeInts 0 1 7).map fun k => if fd.getD k.toNat ⟨#[]⟩ == wd.getD k.toNat ⟨#[]⟩ then Str.ofString " " else Str.ofString "\t") (by rw [List.map_map]; exact hc)
    repeat' (first | ((try dsimp only); (fail_if_success (with_reducible show wpAny _ _ (call (Value.builtin "str.join") _) _ _ _)); walk1))
    (with_reducible rename Fr _ _ _ _ => F2)
    (with_reducible rename News _ _ _ _ => N2)
    (with_reducible rename Cz _ _ _ => C2)
    refine SC.join (News.isList N2 (.head _)) hl (join0 ?_ (by rw [List.length_map, rangeInts_length]; decide)) fun t9 k9 => ?_
    · intro y hy
      obtain ⟨k, hk, rfl⟩ := List.mem_map.mp hy
      have hk2 := mem_rangeInts hk
      have hlen : (wd.getD k.toNat ⟨#[]⟩).length ≤ 10 := by
        have hk7 : k.toNat < wd.length := by omega
        rw [List.getD_eq_getElem?_getD, List.getElem?_eq_getElem hk7]
        exact hx1 _ (List.getElem_mem hk7)
      try dsimp only
      split
      · decide
      · decide
    refine st_loc F2 N2 (by kernel_rfl) fun h5 F5 N5 => ?_
    exact h _ _ _ _ F5 N5 (C2.sub fun _ h => .tail _ h) (Lasts.sub fun _ h => .tail _ h)
theorem b5 {fl wl : Addr} {fd wd : List Str} (T : Tp G mg mb w h₀) (F : Fr h₀ L s.heap m) (N : News h₀ L s.heap Z) (C : Cz (csL L) cm Z) (hh : A.handled = none)
    (hf : cm "folded" = some (.ref fl)) (hfl : LI Z fl (fd.map .str)) (hfd : fd.length = 7) (hw : cm "word" = some (.ref wl)) (hwl : LI Z wl (wd.map .str)) (hwd : wd.length = 7) (hx1 : ∀ x ∈ wd, x.length ≤ 10)
    (h : ∀ h' tk Z' t, Fr h₀ L h' (upd m "text" (.str (Txt.join (Str.ofString "") ((rangeInts 0 1 7).map fun k => if fd.getD k.toNat ⟨#[]⟩ == wd.getD k.toNat ⟨#[]⟩ then wd.getD k.toNat ⟨#[]⟩ else Str.ofString "\"" ++ wd.getD k.toNat ⟨#[]⟩)) t)) → News h₀ L h' Z' → Cz (csL L) cm Z' → Lasts Z Z' → Q .next { s with heap := h', toks := tk }) :
    wpAny (model pg w) A (exec (loopS 5) (envL L a cd)) Q E s := by
  conv in (occs := *) (loopS _) => all_goals (unfold loopS loopB lawS fnS; whnf)
  repeat' (first | ((try dsimp only); (fail_if_success (with_reducible show wpAny _ _ (eval (Expr.ListComp _ _ _ _) _) _ _ _)); walk1))
  refine lcR (A := A) (Z := Z) (cl := [("word", cAt L "word"), ("folded", cAt L "folded")]) (a := 0) (b := 7) (n := 7) (fun _ => true) (fun k => .str (if fd.getD k.toNat ⟨#[]⟩ == wd.getD k.toNat ⟨#[]⟩ then wd.getD k.toNat ⟨#[]⟩ else Str.ofString "\"" ++ wd.getD k.toNat ⟨#[]⟩)) hh F N ?_ (by omega) (by omega) (by omega) (by omega) (by omega) ?_ ?_ ?_ (by kernel_rfl) (by decide) (by rfl) (by decide) (by rfl) (fun _ => by rfl)
  · intro Q' hk
    repeat' (first | ((try dsimp only); (fail_if_success (with_reducible show wpAny _ _ (call (Value.type "range") _) _ _ _)); walk1))
    exact rng1 (by assumption) (by assumption) ⟨_, rfl⟩ hk
  · intros; exact test_nil
  · rintro Cx i t ⟨h3, g3, d3, t3, o3⟩ m₃ E' hi hp hNs hx hk
    dsimp only at hNs hk
    have hi2 := mem_rangeInts hi
    have kT : Tp G mg mb w h3 := T.keeps fun b o e => hk _ _ (F.keep _ _ e)
    have kC2 : CellsIn L cm h3 := cellsIn N C (fun _ h => h) hk
    obtain ⟨vf, nf, hmf, hcf⟩ := hfl
    obtain ⟨vw, nw, hmw, hcw⟩ := hwl
    obtain ⟨tf, hvf⟩ := strs_at hcf (k := i) (by omega) (by omega)
    obtain ⟨tw, hvw⟩ := strs_at hcw (k := i) (by omega) (by omega)
    have hlen : (wd.getD i.toNat ⟨#[]⟩).length ≤ 10 := by
      have hk7 : i.toNat < wd.length := by omega
      rw [List.getD_eq_getElem?_getD, List.getElem?_eq_getElem hk7]
      exact hx1 _ (List.getElem_mem hk7)
    generalize fd.getD i.toNat ⟨#[]⟩ = fx at hvf ⊢
    generalize wd.getD i.toNat ⟨#[]⟩ = wx at hvw hlen ⊢
    repeat' (first | ((try dsimp only); (fail_if_success (with_reducible show wpAny _ _ (subscriptTail _ _ _ _) _ _ _)); walk1))
    refine item_listL ((News.isList N hmf).at fun o e => hk _ _ e) (by omega) (by omega) hvf ?_
    repeat' (first | ((try dsimp only); (fail_if_success (with_reducible show wpAny _ _ (subscriptTail _ _ _ _) _ _ _)); walk1))
    refine item_listL ((News.isList N hmw).at fun o e => hk _ _ e) (by omega) (by omega) hvw ?_
    repeat' (first | ((try dsimp only); (fail_if_success (with_reducible show wpAny _ _ (subscriptTail _ _ _ _) _ _ _)); walk1))
    · rename_i hq
      refine item_listL ((News.isList N hmw).at fun o e => hk _ _ e) (by omega) (by omega) hvw ?_
      rw [if_pos hq]
      exact ⟨.str _ _, ⟨_, _, rfl, fun _ _ e => e⟩⟩
    · rename_i hq
      refine item_listL ((News.isList N hmw).at fun o e => hk _ _ e) (by omega) (by omega) hvw ?_
      rw [if_neg (by rw [hq]; exact Bool.false_ne_true)]
      repeat' (first | ((try dsimp only); walk1))
      · exact .str _ _
      · exact ⟨_, _, rfl, fun _ _ e => e⟩
  · intro D ys n' h' tk F' N' hD hc
    rw [List.filter_eq_self.mpr (fun _ _ => rfl)] at hc
    obtain ⟨l, rfl, hl⟩ := strs_l (ts := (rangeInts 0 1 7).map fun k => if fd.getD k.toNat ⟨#[]⟩ == wd.getD k.toNat ⟨#[]⟩ then wd.getD k.toNat ⟨#[]⟩ else Str.ofString "\"" ++ wd.getD k.toNat ⟨#[]⟩) (by rw [List.map_map]; exact hc)
    repeat' (first | ((try dsimp only); (fail_if_success (with_reducible show wpAny _ _ (call (Value.builtin "str.join") _) _ _ _)); walk1))
    (with_reducible rename Fr _ _ _ _ => F2)
    (with_reducible rename News _ _ _ _ => N2)
    (with_reducible rename Cz _ _ _ => C2)
    refine SC.join (News.isList N2 (.head _)) hl (join0 ?_ (by rw [List.length_map, rangeInts_length]; decide)) fun t9 k9 => ?_
    · intro y hy
      obtain ⟨k, hk, rfl⟩ := List.mem_map.mp hy
      have hk2 := mem_rangeInts hk
      have hlen : (wd.getD k.toNat ⟨#[]⟩).length ≤ 10 := by
        have hk7 : k.toNat < wd.length := by omega
        rw [List.getD_eq_getElem?_getD, List.getElem?_eq_getElem hk7]
        exact hx1 _ (List.getElem_mem hk7)
      try dsimp only
      split
      · omega
      · rw [Str.length_append, q_len]; omega
    refine st_loc F2 N2 (by kernel_rfl) fun h5 F5 N5 => ?_
    exact h _ _ _ _ F5 N5 (C2.sub fun _ h => .tail _ h) (Lasts.sub fun _ h => .tail _ h)
end
end
section
open PySem PySem.W PyProof.Rows PySem.Calls PySem.Spec
set_option Elab.async false
set_option maxRecDepth 100000
set_option maxHeartbeats 1000000
set_option linter.unusedVariables false
set_option autoImplicit false
variable {G : GA} {mg mb : Str → Option Value} {w : World}
/-- a list comprehension over a list, without tests, the iterable made on the way -/
theorem lcL2 {w : World} {A : Around} {E : Value → Shared → Prop} {s : Shared} {h₀ : Heap} {L : Addr} {m : Str → Option Value} {env : Env} {Z : List (Addr × Obj)} {α : Type} (K : ItemKind α) {elt iter : PySem.Expr} {x : Str} {px : Pos} {scope : Scope} {cl : List (Str × Addr)} {pos : Pos} {Q : Value → Shared → Prop} {as : List α} (d : α → PyData)
    (hh : A.handled = none) 
    (hiter : ∀ Q' : Value → Shared → Prop, (∀ I tk h' vs Z', (∀ p ∈ Z, p ∈ Z') → Fr h₀ L h' m → News h₀ L h' Z' → h'.IsList I vs.toArray → AreOf K vs as → Q' (.ref I) { s with heap := h', toks := tk }) → wpAny (model pg w) A (eval iter env) Q' E s)
    (hlen : as.length ≤ 10000)
    (he : ∀ C i v s₂ m₂ E' hI Z', (∀ p ∈ Z, p ∈ Z') → Fr h₀ L hI m → News h₀ L hI Z' → i ∈ as → K.is i v → s₂.heap.Ns (compEnvC scope cl C env).locals m₂ → m₂ x = some v → Ext hI s₂.heap →
      wpAny (model pg w) A (eval elt (compEnvC scope cl C env)) (fun y s₃ => Carried y (d i) ∧ Keeps s₂ s₃) E' s₂)
    (hQ : ∀ D ys n' h' tk Z', (∀ p ∈ Z, p ∈ Z') → Fr h₀ L h' m → News h₀ L h' ((D, W.listOf ys.toArray n') :: Z') → (∀ p ∈ Z', p.1 ≠ D) → CarriedAll ys (as.map d) → Q (.ref D) { s with heap := h', toks := tk })
    (hclos : closureFor scope env = pure cl) (hcell : ∀ y ∈ scope.names, y.2 ≠ .cell) (hkind : scope.kind = .function)
    (hnames : ∀ y ∈ scope.names, y.2 = .local → scope.names.lookup y.1 = some .local) (hx : scope.names.lookup x = some .local) (hs : ∀ x, foldedSetIterable iter env x = pure x) :
    wpAny (model pg w) A (eval (.ListComp elt [⟨.Name x px, iter, [], 0⟩] scope pos) env) Q E s := by
  refine ListComp_DCn (K := K) (h₀ := h₀) (L := L) (m := m) (cl := cl) (pz := fun _ => true) (d := d) hh hclos hcell hkind hnames hx (hiter _ fun I tk h' vs Z' hZ F' N' hl hi => ?_) hs
  refine ⟨Z', I, vs, as, rfl, hl, hi, Nat.le_trans hlen (by decide), F', N', ?_, ?_, ?_⟩
  · intro C i v s₂ m₂ E' hC hia hv hNs hx2 hk
    rw [List.forIn_nil]
    exact wpAny_pure ⟨rfl, ⟨_, _, rfl, fun _ _ e => e⟩⟩
  · intro C i v s₂ m₂ E' hC hia hv hp hNs hx2 hk
    exact he C i v s₂ m₂ E' h' Z' hZ F' N' hia hv hNs hx2 hk
  · intro D ys h2 tk2 F2 N2 hD hl hnp hc
    obtain ⟨n', e⟩ := hnp.1
    have hDL := hnp.ne_locals F2
    refine hQ D ys n' h2 tk2 Z' hZ F2 (fun p hp => ?_) hnp.2 (by rw [List.filter_eq_self.mpr (fun _ _ => rfl)] at hc; exact hc)
    rcases List.mem_cons.mp hp with rfl | hp
    · exact ⟨e, hDL, hD⟩
    · exact N2 p hp
theorem carried_strs : ∀ l : List (Str × Tok), CarriedAll (strValues l) ((l.map (·.1)).map .str)
  | [] => .nil
  | (x, t) :: r => .cons (.str x t) (carried_strs r)
theorem bsum_sum : ∀ qs : List Nat, (qs.map fun q => ((2 : Int) ^ q)).sum = ((bsum qs : Nat) : Int)
  | [] => rfl
  | q :: r => by
    rw [List.map_cons, List.sum_cons, bsum_sum r]
    show _ = ((2 ^ q + bsum r : Nat) : Int)
    rw [Int.natCast_add, Int.natCast_pow]
    rfl
section
variable {A : Around} {E : Value → Shared → Prop} {s : Shared} {h₀ : Heap} {L a : Addr} {cd : Value} {m cm : Str → Option Value} {Z : List (Addr × Obj)} {Q : Flow → Shared → Prop}
theorem b6 {pl : Addr} {pk : List Int} {base : Nat} {tb : Tok} {ps : List Nat} (T : Tp G mg mb w h₀) (F : Fr h₀ L s.heap m) (N : News h₀ L s.heap Z) (C : Cz (csL L) cm Z) (hh : A.handled = none) (hroom : A.depth + 1 < recursionLimit)
    (hd : cm "picked" = some (.ref pl)) (hl : LI Z pl (pk.map .int)) (hpk : ∀ p ∈ pk, 1 ≤ p ∧ p ≤ 7) (hpl : pk.length ≤ 6) (hb : cm "base" = some (.int (base : Nat) tb)) (hb26 : base < 26)
    (hps : (pk ++ [7]).map (fun p => ((base : Int) + p - 1).toNat) = ps) (hasc : Asc 0 ps) (hlt : ∀ p ∈ ps, p < 32) (hsp : Txt.split (Txt.join (Str.ofString ", ") (ps.map wordP)) (Str.ofString ", ") = ps.map wordP) (hjl : (Txt.join (Str.ofString ", ") (ps.map wordP)).length ≤ 10000)
    (h : ∀ h' tk Z' D, Fr h₀ L h' (upd m "words" (.ref D)) → News h₀ L h' Z' → Cz (csL L) cm Z' → Lasts Z Z' → LI Z' D ((ps.map wordP).map .str) → Q .next { s with heap := h', toks := tk }) :
    wpAny (model pg w) A (exec (loopS 6) (envL L a cd)) Q E s := by
  conv in (occs := *) (loopS _) => all_goals (unfold loopS loopB lawS fnS; whnf)
  obtain ⟨vs, n0, hm, hc⟩ := hl
  have hvl : vs.length = pk.length := by have := hc.length_eq; simpa using this
  repeat' (first | ((try dsimp only); (fail_if_success (with_reducible show wpAny _ _ (eval (Expr.ListComp _ _ _ _) _) _ _ _)); walk1))
  (with_reducible rename Tp _ _ _ _ _ => T)
  (with_reducible rename Fr _ _ _ _ => F)
  (with_reducible rename News _ _ _ _ => N)
  (with_reducible rename Cz _ _ _ => C)
  refine lcL2 (A := A) (Z := Z) (L := L) (h₀ := h₀) (m := m) (cl := [("base", cAt L "base")]) (as := pk ++ [7]) .int (fun p => .int (2 ^ ((base : Int) + p - 1).toNat)) hh ?_ (by simp; omega) ?_ ?_ (by kernel_rfl) (by decide) (by rfl) (by decide) (by rfl) (fun _ => by rfl)
  · intro Q' hk
    repeat' (first | ((try dsimp only); (fail_if_success (with_reducible show wpAny _ _ (binaryOp _ _ _) _ _ _)); walk1))
    (with_reducible rename Fr _ _ _ _ => F2)
    (with_reducible rename News _ _ _ _ => N2)
    have h100 : (100 : Nat) ≤ sizeLine := by decide
    refine add_arrays' F2 N2 (News.isList N2 (.tail _ hm)) (News.isList N2 (.head _)) (by simp; omega) ?_
    intro D h' hlt' F' N'
    refine hk D _ h' _ _ (fun _ h => .tail _ (.tail _ h)) F' N' (News.isList N' (.head _)) ?_
    exact areInts (by rw [List.map_append]; exact CarriedAll.appendLM hc (.cons (.int _ _) .nil))
  · rintro Cx i _ ⟨h3, g3, d3, t3, o3⟩ m₃ E' hI ZI hZI FI NI hi ⟨t, rfl⟩ hNs hx hk
    dsimp only at hNs hk
    have kT : Tp G mg mb w h3 := T.keeps fun b o e => hk _ _ (FI.keep _ _ e)
    have kC2 : CellsIn L cm h3 := cellsIn NI C hZI hk
    have hip : 1 ≤ i ∧ i ≤ 7 := by
      rcases List.mem_append.mp hi with h | h
      · exact hpk i h
      · rw [List.mem_singleton.mp h]; decide
    repeat' (first | ((try dsimp only); walk1))
    · exact .int _ _
    · exact ⟨_, _, rfl, fun _ _ e => e⟩
  · intro D ys n' h' tk Z1 hZ1 F' N' hD hc2
    repeat' (first | ((try dsimp only); (fail_if_success (with_reducible show wpAny _ _ (call (Value.builtin "sum") _) _ _ _)); walk1))
    have hcs : CarriedAll ys (((pk ++ [7]).map fun p => (2 : Int) ^ ((base : Int) + p - 1).toNat).map .int) := by rw [List.map_map]; exact hc2
    have hsum : ((pk ++ [7]).map fun p => (2 : Int) ^ ((base : Int) + p - 1).toNat).sum = ((bsum ps : Nat) : Int) := by
      rw [← bsum_sum, ← hps, List.map_map]
      rfl
    refine sum_ix hh (News.isList N' (.head _)) (IntsAre.ofCarried hcs) fun h2 tk2 t2 hx2 => ?_
    rw [hsum]
    have F2 := F'.keeps hx2
    have N2 := N'.grown hx2
    clear F' N'
    repeat' (first | ((try dsimp only); (fail_if_success (with_reducible show wpAny _ _ (call (.ref _) _) _ _ _)); walk1))
    (with_reducible rename Tp _ _ _ _ _ => T2)
    (with_reducible rename Fr _ _ _ _ => F2)
    (with_reducible rename News _ _ _ _ => N2)
    have hne : ps ≠ [] := by rw [← hps]; simp
    refine c_pf (mg := mg) (mb := mb) (T2.keeps F2.keep) hroom hh hasc hne hlt fun h3 tk3 tk3' hx3 => ?_
    have F3 := F2.keeps hx3
    have N3 := N2.grown hx3
    clear F2 N2
    repeat' (first | ((try dsimp only); (fail_if_success (with_reducible show wpAny _ _ (call (Value.builtin "str.split") _) _ _ _)); walk1))
    (with_reducible rename Cz _ _ _ => C3)
    have h16 : (16384 : Nat) ≤ sizeLine := by decide
    refine splitN1 F3 N3 (by decide) ?_ (by omega)
    intro l h4 k4 hl4 F4 N4
    rw [hsp] at hl4
    refine st_loc F4 N4 (by kernel_rfl) fun h5 F5 N5 => ?_
    refine h _ _ _ _ F5 N5 (C3.sub fun _ h => .tail _ (.tail _ (hZ1 _ h))) (Lasts.sub fun _ h => .tail _ (.tail _ (hZ1 _ h))) ⟨_, _, .head _, ?_⟩
    rw [← hl4]
    exact carried_strs l
theorem b7 {wl pl : Addr} {pk : List Int} {base : Nat} {tb : Tok} {ps : List Nat} (T : Tp G mg mb w h₀) (F : Fr h₀ L s.heap m) (N : News h₀ L s.heap Z) (C : Cz (csL L) cm Z) (hh : A.handled = none) (hroom : A.depth + 1 < recursionLimit) (hu : A.units + 64 < cLine)
    (hw : m "words" = some (.ref wl)) (hwl : LI Z wl ((ps.map wordP).map .str))
    (hd : cm "picked" = some (.ref pl)) (hl : LI Z pl (pk.map .int)) (hpk : ∀ p ∈ pk, 1 ≤ p ∧ p ≤ 7) (hpl : pk.length ≤ 6) (hb : cm "base" = some (.int (base : Nat) tb)) (hb26 : base < 26)
    (hps : (pk ++ [7]).map (fun p => ((base : Int) + p - 1).toNat) = ps) (hlt : ∀ p ∈ ps, p < 32) (hok : ∀ x ∈ ps.map wordP, PyData.strOk x = true)
    (h : ∀ h' tk Z', Fr h₀ L h' m → News h₀ L h' Z' → Cz (csL L) cm Z' → Lasts Z Z' → Q .next { s with heap := h', toks := tk }) :
    wpAny (model pg w) A (exec (loopS 7) (envL L a cd)) Q E s := by
  conv in (occs := *) (loopS _) => all_goals (unfold loopS loopB lawS fnS; whnf)
  obtain ⟨vs, n0, hm, hc⟩ := hl
  obtain ⟨vw, nw, hmw, hcw⟩ := hwl
  have hvl : vs.length = pk.length := by have := hc.length_eq; simpa using this
  repeat' (first | ((try dsimp only); (fail_if_success (with_reducible show wpAny _ _ (eval (Expr.ListComp _ _ _ _) _) _ _ _)); walk1))
  (with_reducible rename Tp _ _ _ _ _ => T)
  (with_reducible rename Fr _ _ _ _ => F)
  (with_reducible rename News _ _ _ _ => N)
  (with_reducible rename Cz _ _ _ => C)
  refine lcL2 (A := A) (Z := Z) (L := L) (h₀ := h₀) (m := m) (cl := [("base", cAt L "base")]) (as := pk ++ [7]) .int (fun p => .str (wordP ((base : Int) + p - 1).toNat)) hh ?_ (by simp; omega) ?_ ?_ (by kernel_rfl) (by decide) (by rfl) (by decide) (by rfl) (fun _ => by rfl)
  · intro Q' hk
    repeat' (first | ((try dsimp only); (fail_if_success (with_reducible show wpAny _ _ (binaryOp _ _ _) _ _ _)); walk1))
    (with_reducible rename Fr _ _ _ _ => F2)
    (with_reducible rename News _ _ _ _ => N2)
    have h100 : (100 : Nat) ≤ sizeLine := by decide
    refine add_arrays' F2 N2 (News.isList N2 (.tail _ hm)) (News.isList N2 (.head _)) (by simp; omega) ?_
    intro D h' hlt' F' N'
    refine hk D _ h' _ _ (fun _ h => .tail _ (.tail _ h)) F' N' (News.isList N' (.head _)) ?_
    exact areInts (by rw [List.map_append]; exact CarriedAll.appendLM hc (.cons (.int _ _) .nil))
  · rintro Cx i _ ⟨h3, g3, d3, t3, o3⟩ m₃ E' hI ZI hZI FI NI hi ⟨t, rfl⟩ hNs hx hk
    dsimp only at hNs hk
    have kT : Tp G mg mb w h3 := T.keeps fun b o e => hk _ _ (FI.keep _ _ e)
    have kC2 : CellsIn L cm h3 := cellsIn NI C hZI hk
    have hin : ((base : Int) + i - 1).toNat ∈ ps := by rw [← hps]; exact List.mem_map_of_mem hi
    have hip : 1 ≤ i ∧ i ≤ 7 := by
      rcases List.mem_append.mp hi with h | h
      · exact hpk i h
      · rw [List.mem_singleton.mp h]; decide
    repeat' (first | ((try dsimp only); (fail_if_success (with_reducible show wpAny _ _ (callWith _ _ _ _ _) _ _ _)); walk1))
    (with_reducible rename Tp _ _ _ _ _ => T3)
    refine callWith_fn T3.f_lw ?_
    repeat' (first | ((try dsimp only); walk1))
    have e : ((base : Int) + i - 1) = ((((base : Int) + i - 1).toNat : Nat) : Int) := by omega
    have hlw := hlt _ hin
    generalize ((base : Int) + i - 1).toNat = n at e hin hlw ⊢
    rw [e]
    refine c_lw (mg := mg) (mb := mb) ?_ hroom hh hlw fun h4 tk4 tk4' hx4 => ⟨.str _ _, ⟨_, _, rfl, hx4⟩⟩
    assumption
  · intro D ys n' h' tk Z1 hZ1 F' N' hD hc2
    have hcs : CarriedAll ys ((ps.map wordP).map .str) := by
      rw [← hps, List.map_map, List.map_map]; exact hc2
    refine ne_strs (News.isList N' (.tail _ (hZ1 _ hmw))) hcw (News.isList N' (.head _)) hcs hok hu ?_
    repeat' (first | ((try dsimp only); walk1))
    exact h _ _ _ (by assumption) (by assumption) (C.sub fun _ h => .tail _ (hZ1 _ h)) (Lasts.sub fun _ h => .tail _ (hZ1 _ h))
theorem b8 {x : Str} {tx : Tok} (T : Tp G mg mb w h₀) (F : Fr h₀ L s.heap m) (N : News h₀ L s.heap Z) (C : Cz (csL L) cm Z) (hh : A.handled = none) (hroom : A.depth + 3 < recursionLimit)
    (ht : m "text" = some (.str x tx)) (hxl : x.length ≤ 50) {y z : Str} (hy0 : x ++ Str.ofString "(\"" = y) (hbs : ∀ (i c : Nat), y.cps[i]? = some c → c ≠ 92) (hq : (Builtin.Str.occurrences y (Str.ofString "\"") 0 y.length 1).isEmpty = false)
    (hy : stripF y = z) (hyz : z.cps.size < 1000) (hys : ∀ (i c : Nat), z.cps[i]? = some c → c ≠ 92 ∧ c ≠ 41)
    (h : ∀ h' tk Z', Fr h₀ L h' (upd m "taken" (.bool (opN z z.cps.size == 0))) → News h₀ L h' Z' → Cz (csL L) cm Z' → Lasts Z Z' → Q .next { s with heap := h', toks := tk, gens := (s.gens.push .finished).push .finished }) :
    wpAny (model pg w) A (exec (loopS 8) (envL L a cd)) Q E s := by
  conv in (occs := *) (loopS _) => all_goals (unfold loopS loopB lawS fnS; whnf)
  repeat' (first | ((try dsimp only); (fail_if_success (with_reducible show wpAny _ _ (call (.ref _) _) _ _ _)); walk1))
  rw [hy0]
  (with_reducible rename Tp _ _ _ _ _ => T)
  (with_reducible rename Fr _ _ _ _ => F)
  (with_reducible rename News _ _ _ _ => N)
  (with_reducible rename Cz _ _ _ => C)
  have hyl : y.cps.size < 100 := by
    have h2 : (Str.ofString "(\"").length = 2 := by decide
    have h3 : y.length = x.length + 2 := by rw [← hy0, Str.length_append, h2]
    have h4 : y.length = y.cps.size := rfl
    omega
  refine c_cp (mg := mg) (mb := mb) (T.keeps F.keep) hroom hh hbs hyl hq hy hyz hys fun h2 tk2 hx2 => ?_
  refine st_loc (F.keeps hx2) (N.grown hx2) (by kernel_rfl) fun h5 F5 N5 => ?_
  exact h _ _ _ F5 N5 C (Lasts.refl Z)
theorem b9 {wl : Addr} {ps : List Str} {b : Bool} (T : Tp G mg mb w h₀) (F : Fr h₀ L s.heap m) (N : News h₀ L s.heap Z) (C : Cz (csL L) cm Z) (hh : A.handled = none)
    (hw : m "words" = some (.ref wl)) (hwl : LI Z wl (ps.map .str)) (hps : ps.length ≤ 10) (ht : m "taken" = some (.bool b)) (hb : b = (ps.length % 2 == 1))
    (h : ∀ h' tk Z', Fr h₀ L h' m → News h₀ L h' Z' → Cz (csL L) cm Z' → Lasts Z Z' → Q .next { s with heap := h', toks := tk }) :
    wpAny (model pg w) A (exec (loopS 9) (envL L a cd)) Q E s := by
  conv in (occs := *) (loopS _) => all_goals (unfold loopS loopB lawS fnS; whnf)
  obtain ⟨vs, n0, hm, hc⟩ := hwl
  have hvl : vs.length = ps.length := by have := hc.length_eq; simpa using this
  repeat' (first | ((try dsimp only); (fail_if_success (with_reducible show wpAny _ _ (call (Value.builtin "len") _) _ _ _)); walk1))
  (with_reducible rename Fr _ _ _ _ => F)
  (with_reducible rename News _ _ _ _ => N)
  refine len_list (News.isList N hm) (by simp; omega) ?_
  repeat' (first | ((try dsimp only); walk1))
  · rename_i hne
    exfalso
    have e : (vs.toArray.size : Int).fmod 2 = ((ps.length % 2 : Nat) : Int) := by
      rw [Int.fmod_eq_emod_of_nonneg _ (by decide)]; simp [hvl]
    rw [e, hb] at hne
    have e2 : (((ps.length % 2 : Nat) : Int) == 1) = (ps.length % 2 == 1) := by
      have : ps.length % 2 = 0 ∨ ps.length % 2 = 1 := by omega
      rcases this with q | q <;> rw [q] <;> rfl
    rw [e2] at hne
    simp at hne
  · exact h _ _ Z (by assumption) (by assumption) (by assumption) (Lasts.refl Z)
end
end
section
open PySem PySem.W PyProof.Rows PySem.Calls PySem.Spec PyProof PyProof.V PySem.SeqAt
set_option Elab.async false
set_option maxRecDepth 100000
set_option maxHeartbeats 1000000
set_option linter.unusedVariables false
set_option autoImplicit false
variable {G : GA} {mg mb : Str → Option Value} {w : World}
theorem wtxt_app (a b : List Bool) : wtxt a ++ wtxt b = wtxt (a ++ b) := by
  apply Str.ext'
  rw [Str.cps_append]
  simp [wtxt]
section
variable {A : Around} {E : Value → Shared → Prop} {s : Shared} {h₀ : Heap} {L a : Addr} {cd : Value} {m cm : Str → Option Value} {Z : List (Addr × Obj)} {Q : Flow → Shared → Prop}
theorem b10 {bs : List Bool} {tl tt : Tok} {total : Int} (T : Tq G mg mb w h₀) (F : Fr h₀ L s.heap m) (N : News h₀ L s.heap Z) (C : Cz (csL L) cm Z) (hh : A.handled = none) (hroom : A.depth + 2 < recursionLimit)
    (hl : m "lead" = some (.str (wtxt bs) tl)) (hbs : bs.length = 7) (htot : cm "total" = some (.int total tt)) (h0 : 0 ≤ total)
    (h : ∀ h' tk Z' x, Fr h₀ L h' m → News h₀ L h' Z' → Cz (csL L) (upd cm "typed" (.ref x)) Z' → Lasts Z Z' → WZ w Z' x (wrun (bs ++ List.replicate (total % 3).toNat false)) → Q .next { s with heap := h', toks := tk }) :
    wpAny (model pg w) A (exec (loopS 10) (envL L a cd)) Q E s := by
  conv in (occs := *) (loopS _) => all_goals (unfold loopS loopB lawS fnS; whnf)
  have TP := T.tp
  have hwl : (wtxt bs).length = 7 := by
    show (wtxt bs).cps.size = 7
    simp [wtxt, hbs]
  repeat' (first | ((try dsimp only); (fail_if_success (with_reducible show wpAny _ _ (callWith _ _ _ _ _) _ _ _)); walk1))
  (with_reducible rename Fr _ _ _ _ => F)
  (with_reducible rename News _ _ _ _ => N)
  (with_reducible rename Cz _ _ _ => C)
  rw [T.ws]
  refine callWith_K (T.k.keeps F.keep) (show keepIn (KF w.params) (.ref 83) = true by kernel_rfl) ?_
  repeat' (first | ((try dsimp only); (fail_if_success (with_reducible show wpAny _ _ (binaryOp .Mult _ _) _ _ _)); walk1))
  rw [Int.fmod_eq_emod_of_nonneg _ (by decide)]
  (with_reducible rename Fr _ _ _ _ => F)
  (with_reducible rename News _ _ _ _ => N)
  (with_reducible rename Cz _ _ _ => C)
  have hr : total % 3 = 0 ∨ total % 3 = 1 ∨ total % 3 = 2 := by omega
  have fin : ∀ (n : Nat) (y : Str) (t9 : Tok) (s9 : Shared), (∃ tk, s9 = { s with toks := tk }) → y = wtxt (bs ++ List.replicate n false) → n < 3 → n = (total % 3).toNat → wpAny (model pg w) A (call (.ref 83) [.str y t9]) (fun v s₁ => wpAny (model pg w) A (storeName (envL L a cd) (Str.ofString "typed") v) (fun x => Q Flow.next) E s₁) E s9 := by
    rintro n y t9 s9 ⟨tk, rfl⟩ rfl hn he
    have TT := T.keeps F.keep
    rw [← T.ws]
    refine c_ws (mg := mg) (mb := mb) TT hroom hh (bs ++ List.replicate n false) rfl (by simp; omega) fun h2 tk2 x ZW hx hZW hW => ?_
    dsimp only at hx hZW
    have F2 := F.keeps hx
    obtain ⟨oL, hoL⟩ : ∃ o, s.heap.get? L = some o := by
      obtain ⟨oL, es, ep, hL, r⟩ := F.ns
      exact ⟨oL, hL⟩
    have N2 : News h₀ L h2 (ZW ++ Z) := by
      refine news_cat (fun p hp => ⟨(hZW p hp).1, fun q => ?_, ?_⟩) (N.grown hx)
      · have := (hZW p hp).2
        rw [q, hoL] at this
        cases this
      · cases e : h₀.get? p.1 with
        | none => rfl
        | some o =>
          have := (hZW p hp).2
          rw [F.keep _ _ e] at this
          cases this
    refine st_cell F2 N2 C (fun _ h => List.mem_append_right _ h) (by decide) fun h3 Z' F3 N3 C3 hl3 => ?_
    dsimp only
    rw [he] at hW
    obtain ⟨dx, aN, aC, vs, t1, t2, t3, t4, t5, u2, u3, u4, v1, v5, e1, e2, e3, e4, e5⟩ := hW.ex
    refine h _ _ _ _ F3 N3 C3 (Lasts.trans (Lasts.sub fun _ h => List.mem_append_right _ h) hl3) ⟨dx, aN, aC, vs, t1, t2, t3, t4, t5, u2, u3, u4, v1, v5, hl3 _ (List.mem_append_left _ e1) ?_, hl3 _ (List.mem_append_left _ e2) ?_, hl3 _ (List.mem_append_left _ e3) ?_, hl3 _ (List.mem_append_left _ e4) ?_, e5⟩
    · intro v q; cases q
    · intro v q; cases q
    · intro v q; cases q
    · intro v q; cases q
  generalize total % 3 = r at hr fin ⊢
  rcases hr with rfl | rfl | rfl
  · repeat' (first | ((try dsimp only); (fail_if_success (with_reducible show wpAny _ _ (binaryOp .Add _ _) _ _ _)); walk1))
    rw [show Txt.mul (Str.ofString " ") 0 = wtxt [] by decide +kernel]
    have hw0 : (wtxt []).length = 0 := by decide
    repeat' (first | ((try dsimp only); (fail_if_success (with_reducible show wpAny _ _ (call (.ref _) _) _ _ _)); walk1))
    · exact T.k.keeps (Fr.keep (by assumption))
    · rw [wtxt_app]
      exact fin 0 _ _ _ ⟨_, rfl⟩ rfl (by decide) rfl
  · repeat' (first | ((try dsimp only); (fail_if_success (with_reducible show wpAny _ _ (binaryOp .Add _ _) _ _ _)); walk1))
    rw [show Txt.mul (Str.ofString " ") 1 = wtxt [false] by decide +kernel]
    have hw0 : (wtxt [false]).length = 1 := by decide
    repeat' (first | ((try dsimp only); (fail_if_success (with_reducible show wpAny _ _ (call (.ref _) _) _ _ _)); walk1))
    · exact T.k.keeps (Fr.keep (by assumption))
    · rw [wtxt_app]
      exact fin 1 _ _ _ ⟨_, rfl⟩ rfl (by decide) rfl
  · repeat' (first | ((try dsimp only); (fail_if_success (with_reducible show wpAny _ _ (binaryOp .Add _ _) _ _ _)); walk1))
    rw [show Txt.mul (Str.ofString " ") 2 = wtxt [false, false] by decide +kernel]
    have hw0 : (wtxt [false, false]).length = 2 := by decide
    repeat' (first | ((try dsimp only); (fail_if_success (with_reducible show wpAny _ _ (call (.ref _) _) _ _ _)); walk1))
    · exact T.k.keeps (Fr.keep (by assumption))
    · rw [wtxt_app]
      exact fin 2 _ _ _ ⟨_, rfl⟩ rfl (by decide) rfl
theorem ne_tup2 {A : Around} {E : Value → Shared → Prop} {s : Shared} {a b : Addr} {i j : Int} {t1 t2 t3 t4 : Tok} {Q : Value → Shared → Prop} (ha : IsTup s.heap a #[.int i t1, .int j t2]) (hb : IsTup s.heap b #[.int i t3, .int j t4]) (hu : A.units + 64 < cLine) (h : Q (.bool false) s) :
    wpAny (model pg w) A (compareOp .NotEq (.ref a) (.ref b)) Q E s :=
  ne_dataH_same (reads_newDataT (ys := [.int i t1, .int j t2]) (ds := [.int i, .int j]) ha (.cons (.int _ _) (.cons (.int _ _) .nil))) (reads_newDataT (ys := [.int i t3, .int j t4]) (ds := [.int i, .int j]) hb (.cons (.int _ _) (.cons (.int _ _) .nil)))
    (by simp [shaped, PyData.canLay0, PyData.canLayAll0, PyData.depth, PyData.depthAll]) (by simp [shaped, PyData.canLay0, PyData.canLayAll0, PyData.depth, PyData.depthAll]) hu (by simp [noMix, noMixAll]) (by simp [PySem.Spec.same, PySem.Spec.sameAll]; exact h)
theorem b11 {x wl : Addr} {ws : WS} {tt : Tok} {total : Int} {ps : List Str} (T : Tq G mg mb w h₀) (F : Fr h₀ L s.heap m) (N : News h₀ L s.heap Z) (C : Cz (csL L) cm Z) (hh : A.handled = none) (hu : A.units + 64 < cLine)
    (hx : cm "typed" = some (.ref x)) (W : WZ w Z x ws) (hw : m "words" = some (.ref wl)) (hwl : LI Z wl (ps.map .str)) (hps : ps.length ≤ 10) (htot : cm "total" = some (.int total tt)) (h0 : 0 ≤ total)
    (hn : (ws.n : Int) = 7 + total % 3) (hnt : ws.nt = ps.length)
    (h : ∀ h' tk Z', Fr h₀ L h' m → News h₀ L h' Z' → Cz (csL L) cm Z' → Lasts Z Z' → Q .next { s with heap := h', toks := tk }) :
    wpAny (model pg w) A (exec (loopS 11) (envL L a cd)) Q E s := by
  conv in (occs := *) (loopS _) => all_goals (unfold loopS loopB lawS fnS; whnf)
  have TP := T.tp
  obtain ⟨vs, n0, hm, hc⟩ := hwl
  have hvl : vs.length = ps.length := by have := hc.length_eq; simpa using this
  repeat' (first | ((try dsimp only); (fail_if_success (with_reducible show wpAny _ _ (getAttr _ _ _) _ _ _)); walk1))
  (with_reducible rename Fr _ _ _ _ => F)
  (with_reducible rename News _ _ _ _ => N)
  (with_reducible rename Cz _ _ _ => C)
  refine ws_n (W.obj fun p hp => (N p hp).1) (T.k.keeps F.keep) ?_
  intro tk1 u1
  repeat' (first | ((try dsimp only); (fail_if_success (with_reducible show wpAny _ _ (getAttr _ _ _) _ _ _)); walk1))
  (with_reducible rename Fr _ _ _ _ => F)
  (with_reducible rename News _ _ _ _ => N)
  (with_reducible rename Cz _ _ _ => C)
  refine ws_nt (W.obj fun p hp => (N p hp).1) (T.k.keeps F.keep) ?_
  intro tk2 u2
  repeat' (first | ((try dsimp only); (fail_if_success (with_reducible show wpAny _ _ (call (Value.builtin "len") _) _ _ _)); walk1))
  (with_reducible rename Fr _ _ _ _ => F)
  (with_reducible rename News _ _ _ _ => N)
  (with_reducible rename Cz _ _ _ => C)
  refine len_list (News.isList N (.tail _ hm)) (by simp; omega) ?_
  repeat' (first | ((try dsimp only); (fail_if_success (with_reducible show wpAny _ _ (compareOp _ _ _) _ _ _)); walk1))
  (with_reducible rename Fr _ _ _ _ => F)
  (with_reducible rename News _ _ _ _ => N)
  (with_reducible rename Cz _ _ _ => C)
  have e1 : (7 + total.fmod 3) = (ws.n : Int) := by rw [hn, Int.fmod_eq_emod_of_nonneg _ (by decide)]
  have e2 : ((vs.toArray.size : Nat) : Int) = (ws.nt : Int) := by rw [hnt]; simp [hvl]
  rw [e1, e2] at N
  refine ne_tup2 (News.isTup N (.tail _ (.head _))) (News.isTup N (.head _)) hu ?_
  repeat' (first | ((try dsimp only); walk1))
  exact h _ _ _ (by assumption) (by assumption) (Cz.sub (by assumption) fun _ h => .tail _ (.tail _ h)) (Lasts.sub fun _ h => .tail _ (.tail _ h))
end
end
section
open PySem PySem.W PyProof.Rows PySem.Calls PySem.Spec PyProof PyProof.V PySem.SeqAt
set_option Elab.async false
set_option maxRecDepth 100000
set_option maxHeartbeats 1000000
set_option linter.unusedVariables false
set_option autoImplicit false
variable {G : GA} {mg mb : Str → Option Value} {w : World}
/-- append to a list that stands anywhere in the ledger -/
theorem app_Z {A : Around} {E : Value → Shared → Prop} {s : Shared} {h₀ : Heap} {L D : Addr} {m : Str → Option Value} {news : List (Addr × Obj)} {its : Array Value} {n : Nat} {x : Value} {Q : Value → Shared → Prop}
    (F : Fr h₀ L s.heap m) (N : News h₀ L s.heap news) (hD : (D, W.listOf its n) ∈ news) (hsz : its.size ≤ sizeLine)
    (h : ∀ h' Z', Fr h₀ L h' m → News h₀ L h' Z' → (D, W.listOf (its.push x) (n + 1)) ∈ Z' → (∀ p ∈ news, p.1 ≠ D → p ∈ Z') → Q .none { s with heap := h' }) :
    wpAny (model pg w) A (call (.builtin "list.append") [.ref D, x]) Q E s := by
  have z := N _ hD
  refine append_at (hsz := hsz) z.1 fun h' hs ho' => ?_
  refine h h' (news.map fun p => if p.1 = D then (D, W.listOf (its.push x) (n + 1)) else p) (F.change hs z.2.1 z.2.2) ?_ (List.mem_map.mpr ⟨_, hD, if_pos rfl⟩) fun p hp hne => List.mem_map.mpr ⟨p, hp, if_neg hne⟩
  intro p hp
  obtain ⟨q, hq, rfl⟩ := List.mem_map.mp hp
  by_cases e : q.1 = D
  · rw [if_pos e]; exact ⟨ho', z.2⟩
  · rw [if_neg e]; exact ⟨(hs.2 _ e).trans (N q hq).1, (N q hq).2⟩
section
variable {A : Around} {E : Value → Shared → Prop} {s : Shared} {h₀ : Heap} {L a : Addr} {cd : Value} {m cm : Str → Option Value} {Z : List (Addr × Obj)} {Q : Flow → Shared → Prop}
theorem cz_ne {h : Heap} {news : List (Addr × Obj)} {D c : Addr} {its : Array Value} {n : Nat} {o : Obj} {v : Option Value} (N : News h₀ L h news) (hD : (D, W.listOf its n) ∈ news) (hc : (c, o) ∈ news) (hd : o.data = .cell v) : c ≠ D := by
  rintro rfl
  have h1 := (N _ hD).1
  have h2 := (N _ hc).1
  rw [h1] at h2
  cases h2
  cases hd
theorem b12 {x tl : Addr} {ws : WS} {its : Array Value} {n : Nat} (T : Tq G mg mb w h₀) (F : Fr h₀ L s.heap m) (N : News h₀ L s.heap Z) (C : Cz (csL L) cm Z) (hh : A.handled = none) (hroom : A.depth + 2 < recursionLimit)
    (hx : cm "typed" = some (.ref x)) (Wz : WZ w Z x ws) (ht : cm "tables" = some (.ref tl)) (htl : (tl, W.listOf its n) ∈ Z) (hits : its.size ≤ 100) (hn : ws.cnt.length < 500) (hc : ∀ c ∈ ws.cnt, c < 1000)
    (h : ∀ h' tk Z' D, Fr h₀ L h' m → News h₀ L h' Z' → Cz (csL L) cm Z' → (∀ p ∈ Z, p.1 ≠ tl → p ∈ Z') → (∀ p ∈ Z, p.1 ≠ D) → (tl, W.listOf (its.push (.ref D)) (n + 1)) ∈ Z' → LI Z' D ((rangeInts 1 1 7).map fun z => .int (ilv ws z.toNat : Nat)) → Q .next { s with heap := h', toks := tk }) :
    wpAny (model pg w) A (exec (loopS 12) (envL L a cd)) Q E s := by
  conv in (occs := *) (loopS _) => all_goals (unfold loopS loopB lawS fnS; whnf)
  have TP := T.tp
  repeat' (first | ((try dsimp only); (fail_if_success (with_reducible show wpAny _ _ (getMethod _ _ _) _ _ _)); walk1))
  (with_reducible rename Fr _ _ _ _ => F)
  (with_reducible rename News _ _ _ _ => N)
  (with_reducible rename Cz _ _ _ => C)
  refine Calls.getMethod_list_append (N _ htl).1 rfl rfl ?_
  repeat' (first | ((try dsimp only); (fail_if_success (with_reducible show wpAny _ _ (eval (Expr.ListComp _ _ _ _) _) _ _ _)); walk1))
  refine lcR (A := A) (Z := Z) (cl := [("typed", cAt L "typed")]) (a := 1) (b := 8) (n := 7) (fun _ => true) (fun z => .int (ilv ws z.toNat : Nat)) hh F N ?_ (by decide) (by decide) (by decide) (by decide) (by decide) ?_ ?_ ?_ (by kernel_rfl) (by decide) (by rfl) (by decide) (by rfl) (fun _ => by rfl)
  · intro Q' hk
    repeat' (first | ((try dsimp only); (fail_if_success (with_reducible show wpAny _ _ (call (Value.type "range") _) _ _ _)); walk1))
    exact rng2 (by assumption) (by assumption) ⟨_, rfl⟩ hk
  · intros; exact test_nil
  · rintro Cx i t ⟨h3, g3, d3, t3, o3⟩ m₃ E' hi hp hNs hx3 hk
    dsimp only at hNs hk
    have hi2 := mem_rangeInts hi
    have TQ : Tq G mg mb w h3 := T.keeps fun b o e => hk _ _ (F.keep _ _ e)
    have kT : Tp G mg mb w h3 := TQ.tp
    have kC2 : CellsIn L cm h3 := cellsIn N C (fun _ h => h) hk
    have WO : WsObj w h3 x ws := Wz.obj fun p hp => hk _ _ (N p hp).1
    repeat' (first | ((try dsimp only); (fail_if_success (with_reducible show wpAny _ _ (getMethod _ _ _) _ _ _)); walk1))
    refine ws_meth WO TQ.k ?_
    repeat' (first | ((try dsimp only); (fail_if_success (with_reducible show wpAny _ _ (callWith _ _ _ _ _) _ _ _)); walk1))
    refine callWith_K TQ.k (show keepIn (KF w.params) (.ref 52) = true by kernel_rfl) ?_
    repeat' (first | ((try dsimp only); (fail_if_success (with_reducible show wpAny _ _ (call (.ref _) _) _ _ _)); walk1))
    · exact TQ.k
    · have e : i = ((i.toNat : Nat) : Int) := by omega
      generalize i.toNat = n at e
      subst e
      refine c_il (mg := mg) (mb := mb) TQ WO hroom hh (by omega) (by omega) hn hc fun h4 tk4 t4 hx4 => ⟨.int _ _, ⟨_, _, rfl, hx4⟩⟩
  · intro D ys n' h' tk F' N' hD hc
    repeat' (first | ((try dsimp only); (fail_if_success (with_reducible show wpAny _ _ (call (Value.builtin "list.append") _) _ _ _)); walk1))
    rw [List.filter_eq_self.mpr (fun _ _ => rfl)] at hc
    have h100 : (100 : Nat) ≤ sizeLine := by decide
    refine app_Z F' N' (.tail _ htl) (by omega) fun h2 Z' F2 N2 hD2 hl2 => ?_
    dsimp only
    refine h _ _ Z' D F2 N2 ⟨fun nm c e => ?_, C.ap⟩ (fun p hp hne => hl2 p (.tail _ hp) hne) hD hD2 ⟨ys, n', hl2 _ (.head _) (fun q => hD _ htl q.symm), hc⟩
    obtain ⟨o, ho, hd⟩ := C.get nm c e
    exact ⟨o, hl2 _ (.tail _ ho) (cz_ne N htl ho hd), hd⟩
theorem b13 {sl : Addr} {its : Array Value} {n : Nat} {b : Bool} (T : Tp G mg mb w h₀) (F : Fr h₀ L s.heap m) (N : News h₀ L s.heap Z) (C : Cz (csL L) cm Z) (hh : A.handled = none)
    (ht : cm "signs" = some (.ref sl)) (htl : (sl, W.listOf its n) ∈ Z) (hits : its.size ≤ 100) (hb : m "taken" = some (.bool b))
    (h : ∀ h' tk Z' t, Fr h₀ L h' m → News h₀ L h' Z' → Cz (csL L) cm Z' → (∀ p ∈ Z, p.1 ≠ sl → p ∈ Z') → (sl, W.listOf (its.push (.int (if b then 1 else -1) t)) (n + 1)) ∈ Z' → Q .next { s with heap := h', toks := tk }) :
    wpAny (model pg w) A (exec (loopS 13) (envL L a cd)) Q E s := by
  conv in (occs := *) (loopS _) => all_goals (unfold loopS loopB lawS fnS; whnf)
  repeat' (first | ((try dsimp only); (fail_if_success (with_reducible show wpAny _ _ (getMethod _ _ _) _ _ _)); walk1))
  (with_reducible rename Fr _ _ _ _ => F)
  (with_reducible rename News _ _ _ _ => N)
  (with_reducible rename Cz _ _ _ => C)
  have NN := N
  have CC := C
  refine Calls.getMethod_list_append (N _ htl).1 rfl rfl ?_
  have h100 : (100 : Nat) ≤ sizeLine := by decide
  cases b
  all_goals (repeat' (first | ((try dsimp only); (fail_if_success (with_reducible show wpAny _ _ (call (Value.builtin "list.append") _) _ _ _)); walk1)))
  · refine app_Z (by assumption) (by assumption) htl (by omega) fun h2 Z' F2 N2 hD2 hl2 => ?_
    refine h _ _ Z' _ F2 N2 ⟨fun nm c e => ?_, Cz.ap (by assumption)⟩ hl2 hD2
    obtain ⟨o, ho, hd⟩ := Cz.get (by assumption) nm c e
    exact ⟨o, hl2 _ ho (cz_ne (by assumption) htl ho hd), hd⟩
  · refine app_Z (by assumption) (by assumption) htl (by omega) fun h2 Z' F2 N2 hD2 hl2 => ?_
    refine h _ _ Z' _ F2 N2 ⟨fun nm c e => ?_, Cz.ap (by assumption)⟩ hl2 hD2
    obtain ⟨o, ho, hd⟩ := Cz.get (by assumption) nm c e
    exact ⟨o, hl2 _ ho (cz_ne (by assumption) htl ho hd), hd⟩
theorem b14 {mask : Nat} {tm : Tok} (T : Tp G mg mb w h₀) (F : Fr h₀ L s.heap m) (N : News h₀ L s.heap Z) (C : Cz (csL L) cm Z) (hh : A.handled = none)
    (hm : cm "mask" = some (.int (mask : Nat) tm)) (hm8 : mask < 64)
    (h : ∀ h' tk Z' D, Fr h₀ L h' m → News h₀ L h' Z' → Cz (csL L) (upd cm "within" (.ref D)) Z' → Lasts Z Z' → LI Z' D (((rangeInts 0 1 (mask + 1)).filter fun p => (Builtin.bitAnd p (mask : Nat) == p)).map fun p => .int p) → Q .next { s with heap := h', toks := tk }) :
    wpAny (model pg w) A (exec (loopS 14) (envL L a cd)) Q E s := by
  conv in (occs := *) (loopS _) => all_goals (unfold loopS loopB lawS fnS; whnf)
  repeat' (first | ((try dsimp only); (fail_if_success (with_reducible show wpAny _ _ (eval (Expr.ListComp _ _ _ _) _) _ _ _)); walk1))
  refine lcR (A := A) (Z := Z) (cl := [("mask", cAt L "mask")]) (a := 0) (b := (mask : Int) + 1) (n := mask + 1) (fun p => (Builtin.bitAnd p (mask : Nat) == p)) (fun p => .int p) hh F N ?_ (by omega) (by omega) (by omega) (by omega) (by omega) ?_ ?_ ?_ (by kernel_rfl) (by decide) (by rfl) (by decide) (by rfl) (fun _ => by rfl)
  · intro Q' hk
    repeat' (first | ((try dsimp only); (fail_if_success (with_reducible show wpAny _ _ (call (Value.type "range") _) _ _ _)); walk1))
    exact rng1 (by assumption) (by assumption) ⟨_, rfl⟩ hk
  · rintro Cx i t ⟨h3, g3, d3, t3, o3⟩ m₃ E' hi hNs hx hk
    dsimp only at hNs hk
    have hi2 := mem_rangeInts hi
    have kT : Tp G mg mb w h3 := T.keeps fun b o e => hk _ _ (F.keep _ _ e)
    have kC2 : CellsIn L cm h3 := cellsIn N C (fun _ h => h) hk
    refine test_one ?_
    repeat' (first | ((try dsimp only); walk1))
    · rfl
    · exact ⟨_, _, rfl, fun _ _ e => e⟩
  · rintro Cx i t ⟨h3, g3, d3, t3, o3⟩ m₃ E' hi hp hNs hx hk
    dsimp only at hNs hk
    have kT : Tp G mg mb w h3 := T.keeps fun b o e => hk _ _ (F.keep _ _ e)
    have kC2 : CellsIn L cm h3 := cellsIn N C (fun _ h => h) hk
    repeat' (first | ((try dsimp only); walk1))
    · exact .int _ _
    · exact ⟨_, _, rfl, fun _ _ e => e⟩
  · intro D ys n' h' tk F' N' hD hc
    repeat' (first | ((try dsimp only); (fail_if_success (with_reducible show wpAny _ _ (storeName _ _ _) _ _ _)); walk1))
    refine st_cell F' N' C (fun _ h => .tail _ h) (by decide) fun h2 Z' F2 N2 C2 hl => ?_
    dsimp only
    refine h _ _ _ _ F2 N2 C2 (Lasts.trans (Lasts.sub fun _ h => .tail _ h) hl) (LI.lasts ⟨_, _, .head _, ?_⟩ hl)
    exact hc
theorem b15 (T : Tp G mg mb w h₀) (F : Fr h₀ L s.heap m) (N : News h₀ L s.heap Z) (C : Cz (csL L) cm Z) (hh : A.handled = none)
    (h : ∀ h' tk Z' D, Fr h₀ L h' (upd m "due" (.ref D)) → News h₀ L h' Z' → Cz (csL L) cm Z' → Lasts Z Z' → (∀ p ∈ Z, p.1 ≠ D) → (D, W.listOf #[] 0) ∈ Z' → Q .next { s with heap := h', toks := tk }) :
    wpAny (model pg w) A (exec (loopS 15) (envL L a cd)) Q E s := by
  conv in (occs := *) (loopS _) => all_goals (unfold loopS loopB lawS fnS; whnf)
  repeat' (first | ((try dsimp only); (fail_if_success (with_reducible show wpAny _ _ (storeName _ _ _) _ _ _)); walk1))
  (with_reducible rename Fr _ _ _ _ => F)
  (with_reducible rename News _ _ _ _ => N)
  (with_reducible rename Cz _ _ _ => C)
  refine st_loc F N (by kernel_rfl) fun h2 F2 N2 => ?_
  exact h _ _ _ _ F2 N2 (C.sub fun _ h => .tail _ h) (Lasts.sub fun _ h => .tail _ h) (fun p hp => Nat.ne_of_lt (by first | (rename_i hq; exact hq p hp) | assumption)) (.head _)
end
end
section
open PySem PySem.W PyProof.Rows PySem.Calls PySem.Spec PyProof PyProof.V PySem.SeqAt
set_option Elab.async false
set_option maxRecDepth 100000
set_option maxHeartbeats 1000000
set_option linter.unusedVariables false
set_option autoImplicit false
variable {G : GA} {mg mb : Str → Option Value} {w : World}
local macro_rules | `(tactic| walk_at "call ref") => `(tactic| ((with_reducible rename Tp _ _ _ _ _ => kT); (with_reducible rename Fr _ _ _ _ => kF); (with_reducible rename News _ _ _ _ => kN); refine c_up (Tp.keeps kT (Fr.keep kF)) (by assumption) (by assumption) (by assumption) (by assumption) ?_; intro hA tkA tkB hxA; have kF2 := Fr.keeps kF hxA; have kN2 := News.grown kN hxA; clear kF; clear kN))
noncomputable def upF (n z : Int) : Int := (n + z - 1) / z * z
noncomputable def dueF (pk : List Int) (total z : Int) : Int := if pk = [] then upF 7 z + total % 3 else upF 7 z - (upF (7 - pk.getD 0 0) z + upF (pk.getD (pk.length - 1) 0) z) + upF (pk.getD (pk.length - 1) 0 - pk.getD 0 0) z
section
variable {A : Around} {E : Value → Shared → Prop} {s : Shared} {h₀ : Heap} {L a : Addr} {cd : Value} {m cm : Str → Option Value} {Z : List (Addr × Obj)} {Q : Flow → Shared → Prop}
structure DJ (s : Shared) (h₀ : Heap) (L I D : Addr) (cm : Str → Option Value) (Z : List (Addr × Obj)) (f : Int → Int) (i : Nat) (s' : Shared) : Prop where
  ex : ∃ h tk m' Z' its n, s' = { s with heap := h, toks := tk } ∧ Fr h₀ L h m' ∧ m' "due" = some (.ref D) ∧ News h₀ L h ((I, itR ((1 : Int) + (i : Nat) * 1) ((7 : Nat) - (i : Nat) : Int)) :: Z') ∧ (∀ p ∈ Z', p.1 ≠ I) ∧ Cz (csL L) cm Z' ∧
    (∀ p ∈ Z, p.1 ≠ D → p ∈ Z') ∧ (D, W.listOf its n) ∈ Z' ∧ CarriedAll its.toList ((rangeInts 1 1 i).map fun z => .int (f z))
theorem rng_snoc (i : Nat) : rangeInts 1 1 (i + 1) = rangeInts 1 1 i ++ [(1 : Int) + (i : Nat) * 1] := by
  unfold rangeInts
  rw [List.range_succ, List.map_append]
  rfl
theorem dj_mk {h : Heap} {tk : Nat} {m' : Str → Option Value} {Z' Z1 : List (Addr × Obj)} {its : Array Value} {n I D : Nat} {f : Int → Int} {i : Nat} (F : Fr h₀ L h m') (hdm : m' "due" = some (.ref D)) (N : News h₀ L h Z1)
    (hI : (I, itR ((1 : Int) + ((i + 1 : Nat) : Nat) * 1) ((7 : Nat) - ((i + 1 : Nat) : Nat) : Int)) ∈ Z1) (hk : ∀ p ∈ Z', p.1 ≠ D → p ∈ Z1) (hD : (D, W.listOf its n) ∈ Z1) (hZI : ∀ p ∈ Z', p.1 ≠ I) (hDI : D ≠ I)
    (hcD : ∀ nm c, (csL L).lookup nm = some c → ∃ o, (c, o) ∈ Z' ∧ o.data = .cell (cm nm) ∧ c ≠ D) (ap : (csL L).Pairwise fun x y => x.2 ≠ y.2) (hZ : ∀ p ∈ Z, p.1 ≠ D → p ∈ Z') (hc : CarriedAll its.toList ((rangeInts 1 1 (i + 1)).map fun z => .int (f z))) :
    DJ s h₀ L I D cm Z f (i + 1) { s with heap := h, toks := tk } := by
  refine ⟨⟨h, tk, m', (D, W.listOf its n) :: Z'.filter (fun p => p.1 != D), its, n, rfl, F, hdm, ?_, ?_, ⟨?_, ap⟩, ?_, .head _, hc⟩⟩
  · intro p hp
    rcases List.mem_cons.mp hp with rfl | hp
    · exact N _ hI
    · rcases List.mem_cons.mp hp with rfl | hp
      · exact N _ hD
      · have := List.mem_filter.mp hp
        exact N p (hk p this.1 (by simpa using this.2))
  · intro p hp
    rcases List.mem_cons.mp hp with rfl | hp
    · exact hDI
    · exact hZI p (List.mem_filter.mp hp).1
  · intro nm c e
    obtain ⟨o, h1, h2, h3⟩ := hcD nm c e
    exact ⟨o, .tail _ (List.mem_filter.mpr ⟨h1, by simpa using h3⟩), h2⟩
  · intro p hp hne
    exact .tail _ (List.mem_filter.mpr ⟨hZ p hp hne, by simpa using hne⟩)
theorem b16 {D pl : Addr} {pk : List Int} {total : Int} {tt : Tok} (T : Tp G mg mb w h₀) (F : Fr h₀ L s.heap m) (N : News h₀ L s.heap Z) (C : Cz (csL L) cm Z) (hh : A.handled = none) (hroom : A.depth + 1 < recursionLimit) (hu : A.units + 64 < cLine)
    (hdm : m "due" = some (.ref D)) (hD : (D, W.listOf #[] 0) ∈ Z) (hp : cm "picked" = some (.ref pl)) (hpl : LI Z pl (pk.map .int)) (hne : pl ≠ D) (hpk : pk.length ≤ 6) (ht : cm "total" = some (.int total tt)) (h0 : 0 ≤ total)
    (h : ∀ h' tk m' Z' its n, Fr h₀ L h' m' → m' "due" = some (.ref D) → News h₀ L h' Z' → Cz (csL L) cm Z' → (∀ p ∈ Z, p.1 ≠ D → p ∈ Z') → (D, W.listOf its n) ∈ Z' → CarriedAll its.toList ((rangeInts 1 1 7).map fun z => .int (dueF pk total z)) → Q .next { s with heap := h', toks := tk }) :
    wpAny (model pg w) A (exec (loopS 16) (envL L a cd)) Q (fun _ _ => False) s := by
  conv in (occs := *) (loopS _) => all_goals (unfold loopS loopB lawS fnS; whnf)
  refine wpAny_For ?_
  repeat' (first | ((try dsimp only); (fail_if_success (with_reducible show wpAny _ _ (call (Value.type "range") _) _ _ _)); walk1))
  (with_reducible rename Fr _ _ _ _ => F)
  (with_reducible rename News _ _ _ _ => N)
  (with_reducible rename Cz _ _ _ => C)
  refine range_it (by decide) (by decide) (by decide) (by decide) fun I h4 tk4 hx hI1 hI2 hit => ?_
  dsimp only at hx hI1
  have F4 := F.keeps hx
  have N4 := N.grown hx
  have hIn : h₀.get? I = none := by
    cases e : h₀.get? I with
    | none => rfl
    | some o' => exact absurd (Heap.lt_size (F.keep _ _ e)) (Nat.not_lt.mpr hI1)
  have hIL : I ≠ L := Nat.ne_of_gt (Nat.lt_of_lt_of_le F.ns.lt hI1)
  have hZI : ∀ p ∈ Z, p.1 ≠ I := fun p hp => Nat.ne_of_lt (Nat.lt_of_lt_of_le (Heap.lt_size (N p hp).1) hI1)
  obtain ⟨vp, np, hmp, hcp⟩ := hpl
  have hvl : vp.length = pk.length := by have := hcp.length_eq; simpa using this
  refine for_walk (Walks.range (by exact hh) I 1 1 7) (DJ s h₀ L I D cm Z (dueF pk total)) ?_ ?_ ?_ ⟨_, _, _, Z, #[], 0, rfl, F4, hdm, fun p hp => ?_, hZI, C, fun p hp _ => hp, hD, .nil⟩
  · rintro i s' ⟨h, tk, m', Z', its, n, rfl, F, hdm, N, hZI, C, hZ, hD, hc⟩
    have := (N _ (.head _)).1
    simpa [itR] using this
  · rintro i s' v h' tk hi ⟨h, tk0, m', Z', its, n, rfl, F, hdm, N, hZI, C, hZ, hD, hc⟩ ⟨tv, rfl⟩ hst hk
    have F' := fr_hk F hk (Ne.symm hIL) hIn
    have N' : News h₀ L h' ((I, itR ((1 : Int) + ((i + 1 : Nat) : Nat) * 1) ((7 : Nat) - ((i + 1 : Nat) : Nat) : Int)) :: Z') := by
      intro p hp
      rcases List.mem_cons.mp hp with rfl | hp
      · exact ⟨by simpa [itR] using hst, hIL, hIn⟩
      · exact news_hk (News.sub N fun p hp => .tail _ hp) hk hZI p hp
    have eI : (1 : Int) + (i : Nat) * 1 = (i : Int) + 1 := by omega
    rw [eI]
    clear F hk N
    have hz0 : (0 : Int) < (i : Int) + 1 := by omega
    have hz1 : (i : Int) + 1 < 1000 := by omega
    repeat' (first | ((try dsimp only); (fail_if_success (with_reducible show wpAny _ _ (storeName _ _ _) _ _ _)); walk1))
    refine st_loc F' N' (by kernel_rfl) fun h5 F5 N5 => ?_
    obtain ⟨m5, hm5⟩ : ∃ m5, m5 = upd m' "size" (.int ((i : Int) + 1) tv) := ⟨_, rfl⟩
    rw [← hm5] at F5
    have hdm5 : m5 "due" = some (.ref D) := by rw [hm5]; exact upd_ne (by decide) hdm
    have hsz5 : m5 "size" = some (.int ((i : Int) + 1) tv) := by rw [hm5]; exact upd_eq
    have hcD : ∀ nm c, (csL L).lookup nm = some c → ∃ o, (c, o) ∈ Z' ∧ o.data = .cell (cm nm) ∧ c ≠ D := fun nm c e => by
      obtain ⟨o, h1, h2⟩ := C.get nm c e
      exact ⟨o, h1, h2, cz_ne N' (.tail _ hD) (.tail _ h1) h2⟩
    have hap := C.ap
    have hDI := hZI _ hD
    clear F' N' hm5 hdm hst
    have hmpI := hZ _ hmp hne
    repeat' (first | ((try dsimp only); (fail_if_success (with_reducible show wpAny _ _ (compareOp _ _ _) _ _ _)); walk1))
    (with_reducible rename Fr _ _ _ _ => F6)
    (with_reducible rename News _ _ _ _ => N6)
    refine eq_intsK (vs := vp) (us := []) (ns := pk) (ms := []) (News.isList N6 (.tail _ (.tail _ hmpI))) (IntsAre.ofCarried hcp) (News.isList N6 (.head _)) .nil hu ?_
    have h100 : (100 : Nat) ≤ sizeLine := by decide
    have hits : its.size = i := by have := hc.length_eq; simpa [rangeInts_length] using this
    by_cases hp0 : pk = []
    · rw [decide_eq_true hp0]
      repeat' (first | ((try dsimp only); (fail_if_success (with_reducible show wpAny _ _ (getMethod _ _ _) _ _ _)); walk1))
      (with_reducible rename Fr _ _ _ _ => F7)
      (with_reducible rename News _ _ _ _ => N7)
      refine Calls.getMethod_list_append (N7 _ (.tail _ (.tail _ hD))).1 rfl rfl ?_
      repeat' (first | ((try dsimp only); (fail_if_success (with_reducible show wpAny _ _ (call (Value.builtin "list.append") _) _ _ _)); walk1))
      (with_reducible rename Fr _ _ _ _ => F9)
      (with_reducible rename News _ _ _ _ => N9)
      refine app_Z F9 N9 (.tail _ (.tail _ hD)) (by omega) fun h10 Z10 F10 N10 hD10 hl10 => ?_
      repeat' (first | ((try dsimp only); walk1))
      exact dj_mk F10 (by assumption) N10 (hl10 _ (.tail _ (.head _)) (Ne.symm hDI)) (fun p hp hne => hl10 p (.tail _ (.tail _ hp)) hne) hD10 hZI hDI hcD hap hZ (by
        rw [Array.toList_push, rng_snoc, List.map_append]
        refine CarriedAll.appendLM hc (.cons ?_ .nil)
        have e1 : (1 : Int) + (i : Nat) * 1 = (i : Int) + 1 := by omega
        rw [e1]
        unfold dueF upF
        dsimp only
        rw [if_pos hp0, Int.fmod_eq_emod_of_nonneg _ (by decide)]
        exact .int _ _)
    · rw [decide_eq_false hp0]
      have hpos : 0 < pk.length := List.length_pos_iff.mpr hp0
      have hkl : ((-1 : Int) + pk.length).toNat = pk.length - 1 := by omega
      repeat' (first | ((try dsimp only); (fail_if_success (with_reducible show wpAny _ _ (subscriptTail _ _ _ _) _ _ _)); walk1))
      (with_reducible rename News _ _ _ _ => N7)
      refine item_list_ints (News.isList N7 (.tail _ (.tail _ hmpI))) (IntsAre.ofCarried hcp) (by decide) (by omega) (by decide) ?_
      intro ta
      repeat' (first | ((try dsimp only); (fail_if_success (with_reducible show wpAny _ _ (subscriptTail _ _ _ _) _ _ _)); walk1))
      (with_reducible rename News _ _ _ _ => N7)
      refine item_list_ints_neg (News.isList N7 (.tail _ (.tail _ hmpI))) (IntsAre.ofCarried hcp) (by decide) (by omega) (by decide) ?_
      intro ta
      rw [hkl]
      repeat' (first | ((try dsimp only); (fail_if_success (with_reducible show wpAny _ _ (storeName _ _ _) _ _ _)); walk1))
      (with_reducible rename Fr _ _ _ _ => F8)
      (with_reducible rename News _ _ _ _ => N8)
      refine st_loc F8 N8 (by kernel_rfl) fun h11 F11 N11 => ?_
      obtain ⟨t6, m6, hm6, F12⟩ : ∃ t6 m6, m6 = upd m5 "ends" (.int (upF (7 - pk.getD 0 0) ((i : Int) + 1) + upF (pk.getD (pk.length - 1) 0) ((i : Int) + 1)) t6) ∧ Fr h₀ L h11 m6 := ⟨_, _, rfl, F11⟩
      clear F11
      have hdm6 : m6 "due" = some (.ref D) := by rw [hm6]; exact upd_ne (by decide) hdm5
      have hsz6 : m6 "size" = some (.int ((i : Int) + 1) tv) := by rw [hm6]; exact upd_ne (by decide) hsz5
      have hen6 := congrFun hm6 "ends"
      rw [upd_eq] at hen6
      clear hm6 hdm5 hsz5 F8 N8
      repeat' (first | ((try dsimp only); (fail_if_success (with_reducible show wpAny _ _ (getMethod _ _ _) _ _ _)); walk1))
      (with_reducible rename Fr _ _ _ _ => F7)
      (with_reducible rename News _ _ _ _ => N7)
      refine Calls.getMethod_list_append (N7 _ (.tail _ (.tail _ hD))).1 rfl rfl ?_
      repeat' (first | ((try dsimp only); (fail_if_success (with_reducible show wpAny _ _ (subscriptTail _ _ _ _) _ _ _)); walk1))
      (with_reducible rename News _ _ _ _ => N7)
      refine item_list_ints_neg (News.isList N7 (.tail _ (.tail _ hmpI))) (IntsAre.ofCarried hcp) (by decide) (by omega) (by decide) ?_
      intro ta
      rw [hkl]
      repeat' (first | ((try dsimp only); (fail_if_success (with_reducible show wpAny _ _ (subscriptTail _ _ _ _) _ _ _)); walk1))
      (with_reducible rename News _ _ _ _ => N7)
      refine item_list_ints (News.isList N7 (.tail _ (.tail _ hmpI))) (IntsAre.ofCarried hcp) (by decide) (by omega) (by decide) ?_
      intro ta
      repeat' (first | ((try dsimp only); (fail_if_success (with_reducible show wpAny _ _ (call (Value.builtin "list.append") _) _ _ _)); walk1))
      (with_reducible rename Fr _ _ _ _ => F9)
      (with_reducible rename News _ _ _ _ => N9)
      refine app_Z F9 N9 (.tail _ (.tail _ hD)) (by omega) fun h10 Z10 F10 N10 hD10 hl10 => ?_
      repeat' (first | ((try dsimp only); walk1))
      exact dj_mk F10 (by assumption) N10 (hl10 _ (.tail _ (.head _)) (Ne.symm hDI)) (fun p hp hne => hl10 p (.tail _ (.tail _ hp)) hne) hD10 hZI hDI hcD hap hZ (by
        rw [Array.toList_push, rng_snoc, List.map_append]
        refine CarriedAll.appendLM hc (.cons ?_ .nil)
        have e1 : (1 : Int) + (i : Nat) * 1 = (i : Int) + 1 := by omega
        rw [e1]
        unfold dueF upF
        dsimp only
        rw [if_neg hp0]
        exact .int _ _)
  · rintro s' h' tk ⟨h1, tk0, m', Z', its, n, rfl, F, hdm, N, hZI, C, hZ, hD, hc⟩ hk
    have F' := fr_hk F hk (Ne.symm hIL) hIn
    have N' : News h₀ L h' Z' := news_hk (News.sub N fun p hp => .tail _ hp) hk hZI
    clear F hk N
    repeat' (first | ((try dsimp only); walk1))
    exact h _ _ m' Z' its n F' hdm N' C hZ hD hc
  · rcases List.mem_cons.mp hp with rfl | hp
    · exact ⟨by simpa [itR] using hit, hIL, hIn⟩
    · exact N4 p hp
end
end
section
open PySem PySem.W PyProof.Rows PySem.Calls PySem.Spec
set_option Elab.async false
set_option maxRecDepth 100000
set_option maxHeartbeats 1000000
set_option linter.unusedVariables false
set_option autoImplicit false
variable {w : World} {A : Around} {E : Value → Shared → Prop} {s : Shared} {h₀ : Heap} {L : Addr} {m : Str → Option Value} {env : Env} {Z : List (Addr × Obj)}
/-- a comprehension's env whose own variable is a cell -/
noncomputable def cenvC (scope : Scope) (x : Str) (cl : List (Str × Addr)) (L2 : Addr) (env : Env) : Env :=
  { scope := relabel scope env, locals := L2, globals := env.globals, cells := (x, L2 + 1) :: cl, qual := env.qual, func := none, code := env.code, frame := env.frame, builtins := env.builtins }
theorem newEnv_cell {M : Model} {scope : Scope} {x : Str} {globals : Addr} {cl : List (Str × Addr)} {qual : Str} {Q : Env → Shared → Prop}
    (hc : ∀ n, cellsFrom n scope.names cl = (x, n) :: cl) (hp : ∀ h, pushCells h scope.names = h.push { cls := .type "cell", data := .cell none })
    (hQ : Q { scope := scope, locals := s.heap.objs.size, globals := globals, cells := (x, s.heap.objs.size + 1) :: cl, qual := qual, func := none, code := env.code, frame := env.frame, builtins := env.builtins }
      { s with heap := (s.heap.push { cls := .type "dict", data := .dict #[] }).push { cls := .type "cell", data := .cell none } }) :
    wpAny M A (newFunctionEnv scope globals cl [] qual none .none (some env)) Q E s := by
  simp only [newFunctionEnv, Option.isSome_some, if_true]
  refine wpAny_bind (wpAny_alloc ?_)
  refine wpAny_bind (wpAny_layCells _ (fun name kind cells => by cases hkc : kind == NameKind.cell <;> simp [hkc]) _ _ _ _ ?_)
  dsimp only
  rw [hc, hp, Heap.size_push]
  exact wpAny_bind (wpAny_pure (wpAny_pure hQ))
theorem lcCell {elt iter : PySem.Expr} {x : Str} {px : Pos} {scope : Scope} {cl : List (Str × Addr)} {pos : Pos} {Q : Value → Shared → Prop} {n : Nat} (d : Int → PyData)
    (hh : A.handled = none) 
    (hiter : ∀ Q' : Value → Shared → Prop, (∀ I tk h', Ext s.heap h' → Fr h₀ L h' m → News h₀ L h' Z → (∃ t u v, IsRange h' I 0 (n : Int) 1 t u v) → Q' (.ref I) { s with heap := h', toks := tk }) → wpAny (model pg w) A (eval iter env) Q' E s)
    (hn : n ≤ 1000)
    (he : ∀ L2 i t s₂ E', i ∈ rangeInts 0 1 n → s₂.heap.Ns L2 (fun _ => none) → s₂.heap.IsCell (L2 + 1) (some (.int i t)) → Fr h₀ L s₂.heap m → News h₀ L s₂.heap Z →
      wpAny (model pg w) A (eval elt (cenvC scope x cl L2 env)) (fun y s₃ => Carried y (d i) ∧ Keeps s₂ s₃) E' s₂)
    (hQ : ∀ D ys n' h' tk, Fr h₀ L h' m → News h₀ L h' ((D, W.listOf ys.toArray n') :: Z) → CarriedAll ys ((rangeInts 0 1 n).map d) → Q (.ref D) { s with heap := h', toks := tk })
    (hclos : closureFor scope env = pure cl) (hc : ∀ n, cellsFrom n scope.names cl = (x, n) :: cl) (hp : ∀ h, pushCells h scope.names = h.push { cls := .type "cell", data := .cell none }) (hkind : scope.kind = .function)
    (hnames : ∀ y ∈ scope.names, y.2 = .local → scope.names.lookup y.1 = some .local) (hx : ∀ L2, (cenvC scope x cl L2 env).kindOf x = some .cell) (hs : ∀ x, foldedSetIterable iter env x = pure x) :
    wpAny (model pg w) A (eval (.ListComp elt [⟨.Name x px, iter, [], 0⟩] scope pos) env) Q E s := by
  rw [eval_ListComp]
  refine wpAny_comprehension_free (use := none) rfl hs hclos hkind hnames (hiter _ fun R tk0 hr hxt F0 N0 hrg => ?_)
  obtain ⟨t0, u0, v0, hrg⟩ := hrg
  refine wpAny_pyIter_range hrg (small_one (by omega) (by omega) (by omega) (by omega)) ?_
  rw [rangeSize_nat, show ((n : Int) - 0).toNat = n by omega]
  generalize hI : hr.objs.size = I
  have hit : IsRangeIter (hr.push { cls := .type "range_iterator", data := .fields #[rawInt 0, rawInt (n : Int), rawInt 1] }) I 0 (n : Int) 1 := by
    rw [← hI]; exact Heap.get?_push_size _ rfl
  have hpush : ∀ b o, hr.get? b = some o → (hr.push { cls := .type "range_iterator", data := .fields #[rawInt 0, rawInt (n : Int), rawInt 1] }).get? b = some o := fun b o e => Heap.get?_push_of_some _ e
  have hsz : (hr.push { cls := .type "range_iterator", data := .fields #[rawInt 0, rawInt (n : Int), rawInt 1] }).objs.size = I + 1 := by rw [Heap.size_push, hI]
  have FB := F0.keeps hpush
  have NB := N0.grown hpush
  have hLI : L ≠ I := by rw [← hI]; exact Nat.ne_of_lt F0.ns.lt
  have hZI : ∀ p ∈ Z, p.1 ≠ I := fun p hp => by rw [← hI]; exact Nat.ne_of_lt (Heap.lt_size (N0 p hp).1)
  have hI0 : h₀.get? I = none := by
    cases e : h₀.get? I with
    | none => rfl
    | some o => exact absurd (Heap.lt_size (F0.keep _ _ e)) (by rw [hI]; exact Nat.lt_irrefl _)
  generalize hr.push { cls := .type "range_iterator", data := .fields #[rawInt 0, rawInt (n : Int), rawInt 1] } = hB at hit hpush hsz FB NB
  clear hpush F0 N0 hrg hxt
  dsimp only
  refine wpAny_newObj_type (newEnv_cell hc hp ?_)
  dsimp only
  rw [Heap.size_push, hsz]
  show codeAny (model pg w) A (.compStart (.ListComp elt [⟨.Name x px, iter, [], 0⟩] scope pos) 0 (.ref I) (.ref (I + 1)) (cenvC scope x cl (I + 1 + 1) env)) (compPost (model pg w) A E none Q (.ref (I + 1)) (I + 1 + 1)) _
  have q1 : I + 1 ∉ [I] := fun q => Nat.succ_ne_self I (List.mem_singleton.mp q)
  have q2 : I + 1 + 1 ∉ [I] := fun q => Nat.ne_of_gt (Nat.lt_succ_of_lt (Nat.lt_succ_self I)) (List.mem_singleton.mp q)
  have q3 : I + 1 + 1 + 1 ∉ [I] := fun q => Nat.ne_of_gt (Nat.lt_succ_of_lt (Nat.lt_succ_of_lt (Nat.lt_succ_self I))) (List.mem_singleton.mp q)
  have hBlt : ∀ b o, hB.get? b = some o → b < I + 1 := fun b o e => hsz ▸ Heap.lt_size e
  have hex : ∀ b o, hB.get? b = some o → (((hB.push { cls := .type "list", data := .seq #[] }).push { cls := .type "dict", data := .dict #[] }).push { cls := .type "cell", data := .cell none }).get? b = some o :=
    fun b o e => Heap.get?_push_of_some _ (Heap.get?_push_of_some _ (Heap.get?_push_of_some _ e))
  have hD0 : (((hB.push { cls := .type "list", data := .seq #[] }).push { cls := .type "dict", data := .dict #[] }).push { cls := .type "cell", data := .cell none }).PlainList (I + 1) #[] :=
    ⟨0, by rw [← hsz]; exact Heap.get?_push_of_some _ (Heap.get?_push_of_some _ (Heap.get?_push_size _ rfl))⟩
  have hN0 : (((hB.push { cls := .type "list", data := .seq #[] }).push { cls := .type "dict", data := .dict #[] }).push { cls := .type "cell", data := .cell none }).Ns (I + 1 + 1) (fun _ => none) := by
    have e : (hB.push { cls := .type "list", data := .seq #[] }).objs.size = I + 1 + 1 := by rw [Heap.size_push, hsz]
    rw [← e]
    exact (Heap.Ns.new (hB.push { cls := .type "list", data := .seq #[] }) (.type "dict")).keeps fun b o e => Heap.get?_push_of_some _ e
  have hC0 : ∃ v, (((hB.push { cls := .type "list", data := .seq #[] }).push { cls := .type "dict", data := .dict #[] }).push { cls := .type "cell", data := .cell none }).IsCell (I + 1 + 1 + 1) v := by
    have e : ((hB.push { cls := .type "list", data := .seq #[] }).push { cls := .type "dict", data := .dict #[] }).objs.size = I + 1 + 1 + 1 := by rw [Heap.size_push, Heap.size_push, hsz]
    rw [← e]
    exact ⟨none, _, Heap.get?_push_size _ rfl, rfl⟩
  generalize ((hB.push { cls := .type "list", data := .seq #[] }).push { cls := .type "dict", data := .dict #[] }).push { cls := .type "cell", data := .cell none } = hS at hex hD0 hN0 hC0
  have WR := Walks.range (prog := pg) (w := w) (A := A) hh I 0 1 n
  have hnb : ∀ b o, h₀.get? b = some o → b ≠ I := fun b o e q => by rw [q, hI0] at e; cases e
  have loop : codeAny (model pg w) A (.compLoop (.ListComp elt [⟨.Name x px, iter, [], 0⟩] scope pos) 0 (.ref I) (.ref (I + 1)) (cenvC scope x cl (I + 1 + 1) env)) (compPost (model pg w) A E none Q (.ref (I + 1)) (I + 1 + 1))
      { heap := hS, gens := s.gens, drawn := s.drawn, toks := tk0, os := s.os } := by
    refine codeAny_compLoop_tests (fun k s' => ∃ i h' tk ys, k = n + 1 - i ∧ i ≤ n ∧ s' = { s with heap := h', toks := tk } ∧ IsRangeIter h' I (0 + (i : Nat) * 1) ((n : Int) - (i : Nat)) 1 ∧ h'.PlainList (I + 1) ys ∧ h'.Ns (I + 1 + 1) (fun _ => none) ∧
      (∃ v, h'.IsCell (I + 1 + 1 + 1) v) ∧ CarriedAll ys.toList ((rangeInts 0 1 i).map d) ∧ (∀ b o, b ≠ I → hB.get? b = some o → h'.get? b = some o)) ?_ (n + 1)
      ⟨0, hS, tk0, #[], rfl, Nat.zero_le _, rfl, by simpa using (show IsRangeIter hS I 0 (n : Int) 1 from hex _ _ hit), hD0, hN0, hC0, .nil, fun b o _ e => hex b o e⟩
    rintro k s' ⟨i, H, tk, ys, rfl, hi, rfl, hit', hD', hN', hC', hc', hk'⟩
    by_cases hlt : i < n
    · refine WR.item i _ _ _ hlt hit' fun v h1 tk1 hP hst hk1 => ?_
      obtain ⟨tv, rfl⟩ := hP
      dsimp only at hk1
      obtain ⟨v0, hv0⟩ := hC'
      have hD1 : h1.PlainList (I + 1) ys := hD'.at fun o e => hk1 _ _ q1 e
      have hN1 : h1.Ns (I + 1 + 1) (fun _ => none) := hN'.at' fun o e => hk1 _ _ q2 e
      have hC1 : h1.IsCell (I + 1 + 1 + 1) v0 := by
        obtain ⟨o, ho, hd⟩ := hv0
        exact ⟨o, hk1 _ _ q3 ho, hd⟩
      refine wpAny_assign_Name (wpAny_storeName_cell (c := I + 1 + 1 + 1) (by exact hkind) (hx _) (by simp [cenvC, List.lookup_cons]) hC1 fun h2 hv2 hs2 => ?_)
      rw [List.forIn_nil]
      refine wpAny_pure ?_
      rw [if_pos rfl]
      have up2 : ∀ b o, b ≠ I → hB.get? b = some o → h2.get? b = some o := fun b o hb e => (hs2.2 b (Nat.ne_of_lt (Nat.lt_trans (hBlt b o e) (Nat.lt_succ_of_lt (Nat.lt_succ_self _))))).trans (hk1 b o (by simpa using hb) (hk' b o hb e))
      have F2 : Fr h₀ L h2 m := by
        obtain ⟨oL, es, ep, hL, r⟩ := FB.ns
        exact ⟨⟨oL, es, ep, up2 _ _ hLI hL, r⟩, fun b o e => up2 b o (hnb b o e) (FB.keep b o e), FB.above⟩
      have N2 : News h₀ L h2 Z := fun p hp => ⟨up2 _ _ (hZI p hp) (NB p hp).1, (NB p hp).2⟩
      refine wpAny_mono (he (I + 1 + 1) (0 + (i : Nat) * 1) tv { heap := h2, gens := s.gens, drawn := s.drawn, toks := tk1, os := s.os } _ (List.mem_of_getElem? (rangeInts_get hlt)) (hN1.sameBut hs2 (Nat.ne_of_lt (Nat.lt_succ_self _))) hv2 F2 N2) (fun y s₃ h₃ => ?_) fun _ _ e => e
      obtain ⟨hcy, h3, tk3, rfl, hk3⟩ := h₃
      dsimp only at hk3
      have hys : ys.size ≤ sizeLine := by
        have e1 := hc'.length_eq
        rw [List.length_map, rangeInts_length, Array.length_toList] at e1
        exact Nat.le_trans (show ys.size ≤ 1000 by omega) (by decide)
      refine wpAny_list_append_plain (hsz := hys) ((hD1.at fun o e => (hs2.2 _ (Nat.ne_of_lt (Nat.lt_succ_of_lt (Nat.lt_succ_self _)))).trans e).at fun o e => hk3 _ _ e) fun h4 hl4 hs4 => ?_
      refine ⟨n + 1 - (i + 1), by omega, i + 1, h4, tk3, ys.push y, rfl, hlt, rfl, ?_, hl4, ((hN1.sameBut hs2 (Nat.ne_of_lt (Nat.lt_succ_self _))).keeps hk3).sameBut hs4 (Nat.ne_of_gt (Nat.lt_succ_self _)), ?_, ?_, ?_⟩
      · exact (hs4.2 _ (Nat.ne_of_lt (Nat.lt_succ_self _))).trans (hk3 _ _ ((hs2.2 _ (Nat.ne_of_lt (Nat.lt_succ_of_lt (Nat.lt_succ_of_lt (Nat.lt_succ_self _))))).trans hst))
      · obtain ⟨o, ho, hd⟩ := hv2
        exact ⟨_, o, (hs4.2 _ (Nat.ne_of_gt (Nat.lt_succ_of_lt (Nat.lt_succ_self _)))).trans (hk3 _ _ ho), hd⟩
      · rw [Array.toList_push, show rangeInts 0 1 (i + 1) = rangeInts 0 1 i ++ [((0 : Int) + (i : Nat) * 1)] by unfold rangeInts; rw [List.range_succ, List.map_append]; rfl, List.map_append]
        exact CarriedAll.appendLM hc' (.cons hcy .nil)
      · intro b o hb e
        exact (hs4.2 b (Nat.ne_of_lt (hBlt b o e))).trans (hk3 b o (up2 b o hb e))
    · have hin : i = n := by omega
      subst hin
      refine WR.done _ _ _ hit' fun h1 tk1 hk1 => ?_
      dsimp only at hk1
      refine ⟨fun _ => none, hN'.at' fun o e => hk1 _ _ q2 e, fun h5 hs5 => ?_⟩
      obtain ⟨n', hD5⟩ := hD'
      have hD6 : h5.get? (I + 1) = some (W.listOf ys n') := (hs5.2 _ (Nat.ne_of_lt (Nat.lt_succ_self _))).trans (hk1 _ _ q1 hD5)
      have up5 : ∀ b o, b ≠ I → hB.get? b = some o → h5.get? b = some o := fun b o hb e => (hs5.2 b (Nat.ne_of_lt (Nat.lt_succ_of_lt (hBlt b o e)))).trans (hk1 b o (by simpa using hb) (hk' b o hb e))
      have F5 : Fr h₀ L h5 m := by
        obtain ⟨oL, es, ep, hL, r⟩ := FB.ns
        exact ⟨⟨oL, es, ep, up5 _ _ hLI hL, r⟩, fun b o e => up5 b o (hnb b o e) (FB.keep b o e), FB.above⟩
      refine hQ (I + 1) ys.toList n' h5 _ F5 (fun p hp => ?_) hc'
      rcases List.mem_cons.mp hp with rfl | hp
      · refine ⟨hD6, fun q => ?_, ?_⟩
        · obtain ⟨oL, es, ep, hL, r⟩ := FB.ns
          have := hBlt _ _ hL
          rw [← q] at this
          exact Nat.lt_irrefl _ this
        · cases e : h₀.get? (I + 1) with
          | none => rfl
          | some o => exact absurd (hBlt _ _ (FB.keep _ _ e)) (Nat.lt_irrefl _)
      · exact ⟨up5 _ _ (hZI p hp) (NB p hp).1, (NB p hp).2⟩
  exact codeAny_compStart_list loop (WR.self 0 _ _ _ (by simpa using (show IsRangeIter hS I 0 (n : Int) 1 from hex _ _ hit)) loop)
end
section
open PySem PySem.W PyProof.Rows PySem.Calls PySem.Spec PyProof PyProof.V PySem.SeqAt
set_option Elab.async false
set_option maxRecDepth 100000
set_option maxHeartbeats 1000000
set_option linter.unusedVariables false
set_option autoImplicit false
variable {G : GA} {mg mb : Str → Option Value} {w : World}
/-- a list comprehension over a list, in any env, that only extends the heap -/
theorem lcE {α : Type} (K : ItemKind α) {A : Around} {E : Value → Shared → Prop} {s : Shared} {env : Env} {elt iter : PySem.Expr} {x : Str} {px : Pos} {scope : Scope} {cl : List (Str × Addr)} {pos : Pos} {Q : Value → Shared → Prop} {as : List α} {ax : Addr} {vs : List Value} (d : α → PyData)
    (hh : A.handled = none) (hiter : ∀ Q' : Value → Shared → Prop, (∀ tk, Q' (.ref ax) { s with toks := tk }) → wpAny (model pg w) A (eval iter env) Q' E s) (hl : s.heap.IsList ax vs.toArray) (hi : AreOf K vs as) (hlen : as.length ≤ 10000)
    (he : ∀ C i v s₂ m₂ E', i ∈ as → K.is i v → s₂.heap.Ns (compEnvC scope cl C env).locals m₂ → m₂ x = some v → Ext s.heap s₂.heap →
      wpAny (model pg w) A (eval elt (compEnvC scope cl C env)) (fun y s₃ => Carried y (d i) ∧ Keeps s₂ s₃) E' s₂)
    (hQ : ∀ D ys h' tk, Ext s.heap h' → h'.IsList D ys.toArray → CarriedAll ys (as.map d) → Q (.ref D) { s with heap := h', toks := tk })
    (hclos : closureFor scope env = pure cl) (hcell : ∀ y ∈ scope.names, y.2 ≠ .cell) (hkind : scope.kind = .function)
    (hnames : ∀ y ∈ scope.names, y.2 = .local → scope.names.lookup y.1 = some .local) (hx : scope.names.lookup x = some .local) (hs : ∀ x, foldedSetIterable iter env x = pure x) :
    wpAny (model pg w) A (eval (.ListComp elt [⟨.Name x px, iter, [], 0⟩] scope pos) env) Q E s := by
  refine wpAny_ListComp_free (K.lift fun _ => true) (fun v y => ∃ a, K.is a v ∧ Carried y (d a)) hclos hcell hkind hnames hx (hiter _ fun tk => ?_) hs
  have hlt : ax < s.heap.objs.size := by obtain ⟨_, e, _⟩ := hl; exact Heap.lt_size e
  have up : ∀ (s₃ : Shared), (∀ b o, b ∉ [s.heap.objs.size] → (s.heap.push { cls := .type "list_iterator", data := .fields #[.ref ax, .int 0 0] }).get? b = some o → s₃.heap.get? b = some o) → Ext s.heap s₃.heap :=
    fun s₃ hk b o e => hk b o (fun hm => Nat.lt_irrefl _ (List.mem_singleton.mp hm ▸ Heap.lt_size e)) (Heap.get?_push_of_some _ e)
  refine wpAny_pyIter_list (s := { s with toks := tk }) hl ⟨s.heap.objs.size, [s.heap.objs.size, ax], [s.heap.objs.size], vs.toArray.size, _, _, rfl, Walks.list hh _ _ (Nat.ne_of_lt hlt) vs.toArray, ?_, ⟨⟨_, Heap.get?_push_size _ rfl, rfl, rfl⟩, hl.push _⟩, ?_, ⟨?_, ?_⟩, ?_⟩
  · rw [List.size_toArray, hi.length]; exact Nat.le_trans hlen (by decide)
  · intro b hb
    show b < (s.heap.push _).objs.size
    rw [Heap.size_push]
    rcases List.mem_cons.mp hb with rfl | hb
    · exact Nat.lt_succ_self _
    · rw [List.mem_singleton.mp hb]; exact Nat.lt_succ_of_lt hlt
  · intro C i v s₃ m₃ E' hC hP hn hm hk _
    obtain ⟨a, hmem, ha⟩ := hi.memD v (by simpa using Array.mem_of_getElem? hP)
    rw [ItemKind.lift_is ha, List.forIn_nil]
    exact wpAny_pure ⟨rfl, ⟨_, _, rfl, fun _ _ e => e⟩⟩
  · intro C i v s₃ m₃ E' hC hP hp hn hm hk _
    obtain ⟨a, hmem, ha⟩ := hi.memD v (by simpa using Array.mem_of_getElem? hP)
    exact wpAny_mono (he C a v s₃ m₃ E' hmem ha hn hm (up s₃ hk)) (fun y s₄ h₄ => ⟨⟨a, ha, h₄.1⟩, h₄.2⟩) fun _ _ e => e
  · intro D h' tk2 ys vs' hnew hlD hplD hlen' hP hF hk
    have e : vs' = vs := by simpa using list_of_places hlen' hP
    subst e
    have hc := hi.paired (fun _ => true) d _ hF
    rw [List.filter_eq_self.mpr (fun _ _ => rfl)] at hc
    exact hQ D ys.toList h' tk2 (up { s with heap := h' } hk) (by rw [Array.toArray_toList]; exact hlD) hc
theorem nm_ac {M : Model} {A : Around} {E : Value → Shared → Prop} {s : Shared} {L : Addr} {cm : Str → Option Value} {env : Env} {x : Str} {pos : Pos} {v : Value} {Q : Value → Shared → Prop}
    (kc : CellsIn L cm s.heap) (hv : cm x = some v) (h : Q v s) (hx : x ∈ cellNs) (hk : env.scope.kind = .function) (hl : env.kindOf x = some .cell) (hc : env.cells.lookup x = some (cAt L x)) (hd : (x == ("__debug__" : Str)) = false) :
    wpAny M A (eval (.Name x pos) env) Q E s := wpAny_Name (wpAny_loadName_cell hk hl hc (hv ▸ kc x hx) h) hd
theorem nm_k {M : Model} {A : Around} {E : Value → Shared → Prop} {s : Shared} {c : Addr} {env : Env} {x : Str} {pos : Pos} {v : Value} {Q : Value → Shared → Prop}
    (hv : s.heap.IsCell c (some v)) (h : Q v s) (hk : env.scope.kind = .function) (hl : env.kindOf x = some .cell) (hc : env.cells.lookup x = some c) (hd : (x == ("__debug__" : Str)) = false) :
    wpAny M A (eval (.Name x pos) env) Q E s := wpAny_Name (wpAny_loadName_cell hk hl hc hv h) hd
theorem nm_x {M : Model} {A : Around} {E : Value → Shared → Prop} {s : Shared} {m : Str → Option Value} {env : Env} {x : Str} {pos : Pos} {v : Value} {Q : Value → Shared → Prop}
    (hn : s.heap.Ns env.locals m) (hv : m x = some v) (h : Q v s) (hk : env.scope.kind = .function) (hl : env.kindOf x = some .local) (hd : (x == ("__debug__" : Str)) = false) :
    wpAny M A (eval (.Name x pos) env) Q E s := wpAny_Name (wpAny_loadName_local hk hl hn hv h) hd
local macro_rules | `(tactic| walk_at "eval Name") => `(tactic| first
  | refine nm_x (by assumption) (by assumption) ?_ (by assumption) (by assumption) (by decide)
  | refine nm_ac (by assumption) (by assumption) ?_ (by decide) (by assumption) (by assumption) (by assumption) (by decide)
  | refine nm_k (by assumption) ?_ (by assumption) (by assumption) (by assumption) (by decide))
local macro_rules | `(tactic| walk_at "forall") => `(tactic| fail "no")
theorem elt17 {A : Around} {E : Value → Shared → Prop} {s : Shared} {env : Env} {L c tl sl rw : Addr} {m cm : Str → Option Value} {p1 p2 p3 p4 p5 p6 p7 p8 p9 : Pos} {p i : Int} {tp ti : Tok} {vs vr : List Value} {refs : List Value} {sg row : List Int}
    (hk : env.scope.kind = .function) (kS : env.kindOf "signs" = some .cell) (cS : env.cells.lookup ("signs" : Str) = some (cAt L "signs")) (kT : env.kindOf "tables" = some .cell) (cT : env.cells.lookup ("tables" : Str) = some (cAt L "tables"))
    (kK : env.kindOf "k" = some .cell) (cK : env.cells.lookup ("k" : Str) = some c) (kP : env.kindOf "part" = some .local)
    (kC : CellsIn L cm s.heap) (hcell : s.heap.IsCell c (some (.int i ti))) (hNs : s.heap.Ns env.locals m) (hx : m "part" = some (.int p tp)) (hs : cm "signs" = some (.ref sl)) (ht : cm "tables" = some (.ref tl))
    (hS : s.heap.IsList sl vs.toArray) (iS : IntsAre vs sg) (hT : s.heap.IsList tl refs.toArray) (hR : s.heap.IsList rw vr.toArray) (iR : IntsAre vr row) (hrow : refs[p.toNat]? = some (.ref rw))
    (hp0 : 0 ≤ p) (hp1 : p < sg.length) (hpl : p < 1000) (hi0 : 0 ≤ i) (hi1 : i < row.length) (hil : i < 1000) (hsb : sg.getD p.toNat 0 = 1 ∨ sg.getD p.toNat 0 = -1) (hrb : 0 ≤ row.getD i.toNat 0 ∧ row.getD i.toNat 0 ≤ 10000) :
    wpAny (model pg w) A (eval (.BinOp (.Subscript (.Name "signs" p1) (.Name "part" p2) p3) .Mult (.Subscript (.Subscript (.Name "tables" p4) (.Name "part" p5) p6) (.Name "k" p7) p8) p9) env)
      (fun y s₃ => Carried y (.int (sg.getD p.toNat 0 * row.getD i.toNat 0)) ∧ Keeps s s₃) E s := by
  repeat' (first | ((try dsimp only); (fail_if_success (with_reducible show wpAny _ _ (subscriptTail _ _ _ _) _ _ _)); walk1))
  refine item_list_ints hS iS (by omega) (by omega) (by omega) ?_
  intro tA
  repeat' (first | ((try dsimp only); (fail_if_success (with_reducible show wpAny _ _ (subscriptTail _ _ _ _) _ _ _)); walk1))
  refine item_listL hT (by omega) (by omega) hrow ?_
  repeat' (first | ((try dsimp only); (fail_if_success (with_reducible show wpAny _ _ (subscriptTail _ _ _ _) _ _ _)); walk1))
  have hii : i.toNat < row.length := by omega
  obtain ⟨tB, hB⟩ := iR.get i.toNat _ (ints_getD hi0 hi1)
  refine tail_any hR.typeIs slot_list_getitem.lookup (wpAny_getItem_list (x := .int (row.getD i.toNat 0) tB) hR (by omega) (by omega) (by simpa using hB) ?_) (by with_unfolding_all rfl)
  generalize sg.getD p.toNat 0 = a at hsb ⊢
  generalize row.getD i.toNat 0 = b at hrb ⊢
  obtain ⟨hb0, hb1⟩ := hrb
  rcases hsb with rfl | rfl
  all_goals (repeat' (first | ((try dsimp only); walk1)))
  · exact .int _ _
  · exact ⟨_, _, rfl, fun _ _ e => e⟩
  · exact .int _ _
  · exact ⟨_, _, rfl, fun _ _ e => e⟩
/-- what the lists hold at the last test -/
structure Tb17 (Z : List (Addr × Obj)) (tl sl wl : Addr) (rows : List Addr) (tbl : Nat → List Int) (sg wi : List Int) : Prop where
  tb : ∃ n, (tl, W.listOf (rows.map Value.ref).toArray n) ∈ Z
  row : ∀ p, p < rows.length → LI Z (rows.getD p 0) ((tbl p).map .int) ∧ (tbl p).length = 7 ∧ ∀ k, k < 7 → 0 ≤ (tbl p).getD k 0 ∧ (tbl p).getD k 0 ≤ 10000
  sgl : LI Z sl (sg.map .int)
  sgn : sg.length = rows.length
  sgv : ∀ p, p < rows.length → sg.getD p 0 = 1 ∨ sg.getD p 0 = -1
  few : rows.length ≤ 64
  wll : LI Z wl (wi.map .int)
  win : ∀ p ∈ wi, 0 ≤ p ∧ p < rows.length
  wn : wi.length ≤ 100
theorem out17 {G : GA} {mg mb : Str → Option Value} {A : Around} {E : Value → Shared → Prop} {s : Shared} {env : Env} {h₀ : Heap} {L c tl sl wl : Addr} {m cm : Str → Option Value} {Z : List (Addr × Obj)} {p1 p2 p3 p4 p5 p6 p7 p8 p9 p10 p11 p12 p13 p14 : Pos} {sc : Scope} {cl : List (Str × Addr)} {i : Int} {ti : Tok}
    {rows : List Addr} {tbl : Nat → List Int} {sg wi : List Int}
    (T : Tp G mg mb w s.heap) (hh : A.handled = none) (B : Tb17 Z tl sl wl rows tbl sg wi) (N : News h₀ L s.heap Z) (kC : CellsIn L cm s.heap) (hs : cm "signs" = some (.ref sl)) (ht : cm "tables" = some (.ref tl)) (hw : cm "within" = some (.ref wl))
    (hi0 : 0 ≤ i) (hi1 : i < 7) (hcell : s.heap.IsCell c (some (.int i ti)))
    (hk : env.scope.kind = .function) (hgl : env.globals = mainGlobals) (hbl : env.builtins = builtinsNs) (kU : env.kindOf "sum" = some .globalImplicit) (kW : env.kindOf "within" = some .cell) (cW : env.cells.lookup ("within" : Str) = some (cAt L "within"))
    (hsk : sc.kind = .function) (hclos : closureFor sc env = pure cl) (hcell0 : ∀ y ∈ sc.names, y.2 ≠ .cell) (hnames : ∀ y ∈ sc.names, y.2 = .local → sc.names.lookup y.1 = some .local) (hx : sc.names.lookup ("part" : Str) = some .local)
    (kS : ∀ C, (compEnvC sc cl C env).kindOf "signs" = some .cell) (kT : ∀ C, (compEnvC sc cl C env).kindOf "tables" = some .cell) (kK : ∀ C, (compEnvC sc cl C env).kindOf "k" = some .cell) (kP : ∀ C, (compEnvC sc cl C env).kindOf "part" = some .local)
    (cS : cl.lookup ("signs" : Str) = some (cAt L "signs")) (cT : cl.lookup ("tables" : Str) = some (cAt L "tables")) (cK : cl.lookup ("k" : Str) = some c) :
    wpAny (model pg w) A (eval (.Call (.Name "sum" p10) [.ListComp (.BinOp (.Subscript (.Name "signs" p1) (.Name "part" p2) p3) .Mult (.Subscript (.Subscript (.Name "tables" p4) (.Name "part" p5) p6) (.Name "k" p7) p8) p9) [⟨.Name "part" p11, .Name "within" p12, [], 0⟩] sc p13] [] p14) env)
      (fun y s₃ => Carried y (.int (wi.map fun p => sg.getD p.toNat 0 * (tbl p.toNat).getD i.toNat 0).sum) ∧ Keeps s s₃) E s := by
  obtain ⟨vw, nw, hmw, hcw⟩ := B.wll
  obtain ⟨vs, ns, hms, hcs⟩ := B.sgl
  obtain ⟨nt, hmt⟩ := B.tb
  refine Call_ ?_
  refine nm_boot T (by decide) (by boot_fast) ?_ (by decide) hbl hgl hk kU (by decide)
  repeat' (first | ((try dsimp only); (fail_if_success (with_reducible show wpAny _ _ (eval (Expr.ListComp _ _ _ _) _) _ _ _)); walk1))
  refine lcE .int (as := wi) (ax := wl) (vs := vw) (cl := cl) (fun p => .int (sg.getD p.toNat 0 * (tbl p.toNat).getD i.toNat 0)) hh ?_ (News.isList N hmw) (areInts hcw) (Nat.le_trans B.wn (show 100 ≤ 10000 by decide)) ?_ ?_ hclos hcell0 hsk hnames hx (fun _ => by rfl)
  · intro Q' hk'
    exact nm_ac kC hw (hk' _) (by decide) hk kW cW (by decide)
  · rintro Cx p _ ⟨h4, g4, d4, t4, o4⟩ m₄ E'' hp ⟨tp, rfl⟩ hNs4 hx4 hk4
    dsimp only at hNs4 hk4
    have hp2 := B.win p hp
    obtain ⟨⟨vr, nr, hmr, hcr⟩, hlen, hbd⟩ := B.row p.toNat (by omega)
    have hfew := B.few
    have hsgn := B.sgn
    have hrow : (rows.map Value.ref)[p.toNat]? = some (.ref (rows.getD p.toNat 0)) := by
      rw [List.getElem?_map, List.getD_eq_getElem?_getD, List.getElem?_eq_getElem (by omega)]; rfl
    exact elt17 (env := compEnvC sc cl Cx env) (L := L) (cm := cm) (c := c) (refs := rows.map Value.ref) hsk (kS Cx) cS (kT Cx) cT (kK Cx) cK (kP Cx) (fun x hx => (kC x hx).keeps hk4) (hcell.keeps hk4) hNs4 hx4 hs ht
      ((News.isList N hms).at fun o e => hk4 _ _ e) (IntsAre.ofCarried hcs) ((News.isList N hmt).at fun o e => hk4 _ _ e) ((News.isList N hmr).at fun o e => hk4 _ _ e) (IntsAre.ofCarried hcr) hrow
      (by omega) (by omega) (by omega) hi0 (by omega) (by omega) (B.sgv p.toNat (by omega)) (hbd i.toNat (by omega))
  · intro D2 ys h' tk hx2 hl2 hc2
    repeat' (first | ((try dsimp only); (fail_if_success (with_reducible show wpAny _ _ (call (Value.builtin "sum") _) _ _ _)); walk1))
    refine sum_ix hh hl2 (IntsAre.ofCarried (by rw [List.map_map]; exact hc2)) fun h3 tk3 t3 hx3 => ?_
    exact ⟨.int _ _, ⟨_, _, rfl, fun b o e => hx3 b o (hx2 b o e)⟩⟩
end
section
open PySem PySem.W PyProof.Rows PySem.Calls PySem.Spec PyProof PyProof.V PySem.SeqAt
set_option Elab.async false
set_option maxRecDepth 100000
set_option maxHeartbeats 1000000
set_option linter.unusedVariables false
set_option autoImplicit false
variable {G : GA} {mg mb : Str → Option Value} {w : World}
section
variable {A : Around} {E : Value → Shared → Prop} {s : Shared} {h₀ : Heap} {L a : Addr} {cd : Value} {m cm : Str → Option Value} {Z : List (Addr × Obj)} {Q : Flow → Shared → Prop}
theorem b17 {tl sl wl D : Addr} {rows : List Addr} {tbl : Nat → List Int} {sg wi dv : List Int} (T : Tp G mg mb w h₀) (F : Fr h₀ L s.heap m) (N : News h₀ L s.heap Z) (C : Cz (csL L) cm Z) (hh : A.handled = none) (hu : A.units + 64 < cLine)
    (ht : cm "tables" = some (.ref tl)) (hs : cm "signs" = some (.ref sl)) (hw : cm "within" = some (.ref wl)) (B : Tb17 Z tl sl wl rows tbl sg wi)
    (hdm : m "due" = some (.ref D)) (hD : LI Z D (dv.map .int)) (heq : (rangeInts 0 1 7).map (fun k => (wi.map fun p => sg.getD p.toNat 0 * (tbl p.toNat).getD k.toNat 0).sum) = dv)
    (h : ∀ h' tk Z', Fr h₀ L h' m → News h₀ L h' Z' → Cz (csL L) cm Z' → Lasts Z Z' → Q .next { s with heap := h', toks := tk }) :
    wpAny (model pg w) A (exec (loopS 17) (envL L a cd)) Q E s := by
  conv in (occs := *) (loopS _) => all_goals (unfold loopS loopB lawS fnS; whnf)
  repeat' (first | ((try dsimp only); (fail_if_success (with_reducible show wpAny _ _ (eval (Expr.ListComp _ _ _ _) _) _ _ _)); walk1))
  refine lcCell (A := A) (Z := Z) (L := L) (h₀ := h₀) (m := m) (x := "k") (cl := [("within", cAt L "within"), ("tables", cAt L "tables"), ("signs", cAt L "signs")]) (n := 7) (fun k => .int (wi.map fun p => sg.getD p.toNat 0 * (tbl p.toNat).getD k.toNat 0).sum) hh ?_ (by decide) ?_ ?_ (by kernel_rfl) (fun _ => by rfl) (fun _ => by rfl) (by rfl) (by decide) (fun _ => by kernel_rfl) (fun _ => by rfl)
  · intro Q' hk
    repeat' (first | ((try dsimp only); (fail_if_success (with_reducible show wpAny _ _ (call (Value.type "range") _) _ _ _)); walk1))
    exact rng1 (by assumption) (by assumption) ⟨_, rfl⟩ hk
  · rintro L2 i t ⟨h3, g3, d3, t3, o3⟩ E' hi hNs hcell F3 N3
    dsimp only at hNs hcell F3 N3
    have hi2 := mem_rangeInts hi
    have kT3 : Tp G mg mb w h3 := T.keeps F3.keep
    have kC3 : CellsIn L cm h3 := cellsIn N3 C (fun _ h => h) fun _ _ e => e
    refine out17 (m := m) (G := G) (mg := mg) (mb := mb) (L := L) (cm := cm) (c := L2 + 1) (cl := [("tables", cAt L "tables"), ("signs", cAt L "signs"), ("k", L2 + 1)]) (ti := t) kT3 hh B N3 kC3 hs ht hw hi2.1 (by omega) hcell ?_ ?_ ?_ ?_ ?_ ?_ ?_ ?_ ?_ ?_ ?_ ?_ ?_ ?_ ?_ ?_ ?_ ?_
    · kernel_rfl
    · kernel_rfl
    · kernel_rfl
    · kernel_rfl
    · kernel_rfl
    · kernel_rfl
    · rfl
    · kernel_rfl
    · decide
    · decide
    · rfl
    · intro C; kernel_rfl
    · intro C; kernel_rfl
    · intro C; kernel_rfl
    · intro C; kernel_rfl
    · kernel_rfl
    · kernel_rfl
    · kernel_rfl
  · intro D2 ys n' h' tk F' N' hc
    obtain ⟨vd, nd, hmd, hcd⟩ := hD
    repeat' (first | ((try dsimp only); (fail_if_success (with_reducible show wpAny _ _ (compareOp _ _ _) _ _ _)); walk1))
    have hcs : CarriedAll ys (dv.map .int) := by rw [← heq, List.map_map]; exact hc
    (with_reducible rename Fr _ _ _ _ => F9)
    (with_reducible rename News _ _ _ _ => N9)
    refine ne_intsK (News.isList N9 (.head _)) (IntsAre.ofCarried hcs) (News.isList N9 (.tail _ hmd)) (IntsAre.ofCarried hcd) hu ?_
    rw [show (!decide (dv = dv)) = false by simp]
    repeat' (first | ((try dsimp only); walk1))
    exact h _ _ _ F9 N9 (Cz.sub (by assumption) fun _ h => .tail _ h) (Lasts.sub fun _ h => .tail _ h)
end
end
section
open PySem PySem.W PyProof.Rows PySem.Calls PySem.Spec
set_option Elab.async false
set_option maxRecDepth 100000
set_option maxHeartbeats 1000000
set_option linter.unusedVariables false
set_option autoImplicit false
noncomputable def psets : List (List Int) := ((List.range 64).map fun n => ([1, 2, 3, 4, 5, 6] : List Int).filter fun p => n / 2 ^ (p - 1).toNat % 2 == 1).filter fun l => 1 ≤ l.length && l.length ≤ 3
noncomputable def subs : List (List Int) := [] :: psets
noncomputable def pickF (ps : List Int) (mask : Nat) : List Int := ((rangeInts 0 1 ps.length).filter fun k => ((mask : Int) / 2 ^ k.toNat % 2 == 1)).map fun k => ps.getD k.toNat 0
noncomputable def smF : List Str := (rangeInts 1 1 7).map fun i => ⟨#[(96 + i).toNat]⟩
noncomputable def grF (t3 : Int) : List Str := (rangeInts 1 1 7).map fun i => ⟨#[(([64, 119807, 120431] : List Int).getD ((i + t3) % 3).toNat 0 + i).toNat]⟩
noncomputable def wordF (pk : List Int) (t3 : Int) : List Str := (rangeInts 1 1 7).map fun i => (if pk.contains i || i == 7 then (grF t3).getD (i - 1).toNat ⟨#[]⟩ else smF.getD (i - 1).toNat ⟨#[]⟩)
noncomputable def lowC (c : Nat) : Nat := if c < 97 then c + 32 else if c < 119808 then c else if c < 120432 then c - 119808 + 97 else c - 120432 + 97
noncomputable def low (x : Str) : Str := ⟨#[lowC (x.cps.getD 0 0)]⟩
noncomputable def lowOk (x : Str) : Bool := match x.cps.toList with
  | [c] => (97 ≤ c && c ≤ 103) || (65 ≤ c && c ≤ 71) || (119808 ≤ c && c ≤ 119814) || (120432 ≤ c && c ≤ 120438)
  | _ => false
noncomputable def bsF (pk : List Int) : List Bool := (rangeInts 1 1 7).map fun i => pk.contains i || i == 7
noncomputable def leadF (pk : List Int) (t3 : Int) : Str := Txt.join (Str.ofString "") ((rangeInts 0 1 7).map fun k => if smF.getD k.toNat ⟨#[]⟩ == (wordF pk t3).getD k.toNat ⟨#[]⟩ then Str.ofString " " else Str.ofString "\t")
noncomputable def textF (pk : List Int) (t3 : Int) : Str := Txt.join (Str.ofString "") ((rangeInts 0 1 7).map fun k => if smF.getD k.toNat ⟨#[]⟩ == (wordF pk t3).getD k.toNat ⟨#[]⟩ then (wordF pk t3).getD k.toNat ⟨#[]⟩ else Str.ofString "\"" ++ (wordF pk t3).getD k.toNat ⟨#[]⟩)
noncomputable def wsF (pk : List Int) (t3 : Int) : WS := wrun (bsF pk ++ List.replicate t3.toNat false)
noncomputable def ckA (pk : List Int) (t3 : Int) : Bool := (wordF pk t3).all lowOk && (wordF pk t3).map low == smF && (wordF pk t3).all (fun x => x.length ≤ 10) && leadF pk t3 == wtxt (bsF pk)
noncomputable def ckB (pk : List Int) (t3 : Int) : Bool := let y := textF pk t3 ++ Str.ofString "(\""
  let z := stripF y
  (textF pk t3).length ≤ 50 && y.cps.toList.all (· != 92) && !(Builtin.Str.occurrences y (Str.ofString "\"") 0 y.length 1).isEmpty && decide (z.cps.size < 1000) && z.cps.toList.all (fun c => c != 92 && c != 41) && ((opN z z.cps.size == 0) == ((pk.length + 1) % 2 == 1))
noncomputable def ckC (pk : List Int) (t3 : Int) : Bool := ((wsF pk t3).n : Int) == 7 + t3 && (wsF pk t3).nt == pk.length + 1 && decide ((wsF pk t3).cnt.length < 500) && (wsF pk t3).cnt.all (fun c => decide (c < 1000)) && (rangeInts 1 1 7).all (fun z => decide (ilv (wsF pk t3) z.toNat ≤ 10000))
noncomputable def sgF (pk : List Int) : Int := if (pk.length + 1) % 2 == 1 then 1 else -1
noncomputable def rowF (pk : List Int) (t3 : Int) : List Int := (rangeInts 1 1 7).map fun z => (ilv (wsF pk t3) z.toNat : Nat)
noncomputable def withinF (mask : Nat) : List Int := (rangeInts 0 1 (mask + 1)).filter fun p => (Builtin.bitAnd p (mask : Nat) == p)
noncomputable def ckD (ps : List Int) (t3 : Int) : Bool := (List.range (2 ^ ps.length)).all fun mask => (rangeInts 0 1 7).map (fun k => ((withinF mask).map fun p => sgF (pickF ps p.toNat) * (rowF (pickF ps p.toNat) t3).getD k.toNat 0).sum) == (rangeInts 1 1 7).map (fun z => dueF (pickF ps mask) t3 z)
noncomputable def psF (pk : List Int) (base : Nat) : List Nat := (pk ++ [7]).map fun p => ((base : Int) + p - 1).toNat
noncomputable def ascK : Nat → List Nat → Bool
  | _, [] => true
  | i, q :: r => decide (i ≤ q) && ascK (q + 1) r
noncomputable def ckE (pk : List Int) (base : Nat) : Bool := ascK 0 (psF pk base) && (psF pk base).all (fun p => decide (p < 32))
noncomputable def ckS (pk : List Int) (base : Nat) : Bool := let ws := (psF pk base).map wordP
  Txt.split (Txt.join (Str.ofString ", ") ws) (Str.ofString ", ") == ws && decide ((Txt.join (Str.ofString ", ") ws).length ≤ 10000)
theorem fA : (subs.all fun pk => ckA pk 0 && ckA pk 1 && ckA pk 2) = true := by decide +kernel
theorem fC : (subs.all fun pk => ckC pk 0 && ckC pk 1 && ckC pk 2) = true := by decide +kernel
theorem fB0 : (subs.all fun pk => ckB pk 0) = true := by decide +kernel
theorem fB1 : (subs.all fun pk => ckB pk 1) = true := by decide +kernel
theorem fB2 : (subs.all fun pk => ckB pk 2) = true := by decide +kernel
theorem fE : ((List.range 26).all fun b => subs.all fun pk => ckE pk b) = true := by decide +kernel
theorem fP : (psets.all fun ps => (List.range (2 ^ ps.length)).all fun mask => subs.contains (pickF ps mask)) = true := by decide +kernel
end
section
open PySem PySem.W PyProof.Rows PySem.Calls PySem.Spec
set_option Elab.async false
set_option maxRecDepth 100000
set_option maxHeartbeats 1000000
set_option linter.unusedVariables false
set_option autoImplicit false
/-- where a comma and a blank stand -/
noncomputable def cutsOf : List Nat → Nat → List Nat
  | [], _ => []
  | c :: r, a => if c = 44 ∧ r.head? = some 32 then a :: cutsOf r (a + 1) else cutsOf r (a + 1)
noncomputable def joinL (w : List Nat) (rest : List (List Nat)) : List Nat := w ++ (rest.map fun p => 44 :: 32 :: p).flatten
theorem at_iff {x : Str} {Y : List Nat} {c a : Nat} (h : x.cps.toList.drop a = c :: Y) : (a + (Str.ofString ", ").length ≤ x.length ∧ Builtin.Str.subAt x (Str.ofString ", ") a = true) ↔ (c = 44 ∧ Y.head? = some 32) := by
  have hl : (Str.ofString ", ").length = 2 := by decide
  have hc : (Str.ofString ", ").cps.toList = [44, 32] := by decide
  have hlen : x.length = a + 1 + Y.length := by
    have := congrArg List.length h
    rw [List.length_drop, List.length_cons] at this
    have e : x.cps.toList.length = x.length := by simp [Str.length]
    omega
  rw [StrLaws.subAt_eq, hl, hc, h, hlen]
  cases Y with
  | nil => simp
  | cons d r => simp; omega
theorem occ_loop {x : Str} (limit : Nat) : ∀ (Y : List Nat) (a : Nat) (st : Array Nat × Nat), x.cps.toList.drop a = Y → (st.snd ≤ a ∨ (st.snd = a + 1 ∧ Y.head? ≠ some 44)) → st.fst.size + Y.length < limit →
    (forIn (List.range' a (Y.length + 1)) st (StrLaws.occBody x (Str.ofString ", ") x.length limit)).run.fst.toList = st.fst.toList ++ cutsOf Y a
  | [], a, st, hY, hs, hl => by
    have hl2 : (Str.ofString ", ").length = 2 := by decide
    have hlen : x.length ≤ a := by
      have := congrArg List.length hY
      have e : x.cps.toList.length = x.length := by simp [Str.length]
      rw [List.length_drop, e, List.length_nil] at this
      omega
    rw [show List.range' a (([] : List Nat).length + 1) = [a] by rfl, List.forIn_cons]
    unfold StrLaws.occBody
    rw [if_neg (fun h => by have := h.1.2; omega)]
    simp [cutsOf]
  | c :: r, a, st, hY, hs, hl => by
    have hr : x.cps.toList.drop (a + 1) = r := by
      rw [← List.drop_drop, hY]; rfl
    rw [List.length_cons, show List.range' a (r.length + 1 + 1) = a :: List.range' (a + 1) (r.length + 1) by rfl, List.forIn_cons]
    have hat := at_iff (x := x) hY
    unfold cutsOf
    by_cases hc : c = 44 ∧ r.head? = some 32
    · have h2 := hat.mpr hc
      have hsn : st.snd ≤ a := by
        rcases hs with h | ⟨_, h⟩
        · exact h
        · exact absurd (by rw [hc.1]; rfl) h
      rw [if_pos hc]
      rw [show StrLaws.occBody x (Str.ofString ", ") x.length limit a st = pure (ForInStep.yield (st.fst.push a, a + (Str.ofString ", ").length)) by
        unfold StrLaws.occBody
        rw [if_pos ⟨⟨⟨by rw [List.length_cons] at hl; omega, hsn⟩, h2.1⟩, h2.2⟩]]
      have hl2 : (Str.ofString ", ").length = 2 := by decide
      have ih := occ_loop limit r (a + 1) (st.fst.push a, a + (Str.ofString ", ").length) hr (.inr ⟨by rw [hl2], by rw [hc.2]; decide⟩) (by simp at hl ⊢; omega)
      refine Eq.trans (show _ = _ from rfl) (ih.trans ?_)
      rw [Array.toList_push, List.append_assoc]
      rfl
    · rw [if_neg hc]
      rw [show StrLaws.occBody x (Str.ofString ", ") x.length limit a st = pure (ForInStep.yield (st.fst, st.snd)) by
        unfold StrLaws.occBody
        rw [if_neg (fun h => hc (hat.mp ⟨h.1.2, h.2⟩))]]
      have ih := occ_loop limit r (a + 1) (st.fst, st.snd) hr (.inl (by rcases hs with h | ⟨h, _⟩ <;> dsimp only <;> omega)) (by simp at hl ⊢; omega)
      exact Eq.trans (show _ = _ from rfl) ih
theorem cuts_skip : ∀ (w : List Nat) (R : List Nat) (a : Nat), (∀ c ∈ w, c ≠ 44) → cutsOf (w ++ R) a = cutsOf R (a + w.length)
  | [], R, a, _ => by simp
  | c :: r, R, a, h => by
    rw [List.cons_append]
    show (if c = 44 ∧ (r ++ R).head? = some 32 then a :: cutsOf (r ++ R) (a + 1) else cutsOf (r ++ R) (a + 1)) = _
    rw [if_neg (fun q => h c (.head _) q.1), cuts_skip r R (a + 1) (fun d hd => h d (.tail _ hd)), List.length_cons,
      show a + 1 + r.length = a + (r.length + 1) by omega]
theorem parts_join {x : Str} : ∀ (rest : List (List Nat)) (w : List Nat) (a : Nat), x.cps.toList.drop a = joinL w rest → (∀ c ∈ w, c ≠ 44) → (∀ p ∈ rest, ∀ c ∈ p, c ≠ 44) →
    (StrLaws.partsFrom x 2 a (cutsOf (joinL w rest) a)).map (fun s => s.cps.toList) = w :: rest
  | [], w, a, hx, hw, _ => by
    have e : joinL w [] = w := by simp [joinL]
    rw [e] at hx ⊢
    have hc : cutsOf w a = [] := by
      have := cuts_skip w [] a hw
      rw [List.append_nil] at this
      rw [this]; rfl
    rw [hc]
    have el : x.cps.toList.length = x.length := by simp [Str.length]
    have hlen := congrArg List.length hx
    rw [List.length_drop, el] at hlen
    show [(Builtin.Str.strSub x a x.length).cps.toList] = [w]
    rw [StrLaws.strSub_toList, hx, List.take_of_length_le (by omega)]
  | p :: rest, w, a, hx, hw, hr => by
    have e : joinL w (p :: rest) = w ++ (44 :: 32 :: joinL p rest) := by simp [joinL]
    rw [e] at hx ⊢
    have hc : cutsOf (w ++ (44 :: 32 :: joinL p rest)) a = (a + w.length) :: cutsOf (joinL p rest) (a + w.length + 2) := by
      rw [cuts_skip w _ a hw]
      show (if (44 : Nat) = 44 ∧ (32 :: joinL p rest).head? = some 32 then _ else _) = _
      rw [if_pos ⟨rfl, rfl⟩]
      show _ :: (if (32 : Nat) = 44 ∧ _ then _ else _) = _
      rw [if_neg (fun q => absurd q.1 (by decide))]
    rw [hc]
    have hd : x.cps.toList.drop (a + w.length + 2) = joinL p rest := by
      rw [Nat.add_assoc, ← List.drop_drop, hx, ← List.drop_drop, List.drop_left]
      rfl
    show (Builtin.Str.strSub x a (a + w.length)).cps.toList :: (StrLaws.partsFrom x 2 (a + w.length + 2) _).map _ = _
    rw [parts_join rest p (a + w.length + 2) hd (hr p (.head _)) (fun q hq => hr q (.tail _ hq)), StrLaws.strSub_toList, hx]
    congr 1
    rw [show a + w.length - a = w.length by omega, List.take_left]
theorem glued_foldl : ∀ (ps : List Str) (A : Array Nat), (ps.foldl (fun acc p => acc ++ (Str.ofString ", ").cps ++ p.cps) A).toList = A.toList ++ ((ps.map fun p => p.cps.toList).map fun p => 44 :: 32 :: p).flatten
  | [], A => by simp
  | p :: r, A => by
    have hc : (Str.ofString ", ").cps.toList = [44, 32] := by decide
    rw [List.foldl_cons, glued_foldl r, Array.toList_append, Array.toList_append, hc]
    simp
theorem join_toList (w : Str) (r : List Str) : (Txt.join (Str.ofString ", ") (w :: r)).cps.toList = joinL w.cps.toList (r.map fun p => p.cps.toList) := by
  show (Builtin.Str.glued (Str.ofString ", ") (w :: r)).cps.toList = _
  unfold Builtin.Str.glued joinL
  exact glued_foldl r w.cps
theorem kind_pos (x : Str) : 1 ≤ Builtin.Str.strKind x := by
  unfold Builtin.Str.strKind
  split
  · exact Nat.le_refl _
  · split <;> decide
theorem str_inj {a b : List Str} (h : a.map (fun s => s.cps.toList) = b.map (fun s => s.cps.toList)) : a = b := by
  induction a generalizing b with
  | nil => cases b with
    | nil => rfl
    | cons _ _ => cases h
  | cons x r ih => cases b with
    | nil => cases h
    | cons y q =>
      rw [List.map_cons, List.map_cons] at h
      injection h with h1 h2
      rw [ih h2, Str.ext' (Array.toList_inj.mp h1)]
/-- the words come back -/
theorem split_join (w : Str) (r : List Str) (hw : ∀ p ∈ w :: r, ∀ c ∈ p.cps.toList, c ≠ 44) (h2 : 2 ≤ w.length) : Txt.split (Txt.join (Str.ofString ", ") (w :: r)) (Str.ofString ", ") = w :: r := by
  have hj := join_toList w r
  generalize Txt.join (Str.ofString ", ") (w :: r) = x at hj ⊢
  have el : x.cps.toList.length = x.length := by simp [Str.length]
  have ew : w.cps.toList.length = w.length := by simp [Str.length]
  have hlen : w.length ≤ x.length := by
    rw [← el, hj, ← ew]
    unfold joinL
    rw [List.length_append]
    exact Nat.le_add_right _ _
  have hl2 : (Str.ofString ", ").length = 2 := by decide
  have hk : Builtin.Str.strKind (Str.ofString ", ") = 1 := by decide +kernel
  have hkx := kind_pos x
  have hocc : Builtin.Str.occurrences x (Str.ofString ", ") 0 x.length (x.length + 1) = cutsOf x.cps.toList 0 := by
    rw [StrLaws.occ_eq]
    have := occ_loop (x := x) (x.length + 1) x.cps.toList 0 (#[], 0) (by simp) (.inl (Nat.le_refl _)) (by rw [el]; simp)
    rw [el] at this
    exact this.trans (by simp)
  have hparts : (StrLaws.partsFrom x 2 0 (cutsOf x.cps.toList 0)).map (fun s => s.cps.toList) = (w :: r).map fun s => s.cps.toList := by
    rw [hj]
    have := parts_join (x := x) (r.map fun p => p.cps.toList) w.cps.toList 0 (by rw [List.drop_zero, hj]) (hw w (.head _)) (fun p hp => by
      obtain ⟨q, hq, rfl⟩ := List.mem_map.mp hp
      exact hw q (.tail _ hq))
    rw [this]; rfl
  have hres := str_inj hparts
  unfold Txt.split
  rw [if_neg (by rw [hl2, hk]; simp; omega), hocc, hl2, StrLaws.partsBetween_eq, hres]
  split
  · rename_i he
    rw [List.isEmpty_iff] at he
    rw [he] at hres
    have h3 : [Builtin.Str.strSub x 0 x.length] = w :: r := hres
    rw [StrLaws.sub_whole] at h3
    exact h3
  · rfl
end
section
open PySem PySem.W PyProof.Rows PySem.Calls PySem.Spec
set_option Elab.async false
set_option maxRecDepth 100000
set_option maxHeartbeats 1000000
set_option linter.unusedVariables false
set_option autoImplicit false
theorem all3 {P : List Int → Int → Bool} (h : (subs.all fun pk => P pk 0 && P pk 1 && P pk 2) = true) {pk : List Int} (hp : pk ∈ subs) {t3 : Int} (h0 : 0 ≤ t3) (h3 : t3 < 3) : P pk t3 = true := by
  have := List.all_eq_true.mp h pk hp
  simp only [Bool.and_eq_true] at this
  have e : t3 = 0 ∨ t3 = 1 ∨ t3 = 2 := by omega
  rcases e with rfl | rfl | rfl
  · exact this.1.1
  · exact this.1.2
  · exact this.2
theorem low_ok {x : Str} (h : lowOk x = true) : ∃ c, x = ⟨#[c]⟩ ∧ Low c (low x) := by
  unfold lowOk at h
  split at h
  · rename_i c hc
    have ex : x = ⟨#[c]⟩ := by
      apply Str.ext'
      apply Array.toList_inj.mp
      rw [hc]
    refine ⟨c, ex, ?_⟩
    have hlow : low x = ⟨#[lowC c]⟩ := by rw [ex]; rfl
    rw [hlow]
    simp only [Bool.or_eq_true, Bool.and_eq_true, decide_eq_true_eq] at h
    rcases h with ((⟨h1, h2⟩ | ⟨h1, h2⟩) | ⟨h1, h2⟩) | ⟨h1, h2⟩
    · have := low_of (lows ⟨c - 97, by omega⟩).1
      have e : 97 + (c - 97) = c := by omega
      have e2 : lowC c = c := by unfold lowC; rw [if_neg (by omega), if_pos (by omega)]
      dsimp only at this
      rw [e] at this
      rw [e2]; exact this
    · have := low_of (lows ⟨c - 65, by omega⟩).2.1
      have e : 65 + (c - 65) = c := by omega
      have e2 : lowC c = 97 + (c - 65) := by unfold lowC; rw [if_pos (by omega)]; omega
      dsimp only at this
      rw [e] at this
      rw [e2]; exact this
    · have := low_of (lows ⟨c - 119808, by omega⟩).2.2.1
      have e : 119808 + (c - 119808) = c := by omega
      have e2 : lowC c = 97 + (c - 119808) := by unfold lowC; rw [if_neg (by omega), if_neg (by omega), if_pos (by omega)]; omega
      dsimp only at this
      rw [e] at this
      rw [e2]; exact this
    · have := low_of (lows ⟨c - 120432, by omega⟩).2.2.2
      have e : 120432 + (c - 120432) = c := by omega
      have e2 : lowC c = 97 + (c - 120432) := by unfold lowC; rw [if_neg (by omega), if_neg (by omega), if_neg (by omega)]; omega
      dsimp only at this
      rw [e] at this
      rw [e2]; exact this
  · cases h
structure PkA (pk : List Int) (t3 : Int) : Prop where
  lo : ∀ x ∈ wordF pk t3, ∃ c, x = ⟨#[c]⟩ ∧ Low c (low x)
  map : (wordF pk t3).map low = smF
  len : ∀ x ∈ wordF pk t3, x.length ≤ 10
  lead : leadF pk t3 = wtxt (bsF pk)
theorem pkA {pk : List Int} (hp : pk ∈ subs) {t3 : Int} (h0 : 0 ≤ t3) (h3 : t3 < 3) : PkA pk t3 := by
  have := all3 fA hp h0 h3
  unfold ckA at this
  simp only [Bool.and_eq_true, List.all_eq_true, beq_iff_eq, decide_eq_true_eq] at this
  exact ⟨fun x hx => low_ok (this.1.1.1 x hx), this.1.1.2, this.1.2, this.2⟩
structure PkB (pk : List Int) (t3 : Int) : Prop where
  len : (textF pk t3).length ≤ 50
  bs : ∀ (i c : Nat), (textF pk t3 ++ Str.ofString "(\"").cps[i]? = some c → c ≠ 92
  q : (Builtin.Str.occurrences (textF pk t3 ++ Str.ofString "(\"") (Str.ofString "\"") 0 (textF pk t3 ++ Str.ofString "(\"").length 1).isEmpty = false
  sz : (stripF (textF pk t3 ++ Str.ofString "(\"")).cps.size < 1000
  zs : ∀ (i c : Nat), (stripF (textF pk t3 ++ Str.ofString "(\"")).cps[i]? = some c → c ≠ 92 ∧ c ≠ 41
  tk : (opN (stripF (textF pk t3 ++ Str.ofString "(\"")) (stripF (textF pk t3 ++ Str.ofString "(\"")).cps.size == 0) = ((pk.length + 1) % 2 == 1)
theorem pkB {pk : List Int} (hp : pk ∈ subs) {t3 : Int} (h0 : 0 ≤ t3) (h3 : t3 < 3) : PkB pk t3 := by
  have hall : ckB pk t3 = true := by
    have e : t3 = 0 ∨ t3 = 1 ∨ t3 = 2 := by omega
    rcases e with rfl | rfl | rfl
    · exact List.all_eq_true.mp fB0 pk hp
    · exact List.all_eq_true.mp fB1 pk hp
    · exact List.all_eq_true.mp fB2 pk hp
  unfold ckB at hall
  simp only [Bool.and_eq_true, List.all_eq_true, decide_eq_true_eq, Bool.not_eq_true', bne_iff_ne, ne_eq] at hall
  obtain ⟨⟨⟨⟨⟨h1, h2⟩, h3⟩, h4⟩, h5⟩, h6⟩ := hall
  refine ⟨h1, fun i c e => h2 c ?_, h3, h4, fun i c e => h5 c ?_, eq_of_beq h6⟩
  · rw [← Array.getElem?_toList] at e; exact List.mem_of_getElem? e
  · rw [← Array.getElem?_toList] at e; exact List.mem_of_getElem? e
structure PkC (pk : List Int) (t3 : Int) : Prop where
  n : ((wsF pk t3).n : Int) = 7 + t3
  nt : (wsF pk t3).nt = pk.length + 1
  cl : (wsF pk t3).cnt.length < 500
  cv : ∀ c ∈ (wsF pk t3).cnt, c < 1000
  il : ∀ z ∈ rangeInts 1 1 7, ilv (wsF pk t3) z.toNat ≤ 10000
theorem pkC {pk : List Int} (hp : pk ∈ subs) {t3 : Int} (h0 : 0 ≤ t3) (h3 : t3 < 3) : PkC pk t3 := by
  have := all3 fC hp h0 h3
  unfold ckC at this
  simp only [Bool.and_eq_true, List.all_eq_true, beq_iff_eq, decide_eq_true_eq] at this
  exact ⟨this.1.1.1.1, this.1.1.1.2, this.1.1.2, this.1.2, this.2⟩
noncomputable def ckG (pk : List Int) : Bool := pk.all (fun p => 1 ≤ p && p ≤ 6) && pk.length ≤ 3
theorem fG : (subs.all fun pk => ckG pk) = true := by decide +kernel
noncomputable def ckW (p : Nat) : Bool := (wordP p).cps.toList.all (fun c => c != 44) && decide (2 ≤ (wordP p).length) && decide ((wordP p).length ≤ 100) && PyData.strOk (wordP p)
theorem fW : ((List.range 32).all ckW) = true := by decide +kernel
structure PkG (pk : List Int) : Prop where
  rg : ∀ p ∈ pk, 1 ≤ p ∧ p ≤ 6
  len : pk.length ≤ 3
theorem pkG {pk : List Int} (hp : pk ∈ subs) : PkG pk := by
  have := List.all_eq_true.mp fG pk hp
  unfold ckG at this
  simp only [Bool.and_eq_true, List.all_eq_true, decide_eq_true_eq] at this
  exact ⟨this.1, this.2⟩
theorem asc_of : ∀ {l : List Nat} {i : Nat}, ascK i l = true → Asc i l
  | [], _, _ => trivial
  | q :: r, i, h => by
    unfold ascK at h
    simp only [Bool.and_eq_true, decide_eq_true_eq] at h
    exact ⟨h.1, asc_of h.2⟩
structure PkE (pk : List Int) (base : Nat) : Prop where
  asc : Asc 0 (psF pk base)
  lt : ∀ p ∈ psF pk base, p < 32
  split : Txt.split (Txt.join (Str.ofString ", ") ((psF pk base).map wordP)) (Str.ofString ", ") = (psF pk base).map wordP
  jl : (Txt.join (Str.ofString ", ") ((psF pk base).map wordP)).length ≤ 10000
  ok : ∀ x ∈ (psF pk base).map wordP, PyData.strOk x = true
theorem joinL_len : ∀ (rest : List (List Nat)) (w : List Nat), w.length ≤ 100 → (∀ p ∈ rest, p.length ≤ 100) → (joinL w rest).length ≤ 100 + 102 * rest.length
  | [], w, h, _ => by simp [joinL]; exact h
  | p :: r, w, h, hr => by
    have e : joinL w (p :: r) = w ++ (44 :: 32 :: joinL p r) := by simp [joinL]
    have ih := joinL_len r p (hr p (.head _)) fun q hq => hr q (.tail _ hq)
    rw [e, List.length_append, List.length_cons, List.length_cons, List.length_cons]
    omega
theorem pkE {pk : List Int} (hp : pk ∈ subs) {base : Nat} (hb : base < 26) : PkE pk base := by
  have := List.all_eq_true.mp (List.all_eq_true.mp fE base (List.mem_range.mpr hb)) pk hp
  unfold ckE at this
  simp only [Bool.and_eq_true, List.all_eq_true, decide_eq_true_eq] at this
  obtain ⟨h1, h2⟩ := this
  have hw : ∀ p ∈ psF pk base, ckW p = true := fun p hp => List.all_eq_true.mp fW p (List.mem_range.mpr (h2 p hp))
  have hw2 : ∀ x ∈ (psF pk base).map wordP, (∀ c ∈ x.cps.toList, c ≠ 44) ∧ 2 ≤ x.length ∧ x.length ≤ 100 ∧ PyData.strOk x = true := by
    intro x hx
    obtain ⟨p, hp, rfl⟩ := List.mem_map.mp hx
    have := hw p hp
    unfold ckW at this
    simp only [Bool.and_eq_true, List.all_eq_true, decide_eq_true_eq, bne_iff_ne] at this
    exact ⟨this.1.1.1, this.1.1.2, this.1.2, this.2⟩
  have hlen : (psF pk base).length ≤ 4 := by
    have := (pkG hp).len
    unfold psF
    simp
    omega
  have hne : (psF pk base).map wordP ≠ [] := by unfold psF; simp
  have hl2 : ((psF pk base).map wordP).length ≤ 4 := by rw [List.length_map]; exact hlen
  have hok : ∀ x ∈ (psF pk base).map wordP, PyData.strOk x = true := fun x hx => (hw2 x hx).2.2.2
  refine ⟨asc_of h1, h2, ?_, ?_, hok⟩
  · cases e : (psF pk base).map wordP with
    | nil => exact absurd e hne
    | cons w r =>
      rw [e] at hw2
      exact split_join w r (fun p hp => (hw2 p hp).1) (hw2 w (.head _)).2.1
  · cases e : (psF pk base).map wordP with
    | nil => exact absurd e hne
    | cons w r =>
      rw [e] at hw2 hl2
      have el : ∀ x : Str, x.cps.toList.length = x.length := fun x => by simp [Str.length]
      rw [← el, join_toList]
      have := joinL_len (r.map fun p => p.cps.toList) w.cps.toList (by rw [el]; exact (hw2 w (.head _)).2.2.1) (fun q hq => by
        obtain ⟨p, hp, rfl⟩ := List.mem_map.mp hq
        rw [el]; exact (hw2 p (.tail _ hp)).2.2.1)
      rw [List.length_map] at this
      rw [List.length_cons] at hl2
      omega
theorem fD0 : (psets.all fun ps => ckD ps 0) = true := by decide +kernel
theorem fD1 : (psets.all fun ps => ckD ps 1) = true := by decide +kernel
theorem fD2 : (psets.all fun ps => ckD ps 2) = true := by decide +kernel
theorem pkD {ps : List Int} (hp : ps ∈ psets) {t3 : Int} (h0 : 0 ≤ t3) (h3 : t3 < 3) {mask : Nat} (hm : mask < 2 ^ ps.length) :
    (rangeInts 0 1 7).map (fun k => ((withinF mask).map fun p => sgF (pickF ps p.toNat) * (rowF (pickF ps p.toNat) t3).getD k.toNat 0).sum) = (rangeInts 1 1 7).map (fun z => dueF (pickF ps mask) t3 z) := by
  have hall : ckD ps t3 = true := by
    have e : t3 = 0 ∨ t3 = 1 ∨ t3 = 2 := by omega
    rcases e with rfl | rfl | rfl
    · exact List.all_eq_true.mp fD0 ps hp
    · exact List.all_eq_true.mp fD1 ps hp
    · exact List.all_eq_true.mp fD2 ps hp
  unfold ckD at hall
  exact eq_of_beq (List.all_eq_true.mp hall mask (List.mem_range.mpr hm))
theorem pkP {ps : List Int} (hp : ps ∈ psets) {mask : Nat} (hm : mask < 2 ^ ps.length) : pickF ps mask ∈ subs := by
  have := List.all_eq_true.mp (List.all_eq_true.mp fP ps hp) mask (List.mem_range.mpr hm)
  simpa using this
noncomputable def places (a b c : Nat) : List Int := (rangeInts 1 1 6).filter fun i => ([((a : Int) + 1), ((b : Int) + 1), ((c : Int) + 1)] : List Int).contains i
theorem fPl : ((List.range 6).all fun a => (List.range 6).all fun b => (List.range 6).all fun c => psets.contains (places a b c)) = true := by decide +kernel
noncomputable def ckL (ps : List Int) : Bool := decide (1 ≤ ps.length) && decide (ps.length ≤ 3)
theorem fL : (psets.all ckL) = true := by decide +kernel
theorem psL {ps : List Int} (hp : ps ∈ psets) : ps.length ≤ 3 := by
  have := List.all_eq_true.mp fL ps hp
  unfold ckL at this
  simp only [Bool.and_eq_true, decide_eq_true_eq] at this
  exact this.2
end
section
open PySem PySem.W PyProof.Rows PySem.Calls PySem.Spec PyProof PyProof.V PySem.SeqAt
set_option Elab.async false
set_option maxRecDepth 100000
set_option maxHeartbeats 1000000
set_option linter.unusedVariables false
set_option autoImplicit false
variable {G : GA} {mg mb : Str → Option Value} {w : World}
/-- where the law's lists stand -/
structure Kp where
  pl : Addr
  sml : Addr
  gl : Addr
  tl : Addr
  sl : Addr
  I : Addr
  ps : List Int
  total : Int
  base : Nat
noncomputable def outerNs : List Str := ["total", "places", "small", "great", "base", "tables", "signs"]
/-- what does not change in the loop: the ledger K of what is never written again -/
structure LK (c : Kp) (cm : Str → Option Value) (K : List (Addr × Obj)) (rows : List Addr) : Prop where
  total : ∃ t, cm "total" = some (.int c.total t)
  places : cm "places" = some (.ref c.pl)
  small : cm "small" = some (.ref c.sml)
  great : cm "great" = some (.ref c.gl)
  base : ∃ t, cm "base" = some (.int (c.base : Nat) t)
  tables : cm "tables" = some (.ref c.tl)
  signs : cm "signs" = some (.ref c.sl)
  lp : LI K c.pl (c.ps.map .int)
  ls : LI K c.sml (smF.map .str)
  lg : LI K c.gl ((grF (c.total % 3)).map .str)
  ap : ∀ p ∈ K, p.1 ≠ c.tl ∧ p.1 ≠ c.sl ∧ p.1 ≠ c.I ∧ ∀ v, p.2.data ≠ .cell v
  ne : c.tl ≠ c.sl ∧ c.I ≠ c.tl ∧ c.I ≠ c.sl
  row : ∀ p, p < rows.length → LI K (rows.getD p 0) ((rowF (pickF c.ps p) (c.total % 3)).map .int)
theorem LK.cells {c : Kp} {cm cm' : Str → Option Value} {K : List (Addr × Obj)} {rows : List Addr} (x : LK c cm K rows) (h : ∀ n ∈ outerNs, cm' n = cm n) : LK c cm' K rows :=
  ⟨let ⟨t, e⟩ := x.total; ⟨t, (h _ (by decide)).trans e⟩, (h _ (by decide)).trans x.places, (h _ (by decide)).trans x.small, (h _ (by decide)).trans x.great, let ⟨t, e⟩ := x.base; ⟨t, (h _ (by decide)).trans e⟩, (h _ (by decide)).trans x.tables, (h _ (by decide)).trans x.signs,
    x.lp, x.ls, x.lg, x.ap, x.ne, x.row⟩
theorem LK.upd {c : Kp} {cm : Str → Option Value} {K : List (Addr × Obj)} {rows : List Addr} (x : LK c cm K rows) {n : Str} {v : Value} (h : n ∉ outerNs) : LK c (upd cm n v) K rows :=
  x.cells fun y hy => upd_ne (fun q => h (q ▸ hy)) rfl
theorem LI.sub {Z Z' : List (Addr × Obj)} {a : Addr} {ds : List PyData} (x : LI Z a ds) (h : ∀ p ∈ Z, p ∈ Z') : LI Z' a ds := x.lasts (Lasts.sub h)
/-- the state ahead of a turn of the loop, mask i at hand -/
structure MJ (s : Shared) (h₀ : Heap) (L : Addr) (c : Kp) (N : Nat) (i : Nat) (s' : Shared) : Prop where
  ex : ∃ h tk gs m cm Z K rows, s' = { s with heap := h, toks := tk, gens := gs } ∧ AllBare gs ∧ Fr h₀ L h m ∧ News h₀ L h Z ∧ Cz (csL L) cm Z ∧ LK c cm K rows ∧ rows.length = i ∧ (∀ p ∈ K, p ∈ Z) ∧
    (∃ n, (c.tl, W.listOf (rows.map Value.ref).toArray n) ∈ Z) ∧ LI Z c.sl (((List.range i).map fun p => sgF (pickF c.ps p)).map .int) ∧ (c.I, itR ((0 : Int) + (i : Nat) * 1) ((N : Nat) - (i : Nat) : Int)) ∈ Z
theorem loopB_eq : loopB = [loopS 0, loopS 1, loopS 2, loopS 3, loopS 4, loopS 5, loopS 6, loopS 7, loopS 8, loopS 9, loopS 10, loopS 11, loopS 12, loopS 13, loopS 14, loopS 15, loopS 16, loopS 17] := by kernel_rfl
theorem LastsK {c : Kp} {cm : Str → Option Value} {K Z Z' : List (Addr × Obj)} {rows : List Addr} (x : LK c cm K rows) (h : ∀ p ∈ K, p ∈ Z) (l : Lasts Z Z') : ∀ p ∈ K, p ∈ Z' := fun p hp => l p (h p hp) (x.ap p hp).2.2.2
/-- what a step must carry on -/
structure Bd (c : Kp) (Z K : List (Addr × Obj)) (rows : List Addr) (sg : List Int) (oI : Obj) : Prop where
  k : ∀ p ∈ K, p ∈ Z
  t : ∃ n, (c.tl, W.listOf (rows.map Value.ref).toArray n) ∈ Z
  s : LI Z c.sl (sg.map .int)
  i : (c.I, oI) ∈ Z
theorem Bd.lasts {c : Kp} {cm : Str → Option Value} {Z Z' K : List (Addr × Obj)} {rows rows' : List Addr} {sg : List Int} {oI : Obj} (x : Bd c Z K rows sg oI) (X : LK c cm K rows') (hI : ∀ v, oI.data ≠ .cell v) (l : Lasts Z Z') : Bd c Z' K rows sg oI :=
  ⟨LastsK X x.k l, let ⟨n, e⟩ := x.t; ⟨n, l _ e (fun v => by intro q; cases q)⟩, x.s.lasts l, l _ x.i hI⟩
theorem itR_nc (a b : Int) : ∀ v, (itR a b).data ≠ .cell v := by
  intro v q; cases q
theorem smF_ok : ∀ x ∈ smF, PyData.strOk x = true := by
  have : smF.all PyData.strOk = true := by decide +kernel
  exact List.all_eq_true.mp this
theorem sm_len : smF.length = 7 := by decide +kernel
theorem wd_len (pk : List Int) (t3 : Int) : (wordF pk t3).length = 7 := by unfold wordF; rw [List.length_map, rangeInts_length]
theorem gr_len (t3 : Int) : (grF t3).length = 7 := by unfold grF; rw [List.length_map, rangeInts_length]
theorem bs_len (pk : List Int) : (bsF pk).length = 7 := by unfold bsF; rw [List.length_map, rangeInts_length]
theorem row_len (pk : List Int) (t3 : Int) : (rowF pk t3).length = 7 := by unfold rowF; rw [List.length_map, rangeInts_length]
theorem due_mod (pk : List Int) (total z : Int) : dueF pk total z = dueF pk (total % 3) z := by
  unfold dueF
  rw [Int.emod_emod_of_dvd _ (Int.dvd_refl 3)]
theorem sg_at (ps : List Int) {i p : Nat} (h : p < i) : ((List.range i).map fun p => sgF (pickF ps p)).getD p 0 = sgF (pickF ps p) := by
  rw [List.getD_eq_getElem?_getD, List.getElem?_map, List.getElem?_range h]
  rfl
theorem sgF_v (pk : List Int) : sgF pk = 1 ∨ sgF pk = -1 := by
  unfold sgF
  split
  · exact .inl rfl
  · exact .inr rfl
theorem row_bd {pk : List Int} {t3 : Int} (f : PkC pk t3) (k : Nat) : 0 ≤ (rowF pk t3).getD k 0 ∧ (rowF pk t3).getD k 0 ≤ 10000 := by
  unfold rowF
  rw [List.getD_eq_getElem?_getD, List.getElem?_map]
  cases e : (rangeInts 1 1 7)[k]? with
  | none => show (0 : Int) ≤ 0 ∧ (0 : Int) ≤ 10000; decide
  | some z =>
    have := f.il z (List.mem_of_getElem? e)
    show (0 : Int) ≤ ((ilv (wsF pk t3) z.toNat : Nat) : Int) ∧ ((ilv (wsF pk t3) z.toNat : Nat) : Int) ≤ 10000
    omega
theorem within_mem {i : Nat} {p : Int} (h : p ∈ withinF i) : 0 ≤ p ∧ p < ((i + 1 : Nat) : Int) := by
  have := mem_rangeInts (List.mem_filter.mp h).1
  omega
theorem within_len (i : Nat) : (withinF i).length ≤ i + 1 := by
  unfold withinF
  exact Nat.le_trans (List.length_filter_le _ _) (by rw [rangeInts_length]; exact Nat.le_refl _)
variable {A : Around} {s : Shared} {h₀ : Heap} {L a : Addr} {cd : Value}
theorem turn (T : Tq G mg mb w h₀) (hh : A.handled = none) (hroom : A.depth + 3 < recursionLimit) (hu : A.units + 64 < cLine) {c : Kp} {i : Nat} {h : Heap} {tk : Nat} {gs : Array GenState} {m cm : Str → Option Value} {Z K : List (Addr × Obj)} {rows : List Addr} {oI : Obj} {tm : Tok}
    (hps : c.ps ∈ psets) (h0 : 0 ≤ c.total) (hb : (c.base : Int) = c.total % 26) (hi : i < 2 ^ c.ps.length) (hg : AllBare gs) (F : Fr h₀ L h m) (N : News h₀ L h Z) (C : Cz (csL L) cm Z) (X : LK c cm K rows) (hr : rows.length = i)
    (B : Bd c Z K rows ((List.range i).map fun p => sgF (pickF c.ps p)) oI) (hoI : oI = itR ((0 : Int) + ((i + 1 : Nat) : Nat) * 1) ((2 ^ c.ps.length : Nat) - ((i + 1 : Nat) : Nat) : Int)) (hmask : cm "mask" = some (.int (i : Nat) tm)) :
    wpAny (model pg w) A (execs loopB (envL L a cd)) (fun f s₃ => match f with | .next | .cont => MJ s h₀ L c (2 ^ c.ps.length) (i + 1) s₃ | .brk => False | .ret v => False) (fun _ _ => False) { s with heap := h, toks := tk, gens := gs } := by
  have hnc : ∀ v, oI.data ≠ .cell v := by rw [hoI]; exact itR_nc _ _
  have hpl3 := psL hps
  have hi8 : i < 8 := Nat.lt_of_lt_of_le hi (Nat.pow_le_pow_right (by decide) hpl3 : 2 ^ c.ps.length ≤ 2 ^ 3)
  have hpk := pkP hps hi
  have t0 : 0 ≤ c.total % 3 := Int.emod_nonneg _ (by decide)
  have t3 : c.total % 3 < 3 := Int.emod_lt_of_pos _ (by decide)
  have hb26 : c.base < 26 := by omega
  have fA := pkA hpk t0 t3
  have fB := pkB hpk t0 t3
  have fC := pkC hpk t0 t3
  have fG := pkG hpk
  have fE := pkE hpk hb26
  have fD := pkD hps t0 t3 hi
  rw [loopB_eq]
  have tp := T.tp
  -- picked
  refine wpAny_execs_cons (b0 tp F N C hh X.places (X.lp.sub B.k) (by omega) hmask (by omega) fun h1 tk1 Z1 D1 F1 N1 C1 l1 fr1 lp1 => ?_)
  dsimp only
  have lp1' : LI Z1 D1 ((pickF c.ps i).map .int) := by unfold pickF; rw [List.map_map]; exact lp1
  clear lp1
  have X1 := X.upd (n := "picked") (v := .ref D1) (by decide)
  have B1 := B.lasts X hnc l1
  have hm1 : upd cm "picked" (.ref D1) "mask" = some (.int (i : Nat) tm) := upd_ne (by decide) hmask
  have hp1 : upd cm "picked" (.ref D1) "picked" = some (.ref D1) := upd_eq
  obtain ⟨vp, np, hmp, hcp⟩ := lp1'
  have hD1t : D1 ≠ c.tl := by obtain ⟨n, e⟩ := B.t; exact Ne.symm (fr1 _ e)
  have hD1s : D1 ≠ c.sl := by obtain ⟨vs, n, e, _⟩ := B.s; exact Ne.symm (fr1 _ e)
  have hD1I : D1 ≠ c.I := Ne.symm (fr1 _ B.i)
  have X2 : LK c (upd cm "picked" (.ref D1)) ((D1, W.listOf vp.toArray np) :: K) rows := ⟨X1.total, X1.places, X1.small, X1.great, X1.base, X1.tables, X1.signs, X1.lp.sub fun _ h => .tail _ h, X1.ls.sub fun _ h => .tail _ h, X1.lg.sub fun _ h => .tail _ h,
    fun p hp => by
      rcases List.mem_cons.mp hp with rfl | hp
      · exact ⟨hD1t, hD1s, hD1I, fun v => by intro q; cases q⟩
      · exact X1.ap p hp, X1.ne, fun p hp => (X1.row p hp).sub fun _ h => .tail _ h⟩
  have B2 : Bd c Z1 ((D1, W.listOf vp.toArray np) :: K) rows ((List.range i).map fun p => sgF (pickF c.ps p)) oI := ⟨fun p hp => by
      rcases List.mem_cons.mp hp with rfl | hp
      · exact hmp
      · exact B1.k p hp, B1.t, B1.s, B1.i⟩
  have lpk : LI ((D1, W.listOf vp.toArray np) :: K) D1 ((pickF c.ps i).map .int) := ⟨vp, np, .head _, hcp⟩
  clear B1 X1 B X N F C fr1 hmask hmp hcp l1
  generalize (D1, W.listOf vp.toArray np) :: K = K1 at X2 B2 lpk
  generalize upd cm "picked" (.ref D1) = cm1 at X2 C1 hm1 hp1
  generalize hpke : pickF c.ps i = pk at fA fB fC fG fE hpk lpk
  -- word
  refine wpAny_execs_cons (b1 (gr := grF (c.total % 3)) (sm := smF) tp F1 N1 C1 hh hp1 (lpk.sub B2.k) X2.great (X2.lg.sub B2.k) (gr_len _) X2.small (X2.ls.sub B2.k) sm_len fun h2 tk2 Z2 D2 F2 N2 C2 l2 lw2 => ?_)
  dsimp only
  have lw2' : LI Z2 D2 ((wordF pk (c.total % 3)).map .str) := by unfold wordF; rw [List.map_map]; exact lw2
  have X3 := X2.upd (n := "word") (v := .ref D2) (by decide)
  have B3 := B2.lasts X2 hnc l2
  have hm2 : upd cm1 "word" (.ref D2) "mask" = some (.int (i : Nat) tm) := upd_ne (by decide) hm1
  have hp2 : upd cm1 "word" (.ref D2) "picked" = some (.ref D1) := upd_ne (by decide) hp1
  have hw2 : upd cm1 "word" (.ref D2) "word" = some (.ref D2) := upd_eq
  clear lw2 B2 X2 N1 F1 C1 hm1 hp1 l2
  generalize upd cm1 "word" (.ref D2) = cm2 at X3 C2 hm2 hp2 hw2
  -- folded
  refine wpAny_execs_cons (b2 (low := low) tp F2 N2 C2 hh (by omega) hw2 lw2' (wd_len _ _) fA.lo fun h3 tk3 Z3 D3 F3 N3 C3 l3 lf3 => ?_)
  dsimp only
  have lf3' : LI Z3 D3 (smF.map .str) := by rw [← fA.map, List.map_map]; exact lf3
  have lw3 := lw2'.lasts l3
  have X4 := X3.upd (n := "folded") (v := .ref D3) (by decide)
  have B4 := B3.lasts X3 hnc l3
  have hm3 : upd cm2 "folded" (.ref D3) "mask" = some (.int (i : Nat) tm) := upd_ne (by decide) hm2
  have hp3 : upd cm2 "folded" (.ref D3) "picked" = some (.ref D1) := upd_ne (by decide) hp2
  have hw3 : upd cm2 "folded" (.ref D3) "word" = some (.ref D2) := upd_ne (by decide) hw2
  have hf3 : upd cm2 "folded" (.ref D3) "folded" = some (.ref D3) := upd_eq
  clear lf3 lw2' B3 X3 N2 F2 C2 hm2 hp2 hw2 l3
  generalize upd cm2 "folded" (.ref D3) = cm3 at X4 C3 hm3 hp3 hw3 hf3
  -- the first test
  refine wpAny_execs_cons (b3 tp F3 N3 C3 hh hf3 lf3' X4.small (X4.ls.sub B4.k) smF_ok hu fun h4 tk4 Z4 F4 N4 C4 l4 => ?_)
  dsimp only
  have lf4 := lf3'.lasts l4
  have lw4 := lw3.lasts l4
  have B5 := B4.lasts X4 hnc l4
  clear lf3' lw3 B4 N3 F3 C3 l4
  -- lead
  refine wpAny_execs_cons (b4 tp F4 N4 C4 hh hf3 lf4 sm_len hw3 lw4 (wd_len _ _) fA.len fun h5 tk5 Z5 tl5 F5 N5 C5 l5 => ?_)
  dsimp only
  have lf5 := lf4.lasts l5
  have lw5 := lw4.lasts l5
  have B6 := B5.lasts X4 hnc l5
  rw [show Txt.join (Str.ofString "") ((rangeInts 0 1 7).map fun k => if smF.getD k.toNat ⟨#[]⟩ == (wordF pk (c.total % 3)).getD k.toNat ⟨#[]⟩ then Str.ofString " " else Str.ofString "\t") = wtxt (bsF pk) from fA.lead] at F5
  have hl5 : upd m "lead" (.str (wtxt (bsF pk)) tl5) "lead" = some (.str (wtxt (bsF pk)) tl5) := upd_eq
  clear lf4 lw4 B5 N4 F4 C4 l5
  generalize upd m "lead" (.str (wtxt (bsF pk)) tl5) = m5 at F5 hl5
  -- text
  refine wpAny_execs_cons (b5 tp F5 N5 C5 hh hf3 lf5 sm_len hw3 lw5 (wd_len _ _) fA.len fun h6 tk6 Z6 tt6 F6 N6 C6 l6 => ?_)
  dsimp only
  have B7 := B6.lasts X4 hnc l6
  rw [show Txt.join (Str.ofString "") ((rangeInts 0 1 7).map fun k => if smF.getD k.toNat ⟨#[]⟩ == (wordF pk (c.total % 3)).getD k.toNat ⟨#[]⟩ then (wordF pk (c.total % 3)).getD k.toNat ⟨#[]⟩ else Str.ofString "\"" ++ (wordF pk (c.total % 3)).getD k.toNat ⟨#[]⟩) = textF pk (c.total % 3) from rfl] at F6
  have hl6 : upd m5 "text" (.str (textF pk (c.total % 3)) tt6) "lead" = some (.str (wtxt (bsF pk)) tl5) := upd_ne (by decide) hl5
  have hx6 : upd m5 "text" (.str (textF pk (c.total % 3)) tt6) "text" = some (.str (textF pk (c.total % 3)) tt6) := upd_eq
  clear lf5 lw5 B6 N5 F5 C5 l6 hl5
  generalize upd m5 "text" (.str (textF pk (c.total % 3)) tt6) = m6 at F6 hl6 hx6
  -- words
  obtain ⟨tb, hb6⟩ := X4.base
  obtain ⟨tt, ht6⟩ := X4.total
  have hrg : ∀ p ∈ pk, 1 ≤ p ∧ p ≤ 7 := fun p hp => ⟨(fG.rg p hp).1, Int.le_trans (fG.rg p hp).2 (by decide)⟩
  have hpl6 : pk.length ≤ 6 := Nat.le_trans fG.len (by decide)
  refine wpAny_execs_cons (b6 (ps := psF pk c.base) tp F6 N6 C6 hh (by omega) hp3 (lpk.sub B7.k) hrg hpl6 hb6 hb26 rfl fE.asc fE.lt fE.split fE.jl fun h7 tk7 Z7 D7 F7 N7 C7 l7 lw7 => ?_)
  dsimp only
  have B8 := B7.lasts X4 hnc l7
  have hl7 : upd m6 "words" (.ref D7) "lead" = some (.str (wtxt (bsF pk)) tl5) := upd_ne (by decide) hl6
  have hx7 : upd m6 "words" (.ref D7) "text" = some (.str (textF pk (c.total % 3)) tt6) := upd_ne (by decide) hx6
  have hw7 : upd m6 "words" (.ref D7) "words" = some (.ref D7) := upd_eq
  clear B7 N6 F6 C6 l7 hl6 hx6
  generalize upd m6 "words" (.ref D7) = m7 at F7 hl7 hx7 hw7
  -- the second test
  refine wpAny_execs_cons (b7 (ps := psF pk c.base) tp F7 N7 C7 hh (by omega) hu hw7 lw7 hp3 (lpk.sub B8.k) hrg hpl6 hb6 hb26 rfl fE.lt fE.ok fun h8 tk8 Z8 F8 N8 C8 l8 => ?_)
  dsimp only
  have B9 := B8.lasts X4 hnc l8
  have lw8 := lw7.lasts l8
  clear B8 N7 F7 C7 l8 lw7
  -- taken
  refine wpAny_execs_cons (b8 (y := textF pk (c.total % 3) ++ Str.ofString "(\"") (z := stripF (textF pk (c.total % 3) ++ Str.ofString "(\"")) tp F8 N8 C8 hh hroom hx7 fB.len rfl fB.bs fB.q rfl fB.sz fB.zs fun h9 tk9 Z9 F9 N9 C9 l9 => ?_)
  dsimp only
  rw [fB.tk] at F9
  have B10 := B9.lasts X4 hnc l9
  have lw9 := lw8.lasts l9
  have hl9 : upd m7 "taken" (.bool ((pk.length + 1) % 2 == 1)) "lead" = some (.str (wtxt (bsF pk)) tl5) := upd_ne (by decide) hl7
  have hw9 : upd m7 "taken" (.bool ((pk.length + 1) % 2 == 1)) "words" = some (.ref D7) := upd_ne (by decide) hw7
  have ht9 : upd m7 "taken" (.bool ((pk.length + 1) % 2 == 1)) "taken" = some (.bool ((pk.length + 1) % 2 == 1)) := upd_eq
  have hg9 : AllBare ((gs.push .finished).push .finished) := (hg.push rfl).push rfl
  clear B9 N8 F8 C8 l9 lw8 hl7 hw7 hx7
  generalize upd m7 "taken" (.bool ((pk.length + 1) % 2 == 1)) = m9 at F9 hl9 hw9 ht9
  generalize (gs.push .finished).push .finished = gs9 at hg9 ⊢
  have hwn : ((psF pk c.base).map wordP).length = pk.length + 1 := by unfold psF; simp
  -- the third test
  refine wpAny_execs_cons (b9 tp F9 N9 C9 hh hw9 lw9 (by rw [hwn]; have := fG.len; omega) ht9 (by rw [hwn]) fun h10 tk10 Z10 F10 N10 C10 l10 => ?_)
  dsimp only
  have B11 := B10.lasts X4 hnc l10
  have lw10 := lw9.lasts l10
  clear B10 N9 F9 C9 l10 lw9
  -- typed
  refine wpAny_execs_cons (b10 T F10 N10 C10 hh (by omega) hl9 (bs_len _) ht6 h0 fun h11 tk11 Z11 x11 F11 N11 C11 l11 W11 => ?_)
  dsimp only
  have B12 := B11.lasts X4 hnc l11
  have lw11 := lw10.lasts l11
  have X5 := X4.upd (n := "typed") (v := .ref x11) (by decide)
  have hm11 : upd cm3 "typed" (.ref x11) "mask" = some (.int (i : Nat) tm) := upd_ne (by decide) hm3
  have hp11 : upd cm3 "typed" (.ref x11) "picked" = some (.ref D1) := upd_ne (by decide) hp3
  have ht11 : upd cm3 "typed" (.ref x11) "total" = some (.int c.total tt) := upd_ne (by decide) ht6
  have hx11 : upd cm3 "typed" (.ref x11) "typed" = some (.ref x11) := upd_eq
  clear B11 N10 F10 C10 l11 lw10 X4 hm3 hp3 hw3 hf3 ht6 hb6
  generalize upd cm3 "typed" (.ref x11) = cm11 at X5 C11 hm11 hp11 ht11 hx11
  -- the fourth test
  refine wpAny_execs_cons (b11 T F11 N11 C11 hh hu hx11 W11 hw9 lw11 (by rw [hwn]; have := fG.len; omega) ht11 h0 fC.n (by rw [hwn]; exact fC.nt) fun h12 tk12 Z12 F12 N12 C12 l12 => ?_)
  dsimp only
  have B13 := B12.lasts X5 hnc l12
  have W12 : WZ w Z12 x11 (wsF pk (c.total % 3)) := by
    obtain ⟨dx, aN, aC, vs, t1, t2, t3, t4, t5, u2, u3, u4, v1, v5, e1, e2, e3, e4, e5⟩ := W11.ex
    refine ⟨dx, aN, aC, vs, t1, t2, t3, t4, t5, u2, u3, u4, v1, v5, l12 _ e1 ?_, l12 _ e2 ?_, l12 _ e3 ?_, l12 _ e4 ?_, e5⟩
    · intro v q; cases q
    · intro v q; cases q
    · intro v q; cases q
    · intro v q; cases q
  clear B12 N11 F11 C11 l12 lw11 W11
  -- the tables
  obtain ⟨n13, ht13⟩ := B13.t
  refine wpAny_execs_cons (b12 T F12 N12 C12 hh (by omega) hx11 W12 X5.tables ht13 (by rw [List.size_toArray, List.length_map, hr]; omega) fC.cl fC.cv fun h13 tk13 Z13 D13 F13 N13 C13 l13 fr13 m13 lr13 => ?_)
  dsimp only
  have lr13' : LI Z13 D13 ((rowF pk (c.total % 3)).map .int) := by unfold rowF; rw [List.map_map]; exact lr13
  have m13' : (c.tl, W.listOf ((rows ++ [D13]).map Value.ref).toArray (n13 + 1)) ∈ Z13 := by
    have e : ((rows ++ [D13]).map Value.ref).toArray = (rows.map Value.ref).toArray.push (.ref D13) := by simp
    rw [e]; exact m13
  obtain ⟨vr, nr, hmr, hcr⟩ := lr13'
  obtain ⟨vsg, nsg, hmsg, hcsg⟩ := B13.s
  have hD13t : D13 ≠ c.tl := Ne.symm (fr13 _ ht13)
  have hD13s : D13 ≠ c.sl := Ne.symm (fr13 _ hmsg)
  have hD13I : D13 ≠ c.I := Ne.symm (fr13 _ B13.i)
  have hlen13 : (rows ++ [D13]).length = i + 1 := by rw [List.length_append, hr]; rfl
  have X6 : LK c cm11 ((D13, W.listOf vr.toArray nr) :: K1) (rows ++ [D13]) := ⟨X5.total, X5.places, X5.small, X5.great, X5.base, X5.tables, X5.signs, X5.lp.sub fun _ h => .tail _ h, X5.ls.sub fun _ h => .tail _ h, X5.lg.sub fun _ h => .tail _ h,
    fun p hp => by
      rcases List.mem_cons.mp hp with rfl | hp
      · exact ⟨hD13t, hD13s, hD13I, fun v => by intro q; cases q⟩
      · exact X5.ap p hp, X5.ne, fun p hp => by
      by_cases hlt : p < rows.length
      · have e : (rows ++ [D13]).getD p 0 = rows.getD p 0 := by
          rw [List.getD_eq_getElem?_getD, List.getD_eq_getElem?_getD, List.getElem?_append_left hlt]
        rw [e]
        exact (X5.row p hlt).sub fun _ h => .tail _ h
      · have e1 : p = i := by rw [hlen13] at hp; omega
        subst e1
        have e : (rows ++ [D13]).getD p 0 = D13 := by
          rw [List.getD_eq_getElem?_getD, List.getElem?_append_right (by omega), hr, Nat.sub_self]; rfl
        rw [e, hpke]
        exact ⟨vr, nr, .head _, hcr⟩⟩
  have k13 : ∀ p ∈ (D13, W.listOf vr.toArray nr) :: K1, p ∈ Z13 := fun p hp => by
    rcases List.mem_cons.mp hp with rfl | hp
    · exact hmr
    · exact l13 p (B13.k p hp) (X5.ap p hp).1
  have lpk6 : LI ((D13, W.listOf vr.toArray nr) :: K1) D1 (pk.map .int) := lpk.sub fun _ h => .tail _ h
  have sg13 : (c.sl, W.listOf vsg.toArray nsg) ∈ Z13 := l13 _ hmsg (Ne.symm X5.ne.1)
  have i13 : (c.I, oI) ∈ Z13 := l13 _ B13.i X5.ne.2.1
  clear B13 X5 lpk N12 F12 C12 W12 l13 fr13 lr13 ht13 hmsg hmr hcr m13 hx11
  generalize (D13, W.listOf vr.toArray nr) :: K1 = K2 at X6 k13 lpk6
  have hvsg : vsg.length = i := by have := hcsg.length_eq; simpa using this
  -- the signs
  refine wpAny_execs_cons (b13 tp F13 N13 C13 hh X6.signs sg13 (by rw [List.size_toArray, hvsg]; omega) ht9 fun h14 tk14 Z14 t14 F14 N14 C14 l14 m14 => ?_)
  dsimp only
  have ls14 : LI Z14 c.sl (((List.range (i + 1)).map fun p => sgF (pickF c.ps p)).map .int) := by
    refine ⟨vsg ++ [.int (if ((pk.length + 1) % 2 == 1) = true then 1 else -1) t14], nsg + 1, ?_, ?_⟩
    · have e : (vsg ++ [Value.int (if ((pk.length + 1) % 2 == 1) = true then 1 else -1) t14]).toArray = vsg.toArray.push (.int (if ((pk.length + 1) % 2 == 1) = true then 1 else -1) t14) := by simp
      rw [e]; exact m14
    · rw [List.range_succ, List.map_append, List.map_append]
      refine CarriedAll.appendLM hcsg (.cons ?_ .nil)
      show Carried _ (.int (sgF (pickF c.ps i)))
      rw [hpke]
      exact .int _ _
  have k14 : ∀ p ∈ K2, p ∈ Z14 := fun p hp => l14 p (k13 p hp) (X6.ap p hp).2.1
  have t14' : (c.tl, W.listOf ((rows ++ [D13]).map Value.ref).toArray (n13 + 1)) ∈ Z14 := l14 _ m13' X6.ne.1
  have i14 : (c.I, oI) ∈ Z14 := l14 _ i13 X6.ne.2.2
  have B14 : Bd c Z14 K2 (rows ++ [D13]) ((List.range (i + 1)).map fun p => sgF (pickF c.ps p)) oI := ⟨k14, ⟨_, t14'⟩, ls14, i14⟩
  clear k13 sg13 i13 m13' hcsg m14 l14 N13 F13 C13 k14 t14' i14 ls14
  -- within
  refine wpAny_execs_cons (b14 tp F14 N14 C14 hh hm11 (by omega) fun h15 tk15 Z15 D15 F15 N15 C15 l15 lw15 => ?_)
  dsimp only
  have lw15' : LI Z15 D15 ((withinF i).map .int) := lw15
  have X7 := X6.upd (n := "within") (v := .ref D15) (by decide)
  have B15 := B14.lasts X6 hnc l15
  have hp15 : upd cm11 "within" (.ref D15) "picked" = some (.ref D1) := upd_ne (by decide) hp11
  have ht15 : upd cm11 "within" (.ref D15) "total" = some (.int c.total tt) := upd_ne (by decide) ht11
  have hw15 : upd cm11 "within" (.ref D15) "within" = some (.ref D15) := upd_eq
  clear lw15 B14 X6 N14 F14 C14 l15 hp11 ht11 hm11
  generalize upd cm11 "within" (.ref D15) = cm15 at X7 C15 hp15 ht15 hw15
  -- due
  refine wpAny_execs_cons (b15 tp F15 N15 C15 hh fun h16 tk16 Z16 D16 F16 N16 C16 l16 fr16 m16 => ?_)
  dsimp only
  have B16 := B15.lasts X7 hnc l16
  obtain ⟨vw, nw, hmw, hcw⟩ := lw15'
  have hmw16 : (D15, W.listOf vw.toArray nw) ∈ Z16 := l16 _ hmw (fun v => by intro q; cases q)
  have hDw : D15 ≠ D16 := fr16 _ hmw
  have hDt : c.tl ≠ D16 := by obtain ⟨n, e⟩ := B15.t; exact fr16 _ e
  have hDs : c.sl ≠ D16 := by obtain ⟨vs, n, e, _⟩ := B15.s; exact fr16 _ e
  have hDI : c.I ≠ D16 := fr16 _ B15.i
  have hDK : ∀ p ∈ K2, p.1 ≠ D16 := fun p hp => fr16 _ (B15.k p hp)
  have hDp : D1 ≠ D16 := by obtain ⟨vs, n, e, _⟩ := lpk6; exact hDK _ e
  have hd16 : upd m9 "due" (.ref D16) "due" = some (.ref D16) := upd_eq
  clear B15 N15 F15 C15 l16 hmw fr16
  generalize upd m9 "due" (.ref D16) = m16' at F16 hd16
  refine wpAny_execs_cons (b16 tp F16 N16 C16 hh (by omega) hu hd16 m16 hp15 (lpk6.sub B16.k) hDp hpl6 ht15 h0 fun h17 tk17 m17 Z17 its n17 F17 hd17 N17 C17 l17 m17D hc17 => ?_)
  dsimp only
  have hmw17 := l17 _ hmw16 hDw
  have B17 : Bd c Z17 K2 (rows ++ [D13]) ((List.range (i + 1)).map fun p => sgF (pickF c.ps p)) oI := ⟨fun p hp => l17 p (B16.k p hp) (hDK p hp), let ⟨n, e⟩ := B16.t; ⟨n, l17 _ e hDt⟩, let ⟨vs, n, e, f⟩ := B16.s; ⟨vs, n, l17 _ e hDs, f⟩, l17 _ B16.i hDI⟩
  clear B16 N16 F16 C16 l17 hmw16
  -- the last test
  have hi1 : i + 1 ≤ 2 ^ c.ps.length := hi
  refine wpAny_execs_cons (b17 (tbl := fun p => rowF (pickF c.ps p) (c.total % 3)) (wi := withinF i) (sg := (List.range (i + 1)).map fun p => sgF (pickF c.ps p)) (rows := rows ++ [D13]) (dv := (rangeInts 1 1 7).map fun z => dueF pk c.total z) tp F17 N17 C17 hh hu X7.tables X7.signs hw15 ⟨B17.t, fun p hp => ?_, B17.s, ?_, fun p hp => ?_, ?_, ⟨vw, nw, hmw17, hcw⟩, fun p hp => ?_, ?_⟩ hd17 ?_ ?_ fun h18 tk18 Z18 F18 N18 C18 l18 => ?_)
  · refine ⟨(X7.row p hp).sub B17.k, row_len _ _, fun k _ => row_bd (pkC (pkP hps ?_) t0 t3) k⟩
    rw [hlen13] at hp
    omega
  · rw [List.length_map, List.length_range, hlen13]
  · rw [hlen13] at hp
    rw [sg_at c.ps hp]
    exact sgF_v _
  · rw [hlen13]; omega
  · rw [hlen13]; exact within_mem hp
  · exact Nat.le_trans (within_len i) (by omega)
  · refine ⟨its.toList, n17, by rw [Array.toArray_toList]; exact m17D, ?_⟩
    rw [List.map_map]; exact hc17
  · have e : ((rangeInts 1 1 7).map fun z => dueF pk c.total z) = (rangeInts 1 1 7).map fun z => dueF (pickF c.ps i) (c.total % 3) z := by
      rw [hpke]
      exact List.map_congr_left fun z _ => due_mod pk c.total z
    rw [e, ← fD]
    refine List.map_congr_left fun k _ => ?_
    congr 1
    refine List.map_congr_left fun p hp => ?_
    have hp2 := within_mem hp
    rw [sg_at c.ps (show p.toNat < i + 1 by omega)]
  dsimp only
  have B18 := B17.lasts X7 hnc l18
  refine wpAny_execs_nil ?_
  exact ⟨⟨_, _, _, _, _, _, _, _, rfl, hg9, F18, N18, C18, X7, hlen13, B18.k, B18.t, B18.s, hoI ▸ B18.i⟩⟩
end
section
open PySem PySem.W PyProof.Rows PySem.Calls PySem.Spec PyProof PyProof.V PySem.SeqAt
set_option Elab.async false
set_option maxRecDepth 100000
set_option maxHeartbeats 1000000
set_option linter.unusedVariables false
set_option autoImplicit false
variable {G : GA} {mg mb : Str → Option Value} {w : World}
noncomputable def forGi : Stmt → PySem.Expr | .For _ i _ _ _ => i | _ => .Constant .none 0 ⟨0, 0, 0, 0⟩
noncomputable def forGp : Stmt → Pos | .For _ _ _ _ p => p | _ => ⟨0, 0, 0, 0⟩
theorem law10 : lawS 10 = .For (forGt (lawS 10)) (forGi (lawS 10)) loopB [] (forGp (lawS 10)) := by kernel_rfl
section
variable {A : Around} {s : Shared} {h₀ : Heap} {L a : Addr} {cd : Value} {m cm : Str → Option Value} {Z : List (Addr × Obj)} {Q : Flow → Shared → Prop}
theorem st10 (T : Tq G mg mb w h₀) (F : Fr h₀ L s.heap m) (N : News h₀ L s.heap Z) (C : Cz (csL L) cm Z) (hh : A.handled = none) (hroom : A.depth + 3 < recursionLimit) (hu : A.units + 64 < cLine) (hg : AllBare s.gens)
    {pl sml gl tl sl : Addr} {ps : List Int} {total : Int} {base : Nat} {tt tb : Tok} (hps : ps ∈ psets) (h0 : 0 ≤ total) (hb : (base : Int) = total % 26)
    (htot : cm "total" = some (.int total tt)) (hpl : cm "places" = some (.ref pl)) (hsm : cm "small" = some (.ref sml)) (hgr : cm "great" = some (.ref gl)) (hba : cm "base" = some (.int (base : Nat) tb)) (hta : cm "tables" = some (.ref tl)) (hsi : cm "signs" = some (.ref sl))
    (lp : LI Z pl (ps.map .int)) (ls : LI Z sml (smF.map .str)) (lg : LI Z gl ((grF (total % 3)).map .str)) (lt : LI Z tl []) (lsi : LI Z sl [])
    (n1 : pl ≠ tl) (n2 : pl ≠ sl) (n3 : sml ≠ tl) (n4 : sml ≠ sl) (n5 : gl ≠ tl) (n6 : gl ≠ sl) (n7 : tl ≠ sl)
    (h : ∀ h' tk gs m', AllBare gs → Fr h₀ L h' m' → Q .next { s with heap := h', toks := tk, gens := gs }) :
    wpAny (model pg w) A (exec (lawS 10) (envL L a cd)) Q (fun _ _ => False) s := by
  rw [law10]
  refine wpAny_For ?_
  have tp := T.tp
  conv in (occs := *) (forGi _) => all_goals (unfold lawS fnS; whnf)
  conv in (occs := *) (forGt _) => all_goals (unfold lawS fnS; whnf)
  obtain ⟨vp, np, hmp, hcp⟩ := lp
  have hvl : vp.length = ps.length := by have := hcp.length_eq; simpa using this
  have hl3 := psL hps
  repeat' (first | ((try dsimp only); (fail_if_success (with_reducible show wpAny _ _ (call (Value.builtin "len") _) _ _ _)); walk1))
  (with_reducible rename Fr _ _ _ _ => F2)
  (with_reducible rename News _ _ _ _ => N2)
  (with_reducible rename Cz _ _ _ => C2)
  refine len_list (News.isList N2 hmp) (by simp; omega) ?_
  rw [List.size_toArray, hvl]
  repeat' (first | ((try dsimp only); (fail_if_success (with_reducible show wpAny _ _ (call (Value.type "range") _) _ _ _)); walk1))
  have epow : (2 : Int) ^ ((ps.length : Nat) : Int).toNat = ((2 ^ ps.length : Nat) : Int) := by
    rw [Int.toNat_natCast, Int.natCast_pow]; rfl
  have h8 : 2 ^ ps.length ≤ 8 := (Nat.pow_le_pow_right (by decide) hl3 : 2 ^ ps.length ≤ 2 ^ 3)
  rw [epow]
  (with_reducible rename Fr _ _ _ _ => F2)
  (with_reducible rename News _ _ _ _ => N2)
  (with_reducible rename Cz _ _ _ => C2)
  refine range_it1 (Int.le_trans (by decide) (Int.natCast_nonneg _)) (Int.ofNat_le.mpr (Nat.le_trans h8 (show 8 ≤ 1000 by decide))) fun I h4 tk4 hx hI1 hI2 hit => ?_
  dsimp only at hx hI1
  have F4 := F2.keeps hx
  have N4 := N2.grown hx
  have hIn : h₀.get? I = none := by
    cases e : h₀.get? I with
    | none => rfl
    | some o' => exact absurd (Heap.lt_size (F2.keep _ _ e)) (Nat.not_lt.mpr hI1)
  have hIL : I ≠ L := Nat.ne_of_gt (Nat.lt_of_lt_of_le F2.ns.lt hI1)
  have hZI : ∀ p ∈ Z, p.1 ≠ I := fun p hp => Nat.ne_of_lt (Nat.lt_of_lt_of_le (Heap.lt_size (N2 p hp).1) hI1)
  rw [Int.toNat_natCast] at hit
  obtain ⟨vs, ns, hms, hcs⟩ := ls
  obtain ⟨vg, ng, hmg, hcg⟩ := lg
  obtain ⟨vt, nt, hmt, hct⟩ := lt
  obtain ⟨vi, ni, hmi, hci⟩ := lsi
  cases hct
  cases hci
  refine for_walk (Walks.range (by exact hh) I 0 1 (2 ^ ps.length)) (MJ s h₀ L ⟨pl, sml, gl, tl, sl, I, ps, total, base⟩ (2 ^ ps.length)) ?_ ?_ ?_ ?_
  · rintro i s' ⟨h, tk, gs, m, cm, Z, K, rows, rfl, hg, F, N, C, X, hr, hK, ht, hs, hI⟩
    have := (N _ hI).1
    simpa [itR] using this
  · rintro i s' v h' tk hi ⟨h, tk0, gs, m, cm, Z, K, rows, rfl, hg, F, N, C, X, hr, hK, ht, hs, hI⟩ ⟨tv, rfl⟩ hst hk
    dsimp only at hk
    have F' := fr_hk F hk (Ne.symm hIL) hIn
    have hne : ∀ p ∈ Z, p.1 = I → p.2 = itR ((0 : Int) + (i : Nat) * 1) ((2 ^ ps.length : Nat) - (i : Nat) : Int) := fun p hp e => by
      have h1 := (N p hp).1
      have h2 := (N _ hI).1
      rw [e, h2] at h1
      exact (Option.some.inj h1).symm
    obtain ⟨Z2, hZ2⟩ : ∃ Z2, Z2 = (I, itR ((0 : Int) + ((i + 1 : Nat) : Nat) * 1) ((2 ^ ps.length : Nat) - ((i + 1 : Nat) : Nat) : Int)) :: Z.filter (fun p => p.1 != I) := ⟨_, rfl⟩
    have up : ∀ p ∈ Z, p.1 ≠ I → p ∈ Z2 := fun p hp hne => by rw [hZ2]; exact .tail _ (List.mem_filter.mpr ⟨hp, by simpa using hne⟩)
    have N' : News h₀ L h' Z2 := by
      rw [hZ2]
      intro p hp
      rcases List.mem_cons.mp hp with rfl | hp
      · exact ⟨by simpa [itR] using hst, hIL, hIn⟩
      · have := List.mem_filter.mp hp
        exact ⟨hk _ _ (by simpa using this.2) (N p this.1).1, (N p this.1).2⟩
    have hI2 : (I, itR ((0 : Int) + ((i + 1 : Nat) : Nat) * 1) ((2 ^ ps.length : Nat) - ((i + 1 : Nat) : Nat) : Int)) ∈ Z2 := by rw [hZ2]; exact .head _
    have C' : Cz (csL L) cm Z2 := by
      refine ⟨fun nm c e => ?_, C.ap⟩
      obtain ⟨o, h1, h2⟩ := C.get nm c e
      refine ⟨o, up _ h1 (fun q => ?_), h2⟩
      have hq := hne _ h1 q
      dsimp only at hq
      rw [hq] at h2
      cases h2
    have B : Bd ⟨pl, sml, gl, tl, sl, I, ps, total, base⟩ Z2 K rows ((List.range i).map fun p => sgF (pickF ps p)) (itR ((0 : Int) + ((i + 1 : Nat) : Nat) * 1) ((2 ^ ps.length : Nat) - ((i + 1 : Nat) : Nat) : Int)) :=
      ⟨fun p hp => up p (hK p hp) (X.ap p hp).2.2.1, let ⟨n, e⟩ := ht; ⟨n, up _ e (Ne.symm X.ne.2.1)⟩, let ⟨vs, n, e, f⟩ := hs; ⟨vs, n, up _ e (Ne.symm X.ne.2.2), f⟩, hI2⟩
    clear hZ2 N F C hK ht hs hI hne up hI2
    have ei : (0 : Int) + (i : Nat) * 1 = (i : Int) := by omega
    rw [ei]
    refine PyProof.Rows.assign_Name (st_cell F' N' C' (fun _ h => h) (by decide) fun h6 Z6 F6 N6 C6 l6 => ?_)
    refine wpAny_mono (turn (s := s) T hh hroom hu (c := ⟨pl, sml, gl, tl, sl, I, ps, total, base⟩) (i := i) (tm := tv) hps h0 hb hi hg F6 N6 C6 (X.upd (by decide)) hr (B.lasts X (itR_nc _ _) l6) rfl upd_eq) (fun f s₃ h₃ => ?_) fun _ _ x => x
    cases f with
    | next => exact h₃
    | cont => exact h₃
    | brk => exact h₃.elim
    | ret v => exact h₃.elim
  · rintro s' h' tk ⟨h1, tk0, gs, m, cm, Z, K, rows, rfl, hg, F, N, C, X, hr, hK, ht, hs, hI⟩ hk
    dsimp only at hk
    have F' := fr_hk F hk (Ne.symm hIL) hIn
    exact wpAny_execs_nil (h _ _ _ _ hg F')
  · refine ⟨⟨h4, tk4, s.gens, m, cm, (I, itR ((0 : Int) + ((0 : Nat) : Nat) * 1) ((2 ^ ps.length : Nat) - ((0 : Nat) : Nat) : Int)) :: Z, [(pl, W.listOf vp.toArray np), (sml, W.listOf vs.toArray ns), (gl, W.listOf vg.toArray ng)], [], rfl, hg, F4, fun p hp => ?_, C2.sub fun _ h => .tail _ h, ?_, rfl, fun p hp => ?_, ⟨nt, .tail _ hmt⟩, ⟨[], ni, .tail _ hmi, .nil⟩, .head _⟩⟩
    · rcases List.mem_cons.mp hp with rfl | hp
      · exact ⟨by simpa [itR] using hit, hIL, hIn⟩
      · exact N4 p hp
    · refine ⟨⟨tt, htot⟩, hpl, hsm, hgr, ⟨tb, hba⟩, hta, hsi, ⟨vp, np, .head _, hcp⟩, ⟨vs, ns, .tail _ (.head _), hcs⟩, ⟨vg, ng, .tail _ (.tail _ (.head _)), hcg⟩, fun p hp => ?_, ⟨n7, Ne.symm (hZI _ hmt), Ne.symm (hZI _ hmi)⟩, fun p hp => (nomatch hp)⟩
      rcases List.mem_cons.mp hp with rfl | hp
      · exact ⟨n1, n2, hZI _ hmp, fun v => by intro q; cases q⟩
      · rcases List.mem_cons.mp hp with rfl | hp
        · exact ⟨n3, n4, hZI _ hms, fun v => by intro q; cases q⟩
        · rw [List.mem_singleton.mp hp]
          exact ⟨n5, n6, hZI _ hmg, fun v => by intro q; cases q⟩
    · rcases List.mem_cons.mp hp with rfl | hp
      · exact .tail _ hmp
      · rcases List.mem_cons.mp hp with rfl | hp
        · exact .tail _ hms
        · rw [List.mem_singleton.mp hp]
          exact .tail _ hmg
end
end
section
open PySem PySem.W PyProof.Rows PySem.Calls PySem.Spec PyProof PyProof.V PySem.SeqAt
set_option Elab.async false
set_option maxRecDepth 100000
set_option maxHeartbeats 1000000
set_option linter.unusedVariables false
set_option autoImplicit false
variable {G : GA} {mg mb : Str → Option Value} {w : World}
theorem law_eq : bodyOf (fnS 16) = [lawS 0, lawS 1, lawS 2, lawS 3, lawS 4, lawS 5, lawS 6, lawS 7, lawS 8, lawS 9, lawS 10, lawS 11] := by kernel_rfl
theorem places_in (x y z : Int) : ((rangeInts 1 1 6).filter fun i => ([x % 6 + 1, y % 6 + 1, z % 6 + 1] : List Int).contains i) ∈ psets := by
  have h : ∀ x : Int, ∃ n : Nat, n < 6 ∧ x % 6 = (n : Int) := fun x => ⟨(x % 6).toNat, by omega, by omega⟩
  obtain ⟨a, ha, ea⟩ := h x
  obtain ⟨b, hb, eb⟩ := h y
  obtain ⟨c, hc, ec⟩ := h z
  rw [ea, eb, ec]
  have := List.all_eq_true.mp (List.all_eq_true.mp (List.all_eq_true.mp fPl a (List.mem_range.mpr ha)) b (List.mem_range.mpr hb)) c (List.mem_range.mpr hc)
  exact List.contains_iff_mem.mp this
theorem gr_eq (total : Int) : ((rangeInts 1 1 7).map fun i => PyData.str ⟨#[(([64, 119807, 120431] : List Int).getD ((i + total) % 3).toNat 0 + i).toNat]⟩) = (grF (total % 3)).map .str := by
  unfold grF
  rw [List.map_map]
  refine List.map_congr_left fun i _ => ?_
  have e : (i + total) % 3 = (i + total % 3) % 3 := by omega
  rw [e]
  rfl
theorem drawn3 (ns : List Int) : ∃ x y z, ((ns.take 3).map fun i => i % 1000000) ++ ([4, 1, 2] : List Int).drop ((ns.take 3).map fun i => i % 1000000).length = [x, y, z] ∧ 0 ≤ x ∧ 0 ≤ y ∧ 0 ≤ z := by
  have p : ∀ i : Int, 0 ≤ i % 1000000 := fun i => Int.emod_nonneg _ (by decide)
  match ns with
  | [] => exact ⟨4, 1, 2, rfl, by decide, by decide, by decide⟩
  | [a] => exact ⟨a % 1000000, 1, 2, rfl, p a, by decide, by decide⟩
  | [a, b] => exact ⟨a % 1000000, b % 1000000, 2, rfl, p a, p b, by decide⟩
  | a :: b :: c :: r => exact ⟨a % 1000000, b % 1000000, c % 1000000, by simp, p a, p b, p c⟩
theorem law_walk {A : Around} {s : Shared} {a l : Addr} {vs : List Value} {ns : List Int} {Q : Value → Shared → Prop} (T : Tq G mg mb w s.heap) (f : FnAt s.heap a (fnS 16)) (hh : A.handled = none) (hroom : A.depth + 4 < recursionLimit) (hu : A.units + 67 < cLine) (hg : AllBare s.gens)
    (hl : s.heap.IsList l vs.toArray) (hi : IntsAre vs ns) (hn : ns.length ≤ 63) (hQ : ∀ h' tk gs, AllBare gs → Ext s.heap h' → Q (.bool true) { s with heap := h', toks := tk, gens := gs }) :
    wpAny (model pg w) A (call (.ref a) [.ref l]) Q (fun _ _ => False) s := by
  refine law_call T.tp f (by omega) fun cd h1 tk1 Z F N C => ?_
  have tp := T.tp
  have hh' : (A.deeper (envL s.heap.objs.size a cd)).handled = none := hh
  have hroom' : (A.deeper (envL s.heap.objs.size a cd)).depth + 3 < recursionLimit := by
    show A.depth + 1 + 3 < recursionLimit
    omega
  have hu' : (A.deeper (envL s.heap.objs.size a cd)).units + 64 < cLine := by
    show A.units + 3 + 64 < cLine
    omega
  generalize A.deeper (envL s.heap.objs.size a cd) = AA at hh' hroom' hu' ⊢
  rw [law_eq]
  obtain ⟨x, y, z, hxyz, hx0, hy0, hz0⟩ := drawn3 ns
  -- drawn
  refine wpAny_execs_cons (s0 tp F N C hh' upd_eq vs hl hi hn fun h2 tk2 Z2 D2 F2 N2 C2 l2 ld2 => ?_)
  dsimp only
  have ld2' : LI Z2 D2 (((ns.take 3).map fun i => i % 1000000).map .int) := by rw [List.map_map]; exact ld2
  refine wpAny_execs_cons (s1 tp F2 N2 C2 hh' upd_eq ld2' (by rw [List.length_map]; exact List.length_take_le _ _) fun h3 tk3 Z3 D3 F3 N3 C3 l3 ld3 => ?_)
  dsimp only
  rw [hxyz] at ld3
  clear ld2 ld2' F2 N2 C2 F N C l2 l3
  have hm3 : upd (upd (upd (fun _ => none) "script" (.ref l)) "drawn" (.ref D2)) "drawn" (.ref D3) "drawn" = some (.ref D3) := upd_eq
  generalize upd (upd (upd (fun _ => none) "script" (.ref l)) "drawn" (.ref D2)) "drawn" (.ref D3) = m3 at F3 hm3
  -- total
  refine wpAny_execs_cons (s2 tp F3 N3 C3 hh' hm3 ld3 (by simp) fun h4 tk4 Z4 tt F4 N4 C4 l4 => ?_)
  dsimp only
  have ht0 : 0 ≤ ([x, y, z] : List Int).sum := by simp; omega
  generalize ([x, y, z] : List Int).sum = total at C4 ht0
  -- chosen
  refine wpAny_execs_cons (s3 tp F4 N4 C4 hh' hm3 (ld3.lasts l4) (by simp) fun h5 tk5 Z5 D5 F5 N5 C5 l5 lc5 => ?_)
  dsimp only
  have lc5' : LI Z5 D5 (([x % 6 + 1, y % 6 + 1, z % 6 + 1] : List Int).map .int) := lc5
  clear lc5 ld3 F4 N4 F3 N3 C3 l4
  -- places
  refine wpAny_execs_cons (s4 tp F5 N5 C5 hh' upd_eq lc5' (by simp) fun h6 tk6 Z6 D6 F6 N6 C6 l6 lp6 => ?_)
  dsimp only
  have hps := places_in x y z
  generalize (rangeInts 1 1 6).filter (fun i => ([x % 6 + 1, y % 6 + 1, z % 6 + 1] : List Int).contains i) = ps at lp6 hps
  clear lc5' F5 N5 C4 l5
  -- small
  refine wpAny_execs_cons (s5 tp F6 N6 C6 hh' fun h7 tk7 Z7 D7 F7 N7 C7 l7 ls7 => ?_)
  dsimp only
  have ls7' : LI Z7 D7 (smF.map .str) := by unfold smF; rw [List.map_map]; exact ls7
  have lp7 := lp6.lasts l7
  clear ls7 lp6 F6 N6 C5 l6
  -- great
  have htot7 : upd (upd (upd (upd (fun _ => none) "total" (.int total tt)) "chosen" (.ref D5)) "places" (.ref D6)) "small" (.ref D7) "total" = some (.int total tt) := upd_ne (by decide) (upd_ne (by decide) (upd_ne (by decide) upd_eq))
  refine wpAny_execs_cons (s6 tp F7 N7 C7 hh' htot7 ht0 fun h8 tk8 Z8 D8 F8 N8 C8 l8 lg8 => ?_)
  dsimp only
  rw [gr_eq] at lg8
  have ls8 := ls7'.lasts l8
  have lp8 := lp7.lasts l8
  have htot8 : upd (upd (upd (upd (upd (fun _ => none) "total" (.int total tt)) "chosen" (.ref D5)) "places" (.ref D6)) "small" (.ref D7)) "great" (.ref D8) "total" = some (.int total tt) := upd_ne (by decide) htot7
  have hpl8 : upd (upd (upd (upd (upd (fun _ => none) "total" (.int total tt)) "chosen" (.ref D5)) "places" (.ref D6)) "small" (.ref D7)) "great" (.ref D8) "places" = some (.ref D6) := upd_ne (by decide) (upd_ne (by decide) upd_eq)
  have hsm8 : upd (upd (upd (upd (upd (fun _ => none) "total" (.int total tt)) "chosen" (.ref D5)) "places" (.ref D6)) "small" (.ref D7)) "great" (.ref D8) "small" = some (.ref D7) := upd_ne (by decide) upd_eq
  have hgr8 : upd (upd (upd (upd (upd (fun _ => none) "total" (.int total tt)) "chosen" (.ref D5)) "places" (.ref D6)) "small" (.ref D7)) "great" (.ref D8) "great" = some (.ref D8) := upd_eq
  clear htot7 ls7' lp7 F7 N7 C6 C7 l7 l8
  generalize upd (upd (upd (upd (upd (fun _ => none) "total" (.int total tt)) "chosen" (.ref D5)) "places" (.ref D6)) "small" (.ref D7)) "great" (.ref D8) = cm8 at C8 htot8 hpl8 hsm8 hgr8
  -- base
  refine wpAny_execs_cons (s7 tp F8 N8 C8 hh' htot8 ht0 fun h9 tk9 Z9 tb F9 N9 C9 l9 => ?_)
  dsimp only
  -- tables
  refine wpAny_execs_cons (s8 tp F9 N9 C9 hh' fun h10 tk10 Z10 D10 F10 N10 C10 l10 fr10 lt10 => ?_)
  dsimp only
  -- signs
  refine wpAny_execs_cons (s9 tp F10 N10 C10 hh' fun h11 tk11 Z11 D11 F11 N11 C11 l11 fr11 lsi11 => ?_)
  dsimp only
  have lp9 := lp8.lasts l9
  have ls9 := ls8.lasts l9
  have lg9 := lg8.lasts l9
  have lp10 := lp9.lasts l10
  have ls10 := ls9.lasts l10
  have lg10 := lg9.lasts l10
  have nea : ∀ {Z : List (Addr × Obj)} {a D : Addr} {ds : List PyData}, LI Z a ds → (∀ p ∈ Z, p.1 ≠ D) → a ≠ D := fun x h => by
    obtain ⟨vs, n, e, _⟩ := x
    exact h _ e
  obtain ⟨bN, hbN⟩ : ∃ bN : Nat, (bN : Int) = total % 26 := ⟨(total % 26).toNat, by omega⟩
  rw [← hbN] at C11
  refine wpAny_execs_cons (st10 T F11 N11 C11 hh' hroom' hu' hg hps ht0 hbN (upd_ne (by decide) (upd_ne (by decide) (upd_ne (by decide) htot8))) (upd_ne (by decide) (upd_ne (by decide) (upd_ne (by decide) hpl8))) (upd_ne (by decide) (upd_ne (by decide) (upd_ne (by decide) hsm8))) (upd_ne (by decide) (upd_ne (by decide) (upd_ne (by decide) hgr8)))
    (upd_ne (by decide) (upd_ne (by decide) upd_eq)) (upd_ne (by decide) upd_eq) upd_eq (lp10.lasts l11) (ls10.lasts l11) (lg10.lasts l11) (lt10.lasts l11) lsi11 (nea lp9 fr10) (nea lp10 fr11) (nea ls9 fr10) (nea ls10 fr11) (nea lg9 fr10) (nea lg10 fr11) (nea lt10 fr11) fun h12 tk12 gs12 m12 hg12 F12 => ?_)
  dsimp only
  conv in (occs := *) (lawS _) => all_goals (unfold lawS fnS; whnf)
  repeat' (first | ((try dsimp only); walk1))
  exact hQ _ _ _ hg12 F12.keep
end
section
open PySem PySem.W PyProof.Rows PySem.Calls PySem.Spec PyProof PyProof.V PySem.SeqAt
set_option Elab.async false
set_option maxRecDepth 100000
set_option maxHeartbeats 1000000
set_option linter.unusedVariables false
set_option autoImplicit false
theorem items_ints {R : WRecords} : ∀ {xs : List WData}, WShape.hasItems R xs .int = true → ∃ ns : List Int, xs = ns.map WData.int
  | [], _ => ⟨[], rfl⟩
  | d :: r, h => by
    unfold WShape.hasItems at h
    rw [Bool.and_eq_true] at h
    obtain ⟨i, rfl⟩ := hasW_int h.1
    obtain ⟨ns, rfl⟩ := items_ints h.2
    exact ⟨i :: ns, rfl⟩
theorem arg_ints {args : List WData} (h : WShape.hasAll [] args [.list .int] = true) : ∃ ns : List Int, args = [.list (ns.map WData.int)] := by
  obtain ⟨d, r, rfl, h1, h2⟩ := hasAllW_cons h
  have hr : r = [] := by
    cases r with
    | nil => rfl
    | cons x y => simp [WShape.hasAll] at h2
  subst hr
  cases d with
  | list xs =>
    have h3 : WShape.hasItems [] xs .int = true := by simpa [WShape.has, WShape.arms] using h1
    obtain ⟨ns, rfl⟩ := items_ints h3
    exact ⟨ns, rfl⟩
  | _ => simp [WShape.has, WShape.arms] at h1
theorem pre_args {args : List WData} (h : rowW.claim.pre args = true) : ∃ ns : List Int, args = [.list (ns.map WData.int)] ∧ ns.length ≤ 63 := by
  have h' : (WShape.hasAll [] args [.list .int] && WTm.holds [] (OpenLaw.pre PySem.Challenge.rw_sn0084_01) { args := args }) = true := h
  rw [Bool.and_eq_true] at h'
  obtain ⟨ns, rfl⟩ := arg_ints h'.1
  refine ⟨ns, rfl, ?_⟩
  have h2 := h'.2
  unfold OpenLaw.pre PySem.Challenge.rw_sn0084_01 at h2
  simp [WTm.holds, WTm.value] at h2
  rw [show W.less? (WData.int 63) (WData.int (ns.length : Nat)) = some (decide ((63 : Int) < (ns.length : Nat))) from rfl] at h2
  by_cases hlt : (63 : Int) < (ns.length : Nat)
  · rw [decide_eq_true hlt] at h2
    simp at h2
  · omega
theorem reads_ints {R : WRecords} {cl : Str → Option Addr} {h : Heap} : ∀ {ns : List Int} {vs : List Value} {as : List Addr}, ReadsAllW R cl h vs (ns.map WData.int) as → IntsAre vs ns
  | [], _, _, x => by cases x; exact .nil
  | n :: ns, _, _, x => by
    cases x with
    | cons a b =>
      cases a
      exact .cons _ _ (reads_ints b)
theorem the_call : WalkO q loose XPk YPk rowW dLaw [] (fun f vs => PySem.call f vs) := by
  intro w s₀ s₁ mg mb X Y a o pm cd doc dV kV ho hd hcd hdf hma hgens args vals as hpre hlay hr hwell has
  obtain ⟨ns, rfl, hn⟩ := pre_args hpre
  obtain ⟨G, T⟩ := tq_of X Y
  have hf : FnAt s₁.heap a (fnS 16) := by
    have := fn_of (X.T.fn (recAt 16) (by rw [recs_q]; simp))
    obtain ⟨a', m', f'⟩ := this
    have e : mg (nameOf (fnS 16)) = some (.ref a) := hma
    rw [e] at m'
    cases m'
    exact f'
  cases hr with
  | cons hr1 hr2 =>
    cases hr2
    cases hr1 with
    | list h1 h2 h3 h4 =>
      rename_i l o2 vs n as2
      have hl : s₁.heap.IsList l vs.toList.toArray := ⟨o2, h1, h2, n, by rw [Array.toArray_toList]; exact h3⟩
      have hi := reads_ints h4
      refine wpAny_mono (law_walk (A := callerA) T hf rfl (by decide) (by decide) (by rw [hgens]; exact AllBare.empty) hl hi hn (Q := fun v s' => GoodWG rowW.claim (classAt s₀.heap) (ExcName.means s₀.heap) [.list (ns.map WData.int)] s₁ (.ok (.ret v)) s') fun h' tk gs hg hx => ?_) (fun _ _ x => x) fun _ _ x => x.elim
      refine ⟨.inl ⟨_, .bool true, [], rfl, fun _ => rfl, ReadsW.bool true, ?_, fun _ => ⟨List.nodup_nil, fun _ hm => nomatch hm⟩⟩, .of_keep hx, rfl, hg⟩
      first | kernel_rfl | wrow_post | (show (WShape.has [] (.bool true) .bool && WTm.holds [] (.eq .res (.lit (.bool true))) { args := [.list (ns.map WData.int)], res := some (.bool true), after := [.list (ns.map WData.int)] }) = true; simp [WShape.has, WShape.arms, WTm.holds, WTm.value])
theorem all_done : PySem.Challenge.rw_sn0084_01.Holds := holds_of_call hw_law the_call
end
end Mine
end
set_option maxRecDepth 100000 in
theorem PySem.Challenge.cw_sn0084_01_holds : PySem.Challenge.rw_sn0084_01.Holds :=
  Mine.all_done
