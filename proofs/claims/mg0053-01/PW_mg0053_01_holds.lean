import PyProof.Rows.All
import Wide.All
import OpenK.AllK
import Wide.FinOn
import PySem.Challenge.RW_mg0053_01
open PySem PySem.W PyProof.Rows
set_option Elab.async false
set_option maxRecDepth 100000
set_option maxHeartbeats 8000000
set_option linter.all false
set_option rowWalk.seconds 0
namespace Mine
theorem PySem.W.holds_open {r : OpenRow} {q : Program} {loose : List Str} {Xt : Shared → Bool} {XP : (Str → Option Value) → Heap → Prop} {α : Type} {Yf : Shared → α} {Ya : World → α} {YP : World → Heap → Prop} {d : DefRec} {kwd : List (Str × Expr)} {N : Nat}
    (left : ∀ w, (openEnds treeTable r.prog w N).map (fun s => (openSeen q loose (importedModules r.prog.main.body) Xt true s, Yf s)) = some (openGood q loose, Ya w)) (hY : ∀ w s, Yf s = Ya w → YP w s.heap) (hYk : ∀ w h h', YP w h → (∀ b o, h.get? b = some o → h'.get? b = some o) → YP w h')
    (hX : ∀ s, Xt s = true → XP (s.heap.nsMap mainGlobals) s.heap) (hXk : ∀ mg h h', XP mg h → (∀ b o, h.get? b = some o → h'.get? b = some o) → XP mg h')
    (hdef : defOf q r.name = some (d, kwd)) (hp : r.prog.theDef r.name = some (d.params, d.body, d.scope)) (hk : kwWritten? d.params.kwonlyargs d.params.kw_defaults = some kwd) (hRf : ∀ s, Xt s = true → RecFacts r.records s.heap) (hwr : (!r.writes || r.records.isEmpty) = true)
    (k1 : r.wellSaid = true) (ok : (chainsOk q && opensWell r.prog && (frees r.toRowW && r.within.isEmpty)) = true) (hb : r.prog.bare) (hw : r.toRowW.promised)
    (call : WalkO q loose XP YP r.toRowW d kwd fun f vs => PySem.call f vs) : r.Holds := _root_.PySem.W.holds_open left hY hYk hX hXk hdef hp hk hRf hwr k1 ok hb hw call
open_top hd for PySem.Challenge.rw_mg0053_01
open PySem.Calls PySem.Spec
noncomputable abbrev arn (hn : Option Value) (dp un : Nat) (gd : Option (List Code)) (env : Env) (outer : List Env) : Around := { handled := hn, depth := dp, frames := some (env :: outer), guards := gd, units := un }
structure Cx (w : World) (env : Env) (outer : List Env) (h₀ : Heap) (L : Addr) : Prop where
  ex : ∃ (p : Program) (loose : List Str) (mean : ExcName → Option Value) (mg mb : Str → Option Value) (A₀ : Around) (base : Heap), Below A₀ base outer h₀ ∧ (hd.heap_39 w.params).In h₀ ∧ Top p loose mean mg mb h₀
  hf : env.frame = some L
  hk : env.scope.kind = .function
noncomputable abbrev lstObj (vs : List Value) (n : Nat) : Obj := { cls := .type "list", data := .seq vs.toArray n }
noncomputable abbrev tupObj (vs : List Value) (n : Nat) : Obj := { cls := .type "tuple", data := .seq vs.toArray n }
section
/-! triples and their order -/
theorem cx_e {w : World} {env : Env} {outer : List Env} {h₀ : Heap} {L : Addr} (C : Cx w env outer h₀ L) {G : Prop} (k : ∀ (p : Program) (loose : List Str) (mean : ExcName → Option Value) (mg mb : Str → Option Value) (A₀ : Around) (base : Heap), Below A₀ base outer h₀ → (hd.heap_39 w.params).In h₀ → Top p loose mean mg mb h₀ → env.frame = some L → env.scope.kind = .function → G) : G := by
  obtain ⟨⟨p, loose, mean, mg, mb, A₀, base, B, X, T⟩, hf, hk⟩ := C
  exact k p loose mean mg mb A₀ base B X T hf hk
theorem sb1 (n i : Nat) : n - i = n + 1 - (i + 1) := (Nat.add_sub_add_right n 1 i).symm
theorem sb2 {n i : Nat} (h : i < n) : n - i < n + 1 - i := by (first | lia | omega)
theorem sb3 {n i : Nat} (h : i < n) : n + 1 - (i + 1) < n + 1 - i := by (first | lia | omega)
theorem mem4 {x : Int} : x ∈ ([0, 1, 2, 3] : List Int) ↔ 0 ≤ x ∧ x < 4 := by
  simp only [List.mem_cons, List.not_mem_nil, or_false]
  (first | lia | omega)
theorem ex1_e {α0 : Type} {P : α0 → Prop} {G : Prop} (h : ∃ x0, P x0) (k : ∀ x0, P x0 → G) : G :=
  h.elim fun x0 h => k x0 h
theorem ex2_e {α0 α1 : Type} {P : α0 → α1 → Prop} {G : Prop} (h : ∃ x0 x1, P x0 x1) (k : ∀ x0 x1, P x0 x1 → G) : G :=
  h.elim fun x0 h => h.elim fun x1 h => k x0 x1 h
theorem ex3_e {α0 α1 α2 : Type} {P : α0 → α1 → α2 → Prop} {G : Prop} (h : ∃ x0 x1 x2, P x0 x1 x2) (k : ∀ x0 x1 x2, P x0 x1 x2 → G) : G :=
  h.elim fun x0 h => h.elim fun x1 h => h.elim fun x2 h => k x0 x1 x2 h
theorem ex4_e {α0 α1 α2 α3 : Type} {P : α0 → α1 → α2 → α3 → Prop} {G : Prop} (h : ∃ x0 x1 x2 x3, P x0 x1 x2 x3) (k : ∀ x0 x1 x2 x3, P x0 x1 x2 x3 → G) : G :=
  h.elim fun x0 h => h.elim fun x1 h => h.elim fun x2 h => h.elim fun x3 h => k x0 x1 x2 x3 h
theorem ex5_e {α0 α1 α2 α3 α4 : Type} {P : α0 → α1 → α2 → α3 → α4 → Prop} {G : Prop} (h : ∃ x0 x1 x2 x3 x4, P x0 x1 x2 x3 x4) (k : ∀ x0 x1 x2 x3 x4, P x0 x1 x2 x3 x4 → G) : G :=
  h.elim fun x0 h => h.elim fun x1 h => h.elim fun x2 h => h.elim fun x3 h => h.elim fun x4 h => k x0 x1 x2 x3 x4 h
theorem ex6_e {α0 α1 α2 α3 α4 α5 : Type} {P : α0 → α1 → α2 → α3 → α4 → α5 → Prop} {G : Prop} (h : ∃ x0 x1 x2 x3 x4 x5, P x0 x1 x2 x3 x4 x5) (k : ∀ x0 x1 x2 x3 x4 x5, P x0 x1 x2 x3 x4 x5 → G) : G :=
  h.elim fun x0 h => h.elim fun x1 h => h.elim fun x2 h => h.elim fun x3 h => h.elim fun x4 h => h.elim fun x5 h => k x0 x1 x2 x3 x4 x5 h
theorem ex7_e {α0 α1 α2 α3 α4 α5 α6 : Type} {P : α0 → α1 → α2 → α3 → α4 → α5 → α6 → Prop} {G : Prop} (h : ∃ x0 x1 x2 x3 x4 x5 x6, P x0 x1 x2 x3 x4 x5 x6) (k : ∀ x0 x1 x2 x3 x4 x5 x6, P x0 x1 x2 x3 x4 x5 x6 → G) : G :=
  h.elim fun x0 h => h.elim fun x1 h => h.elim fun x2 h => h.elim fun x3 h => h.elim fun x4 h => h.elim fun x5 h => h.elim fun x6 h => k x0 x1 x2 x3 x4 x5 x6 h
theorem ex8_e {α0 α1 α2 α3 α4 α5 α6 α7 : Type} {P : α0 → α1 → α2 → α3 → α4 → α5 → α6 → α7 → Prop} {G : Prop} (h : ∃ x0 x1 x2 x3 x4 x5 x6 x7, P x0 x1 x2 x3 x4 x5 x6 x7) (k : ∀ x0 x1 x2 x3 x4 x5 x6 x7, P x0 x1 x2 x3 x4 x5 x6 x7 → G) : G :=
  h.elim fun x0 h => h.elim fun x1 h => h.elim fun x2 h => h.elim fun x3 h => h.elim fun x4 h => h.elim fun x5 h => h.elim fun x6 h => h.elim fun x7 h => k x0 x1 x2 x3 x4 x5 x6 x7 h
theorem ex9_e {α0 α1 α2 α3 α4 α5 α6 α7 α8 : Type} {P : α0 → α1 → α2 → α3 → α4 → α5 → α6 → α7 → α8 → Prop} {G : Prop} (h : ∃ x0 x1 x2 x3 x4 x5 x6 x7 x8, P x0 x1 x2 x3 x4 x5 x6 x7 x8) (k : ∀ x0 x1 x2 x3 x4 x5 x6 x7 x8, P x0 x1 x2 x3 x4 x5 x6 x7 x8 → G) : G :=
  h.elim fun x0 h => h.elim fun x1 h => h.elim fun x2 h => h.elim fun x3 h => h.elim fun x4 h => h.elim fun x5 h => h.elim fun x6 h => h.elim fun x7 h => h.elim fun x8 h => k x0 x1 x2 x3 x4 x5 x6 x7 x8 h
theorem ex11_e {α0 α1 α2 α3 α4 α5 α6 α7 α8 α9 α10 : Type} {P : α0 → α1 → α2 → α3 → α4 → α5 → α6 → α7 → α8 → α9 → α10 → Prop} {G : Prop} (h : ∃ x0 x1 x2 x3 x4 x5 x6 x7 x8 x9 x10, P x0 x1 x2 x3 x4 x5 x6 x7 x8 x9 x10) (k : ∀ x0 x1 x2 x3 x4 x5 x6 x7 x8 x9 x10, P x0 x1 x2 x3 x4 x5 x6 x7 x8 x9 x10 → G) : G :=
  h.elim fun x0 h => h.elim fun x1 h => h.elim fun x2 h => h.elim fun x3 h => h.elim fun x4 h => h.elim fun x5 h => h.elim fun x6 h => h.elim fun x7 h => h.elim fun x8 h => h.elim fun x9 h => h.elim fun x10 h => k x0 x1 x2 x3 x4 x5 x6 x7 x8 x9 x10 h
theorem ex12_e {α0 α1 α2 α3 α4 α5 α6 α7 α8 α9 α10 α11 : Type} {P : α0 → α1 → α2 → α3 → α4 → α5 → α6 → α7 → α8 → α9 → α10 → α11 → Prop} {G : Prop} (h : ∃ x0 x1 x2 x3 x4 x5 x6 x7 x8 x9 x10 x11, P x0 x1 x2 x3 x4 x5 x6 x7 x8 x9 x10 x11) (k : ∀ x0 x1 x2 x3 x4 x5 x6 x7 x8 x9 x10 x11, P x0 x1 x2 x3 x4 x5 x6 x7 x8 x9 x10 x11 → G) : G :=
  h.elim fun x0 h => h.elim fun x1 h => h.elim fun x2 h => h.elim fun x3 h => h.elim fun x4 h => h.elim fun x5 h => h.elim fun x6 h => h.elim fun x7 h => h.elim fun x8 h => h.elim fun x9 h => h.elim fun x10 h => h.elim fun x11 h => k x0 x1 x2 x3 x4 x5 x6 x7 x8 x9 x10 x11 h
theorem an2_e {a0 a1 G : Prop} (h : a0 ∧ a1) (k : a0 → a1 → G) : G :=
  k h.1 h.2
theorem an3_e {a0 a1 a2 G : Prop} (h : a0 ∧ a1 ∧ a2) (k : a0 → a1 → a2 → G) : G :=
  k h.1 h.2.1 h.2.2
theorem an4_e {a0 a1 a2 a3 G : Prop} (h : a0 ∧ a1 ∧ a2 ∧ a3) (k : a0 → a1 → a2 → a3 → G) : G :=
  k h.1 h.2.1 h.2.2.1 h.2.2.2
theorem an5_e {a0 a1 a2 a3 a4 G : Prop} (h : a0 ∧ a1 ∧ a2 ∧ a3 ∧ a4) (k : a0 → a1 → a2 → a3 → a4 → G) : G :=
  k h.1 h.2.1 h.2.2.1 h.2.2.2.1 h.2.2.2.2
theorem an6_e {a0 a1 a2 a3 a4 a5 G : Prop} (h : a0 ∧ a1 ∧ a2 ∧ a3 ∧ a4 ∧ a5) (k : a0 → a1 → a2 → a3 → a4 → a5 → G) : G :=
  k h.1 h.2.1 h.2.2.1 h.2.2.2.1 h.2.2.2.2.1 h.2.2.2.2.2
theorem an7_e {a0 a1 a2 a3 a4 a5 a6 G : Prop} (h : a0 ∧ a1 ∧ a2 ∧ a3 ∧ a4 ∧ a5 ∧ a6) (k : a0 → a1 → a2 → a3 → a4 → a5 → a6 → G) : G :=
  k h.1 h.2.1 h.2.2.1 h.2.2.2.1 h.2.2.2.2.1 h.2.2.2.2.2.1 h.2.2.2.2.2.2
theorem an8_e {a0 a1 a2 a3 a4 a5 a6 a7 G : Prop} (h : a0 ∧ a1 ∧ a2 ∧ a3 ∧ a4 ∧ a5 ∧ a6 ∧ a7) (k : a0 → a1 → a2 → a3 → a4 → a5 → a6 → a7 → G) : G :=
  k h.1 h.2.1 h.2.2.1 h.2.2.2.1 h.2.2.2.2.1 h.2.2.2.2.2.1 h.2.2.2.2.2.2.1 h.2.2.2.2.2.2.2
theorem an9_e {a0 a1 a2 a3 a4 a5 a6 a7 a8 G : Prop} (h : a0 ∧ a1 ∧ a2 ∧ a3 ∧ a4 ∧ a5 ∧ a6 ∧ a7 ∧ a8) (k : a0 → a1 → a2 → a3 → a4 → a5 → a6 → a7 → a8 → G) : G :=
  k h.1 h.2.1 h.2.2.1 h.2.2.2.1 h.2.2.2.2.1 h.2.2.2.2.2.1 h.2.2.2.2.2.2.1 h.2.2.2.2.2.2.2.1 h.2.2.2.2.2.2.2.2
theorem an10_e {a0 a1 a2 a3 a4 a5 a6 a7 a8 a9 G : Prop} (h : a0 ∧ a1 ∧ a2 ∧ a3 ∧ a4 ∧ a5 ∧ a6 ∧ a7 ∧ a8 ∧ a9) (k : a0 → a1 → a2 → a3 → a4 → a5 → a6 → a7 → a8 → a9 → G) : G :=
  k h.1 h.2.1 h.2.2.1 h.2.2.2.1 h.2.2.2.2.1 h.2.2.2.2.2.1 h.2.2.2.2.2.2.1 h.2.2.2.2.2.2.2.1 h.2.2.2.2.2.2.2.2.1 h.2.2.2.2.2.2.2.2.2
theorem an11_e {a0 a1 a2 a3 a4 a5 a6 a7 a8 a9 a10 G : Prop} (h : a0 ∧ a1 ∧ a2 ∧ a3 ∧ a4 ∧ a5 ∧ a6 ∧ a7 ∧ a8 ∧ a9 ∧ a10) (k : a0 → a1 → a2 → a3 → a4 → a5 → a6 → a7 → a8 → a9 → a10 → G) : G :=
  k h.1 h.2.1 h.2.2.1 h.2.2.2.1 h.2.2.2.2.1 h.2.2.2.2.2.1 h.2.2.2.2.2.2.1 h.2.2.2.2.2.2.2.1 h.2.2.2.2.2.2.2.2.1 h.2.2.2.2.2.2.2.2.2.1 h.2.2.2.2.2.2.2.2.2.2
theorem an12_e {a0 a1 a2 a3 a4 a5 a6 a7 a8 a9 a10 a11 G : Prop} (h : a0 ∧ a1 ∧ a2 ∧ a3 ∧ a4 ∧ a5 ∧ a6 ∧ a7 ∧ a8 ∧ a9 ∧ a10 ∧ a11) (k : a0 → a1 → a2 → a3 → a4 → a5 → a6 → a7 → a8 → a9 → a10 → a11 → G) : G :=
  k h.1 h.2.1 h.2.2.1 h.2.2.2.1 h.2.2.2.2.1 h.2.2.2.2.2.1 h.2.2.2.2.2.2.1 h.2.2.2.2.2.2.2.1 h.2.2.2.2.2.2.2.2.1 h.2.2.2.2.2.2.2.2.2.1 h.2.2.2.2.2.2.2.2.2.2.1 h.2.2.2.2.2.2.2.2.2.2.2
noncomputable abbrev T3 := Int × Int × Int
noncomputable def triLt (x y : T3) : Bool := if x.1 = y.1 then if x.2.1 = y.2.1 then decide (x.2.2 < y.2.2) else decide (x.2.1 < y.2.1) else decide (x.1 < y.1)
noncomputable abbrev triObj (x : T3) (ta tb tc n : Nat) : Obj := { cls := .type "tuple", data := .seq #[.int x.1 ta, .int x.2.1 tb, .int x.2.2 tc] n }

theorem fi_cons {M : Model} {A : Around} {E : Value → Shared → Prop} {s : Shared} {α β : Type} {f : α → β → Sem (ForInStep β)} {x : α} {l : List α} {b : β} {Q : β → Shared → Prop}
    (h : wpAny M A (f x b) (fun r s' => match r with | .yield b' => wpAny M A (forIn l b' f) Q E s' | .done b' => Q b' s') E s) : wpAny M A (forIn (x :: l) b f) Q E s := by
  rw [List.forIn_cons]
  refine wpAny_bind (wpAny_mono h (fun r s' hr => ?_) fun _ _ h' => h')
  cases r with
  | done b' => exact wpAny_pure hr
  | yield b' => exact hr
theorem fi_nil {M : Model} {A : Around} {E : Value → Shared → Prop} {s : Shared} {α β : Type} {f : α → β → Sem (ForInStep β)} {b : β} {Q : β → Shared → Prop}
    (h : Q b s) : wpAny M A (forIn ([] : List α) b f) Q E s := by
  rw [List.forIn_nil]; exact wpAny_pure h

section
variable {prog : Program} {w : World} {A : Around} {E : Value → Shared → Prop} {s : Shared}
theorem lt_int_rich {a b : Int} {t u : Tok} {Q : Value → Shared → Prop} (h : Q (.bool (decide (a < b))) s) : wpAny (model prog w) A (richCompare .Lt (.int a t) (.int b u)) Q E s := P.lt_int (prog := prog) (w := w) (A := A) h
theorem tri_lt_tree {x y : T3} {a b : Addr} {ta tb tc n ua ub uc k : Nat} {P : Fin → Shared → Prop} (hx : s.heap.get? a = some (triObj x ta tb tc n)) (hy : s.heap.get? b = some (triObj y ua ub uc k))
    (h : P (.done (.ret (.bool (triLt x y)))) s) :
    wpAny (model prog w) A (Builtin.«tuple.__lt__» ⟨[.ref a, .ref b], []⟩) P E s := by
  have hTb : s.TypeIs (.ref b) "tuple" := (show ∃ o, s.heap.get? b = some o ∧ o.cls = .type "tuple" from ⟨_, hy, rfl⟩)
  show wpAny _ _ (isInstance (.ref b) (.type "tuple") >>= _) _ _ s
  refine wpAny_bind (wpAny_isInstance hTb isSubtype_tuple_tuple ?_)
  simp only [Bool.not_true, Bool.false_eq_true, if_false]
  refine wpAny_bind (wpAny_tupleItemsOf hx rfl ?_)
  refine wpAny_bind (wpAny_tupleItemsOf hy rfl ?_)
  refine wpAny_bind ?_
  unfold triLt at h
  obtain ⟨x1, x2, x3⟩ := x
  obtain ⟨y1, y2, y3⟩ := y
  dsimp only at h ⊢
  simp only [List.zip_cons_cons, List.zip_nil_left]
  refine fi_cons (wpAny_bind (wpAny_eqBool_int ?_))
  by_cases h1 : x1 = y1
  · subst h1
    simp only [beq_self_eq_true, Bool.not_true, Bool.false_eq_true, if_false, if_true] at h ⊢
    refine wpAny_pure (fi_cons (wpAny_bind (wpAny_eqBool_int ?_)))
    by_cases h2 : x2 = y2
    · subst h2
      simp only [beq_self_eq_true, Bool.not_true, Bool.false_eq_true, if_false, if_true] at h ⊢
      refine wpAny_pure (fi_cons (wpAny_bind (wpAny_eqBool_int ?_)))
      by_cases h3 : x3 = y3
      · subst h3
        simp only [beq_self_eq_true, Bool.not_true, Bool.false_eq_true, if_false, if_true] at h ⊢
        refine wpAny_pure (fi_nil ?_)
        rw [decide_eq_false (Int.lt_irrefl _)] at h
        exact wpAny_pure h
      · simp only [beq_eq_false_iff_ne.mpr h3, Bool.not_false, if_true]
        exact wpAny_bind (wpAny_rule (wpAny_bind (lt_int_rich (wpAny_bind (wpAny_pure (wpAny_pure (wpAny_pure h)))))))
    · simp only [beq_eq_false_iff_ne.mpr h2, Bool.not_false, if_true]
      rw [if_neg h2] at h
      exact wpAny_bind (wpAny_rule (wpAny_bind (lt_int_rich (wpAny_bind (wpAny_pure (wpAny_pure (wpAny_pure h)))))))
  · simp only [beq_eq_false_iff_ne.mpr h1, Bool.not_false, if_true]
    rw [if_neg h1] at h
    exact wpAny_bind (wpAny_rule (wpAny_bind (lt_int_rich (wpAny_bind (wpAny_pure (wpAny_pure (wpAny_pure h)))))))
theorem tri_lt {x y : T3} {a b : Addr} {ta tb tc n ua ub uc k : Nat} {Q : Value → Shared → Prop} (hx : s.heap.get? a = some (triObj x ta tb tc n)) (hy : s.heap.get? b = some (triObj y ua ub uc k))
    (hu : A.units < cLine) (h : Q (.bool (triLt x y)) s) : wpAny (model prog w) A (compareOp .Lt (.ref a) (.ref b)) Q E s := by
  have hTa : s.TypeIs (.ref a) "tuple" := (show ∃ o, s.heap.get? a = some o ∧ o.cls = .type "tuple" from ⟨_, hx, rfl⟩)
  have hTb : s.TypeIs (.ref b) "tuple" := (show ∃ o, s.heap.get? b = some o ∧ o.cls = .type "tuple" from ⟨_, hy, rfl⟩)
  show wpAny _ _ (richCompare .Lt (.ref a) (.ref b)) _ _ _
  refine wpAny_richCompare_same_room hTa hTb F.slot_tuple_lt (wpAny_call_entry F.slot_tuple_lt hTa F.entry_tuple_lt ?_ (F.args_tuple_lt_2 _ _)) hu
  exact tri_lt_tree hx hy ⟨_, rfl, (fun q => nomatch q), h⟩
end

/-! locals written out over any rest -/
noncomputable def LocAre (m : Str → Option Value) : List (Str × Value) → Prop
  | [] => True
  | p :: r => m p.1 = some p.2 ∧ LocAre m r
noncomputable def kB (u : Str → Option Value) : List (Str × Value) → Str → Option Value
  | [], z => u z
  | (x, v) :: r, z => if z = x then some v else kB u r z
theorem kB_eq {m : Str → Option Value} : ∀ {ps : List (Str × Value)}, LocAre m ps → ∀ z, kB m ps z = m z
  | [], _, _ => rfl
  | (x, v) :: r, h, z => by
    show (if z = x then some v else kB m r z) = m z
    by_cases e : z = x
    · rw [if_pos e, e]; exact h.1.symm
    · rw [if_neg e]; exact kB_eq h.2 z
theorem frB {h₀ h : Heap} {L : Addr} {m : Str → Option Value} (ps : List (Str × Value)) (F : Fr h₀ L h m) (hp : LocAre m ps) : Fr h₀ L h (kB m ps) := by
  have e : kB m ps = m := funext fun y => kB_eq hp y
  rw [e]; exact F

noncomputable abbrev NoE : Value → Shared → Prop := fun _ _ => False
section
variable {prog : Program} {w : World} {A : Around} {E : Value → Shared → Prop} {Q : Flow → Shared → Prop} {s : Shared} {env : Env}
noncomputable def Stop (P : Prop) : Prop := P
theorem Stop.mk {P : Prop} (h : P) : Stop P := h
noncomputable def TurnEnd (I : Nat → Shared → Prop) (R : Shared → Prop) (Q : Flow → Shared → Prop) (n : Nat) (f : Flow) (s₃ : Shared) : Prop := match f with
  | .ret v => Q (.ret v) s₃
  | .brk => Stop (R s₃)
  | _ => Stop (∃ k, k < n ∧ I k s₃)
theorem StopP {P P' : Prop} (h : P → P') (x : P) : Stop P' := h x
theorem StopI {I I' : Nat → Shared → Prop} {n : Nat} {s : Shared} (h : ∀ k s, I k s → I' k s) (x : ∃ k, k < n ∧ I k s) : Stop (∃ k, k < n ∧ I' k s) := x.elim fun k y => ⟨k, y.1, h k s y.2⟩
theorem StopN {I I' : Nat → Shared → Prop} {n : Nat} {s : Shared} (h : ∀ k s, I k s → I' k s) (k : Nat) (hk : k < n) (x : I k s) : Stop (∃ k, k < n ∧ I' k s) := ⟨k, hk, h k s x⟩
theorem ex1_i {α0 : Type} {P : α0 → Prop} (x0 : α0) (h : P x0) : ∃ x0, P x0 := ⟨x0, h⟩
theorem ex2_i {α0 α1 : Type} {P : α0 → α1 → Prop} (x0 : α0) (x1 : α1) (h : P x0 x1) : ∃ x0 x1, P x0 x1 := ⟨x0, x1, h⟩
theorem ex3_i {α0 α1 α2 : Type} {P : α0 → α1 → α2 → Prop} (x0 : α0) (x1 : α1) (x2 : α2) (h : P x0 x1 x2) : ∃ x0 x1 x2, P x0 x1 x2 := ⟨x0, x1, x2, h⟩
theorem ex4_i {α0 α1 α2 α3 : Type} {P : α0 → α1 → α2 → α3 → Prop} (x0 : α0) (x1 : α1) (x2 : α2) (x3 : α3) (h : P x0 x1 x2 x3) : ∃ x0 x1 x2 x3, P x0 x1 x2 x3 := ⟨x0, x1, x2, x3, h⟩
theorem ex5_i {α0 α1 α2 α3 α4 : Type} {P : α0 → α1 → α2 → α3 → α4 → Prop} (x0 : α0) (x1 : α1) (x2 : α2) (x3 : α3) (x4 : α4) (h : P x0 x1 x2 x3 x4) : ∃ x0 x1 x2 x3 x4, P x0 x1 x2 x3 x4 := ⟨x0, x1, x2, x3, x4, h⟩
theorem ex6_i {α0 α1 α2 α3 α4 α5 : Type} {P : α0 → α1 → α2 → α3 → α4 → α5 → Prop} (x0 : α0) (x1 : α1) (x2 : α2) (x3 : α3) (x4 : α4) (x5 : α5) (h : P x0 x1 x2 x3 x4 x5) : ∃ x0 x1 x2 x3 x4 x5, P x0 x1 x2 x3 x4 x5 := ⟨x0, x1, x2, x3, x4, x5, h⟩
theorem ex7_i {α0 α1 α2 α3 α4 α5 α6 : Type} {P : α0 → α1 → α2 → α3 → α4 → α5 → α6 → Prop} (x0 : α0) (x1 : α1) (x2 : α2) (x3 : α3) (x4 : α4) (x5 : α5) (x6 : α6) (h : P x0 x1 x2 x3 x4 x5 x6) : ∃ x0 x1 x2 x3 x4 x5 x6, P x0 x1 x2 x3 x4 x5 x6 := ⟨x0, x1, x2, x3, x4, x5, x6, h⟩
theorem ex8_i {α0 α1 α2 α3 α4 α5 α6 α7 : Type} {P : α0 → α1 → α2 → α3 → α4 → α5 → α6 → α7 → Prop} (x0 : α0) (x1 : α1) (x2 : α2) (x3 : α3) (x4 : α4) (x5 : α5) (x6 : α6) (x7 : α7) (h : P x0 x1 x2 x3 x4 x5 x6 x7) : ∃ x0 x1 x2 x3 x4 x5 x6 x7, P x0 x1 x2 x3 x4 x5 x6 x7 := ⟨x0, x1, x2, x3, x4, x5, x6, x7, h⟩
theorem ex9_i {α0 α1 α2 α3 α4 α5 α6 α7 α8 : Type} {P : α0 → α1 → α2 → α3 → α4 → α5 → α6 → α7 → α8 → Prop} (x0 : α0) (x1 : α1) (x2 : α2) (x3 : α3) (x4 : α4) (x5 : α5) (x6 : α6) (x7 : α7) (x8 : α8) (h : P x0 x1 x2 x3 x4 x5 x6 x7 x8) : ∃ x0 x1 x2 x3 x4 x5 x6 x7 x8, P x0 x1 x2 x3 x4 x5 x6 x7 x8 := ⟨x0, x1, x2, x3, x4, x5, x6, x7, x8, h⟩
theorem ex11_i {α0 α1 α2 α3 α4 α5 α6 α7 α8 α9 α10 : Type} {P : α0 → α1 → α2 → α3 → α4 → α5 → α6 → α7 → α8 → α9 → α10 → Prop} (x0 : α0) (x1 : α1) (x2 : α2) (x3 : α3) (x4 : α4) (x5 : α5) (x6 : α6) (x7 : α7) (x8 : α8) (x9 : α9) (x10 : α10) (h : P x0 x1 x2 x3 x4 x5 x6 x7 x8 x9 x10) : ∃ x0 x1 x2 x3 x4 x5 x6 x7 x8 x9 x10, P x0 x1 x2 x3 x4 x5 x6 x7 x8 x9 x10 := ⟨x0, x1, x2, x3, x4, x5, x6, x7, x8, x9, x10, h⟩
theorem ex12_i {α0 α1 α2 α3 α4 α5 α6 α7 α8 α9 α10 α11 : Type} {P : α0 → α1 → α2 → α3 → α4 → α5 → α6 → α7 → α8 → α9 → α10 → α11 → Prop} (x0 : α0) (x1 : α1) (x2 : α2) (x3 : α3) (x4 : α4) (x5 : α5) (x6 : α6) (x7 : α7) (x8 : α8) (x9 : α9) (x10 : α10) (x11 : α11) (h : P x0 x1 x2 x3 x4 x5 x6 x7 x8 x9 x10 x11) : ∃ x0 x1 x2 x3 x4 x5 x6 x7 x8 x9 x10 x11, P x0 x1 x2 x3 x4 x5 x6 x7 x8 x9 x10 x11 := ⟨x0, x1, x2, x3, x4, x5, x6, x7, x8, x9, x10, x11, h⟩
theorem an2_i {a0 a1 : Prop} (h0 : a0) (h1 : a1) : a0 ∧ a1 := ⟨h0, h1⟩
theorem an3_i {a0 a1 a2 : Prop} (h0 : a0) (h1 : a1) (h2 : a2) : a0 ∧ a1 ∧ a2 := ⟨h0, h1, h2⟩
theorem an4_i {a0 a1 a2 a3 : Prop} (h0 : a0) (h1 : a1) (h2 : a2) (h3 : a3) : a0 ∧ a1 ∧ a2 ∧ a3 := ⟨h0, h1, h2, h3⟩
theorem an5_i {a0 a1 a2 a3 a4 : Prop} (h0 : a0) (h1 : a1) (h2 : a2) (h3 : a3) (h4 : a4) : a0 ∧ a1 ∧ a2 ∧ a3 ∧ a4 := ⟨h0, h1, h2, h3, h4⟩
theorem an6_i {a0 a1 a2 a3 a4 a5 : Prop} (h0 : a0) (h1 : a1) (h2 : a2) (h3 : a3) (h4 : a4) (h5 : a5) : a0 ∧ a1 ∧ a2 ∧ a3 ∧ a4 ∧ a5 := ⟨h0, h1, h2, h3, h4, h5⟩
theorem an7_i {a0 a1 a2 a3 a4 a5 a6 : Prop} (h0 : a0) (h1 : a1) (h2 : a2) (h3 : a3) (h4 : a4) (h5 : a5) (h6 : a6) : a0 ∧ a1 ∧ a2 ∧ a3 ∧ a4 ∧ a5 ∧ a6 := ⟨h0, h1, h2, h3, h4, h5, h6⟩
theorem an8_i {a0 a1 a2 a3 a4 a5 a6 a7 : Prop} (h0 : a0) (h1 : a1) (h2 : a2) (h3 : a3) (h4 : a4) (h5 : a5) (h6 : a6) (h7 : a7) : a0 ∧ a1 ∧ a2 ∧ a3 ∧ a4 ∧ a5 ∧ a6 ∧ a7 := ⟨h0, h1, h2, h3, h4, h5, h6, h7⟩
theorem an9_i {a0 a1 a2 a3 a4 a5 a6 a7 a8 : Prop} (h0 : a0) (h1 : a1) (h2 : a2) (h3 : a3) (h4 : a4) (h5 : a5) (h6 : a6) (h7 : a7) (h8 : a8) : a0 ∧ a1 ∧ a2 ∧ a3 ∧ a4 ∧ a5 ∧ a6 ∧ a7 ∧ a8 := ⟨h0, h1, h2, h3, h4, h5, h6, h7, h8⟩
theorem an10_i {a0 a1 a2 a3 a4 a5 a6 a7 a8 a9 : Prop} (h0 : a0) (h1 : a1) (h2 : a2) (h3 : a3) (h4 : a4) (h5 : a5) (h6 : a6) (h7 : a7) (h8 : a8) (h9 : a9) : a0 ∧ a1 ∧ a2 ∧ a3 ∧ a4 ∧ a5 ∧ a6 ∧ a7 ∧ a8 ∧ a9 := ⟨h0, h1, h2, h3, h4, h5, h6, h7, h8, h9⟩
theorem an11_i {a0 a1 a2 a3 a4 a5 a6 a7 a8 a9 a10 : Prop} (h0 : a0) (h1 : a1) (h2 : a2) (h3 : a3) (h4 : a4) (h5 : a5) (h6 : a6) (h7 : a7) (h8 : a8) (h9 : a9) (h10 : a10) : a0 ∧ a1 ∧ a2 ∧ a3 ∧ a4 ∧ a5 ∧ a6 ∧ a7 ∧ a8 ∧ a9 ∧ a10 := ⟨h0, h1, h2, h3, h4, h5, h6, h7, h8, h9, h10⟩
theorem an12_i {a0 a1 a2 a3 a4 a5 a6 a7 a8 a9 a10 a11 : Prop} (h0 : a0) (h1 : a1) (h2 : a2) (h3 : a3) (h4 : a4) (h5 : a5) (h6 : a6) (h7 : a7) (h8 : a8) (h9 : a9) (h10 : a10) (h11 : a11) : a0 ∧ a1 ∧ a2 ∧ a3 ∧ a4 ∧ a5 ∧ a6 ∧ a7 ∧ a8 ∧ a9 ∧ a10 ∧ a11 := ⟨h0, h1, h2, h3, h4, h5, h6, h7, h8, h9, h10, h11⟩
theorem my_while {test : Expr} {body : List Stmt} {pos : Pos} (I : Nat → Shared → Prop) (R : Shared → Prop)
    (turn : ∀ (I' : Nat → Shared → Prop) (R' : Shared → Prop) (Q' : Flow → Shared → Prop), (∀ k s, I k s → I' k s) → (∀ s, R s → R' s) → (∀ v s, Q (.ret v) s → Q' (.ret v) s) → ∀ n s, I n s → wpAny (model prog w) A (isTrue test env (eval test env)) (fun b s₂ => if b = true then wpAny (model prog w) A (execs body env) (TurnEnd I' R' Q' n) NoE s₂ else Stop (R' s₂)) NoE s)
    (n : Nat) (h : I n s) (fin : ∀ s', R s' → Q .next s') : wpAny (model prog w) A (exec (.While test body [] pos) env) Q E s := by
  refine wpAny_While (codeAny_whileLoop I (fun n s hI => ?_) n h)
  refine wpAny_mono (turn I R Q (fun _ _ x => x) (fun _ x => x) (fun _ _ x => x) n s hI) (fun b s₂ h₂ => ?_) fun _ _ x => x.elim
  cases b with
  | false =>
    simp only [Bool.false_eq_true, if_false] at h₂ ⊢
    exact wpAny_execs_nil (fin _ h₂)
  | true =>
    simp only [if_true] at h₂ ⊢
    refine wpAny_mono h₂ (fun f s₃ h₃ => ?_) fun _ _ x => x.elim
    cases f with
    | brk => exact fin _ h₃
    | ret v => exact h₃
    | next => exact h₃
    | cont => exact h₃
end
section
variable {prog : Program} {w : World} {A : Around} {E : Value → Shared → Prop} {s : Shared} {h₀ : Heap} {L : Addr} {m : Str → Option Value} {news : List (Addr × Obj)}
theorem lst_is {h : Heap} {l : Addr} {vs : List Value} {n : Nat} (N : News h₀ L h news) (hm : (l, lstObj vs n) ∈ news) : h.IsList l vs.toArray := ⟨_, (N _ hm).1, rfl, n, rfl⟩
theorem lst_item {value slice : Expr} {l : Addr} {vs : List Value} {n : Nat} {k : Int} {u : Tok} {v : Value} {Q : Value → Shared → Prop} (N : News h₀ L s.heap news) (hm : (l, lstObj vs n) ∈ news)
    (h0 : 0 ≤ k) (hhi : k < 2 ^ 63) (hx : vs[k.toNat]? = some v) (h : Q v s)
    (hs : subscripted slice false (.ref l) (.int k u) = operate [.ref l, .int k u] (getItem (.ref l) (.int k u)) := by with_unfolding_all rfl) :
    wpAny (model prog w) A (subscriptTail value slice (.ref l) (.int k u)) Q E s :=
  have hl := lst_is N hm
  tail_any hl.typeIs slot_list_getitem.lookup (wpAny_getItem_list hl h0 hhi (by simpa using hx) h) hs
theorem lst_set {D : Addr} {vs : List Value} {n : Nat} {k : Int} {t : Tok} {v : Value} {news' : List (Addr × Obj)} {Q : Unit → Shared → Prop} (F : Fr h₀ L s.heap m) (N : News h₀ L s.heap news) (U : Upd D (lstObj vs n) (lstObj (vs.set k.toNat v) n) news news')
    (h0 : 0 ≤ k) (h1 : k < vs.length) (hfit : k < 2 ^ 63) (h : ∀ h', Fr h₀ L h' m → News h₀ L h' news' → Q () { s with heap := h' }) : wpAny (model prog w) A (setItem (.ref D) (.int k t) v) Q E s := by
  obtain ⟨pre, post, rfl, rfl, a, b⟩ := U.split
  have z := N (D, lstObj vs n) (List.mem_append.mpr (.inr (.head _)))
  refine ki_setAt z.1 h0 hfit (by rw [List.size_toArray]; exact h1) (h _ (F.change (Heap.SameBut.update ..) z.2.1 z.2.2) (ki_turn _ N a b ?_ ?_))
  · show vs.toArray.setIfInBounds k.toNat v = (vs.set k.toNat v).toArray
    apply Array.toList_inj.mp
    simp
  · simp
theorem shr_one (k : Nat) (h : 0 < k) : ((k : Int) - 1).fdiv (2 ^ Int.toNat 1) = (((k - 1) / 2 : Nat) : Int) := by
  have e : (2 : Int) ^ Int.toNat 1 = 2 := by decide
  rw [e, Int.fdiv_eq_ediv_of_nonneg _ (by (first | lia | omega))]
  (first | lia | omega)
end
theorem cut {α : Type} {M : Model} {A : Around} {E : Value → Shared → Prop} {s : Shared} {t : Sem α} {Q : α → Shared → Prop} (R : α → Shared → Prop) (h : ∀ R' : α → Shared → Prop, (∀ a s', R a s' → R' a s') → wpAny M A t (fun a s' => Stop (R' a s')) E s) (k : ∀ a s', R a s' → Q a s') : wpAny M A t Q E s :=
  wpAny_mono (h R fun _ _ x => x) (fun a s' x => k a s' x) fun _ _ x => x
theorem allLt_ne {d x : Nat} {l : List (Addr × Obj)} (h : AllLt d l) (hd : d ≤ x) : ∀ p ∈ l, p.1 ≠ x := fun p hp => by
  induction l with
  | nil => exact absurd hp (List.not_mem_nil)
  | cons a r ih =>
    rcases List.mem_cons.mp hp with e | e
    · rw [e]; exact Nat.ne_of_lt (Nat.lt_of_lt_of_le h.1 hd)
    · exact ih h.2 e
theorem allLt_ne2 {d x : Nat} {l : List (Addr × Obj)} (h : ∀ p ∈ l, p.1 < d) (hd : d ≤ x) : ∀ p ∈ l, p.1 ≠ x := fun p hp => Nat.ne_of_lt (Nat.lt_of_lt_of_le (h p hp) hd)
structure Kh {α : Type} (P K : α → Shared → Prop) : Prop where
  go : ∀ a s, P a s → K a s
noncomputable def KnP (M : Model) (A : Around) (E : Value → Shared → Prop) (cs : List Stmt) (env : Env) (Q : Flow → Shared → Prop) (f : Flow) (s : Shared) : Prop :=
  match f with
  | .next => wpAny M A (execs cs env) Q E s
  | f => Q f s
section
variable {M : Model} {A : Around} {E : Value → Shared → Prop} {env : Env} {s : Shared} {Q : Flow → Shared → Prop}
theorem execs_one {c : Stmt} (h : wpAny M A (exec c env) Q E s) : wpAny M A (execs [c] env) Q E s :=
  wpAny_execs_cons (wpAny_mono h (fun f s' x => by cases f <;> first | exact wpAny_execs_nil x | exact x) fun _ _ x => x)
theorem execs_cut {c d : Stmt} {cs : List Stmt} (h : ∀ K, Kh (KnP M A E (d :: cs) env Q) K → wpAny M A (exec c env) K E s) : wpAny M A (execs (c :: d :: cs) env) Q E s :=
  wpAny_execs_cons (h _ ⟨fun f _ x => by cases f <;> exact x⟩)
theorem if_cut {test : Expr} {body orelse : List Stmt} {pos : Pos} (h : ∀ K : Bool → Shared → Prop, Kh (fun b s₂ => if b then wpAny M A (execs body env) Q E s₂ else wpAny M A (execs orelse env) Q E s₂) K → wpAny M A (isTrue test env (eval test env)) K E s) : wpAny M A (exec (.If test body orelse pos) env) Q E s :=
  wpAny_If (h _ ⟨fun _ _ x => x⟩)
end
end
abbrev gz1 {α : Type} {x1 x2 : _} {x3 : Sem α} {x4 x5 x6 : _} := (wpAny x1 x2 x3 x4 x5 x6 : Prop)
abbrev gz2 {x1 : _} := (Stop x1 : Prop)
abbrev gz3 {x1 x2 x3 x4 x5 x6 x7 : _} := (wpAny x1 x2 (leaving x3 x4) x5 x6 x7 : Prop)
abbrev gz4 {x1 x2 x3 x4 x5 x6 : _} := (wpAny x1 x2 (call (Value.ref 127) x3) x4 x5 x6 : Prop)
abbrev gz5 {x1 x2 x3 x4 x5 x6 x7 x8 x9 x10 : _} := (wpAny x1 x2 (eval (Expr.ListComp x3 x4 x5 x6) x7) x8 x9 x10 : Prop)
abbrev gz6 {x1 x2 x3 x4 x5 x6 : _} := (wpAny x1 x2 (call (Value.ref 162) x3) x4 x5 x6 : Prop)
abbrev gz7 {x1 x2 x3 x4 x5 x6 : _} := (wpAny x1 x2 (call (Value.builtin "len") [Value.ref x3]) x4 x5 x6 : Prop)
abbrev gz8 {x1 x2 x3 x4 x5 x6 : _} := (wpAny x1 x2 (call (Value.builtin "iter") [Value.ref x3]) x4 x5 x6 : Prop)
abbrev gz9 {x1 x2 x3 x4 x5 x6 x7 x8 x9 x10 : _} := (wpAny x1 x2 (subscriptTail x3 x4 (Value.ref x5) (Value.int x6 x7)) x8 x9 x10 : Prop)
abbrev gz10 {x1 x2 x3 x4 x5 x6 x7 x8 x9 x10 x11 : _} := (wpAny x1 x2 (exec (Stmt.Try x3 x4 x5 x6 x7) x8) x9 x10 x11 : Prop)
abbrev gz11 {x1 x2 x3 x4 x5 x6 x7 x8 : _} := (wpAny x1 x2 (binaryOp x3 (Value.ref x4) (Value.ref x5)) x6 x7 x8 : Prop)
abbrev gz12 {x1 x2 x3 x4 x5 x6 : _} := (wpAny x1 x2 (call (Value.ref 80) x3) x4 x5 x6 : Prop)
abbrev gz13 {x1 x2 x3 x4 x5 x6 : _} := (wpAny x1 x2 (call (Value.ref 169) x3) x4 x5 x6 : Prop)
abbrev gz14 {x1 x2 x3 x4 x5 x6 x7 x8 x9 x10 : _} := (wpAny x1 x2 (exec (Stmt.While x3 x4 x5 x6) x7) x8 x9 x10 : Prop)
abbrev gz15 {x1 x2 x3 x4 x5 x6 x7 x8 x9 x10 x11 : _} := (wpAny x1 x2 (exec (Stmt.For x3 x4 x5 x6 x7) x8) x9 x10 x11 : Prop)
abbrev gz16 {x1 x2 x3 x4 x5 x6 : _} := (wpAny x1 x2 (call (Value.builtin "list.append") x3) x4 x5 x6 : Prop)
abbrev gz17 {x1 x2 x3 x4 x5 x6 x7 x8 x9 x10 x11 x12 : _} := (wpAny x1 x2 (subscriptTail x3 (Expr.Slice x4 x5 x6 x7) x8 x9) x10 x11 x12 : Prop)
abbrev gz18 {x1 x2 x3 x4 x5 x6 : _} := (wpAny x1 x2 (call (Value.type "zip") x3) x4 x5 x6 : Prop)
abbrev gz19 {x1 x2 x3 x4 x5 x6 : _} := (wpAny x1 x2 (call (Value.builtin "sum") x3) x4 x5 x6 : Prop)
abbrev gz20 {x1 x2 x3 x4 x5 x6 : _} := (wpAny x1 x2 (call (Value.ref 137) x3) x4 x5 x6 : Prop)
abbrev gz21 {x1 x2 x3 x4 x5 x6 x7 x8 x9 x10 x11 x12 x13 : _} := (wpAny x1 x2 (callWith x3 (Value.ref x4) x5 (backTo x6 (starEach [Expr.Starred x7 x8] x9)) x10) x11 x12 x13 : Prop)
abbrev gz22 {x1 x2 x3 x4 x5 x6 : _} := (wpAny x1 x2 (call (Value.ref 87) x3) x4 x5 x6 : Prop)
abbrev gz23 {x1 x2 x3 x4 x5 x6 : _} := (wpAny x1 x2 (call (Value.ref 92) x3) x4 x5 x6 : Prop)
abbrev gz24 {x1 x2 x3 x4 x5 x6 : _} := (wpAny x1 x2 (call (Value.ref 99) x3) x4 x5 x6 : Prop)
abbrev gz25 {x1 x2 x3 x4 x5 x6 : _} := (wpAny x1 x2 (call (Value.ref 106) x3) x4 x5 x6 : Prop)
abbrev gz26 {x1 x2 x3 x4 x5 x6 : _} := (wpAny x1 x2 (call (Value.ref 120) x3) x4 x5 x6 : Prop)
abbrev gz27 {x1 x2 x3 x4 x5 x6 : _} := (wpAny x1 x2 (call (Value.builtin "list.extend") x3) x4 x5 x6 : Prop)
abbrev gz28 {x1 x2 x3 x4 x5 x6 : _} := (wpAny x1 x2 (call (Value.builtin "sorted") x3) x4 x5 x6 : Prop)
abbrev gz29 {x1 x2 x3 x4 x5 x6 x7 x8 x9 x10 x11 x12 x13 : _} := (wpAny x1 x2 (exec (Stmt.Assign [Expr.Name x3 x4] (Expr.ListComp x5 x6 x7 x8) x9) x10) x11 x12 x13 : Prop)
abbrev gz30 {x1 x2 x3 x4 x5 x6 x7 x8 x9 x10 x11 x12 x13 x14 : _} := (LCg.CompSrc x1 x2 x3 x4 x5 x6 x7 x8 x9 x10 x11 x12 x13 x14 : Prop)
abbrev gz31 {x1 x2 x3 x4 x5 x6 x7 x8 x9 : _} := (wpAny x1 x2 (subscriptTail x3 x4 (Value.ref x5) (Value.ref x6)) x7 x8 x9 : Prop)
abbrev gz32 {x1 x2 x3 x4 x5 x6 : _} := (wpAny x1 x2 (call (Value.type "list") x3) x4 x5 x6 : Prop)
abbrev gz33 {x1 x2 x3 x4 x5 x6 x7 : _} := (wpAny x1 x2 (eval (Expr.Name (Str.ofString "ring") x3) x4) x5 x6 x7 : Prop)
abbrev gz34 {x1 x2 x3 x4 x5 x6 x7 : _} := (wpAny x1 x2 (eval (Expr.Name (Str.ofString "pairs") x3) x4) x5 x6 x7 : Prop)
abbrev gz35 {x1 x2 x3 x4 x5 x6 x7 x8 x9 x10 x11 x12 x13 x14 x15 : _} := (LCt.CompSrcT x1 x2 x3 x4 x5 x6 x7 x8 x9 x10 x11 x12 x13 x14 x15 : Prop)
abbrev gz36 {x1 x2 x3 x4 x5 x6 x7 : _} := (wpAny x1 x2 (compareOp CmpOp.Eq (Value.ref x3) (Value.ref x4)) x5 x6 x7 : Prop)
abbrev gz37 {x1 x2 x3 x4 x5 x6 x7 : _} := (wpAny x1 x2 (compareOp CmpOp.NotEq (Value.ref x3) (Value.ref x4)) x5 x6 x7 : Prop)
abbrev gz38 {x1 x2 x3 x4 x5 x6 x7 : _} := (wpAny x1 x2 (compareOp CmpOp.NotIn (Value.ref x3) (Value.ref x4)) x5 x6 x7 : Prop)
abbrev gz39 {x1 x2 x3 x4 x5 x6 : _} := (wpAny x1 x2 (call (Value.ref 176) x3) x4 x5 x6 : Prop)
abbrev gz40 {x1 x2 x3 x4 x5 x6 : _} := (wpAny x1 x2 (call (Value.ref 188) x3) x4 x5 x6 : Prop)
abbrev gz41 {x1 x2 x3 x4 x5 x6 : _} := (wpAny x1 x2 (call (Value.ref 155) x3) x4 x5 x6 : Prop)
abbrev gz42 {x1 x2 x3 x4 x5 x6 : _} := (wpAny x1 x2 (call (Value.ref 148) x3) x4 x5 x6 : Prop)
abbrev gz43 {x1 x2 x3 x4 x5 x6 : _} := (wpAny x1 x2 (call (Value.ref 183) x3) x4 x5 x6 : Prop)
abbrev gz44 {x1 x2 x3 x4 x5 x6 : _} := (wpAny x1 x2 (call (Value.ref 193) x3) x4 x5 x6 : Prop)
abbrev gz45 {x1 x2 x3 x4 x5 x6 : _} := (wpAny x1 x2 (call (Value.builtin "min") x3) x4 x5 x6 : Prop)
abbrev gz46 {x1 x2 x3 x4 x5 x6 x7 : _} := (wpAny x1 x2 (eval (Expr.Name (Str.ofString "table") x3) x4) x5 x6 x7 : Prop)
abbrev gz47 {x1 x2 x3 x4 x5 x6 x7 : _} := (wpAny x1 x2 (eval (Expr.Name (Str.ofString "turn") x3) x4) x5 x6 x7 : Prop)
abbrev gz48 {x1 x2 x3 x4 x5 x6 x7 : _} := (wpAny x1 x2 (eval (Expr.Name (Str.ofString "held") x3) x4) x5 x6 x7 : Prop)
abbrev gz49 {x1 x2 x3 x4 x5 x6 x7 : _} := (wpAny x1 x2 (storeName x3 (Str.ofString "table") x4) x5 x6 x7 : Prop)
abbrev gz50 {x1 x2 x3 x4 x5 x6 x7 : _} := (wpAny x1 x2 (storeName x3 (Str.ofString "held") x4) x5 x6 x7 : Prop)
abbrev gz51 {x1 x2 x3 x4 x5 x6 x7 x8 x9 x10 x11 x12 x13 : _} := (wpAny x1 x2 (eval (Expr.Name (Str.ofString "place") x3) (compEnvC x4 x5 x6 (compEnvC x7 x8 x9 x10))) x11 x12 x13 : Prop)
abbrev gz52 {x1 x2 x3 x4 x5 x6 x7 x8 x9 x10 x11 : _} := (wpAny x1 x2 (eval (Expr.Name (Str.ofString "place") x3) (compEnvC x4 (List.cons (Prod.mk (Str.ofString "place") x5) x6) x7 x8)) x9 x10 x11 : Prop)
abbrev gz53 {x1 x2 x3 x4 x5 x6 x7 x8 x9 x10 : _} := (wpAny x1 x2 (exec (Stmt.If x3 x4 x5 x6) x7) x8 x9 x10 : Prop)
local macro_rules | `(tactic| k_room) => `(tactic| first | ((try simp only [depth_under_make, depth_under_kw, depth_in1, depth_deeper, depth_caller]); decide) | ((try simp only [depth_under_make, depth_under_kw, depth_in1, depth_deeper, depth_caller] at *); (try dsimp only [arn] at *); omega) | ((try simp only [depth_under_make, depth_under_kw, depth_in1, depth_deeper, depth_caller] at *); (try dsimp only [arn] at *); (simp only [recursionLimit] at *); omega))
local macro_rules | `(tactic| k_units) => `(tactic| first | exact Nat.le_of_ble_eq_true rfl | (have hcL9 := cLine_is; (try simp only [units_in1, units_deeper, Around.mark_units, units_caller] at *); (try dsimp only [arn] at *); omega))
theorem fillIt (w : World) : PySem.Challenge.rw_mg0053_01 = PySem.Challenge.rw_mg0053_01 ∧ hd.heap_39 w.params = hd.heap_39 w.params := by
  w_top off
  k_fill
  exact ⟨rfl, rfl⟩
local macro_rules | `(tactic| k_all) => `(tactic| first | (with_reducible assumption) | (refine' allLt_ne (d := ?ald) ?ala ?alb; (case ala => first | (with_reducible assumption) | exact And.right (by with_reducible assumption) | exact And.right (And.right (by with_reducible assumption)) | exact And.right (And.right (And.right (by with_reducible assumption))) | exact And.right (And.right (And.right (And.right (by with_reducible assumption)))) | exact And.right (And.right (And.right (And.right (And.right (by with_reducible assumption)))))); (case alb => omega)) | (refine' allLt_ne2 (d := ?ald) ?ala ?alb; (case ala => with_reducible assumption); (case alb => omega)))
section
section
variable {prog : Program} {w : World} {A : Around} {E : Value → Shared → Prop} {Q : Flow → Shared → Prop} {s : Shared} {env : Env}
noncomputable def ForAt (prog : Program) (w : World) (A : Around) (env : Env) (target : Expr) (body : List Stmt) (Q : Flow → Shared → Prop) (E : Value → Shared → Prop) (it : Value) (s : Shared) : Prop :=
  codeAny (model prog w) A (.forLoop target it body [] env) (fun r s' => match r with | .ok f => Q f s' | .error e => cameBackBy (model prog w) A env E e s') s
theorem my_for {target iter : Expr} {body : List Stmt} {pos : Pos}
    (h : wpAny (model prog w) A (eval iter env) (fun x s₁ => wpAny (model prog w) A (pyIter x) (fun it s₂ => Stop (ForAt prog w A env target body Q E it s₂)) E s₁) E s)
    (hs : ∀ x, foldedSetIterable iter env x = pure x := by intro _; rfl) : wpAny (model prog w) A (exec (.For target iter body [] pos) env) Q E s :=
  wpAny_For (wpAny_mono h (fun _ _ h₁ => wpAny_mono h₁ (fun _ _ h₂ => h₂) fun _ _ x => x) fun _ _ x => x) hs
noncomputable def NextIs (prog : Program) (w : World) (A : Around) (env : Env) (target : Expr) (body : List Stmt) (I : Nat → Shared → Prop) (R : Shared → Prop) (Q : Flow → Shared → Prop) (n : Nat) (r : Option Value) (s₁ : Shared) : Prop := match r with
  | none => Stop (R s₁)
  | some v => wpAny (model prog w) A (assign target env v) (fun _ s₂ => wpAny (model prog w) A (execs body env) (TurnEnd I R Q n) NoE s₂) NoE s₁
theorem my_forLoop {target : Expr} {it : Value} {body : List Stmt} (I : Nat → Shared → Prop) (R : Shared → Prop)
    (turn : ∀ (I' : Nat → Shared → Prop) (R' : Shared → Prop) (Q' : Flow → Shared → Prop), (∀ k s, I k s → I' k s) → (∀ s, R s → R' s) → (∀ v s, Q (.ret v) s → Q' (.ret v) s) → ∀ n s, I n s → wpAny (model prog w) A (pyNext it) (NextIs prog w A env target body I' R' Q' n) NoE s)
    (n : Nat) (h : I n s) (fin : ∀ s', R s' → Q .next s') (ht : ∀ v, letOwnedTupleGo target it v = pure () := by intro _; rfl) : ForAt prog w A env target body Q E it s := by
  refine codeAny_forLoop I (fun n s hI => ?_) n h ht
  refine wpAny_mono (turn I R Q (fun _ _ x => x) (fun _ x => x) (fun _ _ x => x) n s hI) (fun r s₁ h₁ => ?_) fun _ _ x => x.elim
  cases r with
  | none => exact wpAny_execs_nil (fin _ h₁)
  | some v =>
    refine wpAny_mono h₁ (fun _ s₂ h₂ => wpAny_mono h₂ (fun f s₃ h₃ => ?_) fun _ _ x => x.elim) fun _ _ x => x.elim
    cases f with
    | brk => exact fin _ h₃
    | ret v => exact h₃
    | next => exact h₃
    | cont => exact h₃
end

noncomputable abbrev rngIt (x left step : Int) : Obj := { cls := .type "range_iterator", dict := none, data := .fields #[rawInt x, rawInt left, rawInt step], slots := #[] }
section
variable {prog : Program} {w : World} {A : Around} {E : Value → Shared → Prop} {s : Shared} {h₀ : Heap} {L : Addr} {m : Str → Option Value} {news news' : List (Addr × Obj)}
/-- a change of one object of the ledger -/
theorem upd_news {h h' : Heap} {d : Addr} {o o' : Obj} (F : Fr h₀ L h m) (N : News h₀ L h news) (U : Upd d o o' news news') (hs : Heap.SameBut d h h') (hd : h'.get? d = some o') : Fr h₀ L h' m ∧ News h₀ L h' news' := by
  obtain ⟨pre, post, rfl, rfl, a, b⟩ := U.split
  have D := N (d, o) (by simp)
  exact ⟨F.change hs D.2.1 D.2.2, news_set N a b hs hd⟩
/-- one object of the ledger is dropped -/
theorem drop_news {h h' : Heap} {d : Addr} {o : Obj} (F : Fr h₀ L h m) (N : News h₀ L h ((d, o) :: news)) (hn : ∀ p ∈ news, p.1 ≠ d) (hs : Heap.ExtBut d h h') : Fr h₀ L h' m ∧ News h₀ L h' news := by
  have D := N (d, o) (.head _)
  obtain ⟨oL, a1, a2, hL, a3⟩ := F.ns
  refine ⟨⟨⟨oL, a1, a2, hs _ _ (Ne.symm D.2.1) hL, a3⟩, fun b o' e => hs b o' (fun q => ?_) (F.keep b o' e), F.above⟩, fun p hp => ?_⟩
  · have := D.2.2; rw [show ((d, o) : Addr × Obj).1 = d from rfl, ← q, e] at this; cases this
  · obtain ⟨x1, x2, x3⟩ := N p (.tail _ hp)
    exact ⟨hs _ _ (hn p hp) x1, x2, x3⟩
theorem rng_next {it : Addr} {x left step : Int} {Q : Option Value → Shared → Prop} (F : Fr h₀ L s.heap m) (N : News h₀ L s.heap news) (U : Upd it (rngIt x left step) (rngIt (x + step) (left - 1) step) news news') (hleft : 0 < left)
    (h : ∀ h', Fr h₀ L h' m → News h₀ L h' news' → Q (some (.int x s.toks)) { s with heap := h', toks := s.toks + 1 }) : wpAny (model prog w) A (pyNext (.ref it)) Q E s := by
  obtain ⟨pre, post, e, _, _, _⟩ := U.split
  have hit : IsRangeIter s.heap it x left step := (N (it, rngIt x left step) (by rw [e]; simp)).1
  exact wpAny_pyNext_range_item hit hleft fun h' h1 hs => let y := upd_news F N U hs h1; h h' y.1 y.2
theorem rng_end {it : Addr} {x left step : Int} {Q : Option Value → Shared → Prop} (hh : A.handled = none) (F : Fr h₀ L s.heap m) (N : News h₀ L s.heap ((it, rngIt x left step) :: news)) (hn : ∀ p ∈ news, p.1 ≠ it) (hleft : left ≤ 0)
    (h : ∀ h', Fr h₀ L h' m → News h₀ L h' news → Q none { s with heap := h' }) : wpAny (model prog w) A (pyNext (.ref it)) Q E s :=
  wpAny_pyNext_range_end hh (N _ (.head _)).1 hleft fun h' hs => let y := drop_news F N hn hs; h h' y.1 y.2
theorem lst_pop {D : Addr} {p : List Value} {y : Value} {n : Nat} {Q : Value → Shared → Prop} (F : Fr h₀ L s.heap m) (N : News h₀ L s.heap news) (U : Upd D (lstObj (p ++ [y]) n) (lstObj p (n + 1)) news news')
    (hz : p.length < 1000) (h : ∀ h', Fr h₀ L h' m → News h₀ L h' news' → Q y { s with heap := h' }) : wpAny (model prog w) A (call (.builtin "list.pop") [.ref D]) Q E s :=
  kl_pop (its := (p ++ [y]).toArray) (p := p) (y := y) F N (kpa_last y p) U (by rw [sizeLine_eq]; simp; (first | lia | omega)) h
theorem lst_truthy {l : Addr} {vs : List Value} {n : Nat} {Q : Bool → Shared → Prop} (N : News h₀ L s.heap news) (hm : (l, lstObj vs n) ∈ news) (hfit : vs.length < 1000) (h : Q (!vs.isEmpty) { s with toks := s.toks + 1 + 1 }) :
    wpAny (model prog w) A (truthy (.ref l)) Q E s :=
  wpAny_truthy_list (lst_is N hm) (by rw [List.size_toArray]; (first | lia | omega)) (by simpa using h)
theorem news_swap {h : Heap} {a b : Addr × Obj} (N : News h₀ L h (a :: b :: news)) : News h₀ L h (b :: a :: news) := fun p hp => N p (by simp only [List.mem_cons] at hp ⊢; rcases hp with h | h | h <;> simp [h])
theorem push_news {o : Obj} (F : Fr h₀ L s.heap m) (N : News h₀ L s.heap news) (hf : o.isFreed = false := by rfl) : Fr h₀ L (s.heap.push o) m ∧ News h₀ L (s.heap.push o) ((s.heap.objs.size, o) :: news) ∧ ∀ p ∈ news, p.1 < s.heap.objs.size :=
  ⟨F.push o, N.push F o hf, fun p hp => Heap.lt_size (N p hp).1⟩
end

section
variable {prog : Program} {w : World} {A : Around} {E : Value → Shared → Prop} {s : Shared}
theorem call_range_rev {r : Addr} {t u v : Tok} {Q : Value → Shared → Prop} (hr : IsRange s.heap r 0 3 1 t u v)
    (h : Q (.ref s.heap.objs.size) { s with heap := s.heap.push (rngIt 2 3 (-1)) }) : wpAny (model prog w) A (call (.builtin "range.__reversed__") [.ref r]) Q E s := by
  have hT : s.TypeIs (.ref r) "range" := (show ∃ o, s.heap.get? r = some o ∧ o.cls = .type "range" from ⟨_, hr, rfl⟩)
  refine wpAny_call_entry F.slot_range_reversed hT F.entry_range_reversed ?_ (F.args_range_reversed_1 _)
  obtain ⟨hp, g, d, tk, os⟩ := s
  dsimp only at hr h ⊢
  unfold Builtin.«range.__reversed__»
  wp_walk
  exact ⟨_, rfl, h⟩
theorem sub_rngit_reversed : isSubtype (.type "range_iterator") (.type "reversed") = pure false := by rw [isSubtype_type]; kernel_rfl
theorem code_reversed_range {r : Addr} {t u v : Tok} {Q₁ : Value → Shared → Prop} (hr : IsRange s.heap r 0 3 1 t u v)
    (h : Q₁ (.ref s.heap.objs.size) { s with heap := s.heap.push (rngIt 2 3 (-1)) }) :
    codeAny (model prog w) A (.call (.builtin "reversed.__new__") ⟨[.type "reversed", .ref r], []⟩) (wants Q₁ E) s := by
  have hT : s.TypeIs (.ref r) "range" := (show ∃ o, s.heap.get? r = some o ∧ o.cls = .type "range" from ⟨_, hr, rfl⟩)
  refine codeAny_of_tree ?_
  show wpAny _ A.in1 (do checkBuiltinCall "reversed.__new__" ⟨[.type "reversed", .ref r], []⟩; again (.builtin "reversed.__new__" ⟨[.type "reversed", .ref r], []⟩)) _ _ s
  refine wpAny_bind (wpAny_of_eq (F.newCall_reversed_1 _) (wpAny_pure ⟨plainId_quiet F.plain_reversed_new _, codeAny_builtin F.entry_reversed_new ?_⟩))
  rw [Around.under_plainId F.plain_reversed_new _]
  unfold Builtin.«reversed.__new__»
  refine wpAny_bind (wpAny_of_eq (newClass_reversed _) ?_)
  dsimp only
  refine wpAny_bind (wpAny_of_eq (a := ()) (by first | rfl | kernel_rfl) ?_)
  refine wpAny_bind (wpAny_of_eq (a := ()) (by first | rfl | kernel_rfl) ?_)
  refine wpAny_bind (wpAny_specialOf hT F.slot_range_reversed.lookup ?_)
  dsimp only
  refine wpAny_bind (wpAny_of_eq (F.slot_range_reversed.bind _) ?_)
  show wpAny _ _ (if (Value.builtin "range.__reversed__" == Value.none) = true then _ else _) _ _ _
  rw [if_neg (show ¬ ((Value.builtin "range.__reversed__" == Value.none) = true) from Bool.false_ne_true)]
  refine wpAny_bind (wpAny_rule ?_)
  refine wpAny_bind (m := runValue (.call (.builtin "range.__reversed__") ⟨[.ref r], []⟩)) (show wpAny _ _ (call (.builtin "range.__reversed__") [.ref r]) _ _ _ from call_range_rev hr ?_)
  first
  | exact wpAny_pure h
  | exact wpAny_bind (wpAny_pure (wpAny_pure h))
theorem call_reversed_range {r : Addr} {t u v : Tok} {Q : Value → Shared → Prop} (hr : IsRange s.heap r 0 3 1 t u v)
    (h : Q (.ref s.heap.objs.size) { s with heap := s.heap.push (rngIt 2 3 (-1)) }) : wpAny (model prog w) A (call (.type "reversed") [.ref r]) Q E s := by
  refine callType_other (U := "range_iterator") (Q₁ := fun obj s₁ => obj = .ref s.heap.objs.size ∧ s₁ = { s with heap := s.heap.push (rngIt 2 3 (-1)) }) (by decide +kernel) F.create_reversed ⟨_, _, F.mro_reversed⟩ F.made_reversed sub_rngit_reversed (F.typeCall_reversed_1 _) (code_reversed_range hr ⟨rfl, rfl⟩) ?_
  rintro obj s₁ ⟨rfl, rfl⟩
  exact ⟨⟨_, Heap.get?_push_size _ rfl, rfl⟩, h⟩
theorem wpAny_pyIter_rangeit {it : Addr} {x left step : Int} {Q : Value → Shared → Prop} (hit : IsRangeIter s.heap it x left step) (h : Q (.ref it) s) :
    wpAny (model prog w) A (pyIter (.ref it)) Q E s := by
  have hT : s.TypeIs (.ref it) "range_iterator" := (show ∃ o, s.heap.get? it = some o ∧ o.cls = .type "range_iterator" from ⟨_, hit, rfl⟩)
  refine wpAny_pyIter_slot hT F.slot_range_iterator_iter (wpAny_call_entry F.slot_range_iterator_iter hT F.entry_range_iterator_iter ?_ (F.args_range_iterator_iter_1 _))
  show wpAny _ _ (ret (.ref it)) _ _ s
  exact wpAny_pure ⟨_, rfl, "range_iterator", _, hT, F.slot_range_iterator_next.lookup, h⟩
end
end
section
noncomputable def IsLIt (o : Obj) (l : Addr) (i : Nat) : Prop := o.cls = .type "list_iterator" ∧ o.data = .fields #[.ref l, .int i 0]
noncomputable def IsTIt (o : Obj) (l : Addr) (i : Nat) : Prop := o.cls = .type "tuple_iterator" ∧ o.data = .fields #[.ref l, .int i 0]
section
variable {prog : Program} {w : World} {A : Around} {E : Value → Shared → Prop} {s : Shared} {h₀ : Heap} {L : Addr} {m : Str → Option Value} {news : List (Addr × Obj)}
theorem tup_is {h : Heap} {l : Addr} {vs : List Value} {n : Nat} (N : News h₀ L h news) (hm : (l, tupObj vs n) ∈ news) : h.IsTuple l vs.toArray := ⟨_, (N _ hm).1, rfl, n, rfl⟩
theorem lit_make {l : Addr} {vs : List Value} {n : Nat} {Q : Value → Shared → Prop} (F : Fr h₀ L s.heap m) (N : News h₀ L s.heap news) (hm : (l, lstObj vs n) ∈ news)
    (h : ∀ it oi h', IsLIt oi l 0 → Fr h₀ L h' m → News h₀ L h' ((it, oi) :: news) → (∀ p ∈ news, @LT.lt Nat _ p.1 it) → Q (.ref it) { s with heap := h' }) : wpAny (model prog w) A (pyIter (.ref l)) Q E s := by
  refine wpAny_pyIter_list (lst_is N hm) ?_
  obtain ⟨F', N', l'⟩ := push_news (o := { cls := .type "list_iterator", data := .fields #[.ref l, .int 0 0] }) F N
  exact h _ _ _ ⟨rfl, rfl⟩ F' N' l'
theorem tit_make {l : Addr} {vs : List Value} {n : Nat} {Q : Value → Shared → Prop} (F : Fr h₀ L s.heap m) (N : News h₀ L s.heap news) (hm : (l, tupObj vs n) ∈ news)
    (h : ∀ it oi h', IsTIt oi l 0 → Fr h₀ L h' m → News h₀ L h' ((it, oi) :: news) → (∀ p ∈ news, @LT.lt Nat _ p.1 it) → Q (.ref it) { s with heap := h' }) : wpAny (model prog w) A (pyIter (.ref l)) Q E s := by
  refine wpAny_pyIter_tuple (tup_is N hm) ?_
  obtain ⟨F', N', l'⟩ := push_news (o := { cls := .type "tuple_iterator", data := .fields #[.ref l, .int 0 0] }) F N
  exact h _ _ _ ⟨rfl, rfl⟩ F' N' l'
theorem lit_next {it l : Addr} {oi : Obj} {i n : Nat} {vs : List Value} {v : Value} {Q : Option Value → Shared → Prop} (F : Fr h₀ L s.heap m) (N : News h₀ L s.heap ((it, oi) :: news)) (hi : IsLIt oi l i) (hn : ∀ p ∈ news, p.1 ≠ it) (hm : (l, lstObj vs n) ∈ news) (hx : vs[i]? = some v)
    (h : ∀ oi' h', IsLIt oi' l (i + 1) → Fr h₀ L h' m → News h₀ L h' ((it, oi') :: news) → Q (some v) { s with heap := h' }) : wpAny (model prog w) A (pyNext (.ref it)) Q E s := by
  have D := N _ (.head _)
  refine wpAny_pyNext_list_item ⟨oi, D.1, hi.1, hi.2⟩ (lst_is N (.tail _ hm)) (by simpa using hx) fun h' h1 hs => ?_
  obtain ⟨oi', e1, e2, e3⟩ := h1
  obtain ⟨F', N'⟩ := upd_news F N (Upd.head hn) hs e1
  exact h oi' h' ⟨e2, e3⟩ F' N'
theorem tit_next {it l : Addr} {oi : Obj} {i n : Nat} {vs : List Value} {v : Value} {Q : Option Value → Shared → Prop} (F : Fr h₀ L s.heap m) (N : News h₀ L s.heap ((it, oi) :: news)) (hi : IsTIt oi l i) (hn : ∀ p ∈ news, p.1 ≠ it) (hm : (l, tupObj vs n) ∈ news) (hx : vs[i]? = some v)
    (h : ∀ oi' h', IsTIt oi' l (i + 1) → Fr h₀ L h' m → News h₀ L h' ((it, oi') :: news) → Q (some v) { s with heap := h' }) : wpAny (model prog w) A (pyNext (.ref it)) Q E s := by
  have D := N _ (.head _)
  refine wpAny_pyNext_tuple_item ⟨oi, D.1, hi.1, hi.2⟩ (tup_is N (.tail _ hm)) (by simpa using hx) fun h' h1 hs => ?_
  obtain ⟨oi', e1, e2, e3⟩ := h1
  obtain ⟨F', N'⟩ := upd_news F N (Upd.head hn) hs e1
  exact h oi' h' ⟨e2, e3⟩ F' N'
theorem lit_end {it l : Addr} {oi : Obj} {i n : Nat} {vs : List Value} {Q : Option Value → Shared → Prop} (hh : A.handled = none) (F : Fr h₀ L s.heap m) (N : News h₀ L s.heap ((it, oi) :: news)) (hi : IsLIt oi l i) (hn : ∀ p ∈ news, p.1 ≠ it) (hm : (l, lstObj vs n) ∈ news) (hx : vs[i]? = none)
    (h : ∀ h', Fr h₀ L h' m → News h₀ L h' news → Q none { s with heap := h' }) : wpAny (model prog w) A (pyNext (.ref it)) Q E s := by
  have D := N _ (.head _)
  refine wpAny_pyNext_list_end hh ⟨oi, D.1, hi.1, hi.2⟩ (lst_is N (.tail _ hm)) (by simpa using hx) fun h' hs => ?_
  obtain ⟨F', N'⟩ := drop_news F N hn hs
  exact h h' F' N'
theorem tit_end {it l : Addr} {oi : Obj} {i n : Nat} {vs : List Value} {Q : Option Value → Shared → Prop} (hh : A.handled = none) (F : Fr h₀ L s.heap m) (N : News h₀ L s.heap ((it, oi) :: news)) (hi : IsTIt oi l i) (hn : ∀ p ∈ news, p.1 ≠ it) (hm : (l, tupObj vs n) ∈ news) (hx : vs[i]? = none)
    (h : ∀ h', Fr h₀ L h' m → News h₀ L h' news → Q none { s with heap := h' }) : wpAny (model prog w) A (pyNext (.ref it)) Q E s := by
  have D := N _ (.head _)
  refine wpAny_pyNext_tuple_end hh ⟨oi, D.1, hi.1, hi.2⟩ (tup_is N (.tail _ hm)) (by simpa using hx) fun h' hs => ?_
  obtain ⟨F', N'⟩ := drop_news F N hn hs
  exact h h' F' N'
theorem tup_len {l : Addr} {vs : List Value} {n : Nat} {Q : Value → Shared → Prop} (N : News h₀ L s.heap news) (hm : (l, tupObj vs n) ∈ news) (hfit : vs.length < 1000)
    (h : Q (.int vs.length (s.toks + 1)) { s with toks := s.toks + 1 + 1 }) : wpAny (model prog w) A (call (.builtin "len") [.ref l]) Q E s :=
  PyProof.Rows.len_tuple (t := l) (items := vs.toArray) (tup_is N hm) (by rw [List.size_toArray]; (first | lia | omega)) (by rw [List.size_toArray]; exact h)
theorem lst_append {D : Addr} {vs : List Value} {x : Value} {n : Nat} {news' : List (Addr × Obj)} {Q : Value → Shared → Prop} (F : Fr h₀ L s.heap m) (N : News h₀ L s.heap news) (U : Upd D (lstObj vs n) (lstObj (vs ++ [x]) (n + 1)) news news')
    (hz : vs.length < 1000) (h : ∀ h', Fr h₀ L h' m → News h₀ L h' news' → Q .none { s with heap := h' }) : wpAny (model prog w) A (call (.builtin "list.append") [.ref D, x]) Q E s :=
  append_K (its := vs.toArray) (n := n) (x := x) F N (by rw [List.push_toArray]; exact U) h (by rw [sizeLine_eq]; simp; (first | lia | omega))
end
end
section
noncomputable abbrev X3 := Addr × T3
noncomputable abbrev refsOf (xs : List X3) : List Value := xs.map fun x => .ref x.1
noncomputable def TriIn (news : List (Addr × Obj)) (x : X3) : Prop := ∃ ta tb tc n, (x.1, triObj x.2 ta tb tc n) ∈ news
noncomputable def sdGo (it : X3) (st : Nat) (pos : Nat) (xs : List X3) : List X3 :=
  if h : st < pos then
    match xs[(pos - 1) / 2]? with
    | some p => if triLt it.2 p.2 then sdGo it st ((pos - 1) / 2) (xs.set pos p) else xs.set pos it
    | none => xs.set pos it
  else xs.set pos it
termination_by pos
decreasing_by (first | lia | omega)
theorem refs_set (ys : List X3) (k : Nat) (p : X3) : (refsOf ys).set (k : Int).toNat (.ref p.1) = refsOf (ys.set k p) := by
  rw [Int.toNat_natCast, refsOf, refsOf, List.map_set]
theorem siftdown_spec {prog : Program} {w : World} (hn : Option Value) (dp un : Nat) (gd : Option (List Code)) (env : Env) (outer : List Env) (h₀ : Heap) (L : Addr) (m : Str → Option Value) (s : Shared)
    (Q E : Value → Shared → Prop) (C : Cx w env outer h₀ L) (F : Fr h₀ L s.heap m) (hl : Addr) (xs : List X3) (n : Nat) (rest : List (Addr × Obj)) (N : News h₀ L s.heap ((hl, lstObj (refsOf xs) n) :: rest))
    (hr : ∀ p ∈ rest, p.1 ≠ hl) (hx : ∀ x ∈ xs, TriIn rest x) (st ps : Nat) (t1 t2 : Tok) (it : X3) (hit : xs[ps]? = some it) (hlen : xs.length < 1000)
    (hd : dp + 2 < recursionLimit) (hu : un + 16 < cLine)
    (ret : ∀ h' tk' n', Fr h₀ L h' m → News h₀ L h' ((hl, lstObj (refsOf (sdGo it st ps xs)) n') :: rest) → Q .none { s with heap := h', toks := tk' }) :
    wpAny (model prog w) (arn hn dp un gd env outer) (call (.ref 162) [.ref hl, .int st t1, .int ps t2]) Q E s := by
  refine cx_e C ?_
  intro p loose mean mg mb A₀ base B X T hf hk
  have hps : ps < xs.length := (List.getElem?_eq_some_iff.mp hit).1
  refine wpAny_call ?_
  k_dflt (refine' code_def ?k1 ?k2 ?k3 ?k4 ?k5 ?kA ?kF ?kK ?k6 ?k7 ?k8 ?k9 ?kB ?_ ?c2 ?c3 ?c4 ?c5; (case kA => exact rfl); (case kF => first | assumption | exact rfl); (case kK => first | assumption | exact rfl); (case k1 => k_asm); (case k2 => k_asm); (case k3 => k_asm); (case k4 => k_asm); (case k5 => k_asm); (case k6 => k_is); (case k7 => k_is); (case k8 => k_room); (case k9 => first | exact BindsTo.of_eq rfl | exact binds_K (by k_in) rfl (by k_is) rfl rfl rfl); (case c5 => decide); (case kB => exact locs rfl); (case c2 => exact rfl); (case c3 => exact rfl); (case c4 => exact rfl))
  intro g L1 h1 FG F1 N1 B1 X1 T1
  (try dsimp only)
  (try k_fold)
  (repeat' ((fail_if_success (with_reducible (first | show gz2 | show gz3 | show gz4 | show gz5 | show gz6 | show gz7 | show gz8 | show gz9 | show gz10 | show gz11 | show gz12 | show gz13 | show gz14 | show gz15))); (first | ((with_reducible show wpAny _ _ (execs _ _) _ _ _); k_gentoks) | with_reducible (first | refine execs_one ?_ | (refine execs_cut ?_; intro _ _) | (refine if_cut ?_; intro _ _)) | ((fail_if_success (with_reducible show gz1)); (first | (refine Kh.go ‹_› _ _ ?_; try dsimp only [KnP]) | ((with_reducible show TurnEnd _ _ _ _ _ _); dsimp only [TurnEnd]))) | (k_unfold; (try dsimp only)) | (k_end; wrow_close) | walk1 | (dsimp only; walk1) | (leave1; try dsimp only))))
  refine lst_item (v := .ref it.1) (by k_asm) (by k_mem) (by (first | lia | omega)) (by (first | lia | omega)) (by simp [hit]) ?_
  (repeat' ((fail_if_success (with_reducible (first | show gz2 | show gz3 | show gz4 | show gz5 | show gz6 | show gz7 | show gz8 | show gz9 | show gz10 | show gz11 | show gz12 | show gz13 | show gz14 | show gz15))); (first | ((with_reducible show wpAny _ _ (execs _ _) _ _ _); k_gentoks) | with_reducible (first | refine execs_one ?_ | (refine execs_cut ?_; intro _ _) | (refine if_cut ?_; intro _ _)) | ((fail_if_success (with_reducible show gz1)); (first | (refine Kh.go ‹_› _ _ ?_; try dsimp only [KnP]) | ((with_reducible show TurnEnd _ _ _ _ _ _); dsimp only [TurnEnd]))) | (k_unfold; (try dsimp only)) | (k_end; wrow_close) | walk1 | (dsimp only; walk1) | (leave1; try dsimp only))))
  rename Fr _ _ _ _ => F2
  rename News _ _ _ _ => N2
  refine my_while (fun k s' => ∃ (pos : Nat) (ys : List X3) (h : Heap) (tk tp n' : Nat) (u : Str → Option Value), k = pos ∧ s' = { s with heap := h, toks := tk } ∧
    Fr g L1 h (kB u [(Str.ofString "heap", .ref hl), (Str.ofString "startpos", .int st t1), (Str.ofString "newitem", .ref it.1), (Str.ofString "pos", .int pos tp)]) ∧
    News g L1 h ((hl, lstObj (refsOf ys) n') :: rest) ∧ ys.length = xs.length ∧ pos < ys.length ∧ (∀ x ∈ ys, TriIn rest x) ∧ sdGo it st pos ys = sdGo it st ps xs)
    (fun s' => ∃ (pos : Nat) (ys : List X3) (h : Heap) (tk tp n' : Nat) (u : Str → Option Value), s' = { s with heap := h, toks := tk } ∧
    Fr g L1 h (kB u [(Str.ofString "heap", .ref hl), (Str.ofString "newitem", .ref it.1), (Str.ofString "pos", .int pos tp)]) ∧
    News g L1 h ((hl, lstObj (refsOf ys) n') :: rest) ∧ ys.length = xs.length ∧ pos < ys.length ∧ ys.set pos it = sdGo it st ps xs) ?_ ps
    (ex7_i ps xs _ _ _ _ _ (an8_i rfl rfl (frB _ F2 ⟨rfl, rfl, rfl, rfl, trivial⟩) N2 rfl hps hx rfl)) ?_
  · intro I1z R1z Q1z hI1z hR1z hQ1z k s' hzz
    refine ex7_e hzz ?_
    clear hzz
    intro pos ys h tk tp n' u hzz
    refine an8_e hzz ?_
    clear hzz
    rintro rfl rfl F3 N3 hyl hpy hyx hgo
    (try clear F2 N2)
    (repeat' ((fail_if_success (with_reducible (first | show gz2 | show gz3 | show gz4 | show gz5 | show gz6 | show gz7 | show gz8 | show gz9 | show gz10 | show gz11 | show gz12 | show gz13 | show gz14 | show gz15))); (first | ((with_reducible show wpAny _ _ (execs _ _) _ _ _); k_gentoks) | with_reducible (first | refine execs_one ?_ | (refine execs_cut ?_; intro _ _) | (refine if_cut ?_; intro _ _)) | ((fail_if_success (with_reducible show gz1)); (first | (refine Kh.go ‹_› _ _ ?_; try dsimp only [KnP]) | ((with_reducible show TurnEnd _ _ _ _ _ _); dsimp only [TurnEnd]))) | (k_unfold; (try dsimp only)) | (k_end; wrow_close) | walk1 | (dsimp only; walk1) | (leave1; try dsimp only))))
    · rename (_ : Int) < _ => hlt
      have hk0 : st < k := by (first | lia | omega)
      obtain ⟨par, hpar⟩ : ∃ par, ys[(k - 1) / 2]? = some par := ⟨ys[(k - 1) / 2]'(by (first | lia | omega)), by simp⟩
      have hsh := shr_one k (by (first | lia | omega))
      rw [sdGo, dif_pos hk0, hpar] at hgo
      dsimp only at hgo
      refine lst_item (v := .ref par.1) (by k_asm) (by k_mem) (by rw [hsh]; (first | lia | omega)) (by rw [hsh]; (first | lia | omega)) (by rw [hsh, Int.toNat_natCast, List.getElem?_map, hpar]; rfl) ?_
      (repeat' ((fail_if_success (with_reducible (first | show gz2 | show gz3 | show gz4 | show gz5 | show gz6 | show gz7 | show gz8 | show gz9 | show gz10 | show gz11 | show gz12 | show gz13 | show gz14 | show gz15))); (first | ((with_reducible show wpAny _ _ (execs _ _) _ _ _); k_gentoks) | with_reducible (first | refine execs_one ?_ | (refine execs_cut ?_; intro _ _) | (refine if_cut ?_; intro _ _)) | ((fail_if_success (with_reducible show gz1)); (first | (refine Kh.go ‹_› _ _ ?_; try dsimp only [KnP]) | ((with_reducible show TurnEnd _ _ _ _ _ _); dsimp only [TurnEnd]))) | (k_unfold; (try dsimp only)) | (k_end; wrow_close) | walk1 | (dsimp only; walk1) | (leave1; try dsimp only))))
      refine ex4_e (hx it (List.mem_of_getElem? hit)) ?_
      rintro a1 a2 a3 a4 ha
      refine ex4_e (hyx par (List.mem_of_getElem? hpar)) ?_
      rintro b1 b2 b3 b4 hb
      rename News _ _ _ _ => N4
      refine tri_lt (N4 _ (.tail _ ha)).1 (N4 _ (.tail _ hb)).1 (by k_units) ?_
      (repeat' ((fail_if_success (with_reducible (first | show gz2 | show gz3 | show gz4 | show gz5 | show gz6 | show gz7 | show gz8 | show gz9 | show gz10 | show gz11 | show gz12 | show gz13 | show gz14 | show gz15))); (first | ((with_reducible show wpAny _ _ (execs _ _) _ _ _); k_gentoks) | with_reducible (first | refine execs_one ?_ | (refine execs_cut ?_; intro _ _) | (refine if_cut ?_; intro _ _)) | ((fail_if_success (with_reducible show gz1)); (first | (refine Kh.go ‹_› _ _ ?_; try dsimp only [KnP]) | ((with_reducible show TurnEnd _ _ _ _ _ _); dsimp only [TurnEnd]))) | (k_unfold; (try dsimp only)) | (k_end; wrow_close) | walk1 | (dsimp only; walk1) | (leave1; try dsimp only))))
      · rename triLt _ _ = true => hb1
        rw [if_pos hb1] at hgo
        refine lst_set (by k_asm) (by k_asm) (Upd.head hr) (by (first | lia | omega)) (by simp; (first | lia | omega)) (by (first | lia | omega)) ?_
        intro h5 F5 N5
        (repeat' ((fail_if_success (with_reducible (first | show gz2 | show gz3 | show gz4 | show gz5 | show gz6 | show gz7 | show gz8 | show gz9 | show gz10 | show gz11 | show gz12 | show gz13 | show gz14 | show gz15))); (first | ((with_reducible show wpAny _ _ (execs _ _) _ _ _); k_gentoks) | with_reducible (first | refine execs_one ?_ | (refine execs_cut ?_; intro _ _) | (refine if_cut ?_; intro _ _)) | ((fail_if_success (with_reducible show gz1)); (first | (refine Kh.go ‹_› _ _ ?_; try dsimp only [KnP]) | ((with_reducible show TurnEnd _ _ _ _ _ _); dsimp only [TurnEnd]))) | (k_unfold; (try dsimp only)) | (k_end; wrow_close) | walk1 | (dsimp only; walk1) | (leave1; try dsimp only))))
        rename Fr _ _ _ _ => F6
        rename News _ _ _ _ => N6
        rw [hsh] at F6
        rw [refs_set] at N6
        exact StopN hI1z ((k - 1) / 2) (by (first | lia | omega)) (ex7_i ((k - 1) / 2) (ys.set k par) _ _ _ _ _ (an8_i rfl rfl (frB _ F6 ⟨rfl, rfl, rfl, rfl, trivial⟩) N6 (by rw [List.length_set]; exact hyl) (by rw [List.length_set]; (first | lia | omega)) (fun x hx' => (List.mem_or_eq_of_mem_set hx').elim (hyx x) fun e => e ▸ hyx par (List.mem_of_getElem? hpar)) hgo))
      · rename triLt _ _ = false => hb1
        rw [if_neg (by rw [hb1]; decide)] at hgo
        rename Fr _ _ _ _ => F5
        exact StopP (hR1z _) (ex7_i k ys _ _ _ _ _ (an6_i rfl (frB _ F5 ⟨rfl, rfl, rfl, trivial⟩) (by k_asm) hyl hpy hgo))
    · rename ¬ _ => hlt
      have hk0 : ¬ st < k := by (first | lia | omega)
      rw [sdGo, dif_neg hk0] at hgo
      exact StopP (hR1z _) (ex7_i k ys _ _ _ _ _ (an6_i rfl (frB _ F3 ⟨rfl, rfl, rfl, trivial⟩) N3 hyl hpy hgo))
  · intro s' hzz
    refine ex7_e hzz ?_
    clear hzz
    intro pos ys h tk tp n' u hzz
    refine an6_e hzz ?_
    clear hzz
    rintro rfl F3 N3 hyl hpy hgo
    (try clear F2 N2)
    (repeat' ((fail_if_success (with_reducible (first | show gz2 | show gz3 | show gz4 | show gz5 | show gz6 | show gz7 | show gz8 | show gz9 | show gz10 | show gz11 | show gz12 | show gz13 | show gz14 | show gz15))); (first | ((with_reducible show wpAny _ _ (execs _ _) _ _ _); k_gentoks) | with_reducible (first | refine execs_one ?_ | (refine execs_cut ?_; intro _ _) | (refine if_cut ?_; intro _ _)) | ((fail_if_success (with_reducible show gz1)); (first | (refine Kh.go ‹_› _ _ ?_; try dsimp only [KnP]) | ((with_reducible show TurnEnd _ _ _ _ _ _); dsimp only [TurnEnd]))) | (k_unfold; (try dsimp only)) | (k_end; wrow_close) | walk1 | (dsimp only; walk1) | (leave1; try dsimp only))))
    refine lst_set (by k_asm) (by k_asm) (Upd.head hr) (by (first | lia | omega)) (by simp; (first | lia | omega)) (by (first | lia | omega)) ?_
    intro h5 F5 N5
    (repeat' ((fail_if_success (with_reducible (first | show gz2 | show gz3 | show gz4 | show gz5 | show gz6 | show gz7 | show gz8 | show gz9 | show gz10 | show gz11 | show gz12 | show gz13 | show gz14 | show gz15))); (first | ((with_reducible show wpAny _ _ (execs _ _) _ _ _); k_gentoks) | with_reducible (first | refine execs_one ?_ | (refine execs_cut ?_; intro _ _) | (refine if_cut ?_; intro _ _)) | ((fail_if_success (with_reducible show gz1)); (first | (refine Kh.go ‹_› _ _ ?_; try dsimp only [KnP]) | ((with_reducible show TurnEnd _ _ _ _ _ _); dsimp only [TurnEnd]))) | (k_unfold; (try dsimp only)) | (k_end; wrow_close) | walk1 | (dsimp only; walk1) | (leave1; try dsimp only))))
    rename News _ _ _ _ => N6
    rw [refs_set, hgo] at N6
    exact ret _ _ _ (by k_asm) N6
end
section
noncomputable def child (pos : Nat) (xs : List X3) : Nat := match xs[2 * pos + 1]?, xs[2 * pos + 2]? with
  | some a, some b => if triLt a.2 b.2 then 2 * pos + 1 else 2 * pos + 2
  | _, _ => 2 * pos + 1
theorem child_ge (pos : Nat) (xs : List X3) : 2 * pos + 1 ≤ child pos xs := by
  unfold child
  split
  · split <;> (first | lia | omega)
  · (first | lia | omega)
noncomputable def suGo (pos : Nat) (xs : List X3) : Nat × List X3 :=
  if h : 2 * pos + 1 < xs.length then
    match xs[child pos xs]? with
    | some p => suGo (child pos xs) (xs.set pos p)
    | none => (pos, xs)
  else (pos, xs)
termination_by xs.length - pos
decreasing_by have := child_ge pos xs; rw [List.length_set]; (first | lia | omega)
noncomputable def siftup (pos : Nat) (it : X3) (xs : List X3) : List X3 := sdGo it pos (suGo pos xs).1 ((suGo pos xs).2.set (suGo pos xs).1 it)
theorem siftup_spec {prog : Program} {w : World} (hn : Option Value) (dp un : Nat) (gd : Option (List Code)) (env : Env) (outer : List Env) (h₀ : Heap) (L : Addr) (m : Str → Option Value) (s : Shared)
    (Q E : Value → Shared → Prop) (C : Cx w env outer h₀ L) (F : Fr h₀ L s.heap m) (hl : Addr) (xs : List X3) (n : Nat) (rest : List (Addr × Obj)) (N : News h₀ L s.heap ((hl, lstObj (refsOf xs) n) :: rest))
    (hr : ∀ p ∈ rest, p.1 ≠ hl) (hx : ∀ x ∈ xs, TriIn rest x) (ps : Nat) (t1 : Tok) (it : X3) (hit : xs[ps]? = some it) (hlen : xs.length < 1000)
    (hd : dp + 4 < recursionLimit) (hu : un + 32 < cLine)
    (ret : ∀ h' tk' n', Fr h₀ L h' m → News h₀ L h' ((hl, lstObj (refsOf (siftup ps it xs)) n') :: rest) → Q .none { s with heap := h', toks := tk' }) :
    wpAny (model prog w) (arn hn dp un gd env outer) (call (.ref 169) [.ref hl, .int ps t1]) Q E s := by
  refine cx_e C ?_
  intro p loose mean mg mb A₀ base B X T hf hk
  have hps : ps < xs.length := (List.getElem?_eq_some_iff.mp hit).1
  refine wpAny_call ?_
  k_dflt (refine' code_def ?k1 ?k2 ?k3 ?k4 ?k5 ?kA ?kF ?kK ?k6 ?k7 ?k8 ?k9 ?kB ?_ ?c2 ?c3 ?c4 ?c5; (case kA => exact rfl); (case kF => first | assumption | exact rfl); (case kK => first | assumption | exact rfl); (case k1 => k_asm); (case k2 => k_asm); (case k3 => k_asm); (case k4 => k_asm); (case k5 => k_asm); (case k6 => k_is); (case k7 => k_is); (case k8 => k_room); (case k9 => first | exact BindsTo.of_eq rfl | exact binds_K (by k_in) rfl (by k_is) rfl rfl rfl); (case c5 => decide); (case kB => exact locs rfl); (case c2 => exact rfl); (case c3 => exact rfl); (case c4 => exact rfl))
  intro g L1 h1 FG F1 N1 B1 X1 T1
  (try dsimp only)
  (try k_fold)
  (repeat' ((fail_if_success (with_reducible (first | show gz2 | show gz3 | show gz4 | show gz5 | show gz6 | show gz7 | show gz8 | show gz9 | show gz10 | show gz11 | show gz12 | show gz13 | show gz14 | show gz15))); (first | ((with_reducible show wpAny _ _ (execs _ _) _ _ _); k_gentoks) | with_reducible (first | refine execs_one ?_ | (refine execs_cut ?_; intro _ _) | (refine if_cut ?_; intro _ _)) | ((fail_if_success (with_reducible show gz1)); (first | (refine Kh.go ‹_› _ _ ?_; try dsimp only [KnP]) | ((with_reducible show TurnEnd _ _ _ _ _ _); dsimp only [TurnEnd]))) | (k_unfold; (try dsimp only)) | (k_end; wrow_close) | walk1 | (dsimp only; walk1) | (leave1; try dsimp only))))
  refine kst_len (k := xs.length) (by k_asm) (by k_mem) (by simp) (by (first | lia | omega)) ?_
  (repeat' ((fail_if_success (with_reducible (first | show gz2 | show gz3 | show gz4 | show gz5 | show gz6 | show gz7 | show gz8 | show gz9 | show gz10 | show gz11 | show gz12 | show gz13 | show gz14 | show gz15))); (first | ((with_reducible show wpAny _ _ (execs _ _) _ _ _); k_gentoks) | with_reducible (first | refine execs_one ?_ | (refine execs_cut ?_; intro _ _) | (refine if_cut ?_; intro _ _)) | ((fail_if_success (with_reducible show gz1)); (first | (refine Kh.go ‹_› _ _ ?_; try dsimp only [KnP]) | ((with_reducible show TurnEnd _ _ _ _ _ _); dsimp only [TurnEnd]))) | (k_unfold; (try dsimp only)) | (k_end; wrow_close) | walk1 | (dsimp only; walk1) | (leave1; try dsimp only))))
  refine lst_item (v := .ref it.1) (by k_asm) (by k_mem) (by (first | lia | omega)) (by (first | lia | omega)) (by simp [hit]) ?_
  (repeat' ((fail_if_success (with_reducible (first | show gz2 | show gz3 | show gz4 | show gz5 | show gz6 | show gz7 | show gz8 | show gz9 | show gz10 | show gz11 | show gz12 | show gz13 | show gz14 | show gz15))); (first | ((with_reducible show wpAny _ _ (execs _ _) _ _ _); k_gentoks) | with_reducible (first | refine execs_one ?_ | (refine execs_cut ?_; intro _ _) | (refine if_cut ?_; intro _ _)) | ((fail_if_success (with_reducible show gz1)); (first | (refine Kh.go ‹_› _ _ ?_; try dsimp only [KnP]) | ((with_reducible show TurnEnd _ _ _ _ _ _); dsimp only [TurnEnd]))) | (k_unfold; (try dsimp only)) | (k_end; wrow_close) | walk1 | (dsimp only; walk1) | (leave1; try dsimp only))))
  rename Fr _ _ _ _ => F2
  rename News _ _ _ _ => N2
  refine my_while (fun k s' => ∃ (pos : Nat) (ys : List X3) (h : Heap) (tk te tp tc n' : Nat) (u : Str → Option Value), k = xs.length - pos ∧ s' = { s with heap := h, toks := tk } ∧
    Fr g L1 h (kB u [(Str.ofString "heap", .ref hl), (Str.ofString "startpos", .int ps t1), (Str.ofString "endpos", .int xs.length te), (Str.ofString "newitem", .ref it.1), (Str.ofString "pos", .int pos tp), (Str.ofString "childpos", .int (2 * pos + 1) tc)]) ∧
    News g L1 h ((hl, lstObj (refsOf ys) n') :: rest) ∧ ys.length = xs.length ∧ pos < ys.length ∧ (∀ x ∈ ys, TriIn rest x) ∧ suGo pos ys = suGo ps xs)
    (fun s' => ∃ (pos : Nat) (ys : List X3) (h : Heap) (tk tp n' : Nat) (u : Str → Option Value), s' = { s with heap := h, toks := tk } ∧
    Fr g L1 h (kB u [(Str.ofString "heap", .ref hl), (Str.ofString "startpos", .int ps t1), (Str.ofString "newitem", .ref it.1), (Str.ofString "pos", .int pos tp)]) ∧
    News g L1 h ((hl, lstObj (refsOf ys) n') :: rest) ∧ ys.length = xs.length ∧ pos < ys.length ∧ (∀ x ∈ ys, TriIn rest x) ∧ suGo ps xs = (pos, ys)) ?_ (xs.length - ps)
    (ex9_i ps xs _ _ _ _ _ _ _ (an8_i rfl rfl (frB _ F2 ⟨rfl, rfl, rfl, rfl, rfl, rfl, trivial⟩) N2 rfl hps hx rfl)) ?_
  · intro I1z R1z Q1z hI1z hR1z hQ1z k s' hzz
    refine ex9_e hzz ?_
    clear hzz
    intro pos ys h tk te tp tc n' u hzz
    refine an8_e hzz ?_
    clear hzz
    rintro rfl rfl F3 N3 hyl hpy hyx hgo
    (try clear F2 N2)
    (repeat' ((fail_if_success (with_reducible (first | show gz2 | show gz3 | show gz4 | show gz5 | show gz6 | show gz7 | show gz8 | show gz9 | show gz10 | show gz11 | show gz12 | show gz13 | show gz14 | show gz15 | show gz53))); (first | ((with_reducible show wpAny _ _ (execs _ _) _ _ _); k_gentoks) | with_reducible (first | refine execs_one ?_ | (refine execs_cut ?_; intro _ _) | (refine if_cut ?_; intro _ _)) | ((fail_if_success (with_reducible show gz1)); (first | (refine Kh.go ‹_› _ _ ?_; try dsimp only [KnP]) | ((with_reducible show TurnEnd _ _ _ _ _ _); dsimp only [TurnEnd]))) | (k_unfold; (try dsimp only)) | (k_end; wrow_close) | walk1 | (dsimp only; walk1) | (leave1; try dsimp only))))
    · rename (_ : Int) < _ => hlt
      have hc0 : 2 * pos + 1 < ys.length := by (first | lia | omega)
      obtain ⟨ca, hca⟩ : ∃ ca, ys[2 * pos + 1]? = some ca := ⟨ys[2 * pos + 1], by simp⟩
      rename Fr _ _ _ _ => F4
      rename News _ _ _ _ => N4
      refine cut (fun f s' => f = .next ∧ ∃ (h' : Heap) (tk' tc' : Nat) (u' : Str → Option Value) (c : Int), s' = { s with heap := h', toks := tk' } ∧ Fr g L1 h' (kB u' [(Str.ofString "heap", .ref hl), (Str.ofString "startpos", .int ps t1), (Str.ofString "endpos", .int xs.length te), (Str.ofString "newitem", .ref it.1), (Str.ofString "pos", .int pos tp), (Str.ofString "childpos", .int c tc')]) ∧
        News g L1 h' ((hl, lstObj (refsOf ys) n') :: rest) ∧ c = child pos ys) ?_ ?_
      · intro C1z hC1z
        (repeat' ((fail_if_success (with_reducible (first | show gz2 | show gz3 | show gz4 | show gz5 | show gz6 | show gz7 | show gz8 | show gz9 | show gz10 | show gz11 | show gz12 | show gz13 | show gz14 | show gz15))); (first | ((with_reducible show wpAny _ _ (execs _ _) _ _ _); k_gentoks) | with_reducible (first | refine execs_one ?_ | (refine execs_cut ?_; intro _ _) | (refine if_cut ?_; intro _ _)) | ((fail_if_success (with_reducible show gz1)); (first | (refine Kh.go ‹_› _ _ ?_; try dsimp only [KnP]) | ((with_reducible show TurnEnd _ _ _ _ _ _); dsimp only [TurnEnd]))) | (k_unfold; (try dsimp only)) | (k_end; wrow_close) | walk1 | (dsimp only; walk1) | (leave1; try dsimp only))))
        · rename (_ : Int) < _ => hlt2
          obtain ⟨cb, hcb⟩ : ∃ cb, ys[2 * pos + 2]? = some cb := ⟨ys[2 * pos + 2]'(by (first | lia | omega)), by simp⟩
          refine lst_item (v := .ref ca.1) (by k_asm) (by k_mem) (by (first | lia | omega)) (by (first | lia | omega)) (by rw [show ((2 : Int) * pos + 1).toNat = 2 * pos + 1 by (first | lia | omega), List.getElem?_map, hca]; rfl) ?_
          (repeat' ((fail_if_success (with_reducible (first | show gz2 | show gz3 | show gz4 | show gz5 | show gz6 | show gz7 | show gz8 | show gz9 | show gz10 | show gz11 | show gz12 | show gz13 | show gz14 | show gz15))); (first | ((with_reducible show wpAny _ _ (execs _ _) _ _ _); k_gentoks) | with_reducible (first | refine execs_one ?_ | (refine execs_cut ?_; intro _ _) | (refine if_cut ?_; intro _ _)) | ((fail_if_success (with_reducible show gz1)); (first | (refine Kh.go ‹_› _ _ ?_; try dsimp only [KnP]) | ((with_reducible show TurnEnd _ _ _ _ _ _); dsimp only [TurnEnd]))) | (k_unfold; (try dsimp only)) | (k_end; wrow_close) | walk1 | (dsimp only; walk1) | (leave1; try dsimp only))))
          refine lst_item (v := .ref cb.1) (by k_asm) (by k_mem) (by (first | lia | omega)) (by (first | lia | omega)) (by rw [show ((2 : Int) * pos + 1 + 1).toNat = 2 * pos + 2 by (first | lia | omega), List.getElem?_map, hcb]; rfl) ?_
          (repeat' ((fail_if_success (with_reducible (first | show gz2 | show gz3 | show gz4 | show gz5 | show gz6 | show gz7 | show gz8 | show gz9 | show gz10 | show gz11 | show gz12 | show gz13 | show gz14 | show gz15))); (first | ((with_reducible show wpAny _ _ (execs _ _) _ _ _); k_gentoks) | with_reducible (first | refine execs_one ?_ | (refine execs_cut ?_; intro _ _) | (refine if_cut ?_; intro _ _)) | ((fail_if_success (with_reducible show gz1)); (first | (refine Kh.go ‹_› _ _ ?_; try dsimp only [KnP]) | ((with_reducible show TurnEnd _ _ _ _ _ _); dsimp only [TurnEnd]))) | (k_unfold; (try dsimp only)) | (k_end; wrow_close) | walk1 | (dsimp only; walk1) | (leave1; try dsimp only))))
          refine ex4_e (hyx ca (List.mem_of_getElem? hca)) ?_
          rintro a1 a2 a3 a4 ha
          refine ex4_e (hyx cb (List.mem_of_getElem? hcb)) ?_
          rintro b1 b2 b3 b4 hb
          rename News _ _ _ _ => N5
          refine tri_lt (N5 _ (.tail _ ha)).1 (N5 _ (.tail _ hb)).1 (by k_units) ?_
          have hch : child pos ys = if triLt ca.2 cb.2 = true then 2 * pos + 1 else 2 * pos + 2 := by unfold child; rw [hca, hcb]
          (repeat' ((fail_if_success (with_reducible (first | show gz2 | show gz3 | show gz4 | show gz5 | show gz6 | show gz7 | show gz8 | show gz9 | show gz10 | show gz11 | show gz12 | show gz13 | show gz14 | show gz15))); (first | ((with_reducible show wpAny _ _ (execs _ _) _ _ _); k_gentoks) | with_reducible (first | refine execs_one ?_ | (refine execs_cut ?_; intro _ _) | (refine if_cut ?_; intro _ _)) | ((fail_if_success (with_reducible show gz1)); (first | (refine Kh.go ‹_› _ _ ?_; try dsimp only [KnP]) | ((with_reducible show TurnEnd _ _ _ _ _ _); dsimp only [TurnEnd]))) | (k_unfold; (try dsimp only)) | (k_end; wrow_close) | walk1 | (dsimp only; walk1) | (leave1; try dsimp only))))
          · rename Fr _ _ _ _ => F5
            exact StopP (hC1z _ _) (an2_i rfl (ex5_i _ _ _ _ _ (an4_i rfl (frB _ F5 ⟨rfl, rfl, rfl, rfl, rfl, rfl, trivial⟩) (by k_asm) (by rw [hch, if_pos (by assumption)]; (first | lia | omega)))))
          · rename Fr _ _ _ _ => F5
            exact StopP (hC1z _ _) (an2_i rfl (ex5_i _ _ _ _ _ (an4_i rfl (frB _ F5 ⟨rfl, rfl, rfl, rfl, rfl, rfl, trivial⟩) (by k_asm) (by rw [hch, if_neg (by simp_all)]; (first | lia | omega)))))
        · rename ¬ _ => hlt2
          have hch : child pos ys = 2 * pos + 1 := by
            unfold child
            rw [List.getElem?_eq_none (i := 2 * pos + 2) (by (first | lia | omega))]
            split <;> simp_all
          rename Fr _ _ _ _ => F5
          exact StopP (hC1z _ _) (an2_i rfl (ex5_i _ _ _ _ _ (an4_i rfl (frB _ F5 ⟨rfl, rfl, rfl, rfl, rfl, rfl, trivial⟩) (by k_asm) (by rw [hch]; (first | lia | omega)))))
      · rintro f s' ⟨rfl, h', tk', tc', u', c, rfl, F5, N5, rfl⟩
        (try clear F4 N4)
        obtain ⟨p, hp⟩ : ∃ p, ys[child pos ys]? = some p := by
          have : child pos ys < ys.length := by
            unfold child
            split
            · rename_i a b h1 h2
              have := (List.getElem?_eq_some_iff.mp h2).1
              split <;> (first | lia | omega)
            · (first | lia | omega)
          exact ⟨ys[child pos ys], by simp⟩
        (repeat' ((fail_if_success (with_reducible (first | show gz2 | show gz3 | show gz4 | show gz5 | show gz6 | show gz7 | show gz8 | show gz9 | show gz10 | show gz11 | show gz12 | show gz13 | show gz14 | show gz15))); (first | ((with_reducible show wpAny _ _ (execs _ _) _ _ _); k_gentoks) | with_reducible (first | refine execs_one ?_ | (refine execs_cut ?_; intro _ _) | (refine if_cut ?_; intro _ _)) | ((fail_if_success (with_reducible show gz1)); (first | (refine Kh.go ‹_› _ _ ?_; try dsimp only [KnP]) | ((with_reducible show TurnEnd _ _ _ _ _ _); dsimp only [TurnEnd]))) | (k_unfold; (try dsimp only)) | (k_end; wrow_close) | walk1 | (dsimp only; walk1) | (leave1; try dsimp only))))
        refine lst_item (v := .ref p.1) (by k_asm) (by k_mem) (by (first | lia | omega)) (by have := (List.getElem?_eq_some_iff.mp hp).1; (first | lia | omega)) (by rw [Int.toNat_natCast, List.getElem?_map, hp]; rfl) ?_
        (repeat' ((fail_if_success (with_reducible (first | show gz2 | show gz3 | show gz4 | show gz5 | show gz6 | show gz7 | show gz8 | show gz9 | show gz10 | show gz11 | show gz12 | show gz13 | show gz14 | show gz15))); (first | ((with_reducible show wpAny _ _ (execs _ _) _ _ _); k_gentoks) | with_reducible (first | refine execs_one ?_ | (refine execs_cut ?_; intro _ _) | (refine if_cut ?_; intro _ _)) | ((fail_if_success (with_reducible show gz1)); (first | (refine Kh.go ‹_› _ _ ?_; try dsimp only [KnP]) | ((with_reducible show TurnEnd _ _ _ _ _ _); dsimp only [TurnEnd]))) | (k_unfold; (try dsimp only)) | (k_end; wrow_close) | walk1 | (dsimp only; walk1) | (leave1; try dsimp only))))
        refine lst_set (by k_asm) (by k_asm) (Upd.head hr) (by (first | lia | omega)) (by simp; (first | lia | omega)) (by (first | lia | omega)) ?_
        intro h6 F6 N6
        rw [refs_set] at N6
        (repeat' ((fail_if_success (with_reducible (first | show gz2 | show gz3 | show gz4 | show gz5 | show gz6 | show gz7 | show gz8 | show gz9 | show gz10 | show gz11 | show gz12 | show gz13 | show gz14 | show gz15))); (first | ((with_reducible show wpAny _ _ (execs _ _) _ _ _); k_gentoks) | with_reducible (first | refine execs_one ?_ | (refine execs_cut ?_; intro _ _) | (refine if_cut ?_; intro _ _)) | ((fail_if_success (with_reducible show gz1)); (first | (refine Kh.go ‹_› _ _ ?_; try dsimp only [KnP]) | ((with_reducible show TurnEnd _ _ _ _ _ _); dsimp only [TurnEnd]))) | (k_unfold; (try dsimp only)) | (k_end; wrow_close) | walk1 | (dsimp only; walk1) | (leave1; try dsimp only))))
        rename Fr _ _ _ _ => F7
        rename News _ _ _ _ => N7
        have hge := child_ge pos ys
        have hcl := (List.getElem?_eq_some_iff.mp hp).1
        rw [suGo, dif_pos hc0, hp] at hgo
        dsimp only at hgo
        exact StopN hI1z (xs.length - child pos ys) (by (first | lia | omega)) (ex9_i (child pos ys) (ys.set pos p) _ _ _ _ _ _ _ (an8_i rfl rfl (frB _ F7 ⟨rfl, rfl, rfl, rfl, rfl, rfl, trivial⟩) N7 (by rw [List.length_set]; exact hyl) (by rw [List.length_set]; (first | lia | omega)) (fun x hx' => (List.mem_or_eq_of_mem_set hx').elim (hyx x) fun e => e ▸ hyx p (List.mem_of_getElem? hp)) hgo))
    · rename ¬ _ => hlt
      have hk0 : ¬ 2 * pos + 1 < ys.length := by (first | lia | omega)
      rw [suGo, dif_neg hk0] at hgo
      exact StopP (hR1z _) (ex7_i pos ys _ _ _ _ _ (an7_i rfl (frB _ F3 ⟨rfl, rfl, rfl, rfl, trivial⟩) N3 hyl hpy hyx hgo.symm))
  · intro s' hzz
    refine ex7_e hzz ?_
    clear hzz
    intro pos ys h tk tp n' u hzz
    refine an7_e hzz ?_
    clear hzz
    rintro rfl F3 N3 hyl hpy hyx hgo
    (try clear F2 N2)
    (repeat' ((fail_if_success (with_reducible (first | show gz2 | show gz3 | show gz4 | show gz5 | show gz6 | show gz7 | show gz8 | show gz9 | show gz10 | show gz11 | show gz12 | show gz13 | show gz14 | show gz15))); (first | ((with_reducible show wpAny _ _ (execs _ _) _ _ _); k_gentoks) | with_reducible (first | refine execs_one ?_ | (refine execs_cut ?_; intro _ _) | (refine if_cut ?_; intro _ _)) | ((fail_if_success (with_reducible show gz1)); (first | (refine Kh.go ‹_› _ _ ?_; try dsimp only [KnP]) | ((with_reducible show TurnEnd _ _ _ _ _ _); dsimp only [TurnEnd]))) | (k_unfold; (try dsimp only)) | (k_end; wrow_close) | walk1 | (dsimp only; walk1) | (leave1; try dsimp only))))
    refine lst_set (by k_asm) (by k_asm) (Upd.head hr) (by (first | lia | omega)) (by simp; (first | lia | omega)) (by (first | lia | omega)) ?_
    intro h5 F5 N5
    rw [refs_set] at N5
    (repeat' ((fail_if_success (with_reducible (first | show gz2 | show gz3 | show gz4 | show gz5 | show gz6 | show gz7 | show gz8 | show gz9 | show gz10 | show gz11 | show gz12 | show gz13 | show gz14 | show gz15))); (first | ((with_reducible show wpAny _ _ (execs _ _) _ _ _); k_gentoks) | with_reducible (first | refine execs_one ?_ | (refine execs_cut ?_; intro _ _) | (refine if_cut ?_; intro _ _)) | ((fail_if_success (with_reducible show gz1)); (first | (refine Kh.go ‹_› _ _ ?_; try dsimp only [KnP]) | ((with_reducible show TurnEnd _ _ _ _ _ _); dsimp only [TurnEnd]))) | (k_unfold; (try dsimp only)) | (k_end; wrow_close) | walk1 | (dsimp only; walk1) | (leave1; try dsimp only))))
    refine siftdown_spec _ _ _ _ _ _ _ _ _ _ _ _ ⟨⟨_, _, _, _, _, _, _, by k_asm, by k_asm, by k_asm⟩, rfl, rfl⟩ (by k_asm) hl (ys.set pos it) _ rest (by k_asm) hr ?_ ps pos _ _ it (by simp [hpy]) (by rw [List.length_set]; (first | lia | omega)) (by dsimp only [arn, Around.deeper]; (first | lia | omega)) (by dsimp only [arn, Around.deeper]; (first | lia | omega)) ?_
    · exact fun x hx' => (List.mem_or_eq_of_mem_set hx').elim (hyx x) fun e => e ▸ hx it (List.mem_of_getElem? hit)
    intro h6 tk6 n6 F6 N6
    (repeat' ((fail_if_success (with_reducible (first | show gz2 | show gz3 | show gz4 | show gz5 | show gz6 | show gz7 | show gz8 | show gz9 | show gz10 | show gz11 | show gz12 | show gz13 | show gz14 | show gz15))); (first | ((with_reducible show wpAny _ _ (execs _ _) _ _ _); k_gentoks) | with_reducible (first | refine execs_one ?_ | (refine execs_cut ?_; intro _ _) | (refine if_cut ?_; intro _ _)) | ((fail_if_success (with_reducible show gz1)); (first | (refine Kh.go ‹_› _ _ ?_; try dsimp only [KnP]) | ((with_reducible show TurnEnd _ _ _ _ _ _); dsimp only [TurnEnd]))) | (k_unfold; (try dsimp only)) | (k_end; wrow_close) | walk1 | (dsimp only; walk1) | (leave1; try dsimp only))))
    exact ret _ _ _ (by k_asm) (by rw [siftup, hgo]; k_asm)
end
section
theorem set_swap_perm {α : Type} [DecidableEq α] (xs : List α) (i j : Nat) (p it : α) (hij : i ≠ j) (hi : i < xs.length) (hj : xs[j]? = some p) : ((xs.set i p).set j it).Perm (xs.set i it) := by
  obtain ⟨hjl, hjp⟩ := List.getElem?_eq_some_iff.mp hj
  refine List.perm_iff_count.mpr fun a => ?_
  rw [List.count_set (by rw [List.length_set]; exact hjl), List.count_set hi, List.count_set hi, List.getElem_set_ne hij, hjp]
  have h1 : 0 < xs.count xs[i] := List.count_pos_iff.mpr (List.getElem_mem hi)
  have h2 : 0 < xs.count p := List.count_pos_iff.mpr (List.mem_of_getElem? hj)
  by_cases e1 : xs[i] = a <;> by_cases e2 : p = a <;> by_cases e3 : it = a <;> simp [e1, e2, e3] <;> (try subst e1) <;> (try subst e2) <;> (first | lia | omega)
theorem sdGo_perm (it : X3) (st : Nat) : ∀ (pos : Nat) (xs : List X3), pos < xs.length → (sdGo it st pos xs).Perm (xs.set pos it) := by
  intro pos
  induction pos using Nat.strongRecOn with
  | _ pos ih =>
    intro xs hp
    rw [sdGo]
    split
    · rename_i hlt
      split
      · rename_i p hpp
        split
        · refine (ih ((pos - 1) / 2) (by (first | lia | omega)) _ (by rw [List.length_set]; (first | lia | omega))).trans ?_
          exact set_swap_perm xs pos _ p it (by (first | lia | omega)) hp hpp
        · exact .refl _
      · exact .refl _
    · exact .refl _
theorem suGo_perm (it : X3) : ∀ (n pos : Nat) (xs : List X3), xs.length - pos = n → pos < xs.length → (suGo pos xs).1 < (suGo pos xs).2.length ∧ ((suGo pos xs).2.set (suGo pos xs).1 it).Perm (xs.set pos it) := by
  intro n
  induction n using Nat.strongRecOn with
  | _ n ih =>
    intro pos xs hn hp
    rw [suGo]
    split
    · rename_i hlt
      split
      · rename_i p hpp
        have hge := child_ge pos xs
        obtain ⟨h1, h2⟩ := ih ((xs.set pos p).length - child pos xs) (by rw [List.length_set]; (first | lia | omega)) (child pos xs) (xs.set pos p) rfl (by rw [List.length_set]; exact (List.getElem?_eq_some_iff.mp hpp).1)
        exact ⟨h1, h2.trans (set_swap_perm xs pos _ p it (by (first | lia | omega)) hp hpp)⟩
      · exact ⟨hp, .refl _⟩
    · exact ⟨hp, .refl _⟩
theorem set_getElem_self {α : Type} : ∀ {xs : List α} {i : Nat} {a : α}, xs[i]? = some a → xs.set i a = xs
  | [], _, _, h => by cases h
  | x :: l, 0, a, h => by cases h; rfl
  | x :: l, i + 1, a, h => by
    show x :: l.set i a = x :: l
    rw [set_getElem_self (by simpa using h)]
theorem siftup_perm (pos : Nat) (it : X3) (xs : List X3) (h : xs[pos]? = some it) : (siftup pos it xs).Perm xs := by
  have hp := (List.getElem?_eq_some_iff.mp h).1
  obtain ⟨h1, h2⟩ := suGo_perm it _ pos xs rfl hp
  unfold siftup
  refine (sdGo_perm it pos _ _ (by rw [List.length_set]; exact h1)).trans ?_
  rw [List.set_set]
  rw [set_getElem_self h] at h2
  exact h2
noncomputable def su (i : Nat) (ys : List X3) : List X3 := match ys[i]? with
  | some it => siftup i it ys
  | none => ys
theorem su_perm (i : Nat) (ys : List X3) : (su i ys).Perm ys := by
  unfold su
  split
  · rename_i it h; exact siftup_perm i it ys h
  · exact .refl _
noncomputable def hfy : Nat → List X3 → List X3
  | 0, ys => ys
  | k + 1, ys => hfy k (su k ys)
theorem hfy_perm : ∀ (k : Nat) (ys : List X3), (hfy k ys).Perm ys
  | 0, _ => .refl _
  | k + 1, ys => (hfy_perm k (su k ys)).trans (su_perm k ys)
end
section
theorem half3 {n : Nat} (h : n = 6 ∨ n = 7) : Int.fdiv (n : Int) 2 = 3 := by rcases h with rfl | rfl <;> decide
theorem heapify_spec {prog : Program} {w : World} (dp un : Nat) (gd : Option (List Code)) (env : Env) (outer : List Env) (h₀ : Heap) (L : Addr) (m : Str → Option Value) (s : Shared)
    (Q E : Value → Shared → Prop) (C : Cx w env outer h₀ L) (F : Fr h₀ L s.heap m) (hl : Addr) (xs : List X3) (n : Nat) (rest : List (Addr × Obj)) (N : News h₀ L s.heap ((hl, lstObj (refsOf xs) n) :: rest))
    (hr : ∀ p ∈ rest, p.1 ≠ hl) (hx : ∀ x ∈ xs, TriIn rest x) (hlen : xs.length = 6 ∨ xs.length = 7)
    (hd : dp + 6 < recursionLimit) (hu : un + 48 < cLine)
    (ret : ∀ h' tk' n', Fr h₀ L h' m → News h₀ L h' ((hl, lstObj (refsOf (hfy 3 xs)) n') :: rest) → Q .none { s with heap := h', toks := tk' }) :
    wpAny (model prog w) (arn none dp un gd env outer) (call (.ref 155) [.ref hl]) Q E s := by
  refine cx_e C ?_
  intro p loose mean mg mb A₀ base B X T hf hk
  refine wpAny_call ?_
  k_dflt (refine' code_def ?k1 ?k2 ?k3 ?k4 ?k5 ?kA ?kF ?kK ?k6 ?k7 ?k8 ?k9 ?kB ?_ ?c2 ?c3 ?c4 ?c5; (case kA => exact rfl); (case kF => first | assumption | exact rfl); (case kK => first | assumption | exact rfl); (case k1 => k_asm); (case k2 => k_asm); (case k3 => k_asm); (case k4 => k_asm); (case k5 => k_asm); (case k6 => k_is); (case k7 => k_is); (case k8 => k_room); (case k9 => first | exact BindsTo.of_eq rfl | exact binds_K (by k_in) rfl (by k_is) rfl rfl rfl); (case c5 => decide); (case kB => exact locs rfl); (case c2 => exact rfl); (case c3 => exact rfl); (case c4 => exact rfl))
  intro g L1 h1 FG F1 N1 B1 X1 T1
  (try dsimp only)
  (try k_fold)
  (repeat' ((fail_if_success (with_reducible (first | show gz2 | show gz3 | show gz4 | show gz5 | show gz6 | show gz7 | show gz8 | show gz9 | show gz10 | show gz11 | show gz12 | show gz13 | show gz14 | show gz15))); (first | ((with_reducible show wpAny _ _ (execs _ _) _ _ _); k_gentoks) | with_reducible (first | refine execs_one ?_ | (refine execs_cut ?_; intro _ _) | (refine if_cut ?_; intro _ _)) | ((fail_if_success (with_reducible show gz1)); (first | (refine Kh.go ‹_› _ _ ?_; try dsimp only [KnP]) | ((with_reducible show TurnEnd _ _ _ _ _ _); dsimp only [TurnEnd]))) | (k_unfold; (try dsimp only)) | (k_end; wrow_close) | walk1 | (dsimp only; walk1) | (leave1; try dsimp only))))
  refine kst_len (k := xs.length) (by k_asm) (by k_mem) (by simp) (by (first | lia | omega)) ?_
  (repeat' ((fail_if_success (with_reducible (first | show gz2 | show gz3 | show gz4 | show gz5 | show gz6 | show gz7 | show gz8 | show gz9 | show gz10 | show gz11 | show gz12 | show gz13 | show gz14 | show gz15))); (first | ((with_reducible show wpAny _ _ (execs _ _) _ _ _); k_gentoks) | with_reducible (first | refine execs_one ?_ | (refine execs_cut ?_; intro _ _) | (refine if_cut ?_; intro _ _)) | ((fail_if_success (with_reducible show gz1)); (first | (refine Kh.go ‹_› _ _ ?_; try dsimp only [KnP]) | ((with_reducible show TurnEnd _ _ _ _ _ _); dsimp only [TurnEnd]))) | (k_unfold; (try dsimp only)) | (k_end; wrow_close) | walk1 | (dsimp only; walk1) | (leave1; try dsimp only))))
  refine my_for ?_
  have h3 := half3 hlen
  (repeat' ((fail_if_success (with_reducible (first | show gz2 | show gz3 | show gz4 | show gz5 | show gz6 | show gz7 | show gz8 | show gz9 | show gz10 | show gz11 | show gz12 | show gz13 | show gz14 | show gz15))); (first | ((with_reducible show wpAny _ _ (execs _ _) _ _ _); k_gentoks) | with_reducible (first | refine execs_one ?_ | (refine execs_cut ?_; intro _ _) | (refine if_cut ?_; intro _ _)) | ((fail_if_success (with_reducible show gz1)); (first | (refine Kh.go ‹_› _ _ ?_; try dsimp only [KnP]) | ((with_reducible show TurnEnd _ _ _ _ _ _); dsimp only [TurnEnd]))) | (k_unfold; (try dsimp only)) | (k_end; wrow_close) | walk1 | (dsimp only; walk1) | (leave1; try dsimp only))))
  rename IsRange _ _ _ _ _ _ _ _ => hR
  rename ∀ (b : Addr) (o : Obj), _ → _ => hkp
  rename Fr _ _ _ _ => F2
  rename News _ _ _ _ => N2
  rw [h3] at hR
  have F3 := F2
  have N3 := N2
  refine call_reversed_range hR ?_
  obtain ⟨F4, N4, l4⟩ := push_news (s := { s with heap := _, toks := 0 }) (o := rngIt 2 3 (-1)) F3 N3
  refine wpAny_pyIter_rangeit (N4 _ (.head _)).1 ?_
  dsimp only at N4 F4 l4
  generalize hit : Array.size _ = it at N4 l4 ⊢
  have hne : ∀ p ∈ (hl, lstObj (refsOf xs) n) :: rest, p.1 ≠ it := fun p hp => Nat.ne_of_lt (l4 p hp)
  refine Stop.mk (my_forLoop (fun k s' => ∃ (i : Nat) (ys : List X3) (h : Heap) (tk n' : Nat) (u : Str → Option Value), k = i + 1 ∧ s' = { s with heap := h, toks := tk } ∧ i ≤ 3 ∧
    Fr g L1 h (kB u [(Str.ofString "x", .ref hl)]) ∧ News g L1 h ((it, rngIt ((i : Int) - 1) i (-1)) :: (hl, lstObj (refsOf ys) n') :: rest) ∧ ys.Perm xs ∧ hfy i ys = hfy 3 xs)
    (fun s' => ∃ (h : Heap) (tk n' : Nat) (u : Str → Option Value), s' = { s with heap := h, toks := tk } ∧ Fr g L1 h u ∧ News g L1 h ((hl, lstObj (refsOf (hfy 3 xs)) n') :: rest)) ?_ 4
    (ex6_i 3 xs _ _ _ _ (an7_i rfl rfl (by (first | lia | omega)) (frB _ F4 ⟨rfl, trivial⟩) N4 (.refl _) rfl)) ?_)
  · intro I1z R1z Q1z hI1z hR1z hQ1z k s' hzz
    refine ex6_e hzz ?_
    clear hzz
    intro i ys h tk n' u hzz
    refine an7_e hzz ?_
    clear hzz
    rintro rfl rfl hi F5 N5 hpm hgo
    have hyl := hpm.length_eq
    cases i with
    | zero =>
      exact rng_end rfl F5 N5 (List.forall_mem_cons.mpr ⟨(List.forall_mem_cons.mp hne).1, (List.forall_mem_cons.mp hne).2⟩) (by (first | lia | omega)) fun h6 F6 N6 => StopP (hR1z _) (ex4_i _ _ _ _ (an3_i rfl F6 (by rw [← hgo]; exact N6)))
    | succ i =>
      refine rng_next F5 N5 (Upd.head (List.forall_mem_cons.mpr ⟨(List.forall_mem_cons.mp hne).1, (List.forall_mem_cons.mp hne).2⟩)) (by (first | lia | omega)) fun h6 F6 N6 => ?_
      dsimp only [NextIs]
      rw [show ((i + 1 : Nat) : Int) - 1 = (i : Int) by (first | lia | omega)] at *
      refine wpAny_assign_Name ?_
      (repeat' ((fail_if_success (with_reducible (first | show gz2 | show gz3 | show gz4 | show gz5 | show gz6 | show gz7 | show gz8 | show gz9 | show gz10 | show gz11 | show gz12 | show gz13 | show gz14 | show gz15))); (first | ((with_reducible show wpAny _ _ (execs _ _) _ _ _); k_gentoks) | with_reducible (first | refine execs_one ?_ | (refine execs_cut ?_; intro _ _) | (refine if_cut ?_; intro _ _)) | ((fail_if_success (with_reducible show gz1)); (first | (refine Kh.go ‹_› _ _ ?_; try dsimp only [KnP]) | ((with_reducible show TurnEnd _ _ _ _ _ _); dsimp only [TurnEnd]))) | (k_unfold; (try dsimp only)) | (k_end; wrow_close) | walk1 | (dsimp only; walk1) | (leave1; try dsimp only))))
      rename Fr _ _ _ _ => F7
      rename News _ _ _ _ => N7
      obtain ⟨ti, hti⟩ : ∃ ti, ys[i]? = some ti := ⟨ys[i]'(by (first | lia | omega)), by simp⟩
      refine siftup_spec _ _ _ _ _ _ _ _ _ _ _ _ ⟨⟨_, _, _, _, _, _, _, by k_asm, by k_asm, by k_asm⟩, rfl, rfl⟩ F7 hl ys _ ((it, _) :: rest) (news_swap N7) (List.forall_mem_cons.mpr ⟨Ne.symm (List.forall_mem_cons.mp hne).1, hr⟩) ?_ i _ ti hti (by (first | lia | omega)) (by dsimp only [arn, Around.deeper]; (first | lia | omega)) (by dsimp only [arn, Around.deeper]; (first | lia | omega)) ?_
      · intro x hx'
        obtain ⟨a, b, c, d, e⟩ := hx x (hpm.mem_iff.mp hx')
        exact ⟨a, b, c, d, .tail _ e⟩
      intro h8 tk8 n8 F8 N8
      have N9 := news_swap N8
      clear N7 N8 F7
      (repeat' ((fail_if_success (with_reducible (first | show gz2 | show gz3 | show gz4 | show gz5 | show gz6 | show gz7 | show gz8 | show gz9 | show gz10 | show gz11 | show gz12 | show gz13 | show gz14 | show gz15))); (first | ((with_reducible show wpAny _ _ (execs _ _) _ _ _); k_gentoks) | with_reducible (first | refine execs_one ?_ | (refine execs_cut ?_; intro _ _) | (refine if_cut ?_; intro _ _)) | ((fail_if_success (with_reducible show gz1)); (first | (refine Kh.go ‹_› _ _ ?_; try dsimp only [KnP]) | ((with_reducible show TurnEnd _ _ _ _ _ _); dsimp only [TurnEnd]))) | (k_unfold; (try dsimp only)) | (k_end; wrow_close) | walk1 | (dsimp only; walk1) | (leave1; try dsimp only))))
      rw [show ((i : Int) + -1) = (i : Int) - 1 by (first | lia | omega)] at N9
      have hg9 : hfy i (siftup i ti ys) = hfy 3 xs := by
        rw [← hgo]
        show hfy i (siftup i ti ys) = hfy i (su i ys)
        unfold su
        rw [hti]
      exact StopN hI1z (i + 1) (by (first | lia | omega)) (ex6_i i (siftup i ti ys) _ _ _ _ (an7_i rfl rfl (by (first | lia | omega)) (frB _ F8 ⟨rfl, trivial⟩) N9 ((siftup_perm i ti ys hti).trans hpm) hg9))
  · intro s' hzz
    refine ex4_e hzz ?_
    clear hzz
    intro h tk n' u hzz
    refine an3_e hzz ?_
    clear hzz
    rintro rfl F5 N5
    (repeat' ((fail_if_success (with_reducible (first | show gz2 | show gz3 | show gz4 | show gz5 | show gz6 | show gz7 | show gz8 | show gz9 | show gz10 | show gz11 | show gz12 | show gz13 | show gz14 | show gz15))); (first | ((with_reducible show wpAny _ _ (execs _ _) _ _ _); k_gentoks) | with_reducible (first | refine execs_one ?_ | (refine execs_cut ?_; intro _ _) | (refine if_cut ?_; intro _ _)) | ((fail_if_success (with_reducible show gz1)); (first | (refine Kh.go ‹_› _ _ ?_; try dsimp only [KnP]) | ((with_reducible show TurnEnd _ _ _ _ _ _); dsimp only [TurnEnd]))) | (k_unfold; (try dsimp only)) | (k_end; wrow_close) | walk1 | (dsimp only; walk1) | (leave1; try dsimp only))))
    exact ret _ _ _ (by k_asm) (by k_asm)
end
section
noncomputable def hpop (ys : List X3) (last : X3) : X3 × List X3 := match ys with
  | [] => (last, [])
  | y :: r => (y, siftup 0 last (last :: r))
theorem refs_snoc (ys : List X3) (x : X3) : refsOf (ys ++ [x]) = refsOf ys ++ [.ref x.1] := by simp [refsOf]
theorem heappop_spec {prog : Program} {w : World} (dp un : Nat) (gd : Option (List Code)) (env : Env) (outer : List Env) (h₀ : Heap) (L : Addr) (m : Str → Option Value) (s : Shared)
    (Q E : Value → Shared → Prop) (C : Cx w env outer h₀ L) (F : Fr h₀ L s.heap m) (hl : Addr) (ys : List X3) (last : X3) (n : Nat) (rest : List (Addr × Obj)) (N : News h₀ L s.heap ((hl, lstObj (refsOf (ys ++ [last])) n) :: rest))
    (hr : ∀ p ∈ rest, p.1 ≠ hl) (hx : ∀ x ∈ ys ++ [last], TriIn rest x) (hlen : ys.length < 10)
    (hd : dp + 6 < recursionLimit) (hu : un + 48 < cLine)
    (ret : ∀ h' tk' n', Fr h₀ L h' m → News h₀ L h' ((hl, lstObj (refsOf (hpop ys last).2) n') :: rest) → Q (.ref (hpop ys last).1.1) { s with heap := h', toks := tk' }) :
    wpAny (model prog w) (arn none dp un gd env outer) (call (.ref 148) [.ref hl]) Q E s := by
  refine cx_e C ?_
  intro p loose mean mg mb A₀ base B X T hf hk
  rw [refs_snoc] at N
  refine wpAny_call ?_
  k_dflt (refine' code_def ?k1 ?k2 ?k3 ?k4 ?k5 ?kA ?kF ?kK ?k6 ?k7 ?k8 ?k9 ?kB ?_ ?c2 ?c3 ?c4 ?c5; (case kA => exact rfl); (case kF => first | assumption | exact rfl); (case kK => first | assumption | exact rfl); (case k1 => k_asm); (case k2 => k_asm); (case k3 => k_asm); (case k4 => k_asm); (case k5 => k_asm); (case k6 => k_is); (case k7 => k_is); (case k8 => k_room); (case k9 => first | exact BindsTo.of_eq rfl | exact binds_K (by k_in) rfl (by k_is) rfl rfl rfl); (case c5 => decide); (case kB => exact locs rfl); (case c2 => exact rfl); (case c3 => exact rfl); (case c4 => exact rfl))
  intro g L1 h1 FG F1 N1 B1 X1 T1
  (try dsimp only)
  (try k_fold)
  (repeat' ((fail_if_success (with_reducible (first | show gz2 | show gz3 | show gz4 | show gz5 | show gz6 | show gz7 | show gz8 | show gz9 | show gz10 | show gz11 | show gz12 | show gz13 | show gz14 | show gz15))); (first | ((with_reducible show wpAny _ _ (execs _ _) _ _ _); k_gentoks) | with_reducible (first | refine execs_one ?_ | (refine execs_cut ?_; intro _ _) | (refine if_cut ?_; intro _ _)) | ((fail_if_success (with_reducible show gz1)); (first | (refine Kh.go ‹_› _ _ ?_; try dsimp only [KnP]) | ((with_reducible show TurnEnd _ _ _ _ _ _); dsimp only [TurnEnd]))) | (k_unfold; (try dsimp only)) | (k_end; wrow_close) | walk1 | (dsimp only; walk1) | (leave1; try dsimp only))))
  refine lst_pop (p := refsOf ys) (y := .ref last.1) (by k_asm) (by k_asm) (Upd.head hr) (by simp; (first | lia | omega)) ?_
  intro h2 F2 N2
  (repeat' ((fail_if_success (with_reducible (first | show gz2 | show gz3 | show gz4 | show gz5 | show gz6 | show gz7 | show gz8 | show gz9 | show gz10 | show gz11 | show gz12 | show gz13 | show gz14 | show gz15))); (first | ((with_reducible show wpAny _ _ (execs _ _) _ _ _); k_gentoks) | with_reducible (first | refine execs_one ?_ | (refine execs_cut ?_; intro _ _) | (refine if_cut ?_; intro _ _)) | ((fail_if_success (with_reducible show gz1)); (first | (refine Kh.go ‹_› _ _ ?_; try dsimp only [KnP]) | ((with_reducible show TurnEnd _ _ _ _ _ _); dsimp only [TurnEnd]))) | (k_unfold; (try dsimp only)) | (k_end; wrow_close) | walk1 | (dsimp only; walk1) | (leave1; try dsimp only))))
  · rename List.isEmpty _ = true => he
    cases ys with
    | cons y r => cases he
    | nil => exact ret _ _ _ (by k_asm) (by k_asm)
  · rename List.isEmpty _ = false => he
    cases ys with
    | nil => cases he
    | cons y r =>
      refine lst_item (v := .ref y.1) (by k_asm) (by k_mem) (by (first | lia | omega)) (by (first | lia | omega)) rfl ?_
      (repeat' ((fail_if_success (with_reducible (first | show gz2 | show gz3 | show gz4 | show gz5 | show gz6 | show gz7 | show gz8 | show gz9 | show gz10 | show gz11 | show gz12 | show gz13 | show gz14 | show gz15))); (first | ((with_reducible show wpAny _ _ (execs _ _) _ _ _); k_gentoks) | with_reducible (first | refine execs_one ?_ | (refine execs_cut ?_; intro _ _) | (refine if_cut ?_; intro _ _)) | ((fail_if_success (with_reducible show gz1)); (first | (refine Kh.go ‹_› _ _ ?_; try dsimp only [KnP]) | ((with_reducible show TurnEnd _ _ _ _ _ _); dsimp only [TurnEnd]))) | (k_unfold; (try dsimp only)) | (k_end; wrow_close) | walk1 | (dsimp only; walk1) | (leave1; try dsimp only))))
      rename News _ _ _ _ => N3
      have N3' : News g L1 _ ((hl, lstObj (refsOf (last :: r)) (n + 1)) :: rest) := N3
      clear N3
      refine siftup_spec _ _ _ _ _ _ _ _ _ _ _ _ ⟨⟨_, _, _, _, _, _, _, by k_asm, by k_asm, by k_asm⟩, rfl, rfl⟩ (by k_asm) hl (last :: r) _ rest (by k_asm) hr ?_ 0 _ last rfl (by simp at hlen ⊢; (first | lia | omega)) (by dsimp only [arn, Around.deeper]; (first | lia | omega)) (by dsimp only [arn, Around.deeper]; (first | lia | omega)) ?_
      · intro x hx'
        refine hx x ?_
        rcases List.mem_cons.mp hx' with rfl | h'
        · simp
        · simp [h']
      intro h8 tk8 n8 F8 N8
      (repeat' ((fail_if_success (with_reducible (first | show gz2 | show gz3 | show gz4 | show gz5 | show gz6 | show gz7 | show gz8 | show gz9 | show gz10 | show gz11 | show gz12 | show gz13 | show gz14 | show gz15))); (first | ((with_reducible show wpAny _ _ (execs _ _) _ _ _); k_gentoks) | with_reducible (first | refine execs_one ?_ | (refine execs_cut ?_; intro _ _) | (refine if_cut ?_; intro _ _)) | ((fail_if_success (with_reducible show gz1)); (first | (refine Kh.go ‹_› _ _ ?_; try dsimp only [KnP]) | ((with_reducible show TurnEnd _ _ _ _ _ _); dsimp only [TurnEnd]))) | (k_unfold; (try dsimp only)) | (k_end; wrow_close) | walk1 | (dsimp only; walk1) | (leave1; try dsimp only))))
      exact ret _ _ _ (by k_asm) (by k_asm)
end
section
noncomputable abbrev srtEs (w : World) (t1 t2 t3 t4 : Tok) (d : Addr) (rd np nf : Value) : List DictEntry :=
  [⟨PyData.keyHash w.params (Str.ofString "_node2info"), .str (Str.ofString "_node2info") t1, .ref d⟩,
   ⟨PyData.keyHash w.params (Str.ofString "_ready_nodes"), .str (Str.ofString "_ready_nodes") t2, rd⟩,
   ⟨PyData.keyHash w.params (Str.ofString "_npassedout"), .str (Str.ofString "_npassedout") t3, np⟩,
   ⟨PyData.keyHash w.params (Str.ofString "_nfinished"), .str (Str.ofString "_nfinished") t4, nf⟩]
noncomputable abbrev infoObj (da sa : Addr) (np : Int) (tn : Tok) (k : Int) (tk : Tok) : Obj := ⟨.ref 40, some da, .plain, #[some (.int k tk), some (.int np tn), some (.ref sa)]⟩
noncomputable abbrev valsOf (l : List (Int × Tok)) : List Value := l.map fun p => .int p.1 p.2
structure Nd where
  key : Int
  kt : Tok
  ia : Addr
  da : Addr
  sa : Addr
  np : Int
  nt : Tok
  sc : List (Int × Tok)
  se : Nat
noncomputable def Nd.led (d : Nd) : List (Addr × Obj) := [(d.ia, infoObj d.da d.sa d.np d.nt d.key d.kt), (d.da, dictOf [] 0), (d.sa, lstObj (valsOf d.sc) d.se)]
noncomputable def gLed : List Nd → List (Addr × Obj)
  | [] => []
  | d :: G => d.led ++ gLed G
noncomputable def gKvs (G : List Nd) : List (Int × Value) := G.map fun d => (d.key, .ref d.ia)
theorem gKvs_some {G : List Nd} (hn : (G.map (·.key)).Nodup) {e : Nd} (he : e ∈ G) : valueAt (gKvs G) e.key = some (.ref e.ia) := by
  induction G with
  | nil => cases he
  | cons a r ih =>
    simp only [List.map_cons, List.nodup_cons] at hn
    unfold valueAt gKvs
    rw [List.map_cons, List.find?_cons]
    rcases List.mem_cons.mp he with rfl | h
    · simp
    · have hne : a.key ≠ e.key := fun q => hn.1 (by rw [q]; exact List.mem_map_of_mem h)
      simp only [hne, decide_false]
      exact ih hn.2 h
theorem gKvs_none {G : List Nd} {k : Int} (he : ∀ e ∈ G, e.key ≠ k) : valueAt (gKvs G) k = none := by
  unfold valueAt gKvs
  rw [Option.map_eq_none_iff, List.find?_eq_none]
  intro x hx
  obtain ⟨e, h1, rfl⟩ := List.mem_map.mp hx
  simpa using he e h1
theorem stored_new {G : List Nd} {k : Int} {v : Value} (he : ∀ e ∈ G, e.key ≠ k) : stored (gKvs G) k v = gKvs G ++ [(k, v)] := by
  unfold stored gKvs
  rw [if_neg]
  simp only [List.any_map, List.any_eq_true, Function.comp, decide_eq_true_eq, not_exists, not_and]
  exact he
theorem news_rot3 {h₀ h : Heap} {L : Addr} {l x d a b c : Addr × Obj} {rest : List (Addr × Obj)} (N : News h₀ L h (l :: x :: d :: a :: b :: c :: rest)) : News h₀ L h (a :: b :: c :: x :: d :: l :: rest) := fun p hp => N p (by
  simp only [List.mem_cons] at hp ⊢
  rcases hp with h | h | h | h | h | h | h <;> simp [h])
theorem getinfo_spec {prog : Program} {w : World} (hn : Option Value) (dp un : Nat) (gd : Option (List Code)) (env : Env) (outer : List Env) (h₀ : Heap) (L : Addr) (m : Str → Option Value) (s : Shared)
    (Q E : Value → Shared → Prop) (C : Cx w env outer h₀ L) (F : Fr h₀ L s.heap m) (x dx d : Addr) (n : Nat) (t1 t2 t3 t4 : Tok) (rd np nf : Value) (o : Obj) (rest : List (Addr × Obj)) (G : List Nd) (k : Int) (t : Tok)
    (N : News h₀ L s.heap ((x, instObj 137 dx) :: (dx, dictOf (srtEs w t1 t2 t3 t4 d rd np nf) n) :: (d, o) :: rest))
    (hx1 : @Ne Nat x d) (hx2 : @Ne Nat dx d) (hr : ∀ p ∈ rest, p.1 ≠ d)
    (hdict : o.IsDictOf (intKind prog w) (gKvs G)) (hsys : (d == sysModules) = false) (hG : (G.map (·.key)).Nodup) (hGl : G.length < 100)
    (hd : dp + 6 < recursionLimit) (hu : un + 48 < cLine)
    (ret1 : ∀ e ∈ G, e.key = k → ∀ h' tk', Fr h₀ L h' m → News h₀ L h' ((x, instObj 137 dx) :: (dx, dictOf (srtEs w t1 t2 t3 t4 d rd np nf) n) :: (d, o) :: rest) → Q (.ref e.ia) { s with heap := h', toks := tk' })
    (ret2 : (∀ e ∈ G, e.key ≠ k) → ∀ h' tk' o' (e : Nd), e.key = k → e.np = 0 → e.sc = [] → o'.IsDictOf (intKind prog w) (gKvs (G ++ [e])) → Fr h₀ L h' m →
      News h₀ L h' ((x, instObj 137 dx) :: (dx, dictOf (srtEs w t1 t2 t3 t4 d rd np nf) n) :: (d, o') :: (e.led ++ rest)) →
      (∀ p ∈ (x, instObj 137 dx) :: (dx, dictOf (srtEs w t1 t2 t3 t4 d rd np nf) n) :: (d, o) :: rest, @LT.lt Nat _ p.1 e.da) → @LT.lt Nat _ e.da e.ia → @LT.lt Nat _ e.ia e.sa → Q (.ref e.ia) { s with heap := h', toks := tk' }) :
    wpAny (model prog w) (arn hn dp un gd env outer) (call (.ref 80) [.ref x, .int k t]) Q E s := by
  refine cx_e C ?_
  intro p loose mean mg mb A₀ base B X T hf hk
  refine wpAny_call ?_
  k_dflt (refine' code_def ?k1 ?k2 ?k3 ?k4 ?k5 ?kA ?kF ?kK ?k6 ?k7 ?k8 ?k9 ?kB ?_ ?c2 ?c3 ?c4 ?c5; (case kA => exact rfl); (case kF => first | assumption | exact rfl); (case kK => first | assumption | exact rfl); (case k1 => k_asm); (case k2 => k_asm); (case k3 => k_asm); (case k4 => k_asm); (case k5 => k_asm); (case k6 => k_is); (case k7 => k_is); (case k8 => k_room); (case k9 => first | exact BindsTo.of_eq rfl | exact binds_K (by k_in) rfl (by k_is) rfl rfl rfl); (case c5 => decide); (case kB => exact locs rfl); (case c2 => exact rfl); (case c3 => exact rfl); (case c4 => exact rfl))
  intro g L1 h1 FG F1 N1 B1 X1 T1
  (try dsimp only)
  (try k_fold)
  (repeat' ((fail_if_success (with_reducible (first | show gz2 | show gz3 | show gz4 | show gz5 | show gz6 | show gz7 | show gz8 | show gz9 | show gz10 | show gz11 | show gz12 | show gz13 | show gz14 | show gz15))); (first | ((with_reducible show wpAny _ _ (execs _ _) _ _ _); k_gentoks) | with_reducible (first | refine execs_one ?_ | (refine execs_cut ?_; intro _ _) | (refine if_cut ?_; intro _ _)) | ((fail_if_success (with_reducible show gz1)); (first | (refine Kh.go ‹_› _ _ ?_; try dsimp only [KnP]) | ((with_reducible show TurnEnd _ _ _ _ _ _); dsimp only [TurnEnd]))) | (k_unfold; (try dsimp only)) | (k_end; wrow_close) | walk1 | (dsimp only; walk1) | (leave1; try dsimp only))))
  by_cases hin : ∃ e ∈ G, e.key = k
  · obtain ⟨e, he, hek⟩ := hin
    refine kdg_get1 (knd := intKind _ _) (k := k) (by k_asm) (by k_mem) hdict hsys (intKind_is _ _ _ _) (some (.ref e.ia)) (hek ▸ gKvs_some hG he) ?_
    dsimp only [Option.getD]
    (repeat' ((fail_if_success (with_reducible (first | show gz2 | show gz3 | show gz4 | show gz5 | show gz6 | show gz7 | show gz8 | show gz9 | show gz10 | show gz11 | show gz12 | show gz13 | show gz14 | show gz15))); (first | ((with_reducible show wpAny _ _ (execs _ _) _ _ _); k_gentoks) | with_reducible (first | refine execs_one ?_ | (refine execs_cut ?_; intro _ _) | (refine if_cut ?_; intro _ _)) | ((fail_if_success (with_reducible show gz1)); (first | (refine Kh.go ‹_› _ _ ?_; try dsimp only [KnP]) | ((with_reducible show TurnEnd _ _ _ _ _ _); dsimp only [TurnEnd]))) | (k_unfold; (try dsimp only)) | (k_end; wrow_close) | walk1 | (dsimp only; walk1) | (leave1; try dsimp only))))
    exact ret1 e he hek _ _ (by k_asm) (by k_asm)
  · have hin' : ∀ e ∈ G, e.key ≠ k := fun e he hk => hin ⟨e, he, hk⟩
    refine kdg_get1 (knd := intKind _ _) (k := k) (by k_asm) (by k_mem) hdict hsys (intKind_is _ _ _ _) none (gKvs_none hin') ?_
    dsimp only [Option.getD]
    (repeat' ((fail_if_success (with_reducible (first | show gz2 | show gz3 | show gz4 | show gz5 | show gz6 | show gz7 | show gz8 | show gz9 | show gz10 | show gz11 | show gz12 | show gz13 | show gz14 | show gz15))); (first | ((with_reducible show wpAny _ _ (execs _ _) _ _ _); k_gentoks) | with_reducible (first | refine execs_one ?_ | (refine execs_cut ?_; intro _ _) | (refine if_cut ?_; intro _ _)) | ((fail_if_success (with_reducible show gz1)); (first | (refine Kh.go ‹_› _ _ ?_; try dsimp only [KnP]) | ((with_reducible show TurnEnd _ _ _ _ _ _); dsimp only [TurnEnd]))) | (k_unfold; (try dsimp only)) | (k_end; wrow_close) | walk1 | (dsimp only; walk1) | (leave1; try dsimp only))))
    k_dflt (refine' kda_set (knd := intKind _ _) ?F ?N ?U hdict (intKind_is _ _ _ _) ?z ?_; (case F => k_asm); (case N => k_asm); (case U => k_updF); (case z => rw [sizeLine_eq]; unfold gKvs; rw [List.length_map]; (first | lia | omega)))
    intro h5 o5 F5 N5 hd5
    rw [stored_new hin'] at hd5
    dsimp only at N5
    (repeat' ((fail_if_success (with_reducible (first | show gz2 | show gz3 | show gz4 | show gz5 | show gz6 | show gz7 | show gz8 | show gz9 | show gz10 | show gz11 | show gz12 | show gz13 | show gz14 | show gz15))); (first | ((with_reducible show wpAny _ _ (execs _ _) _ _ _); k_gentoks) | with_reducible (first | refine execs_one ?_ | (refine execs_cut ?_; intro _ _) | (refine if_cut ?_; intro _ _)) | ((fail_if_success (with_reducible show gz1)); (first | (refine Kh.go ‹_› _ _ ?_; try dsimp only [KnP]) | ((with_reducible show TurnEnd _ _ _ _ _ _); dsimp only [TurnEnd]))) | (k_unfold; (try dsimp only)) | (k_end; wrow_close) | walk1 | (dsimp only; walk1) | (leave1; try dsimp only))))
    rename News _ _ _ _ => kN
    rename _ ∧ _ ∧ _ ∧ AllLt _ _ => l1a
    rename _ ∧ _ ∧ _ ∧ _ ∧ _ ∧ AllLt _ _ => l1b
    rename (_ : Nat) < _ => l2
    refine ret2 hin' _ _ o5 ⟨k, t, _, _, _, 0, _, [], 0⟩ rfl rfl rfl ?_ (by k_asm) (news_rot3 kN) ?_ l2 l1b.1
    · unfold gKvs at hd5 ⊢
      rw [List.map_append]
      exact hd5
    · exact List.forall_mem_cons.mpr ⟨l1a.1, List.forall_mem_cons.mpr ⟨l1a.2.1, List.forall_mem_cons.mpr ⟨l1a.2.2.1, fun p hp => kst_ltOf l1a.2.2.2 p hp⟩⟩⟩
end
section
/-- the sorter's own objects -/
structure Srt where
  x : Addr
  dx : Addr
  d : Addr
  n : Nat
  t1 : Tok
  t2 : Tok
  t3 : Tok
  t4 : Tok
noncomputable abbrev Srt.led (S : Srt) (w : World) (rd np nf : Value) (o : Obj) (r : List (Addr × Obj)) : List (Addr × Obj) := (S.x, instObj 137 S.dx) :: (S.dx, dictOf (srtEs w S.t1 S.t2 S.t3 S.t4 S.d rd np nf) S.n) :: (S.d, o) :: r
noncomputable abbrev View := List (Int × Int × List Int)
noncomputable def view (G : List Nd) : View := G.map fun e => (e.key, e.np, e.sc.map (·.1))
noncomputable def touch (k : Int) (V : View) : View := if ∃ v ∈ V, v.1 = k then V else V ++ [(k, 0, [])]
noncomputable def atKey (k : Int) (f : Int × Int × List Int → Int × Int × List Int) (V : View) : View := V.map fun v => if v.1 = k then f v else v
noncomputable def add0 (k : Int) (V : View) : View := touch k V
noncomputable def add1 (l f : Int) (V : View) : View := atKey f (fun v => (v.1, v.2.1, v.2.2 ++ [l])) (touch f (atKey l (fun v => (v.1, v.2.1 + 1, v.2.2)) (touch l V)))
noncomputable def Bnd (V : View) : Prop := ∀ v ∈ V, v.2.2.length < 100
theorem bnd_touch {k : Int} {V : View} (h : Bnd V) : Bnd (touch k V) := by
  unfold touch
  split
  · exact h
  · intro v hv
    rcases List.mem_append.mp hv with hv | hv
    · exact h v hv
    · rw [List.mem_singleton.mp hv]; simp
theorem bnd_bump {k : Int} {V : View} (h : Bnd V) : Bnd (atKey k (fun v => (v.1, v.2.1 + 1, v.2.2)) V) := by
  intro v hv
  obtain ⟨q, hq, rfl⟩ := List.mem_map.mp hv
  dsimp only
  split <;> exact h q hq
theorem bnd_nd {G : List Nd} (h : Bnd (view G)) {e : Nd} (he : e ∈ G) : e.sc.length < 100 := by
  have := h _ (List.mem_map_of_mem he)
  simpa using this
noncomputable abbrev Apart (l : List (Addr × Obj)) : Prop := (l.map (·.1)).Nodup
theorem view_keys (G : List Nd) : (view G).map (·.1) = G.map (·.key) := by unfold view; rw [List.map_map]; rfl
theorem gLed_append : ∀ (G H : List Nd), gLed (G ++ H) = gLed G ++ gLed H
  | [], H => rfl
  | d :: G, H => by show d.led ++ gLed (G ++ H) = (d.led ++ gLed G) ++ gLed H; rw [gLed_append G H, List.append_assoc]
theorem news_perm {h₀ h : Heap} {L : Addr} {l l' : List (Addr × Obj)} (N : News h₀ L h l) (p : l.Perm l') : News h₀ L h l' := fun q hq => N q (p.mem_iff.mpr hq)
theorem apart_perm {l l' : List (Addr × Obj)} (a : Apart l) (p : l.Perm l') : Apart l' := (p.map _).nodup_iff.mp a
theorem focus_perm (A B C : List (Addr × Obj)) (G1 G2 : List Nd) (e : Nd) : (A ++ (gLed (G1 ++ e :: G2) ++ B)).Perm (e.led ++ (A ++ (gLed (G1 ++ G2) ++ B))) := by
  rw [gLed_append, gLed_append, show gLed (e :: G2) = e.led ++ gLed G2 from rfl]
  simp only [List.append_assoc]
  refine ((List.perm_append_comm_assoc (gLed G1) e.led _).append_left A).trans ?_
  exact List.perm_append_comm_assoc A e.led _
theorem apart_ne {p : Addr × Obj} {l : List (Addr × Obj)} (a : Apart (p :: l)) : ∀ q ∈ l, q.1 ≠ p.1 := fun q hq e => by
  have h := (List.nodup_cons.mp (show (p.1 :: l.map (·.1)).Nodup from a)).1
  exact h (e ▸ List.mem_map_of_mem hq)
theorem apart_tail {p : Addr × Obj} {l : List (Addr × Obj)} (a : Apart (p :: l)) : Apart l := (List.nodup_cons.mp (show (p.1 :: l.map (·.1)).Nodup from a)).2
theorem apart_cons {p : Addr × Obj} {l : List (Addr × Obj)} (h : ∀ q ∈ l, q.1 ≠ p.1) (a : Apart l) : Apart (p :: l) :=
  show (p.1 :: l.map (·.1)).Nodup from List.nodup_cons.mpr ⟨fun hm => by obtain ⟨q, hq, e⟩ := List.mem_map.mp hm; exact h q hq e, a⟩
theorem apart_lt {p : Addr × Obj} {l : List (Addr × Obj)} (h : ∀ q ∈ l, @LT.lt Nat _ q.1 p.1) (a : Apart l) : Apart (p :: l) := apart_cons (fun q hq => Nat.ne_of_lt (h q hq)) a
theorem apart6 {p1 p2 p3 p4 p5 p6 : Addr × Obj} {r : List (Addr × Obj)} (a : Apart (p1 :: p2 :: p3 :: p4 :: p5 :: p6 :: r)) :
    (@Ne Nat p2.1 p1.1 ∧ @Ne Nat p3.1 p1.1 ∧ @Ne Nat p4.1 p1.1 ∧ @Ne Nat p5.1 p1.1 ∧ @Ne Nat p6.1 p1.1 ∧ ∀ q ∈ r, q.1 ≠ p1.1) ∧ (@Ne Nat p4.1 p3.1 ∧ @Ne Nat p5.1 p3.1 ∧ @Ne Nat p6.1 p3.1 ∧ ∀ q ∈ r, q.1 ≠ p3.1) ∧ @Ne Nat p2.1 p3.1 := by
  have h1 := apart_ne a
  have h2 := apart_ne (apart_tail (apart_tail a))
  have h3 := apart_ne (apart_tail a)
  exact ⟨⟨h1 p2 (by simp), h1 p3 (by simp), h1 p4 (by simp), h1 p5 (by simp), h1 p6 (by simp), fun q hq => h1 q (by simp [hq])⟩, ⟨h2 p4 (by simp), h2 p5 (by simp), h2 p6 (by simp), fun q hq => h2 q (by simp [hq])⟩, fun e => h3 p3 (by simp) e.symm⟩
theorem apart6_e {p1 p2 p3 p4 p5 p6 : Addr × Obj} {r : List (Addr × Obj)} (a : Apart (p1 :: p2 :: p3 :: p4 :: p5 :: p6 :: r)) {G : Prop}
    (k : @Ne Nat p2.1 p1.1 → @Ne Nat p3.1 p1.1 → @Ne Nat p4.1 p1.1 → @Ne Nat p5.1 p1.1 → @Ne Nat p6.1 p1.1 → (∀ q ∈ r, q.1 ≠ p1.1) → @Ne Nat p4.1 p3.1 → @Ne Nat p5.1 p3.1 → @Ne Nat p6.1 p3.1 → (∀ q ∈ r, q.1 ≠ p3.1) → @Ne Nat p2.1 p3.1 → G) : G :=
  have x := apart6 a
  k x.1.1 x.1.2.1 x.1.2.2.1 x.1.2.2.2.1 x.1.2.2.2.2.1 x.1.2.2.2.2.2 x.2.1.1 x.2.1.2.1 x.2.1.2.2.1 x.2.1.2.2.2 x.2.2
theorem mem6 {α : Type} {x a b c d e f : α} {r : List α} (h : x ∈ r) : x ∈ a :: b :: c :: d :: e :: f :: r := .tail _ (.tail _ (.tail _ (.tail _ (.tail _ (.tail _ h)))))
theorem nd_split {G : List Nd} {e : Nd} (hG : (G.map (·.key)).Nodup) {G1 G2 : List Nd} (h : G = G1 ++ e :: G2) : (∀ q ∈ G1, q.key ≠ e.key) ∧ (∀ q ∈ G2, q.key ≠ e.key) := by
  subst h
  rw [List.map_append, List.map_cons, List.nodup_append] at hG
  obtain ⟨_, h2, h3⟩ := hG
  rw [List.nodup_cons] at h2
  exact ⟨fun q hq => h3 _ (List.mem_map_of_mem hq) _ (.head _), fun q hq e => h2.1 (e ▸ List.mem_map_of_mem hq)⟩
theorem view_at {G1 G2 : List Nd} {e e' : Nd} (h1 : ∀ q ∈ G1, q.key ≠ e.key) (h2 : ∀ q ∈ G2, q.key ≠ e.key) (f : Int × Int × List Int → Int × Int × List Int) (he : (e'.key, e'.np, e'.sc.map (·.1)) = f (e.key, e.np, e.sc.map (·.1))) :
    view (G1 ++ e' :: G2) = atKey e.key f (view (G1 ++ e :: G2)) := by
  unfold view atKey
  simp only [List.map_append, List.map_cons, List.map_map, if_true]
  rw [he]
  congr 1
  · refine List.map_congr_left fun q hq => ?_
    simp only [Function.comp, h1 q hq, if_false]
  · congr 1
    refine List.map_congr_left fun q hq => ?_
    simp only [Function.comp, h2 q hq, if_false]
/-- _get_nodeinfo, both ways at once -/
theorem getinfo2 {prog : Program} {w : World} (hn : Option Value) (dp un : Nat) (gd : Option (List Code)) (env : Env) (outer : List Env) (h₀ : Heap) (L : Addr) (m : Str → Option Value) (s : Shared)
    (Q E : Value → Shared → Prop) (C : Cx w env outer h₀ L) (F : Fr h₀ L s.heap m) (S : Srt) (rd np nf : Value) (o : Obj) (rest : List (Addr × Obj)) (G : List Nd) (k : Int) (t : Tok)
    (N : News h₀ L s.heap (S.led w rd np nf o (gLed G ++ rest))) (ha : Apart (S.led w rd np nf o (gLed G ++ rest)))
    (hdict : o.IsDictOf (intKind prog w) (gKvs G)) (hsys : (S.d == sysModules) = false) (hG : (G.map (·.key)).Nodup) (hGl : G.length < 100)
    (hd : dp + 6 < recursionLimit) (hu : un + 48 < cLine)
    (ret : ∀ h' tk' o' G' e, e ∈ G' → e.key = k → view G' = touch k (view G) → (G'.map (·.key)).Nodup → o'.IsDictOf (intKind prog w) (gKvs G') → Fr h₀ L h' m →
      News h₀ L h' (S.led w rd np nf o' (gLed G' ++ rest)) → Apart (S.led w rd np nf o' (gLed G' ++ rest)) → Q (.ref e.ia) { s with heap := h', toks := tk' }) :
    wpAny (model prog w) (arn hn dp un gd env outer) (call (.ref 80) [.ref S.x, .int k t]) Q E s := by
  have a1 := apart_ne ha
  have a2 := apart_ne (apart_tail ha)
  have a3 := apart_ne (apart_tail (apart_tail ha))
  refine getinfo_spec hn dp un gd env outer h₀ L m s Q E C F S.x S.dx S.d S.n S.t1 S.t2 S.t3 S.t4 rd np nf o (gLed G ++ rest) G k t N (fun e => a1 (S.d, o) (by simp) e.symm) (fun e => a2 (S.d, o) (by simp) e.symm) a3 hdict hsys hG hGl hd hu ?_ ?_
  · intro e he hek h' tk' F' N'
    refine ret h' tk' o G e he hek ?_ hG hdict F' N' ha
    unfold touch
    rw [if_pos]
    exact ⟨_, List.mem_map_of_mem he, hek⟩
  · intro hno h' tk' o' e hek hnp hsc hd' F' N' l1 l2 l3
    have hp : (S.led w rd np nf o' (e.led ++ (gLed G ++ rest))).Perm (S.led w rd np nf o' (gLed (G ++ [e]) ++ rest)) := by
      rw [gLed_append, show gLed [e] = e.led from List.append_nil _]
      refine .cons _ (.cons _ (.cons _ ?_))
      rw [List.append_assoc]
      exact List.perm_append_comm_assoc _ _ _
    refine ret h' tk' o' (G ++ [e]) e (by simp) hek ?_ ?_ hd' F' (news_perm N' hp) (apart_perm ?_ hp)
    · unfold touch view
      rw [if_neg, List.map_append, List.map_cons, List.map_nil, hek, hnp, hsc]
      · rfl
      · rintro ⟨v, hv, hv1⟩
        obtain ⟨q, hq, rfl⟩ := List.mem_map.mp hv
        exact hno q hq hv1
    · rw [List.map_append, List.nodup_append]
      refine ⟨hG, by simp, ?_⟩
      intro a ha b hb
      obtain ⟨q, hq, rfl⟩ := List.mem_map.mp ha
      simp only [List.map_cons, List.map_nil, List.mem_singleton] at hb
      rw [hb, hek]
      exact hno q hq
    · have q : (S.led w rd np nf o' (e.led ++ (gLed G ++ rest))).Perm (e.led ++ S.led w rd np nf o' (gLed G ++ rest)) := List.perm_append_comm_assoc [_, _, _] e.led _
      refine apart_perm ?_ q.symm
      have a0 : Apart (S.led w rd np nf o' (gLed G ++ rest)) := ha
      have m1 : ∀ p ∈ S.led w rd np nf o' (gLed G ++ rest), @LT.lt Nat _ p.1 e.da := fun p hp => by
        simp only [List.mem_cons] at hp
        rcases hp with rfl | rfl | rfl | hp
        · exact l1 _ (.head _)
        · exact l1 _ (.tail _ (.head _))
        · exact l1 (S.d, o) (.tail _ (.tail _ (.head _)))
        · exact l1 _ (.tail _ (.tail _ (.tail _ hp)))
      refine apart_cons ?_ (apart_cons ?_ (apart_cons ?_ a0))
      · intro p hp
        rcases List.mem_cons.mp hp with rfl | hp
        · exact Nat.ne_of_lt l2
        · rcases List.mem_cons.mp hp with rfl | hp
          · exact Nat.ne_of_gt l3
          · exact Nat.ne_of_lt (Nat.lt_trans (m1 p hp) l2)
      · intro p hp
        rcases List.mem_cons.mp hp with rfl | hp
        · exact Nat.ne_of_gt (Nat.lt_trans l2 l3)
        · exact Nat.ne_of_lt (m1 p hp)
      · exact fun p hp => Nat.ne_of_lt (Nat.lt_trans (m1 p hp) (Nat.lt_trans l2 l3))
end
section
theorem add1_spec {prog : Program} {w : World} (dp un : Nat) (gd : Option (List Code)) (env : Env) (outer : List Env) (h₀ : Heap) (L : Addr) (m : Str → Option Value) (s : Shared)
    (Q E : Value → Shared → Prop) (C : Cx w env outer h₀ L) (F : Fr h₀ L s.heap m) (S : Srt) (np nf : Value) (o : Obj) (rest : List (Addr × Obj)) (G : List Nd) (l f : Int) (tl tf : Tok)
    (N : News h₀ L s.heap (S.led w .none np nf o (gLed G ++ rest))) (ha : Apart (S.led w .none np nf o (gLed G ++ rest)))
    (hdict : o.IsDictOf (intKind prog w) (gKvs G)) (hsys : (S.d == sysModules) = false) (hG : (G.map (·.key)).Nodup) (hGl : G.length < 50) (hB : Bnd (view G))
    (hd : dp + 8 < recursionLimit) (hu : un + 64 < cLine)
    (ret : ∀ h' tk' o' G', view G' = add1 l f (view G) → (G'.map (·.key)).Nodup → o'.IsDictOf (intKind prog w) (gKvs G') → Fr h₀ L h' m →
      News h₀ L h' (S.led w .none np nf o' (gLed G' ++ rest)) → Apart (S.led w .none np nf o' (gLed G' ++ rest)) → Q .none { s with heap := h', toks := tk' }) :
    wpAny (model prog w) (arn none dp un gd env outer) (call (.ref 87) [.ref S.x, .int l tl, .int f tf]) Q E s := by
  refine cx_e C ?_
  intro p loose mean mg mb A₀ base B X T hf hk
  refine wpAny_call ?_
  k_dflt (refine' kp_rest ?k1 ?k2 ?k3 ?k4 ?k5 ?kA ?kF ?kK ?k6 ?k7 ?k8 ?kV ?kP ?kG ?kB ?_ ?c2 ?c3 ?c4 ?c5; (case kA => exact rfl); (case kF => first | assumption | exact rfl); (case kK => first | assumption | exact rfl); (case k1 => k_asm); (case k2 => k_asm); (case k3 => k_asm); (case k4 => k_asm); (case k5 => k_asm); (case k6 => k_is); (case k7 => k_is); (case k8 => k_room); (case kV => first | kl_lit | exact rfl); (case kP => exact rfl); (case kG => exact fun _ => rfl); (case kB => exact fun _ => locs rfl); (case c5 => decide); (case c2 => exact rfl); (case c3 => exact rfl); (case c4 => exact rfl))
  intro D g L1 h1 lD FG F1 N1 B1 X1 T1
  (try dsimp only)
  (try k_fold)
  (repeat' ((fail_if_success (with_reducible (first | show gz2 | show gz3 | show gz4 | show gz5 | show gz6 | show gz7 | show gz8 | show gz9 | show gz10 | show gz11 | show gz12 | show gz13 | show gz14 | show gz15))); (first | ((with_reducible show wpAny _ _ (execs _ _) _ _ _); k_gentoks) | with_reducible (first | refine execs_one ?_ | (refine execs_cut ?_; intro _ _) | (refine if_cut ?_; intro _ _)) | ((fail_if_success (with_reducible show gz1)); (first | (refine Kh.go ‹_› _ _ ?_; try dsimp only [KnP]) | ((with_reducible show TurnEnd _ _ _ _ _ _); dsimp only [TurnEnd]))) | (k_unfold; (try dsimp only)) | (k_end; wrow_close) | walk1 | (dsimp only; walk1) | (leave1; try dsimp only))))
  rename Fr _ _ _ _ => F2
  rename News _ _ _ _ => N2
  have hDp : ((D, tupObj [.int f tf] 0) :: S.led w .none np nf o (gLed G ++ rest)).Perm (S.led w .none np nf o (gLed G ++ (D, tupObj [.int f tf] 0) :: rest)) := (List.perm_middle (l₁ := S.led w .none np nf o (gLed G))).symm
  refine getinfo2 _ _ _ _ _ _ _ _ _ _ _ _ ⟨⟨_, _, _, _, _, _, _, by k_asm, by k_asm, by k_asm⟩, rfl, rfl⟩ F2 S .none np nf o ((D, tupObj [.int f tf] 0) :: rest) G l tl (news_perm N2 hDp) (apart_perm (apart_lt lD ha) hDp) hdict hsys hG (by (first | lia | omega)) (by dsimp only [arn, Around.deeper]; (first | lia | omega)) (by dsimp only [arn, Around.deeper]; (first | lia | omega)) ?_
  clear N2 F2
  intro h3 tk3 o3 G3 e3 he3 hek3 hv3 hG3 hd3 F3 N3 ha3
  obtain ⟨G1, G2, rfl⟩ := List.append_of_mem he3
  have fp := focus_perm (S.led w .none np nf o3 []) ((D, tupObj [.int f tf] 0) :: rest) [] G1 G2 e3
  have N4 := news_perm N3 fp
  have ha4 := apart_perm ha3 fp
  clear N3
  dsimp only [Nd.led, Srt.led, List.cons_append, List.nil_append] at N4 ha4
  generalize hr2 : gLed (G1 ++ G2) ++ (D, tupObj [.int f tf] 0) :: rest = r2 at N4 ha4
  have hD2 : (D, tupObj [.int f tf] 0) ∈ r2 := by rw [← hr2]; simp
  have b1 := apart_ne ha4
  (repeat' ((fail_if_success (with_reducible (first | show gz2 | show gz3 | show gz4 | show gz5 | show gz6 | show gz7 | show gz8 | show gz9 | show gz10 | show gz11 | show gz12 | show gz13 | show gz14 | show gz15))); (first | ((with_reducible show wpAny _ _ (execs _ _) _ _ _); k_gentoks) | with_reducible (first | refine execs_one ?_ | (refine execs_cut ?_; intro _ _) | (refine if_cut ?_; intro _ _)) | ((fail_if_success (with_reducible show gz1)); (first | (refine Kh.go ‹_› _ _ ?_; try dsimp only [KnP]) | ((with_reducible show TurnEnd _ _ _ _ _ _); dsimp only [TurnEnd]))) | (k_unfold; (try dsimp only)) | (k_end; wrow_close) | walk1 | (dsimp only; walk1) | (leave1; try dsimp only))))
  refine tup_len (vs := [.int f tf]) (n := 0) (by k_asm) (mem6 hD2) (by simp) ?_
  (repeat' ((fail_if_success (with_reducible (first | show gz2 | show gz3 | show gz4 | show gz5 | show gz6 | show gz7 | show gz8 | show gz9 | show gz10 | show gz11 | show gz12 | show gz13 | show gz14 | show gz15))); (first | ((with_reducible show wpAny _ _ (execs _ _) _ _ _); k_gentoks) | with_reducible (first | refine execs_one ?_ | (refine execs_cut ?_; intro _ _) | (refine if_cut ?_; intro _ _)) | ((fail_if_success (with_reducible show gz1)); (first | (refine Kh.go ‹_› _ _ ?_; try dsimp only [KnP]) | ((with_reducible show TurnEnd _ _ _ _ _ _); dsimp only [TurnEnd]))) | (k_unfold; (try dsimp only)) | (k_end; wrow_close) | walk1 | (dsimp only; walk1) | (leave1; try dsimp only))))
  rename Fr _ _ _ _ => F5
  rename News _ _ _ _ => N5
  obtain ⟨tq, hN5⟩ : ∃ tq, News g L1 _ (((⟨e3.key, e3.kt, e3.ia, e3.da, e3.sa, e3.np + 1, tq, e3.sc, e3.se⟩ : Nd).led) ++ (S.led w .none np nf o3 [] ++ (gLed (G1 ++ G2) ++ (D, tupObj [.int f tf] 0) :: rest))) := ⟨_, by rw [hr2]; exact N5⟩
  have fp2 := focus_perm (S.led w .none np nf o3 []) ((D, tupObj [.int f tf] 0) :: rest) [] G1 G2 ⟨e3.key, e3.kt, e3.ia, e3.da, e3.sa, e3.np + 1, tq, e3.sc, e3.se⟩
  have N6 := news_perm hN5 fp2.symm
  have ha6 : Apart (S.led w .none np nf o3 (gLed (G1 ++ (⟨e3.key, e3.kt, e3.ia, e3.da, e3.sa, e3.np + 1, tq, e3.sc, e3.se⟩ : Nd) :: G2) ++ (D, tupObj [.int f tf] 0) :: rest)) := apart_perm (by rw [← hr2] at ha4; exact ha4) fp2.symm
  have hsp := nd_split hG3 rfl
  have hv6 : view (G1 ++ (⟨e3.key, e3.kt, e3.ia, e3.da, e3.sa, e3.np + 1, tq, e3.sc, e3.se⟩ : Nd) :: G2) = atKey l (fun v => (v.1, v.2.1 + 1, v.2.2)) (touch l (view G)) := by
    rw [← hv3, ← hek3]
    exact view_at hsp.1 hsp.2 _ rfl
  have hG6 : ((G1 ++ (⟨e3.key, e3.kt, e3.ia, e3.da, e3.sa, e3.np + 1, tq, e3.sc, e3.se⟩ : Nd) :: G2).map (·.key)).Nodup := by simpa using hG3
  have hd6 : o3.IsDictOf (intKind prog w) (gKvs (G1 ++ (⟨e3.key, e3.kt, e3.ia, e3.da, e3.sa, e3.np + 1, tq, e3.sc, e3.se⟩ : Nd) :: G2)) := by
    have : gKvs (G1 ++ (⟨e3.key, e3.kt, e3.ia, e3.da, e3.sa, e3.np + 1, tq, e3.sc, e3.se⟩ : Nd) :: G2) = gKvs (G1 ++ e3 :: G2) := by unfold gKvs; simp
    rw [this]; exact hd3
  have hl6 : (G1 ++ (⟨e3.key, e3.kt, e3.ia, e3.da, e3.sa, e3.np + 1, tq, e3.sc, e3.se⟩ : Nd) :: G2).length < 90 := by
    have := congrArg List.length hv6
    unfold touch atKey at this
    rw [List.length_map] at this
    split at this <;> simp [view] at this ⊢ <;> (first | lia | omega)
  generalize (G1 ++ (⟨e3.key, e3.kt, e3.ia, e3.da, e3.sa, e3.np + 1, tq, e3.sc, e3.se⟩ : Nd) :: G2) = G6 at N6 ha6 hv6 hG6 hd6 hl6
  clear hN5 fp2 N5 fp ha4 hd3 hG3 hv3 hsp
  have F6 := frB [(Str.ofString "self", .ref S.x), (Str.ofString "node", .int l tl), (Str.ofString "predecessors", .ref D)] F5 ⟨rfl, rfl, rfl, trivial⟩
  clear F5
  refine my_for ?_
  (repeat' ((fail_if_success (with_reducible (first | show gz2 | show gz3 | show gz4 | show gz5 | show gz6 | show gz7 | show gz8 | show gz9 | show gz10 | show gz11 | show gz12 | show gz13 | show gz14 | show gz15))); (first | ((with_reducible show wpAny _ _ (execs _ _) _ _ _); k_gentoks) | with_reducible (first | refine execs_one ?_ | (refine execs_cut ?_; intro _ _) | (refine if_cut ?_; intro _ _)) | ((fail_if_success (with_reducible show gz1)); (first | (refine Kh.go ‹_› _ _ ?_; try dsimp only [KnP]) | ((with_reducible show TurnEnd _ _ _ _ _ _); dsimp only [TurnEnd]))) | (k_unfold; (try dsimp only)) | (k_end; wrow_close) | walk1 | (dsimp only; walk1) | (leave1; try dsimp only))))
  refine tit_make (vs := [.int f tf]) (n := 0) F6 N6 (by simp) ?_
  intro it oi h7 hit F7 N7 l7
  have ip : ∀ (o' : Obj) (G' : List Nd) (oi : Obj), ((it, oi) :: S.led w .none np nf o' (gLed G' ++ (D, tupObj [.int f tf] 0) :: rest)).Perm (S.led w .none np nf o' (gLed G' ++ (it, oi) :: (D, tupObj [.int f tf] 0) :: rest)) := fun o' G' oi => (List.perm_middle (l₁ := S.led w .none np nf o' (gLed G'))).symm
  refine Stop.mk (my_forLoop (fun k s' => ∃ (i : Nat) (o' oi' : Obj) (G' : List Nd) (h : Heap) (tk : Nat) (u : Str → Option Value), k = 2 - i ∧ i ≤ 1 ∧ s' = { s with heap := h, toks := tk } ∧ IsTIt oi' D i ∧
    Fr g L1 h (kB u [(Str.ofString "self", .ref S.x), (Str.ofString "node", .int l tl)]) ∧ News g L1 h (S.led w .none np nf o' (gLed G' ++ (it, oi') :: (D, tupObj [.int f tf] 0) :: rest)) ∧ Apart (S.led w .none np nf o' (gLed G' ++ (it, oi') :: (D, tupObj [.int f tf] 0) :: rest)) ∧
    o'.IsDictOf (intKind prog w) (gKvs G') ∧ (G'.map (·.key)).Nodup ∧ G'.length < 95 ∧ view G' = if i = 0 then view G6 else add1 l f (view G))
    (fun s' => ∃ (o' : Obj) (G' : List Nd) (h : Heap) (tk : Nat) (u : Str → Option Value), s' = { s with heap := h, toks := tk } ∧ Fr g L1 h u ∧ News g L1 h (S.led w .none np nf o' (gLed G' ++ (D, tupObj [.int f tf] 0) :: rest)) ∧ Apart (S.led w .none np nf o' (gLed G' ++ (D, tupObj [.int f tf] 0) :: rest)) ∧
    o'.IsDictOf (intKind prog w) (gKvs G') ∧ (G'.map (·.key)).Nodup ∧ view G' = add1 l f (view G)) ?_ 2
    (ex7_i 0 o3 oi G6 _ _ _ (an11_i rfl (by (first | lia | omega)) rfl hit (frB _ F7 ⟨rfl, rfl, trivial⟩) (news_perm N7 (ip _ _ _)) (apart_perm (apart_lt l7 ha6) (ip _ _ _)) hd6 hG6 (by (first | lia | omega)) rfl)) ?_)
  · intro I1z R1z Q1z hI1z hR1z hQ1z k s' hzz
    refine ex7_e hzz ?_
    clear hzz
    intro i o' oi' G' h tk u hzz
    refine an11_e hzz ?_
    clear hzz
    rintro rfl hi rfl hit' F8 N8 ha8 hd8 hG8 hl8 hv8
    have N9 := news_perm N8 (ip _ _ _).symm
    have ha9 := apart_perm ha8 (ip _ _ _).symm
    by_cases hi0 : i = 0
    · subst hi0
      refine tit_next (vs := [.int f tf]) (n := 0) (v := .int f tf) F8 N9 hit' (apart_ne ha9) (by simp) rfl ?_
      intro oi2 h10 hit2 F10 N10
      dsimp only [NextIs]
      refine wpAny_assign_Name ?_
      (repeat' ((fail_if_success (with_reducible (first | show gz2 | show gz3 | show gz4 | show gz5 | show gz6 | show gz7 | show gz8 | show gz9 | show gz10 | show gz11 | show gz12 | show gz13 | show gz14 | show gz15))); (first | ((with_reducible show wpAny _ _ (execs _ _) _ _ _); k_gentoks) | with_reducible (first | refine execs_one ?_ | (refine execs_cut ?_; intro _ _) | (refine if_cut ?_; intro _ _)) | ((fail_if_success (with_reducible show gz1)); (first | (refine Kh.go ‹_› _ _ ?_; try dsimp only [KnP]) | ((with_reducible show TurnEnd _ _ _ _ _ _); dsimp only [TurnEnd]))) | (k_unfold; (try dsimp only)) | (k_end; wrow_close) | walk1 | (dsimp only; walk1) | (leave1; try dsimp only))))
      rename Fr _ _ _ _ => F11
      rename News _ _ _ _ => N11
      refine getinfo2 _ _ _ _ _ _ _ _ _ _ _ _ ⟨⟨_, _, _, _, _, _, _, by k_asm, by k_asm, by k_asm⟩, rfl, rfl⟩ F11 S .none np nf o' ((it, oi2) :: (D, tupObj [.int f tf] 0) :: rest) G' f tf (news_perm N11 (ip _ _ _)) (apart_perm (show Apart ((it, oi2) :: _) from ha9) (ip _ _ _)) hd8 hsys hG8 (by (first | lia | omega)) (by dsimp only [arn, Around.deeper]; (first | lia | omega)) (by dsimp only [arn, Around.deeper]; (first | lia | omega)) ?_
      clear N11 F11
      intro h12 tk12 o12 G12 e12 he12 hek12 hv12 hG12 hd12 F12 N12 ha12
      obtain ⟨G1', G2', rfl⟩ := List.append_of_mem he12
      have fp := focus_perm (S.led w .none np nf o12 []) ((it, oi2) :: (D, tupObj [.int f tf] 0) :: rest) [] G1' G2' e12
      have N13 := news_perm N12 fp
      have ha13 := apart_perm ha12 fp
      clear N12
      have ha13' := ha13
      dsimp only [Nd.led, Srt.led, List.cons_append, List.nil_append] at N13 ha13
      generalize hr3 : gLed (G1' ++ G2') ++ (it, oi2) :: (D, tupObj [.int f tf] 0) :: rest = r3 at N13 ha13
      refine apart6_e ha13 ?_
      intro c1 c2 c3 c4 c5 c6 c7 c8 c9 c10 c11
      dsimp only at c1 c2 c3 c4 c5 c6 c7 c8 c9 c10 c11
      have hsz := bnd_nd (by rw [hv12, hv8, if_pos rfl, hv6]; exact bnd_touch (bnd_bump (bnd_touch hB))) he12
      (repeat' ((fail_if_success (with_reducible (first | show gz2 | show gz3 | show gz4 | show gz5 | show gz6 | show gz7 | show gz8 | show gz9 | show gz10 | show gz11 | show gz12 | show gz13 | show gz14 | show gz15))); (first | ((with_reducible show wpAny _ _ (execs _ _) _ _ _); k_gentoks) | with_reducible (first | refine execs_one ?_ | (refine execs_cut ?_; intro _ _) | (refine if_cut ?_; intro _ _)) | ((fail_if_success (with_reducible show gz1)); (first | (refine Kh.go ‹_› _ _ ?_; try dsimp only [KnP]) | ((with_reducible show TurnEnd _ _ _ _ _ _); dsimp only [TurnEnd]))) | (k_unfold; (try dsimp only)) | (k_end; wrow_close) | walk1 | (dsimp only; walk1) | (leave1; try dsimp only))))
      rename Fr _ _ _ _ => F13b
      rename News _ _ _ _ => N13b
      rw [List.push_toArray, show valsOf e12.sc ++ [Value.int l tl] = valsOf (e12.sc ++ [(l, tl)]) by simp] at N13b
      have hN14 := N13b
      rw [← hr3] at hN14
      have fp2 := focus_perm (S.led w .none np nf o12 []) ((it, oi2) :: (D, tupObj [.int f tf] 0) :: rest) [] G1' G2' ⟨e12.key, e12.kt, e12.ia, e12.da, e12.sa, e12.np, e12.nt, e12.sc ++ [(l, tl)], e12.se + 1⟩
      have hN15 := news_perm (show News g L1 _ ((⟨e12.key, e12.kt, e12.ia, e12.da, e12.sa, e12.np, e12.nt, e12.sc ++ [(l, tl)], e12.se + 1⟩ : Nd).led ++ (S.led w .none np nf o12 [] ++ (gLed (G1' ++ G2') ++ (it, oi2) :: (D, tupObj [.int f tf] 0) :: rest))) from hN14) fp2.symm
      have ha15 := apart_perm (show Apart ((⟨e12.key, e12.kt, e12.ia, e12.da, e12.sa, e12.np, e12.nt, e12.sc ++ [(l, tl)], e12.se + 1⟩ : Nd).led ++ (S.led w .none np nf o12 [] ++ (gLed (G1' ++ G2') ++ (it, oi2) :: (D, tupObj [.int f tf] 0) :: rest))) from ha13') fp2.symm
      have hsp := nd_split hG12 rfl
      have hl9 := congrArg List.length (hv8.trans (if_pos rfl))
      have hlv := congrArg List.length hv12
      refine StopN hI1z 1 (by (first | lia | omega)) (ex7_i 1 o12 oi2 (G1' ++ (⟨e12.key, e12.kt, e12.ia, e12.da, e12.sa, e12.np, e12.nt, e12.sc ++ [(l, tl)], e12.se + 1⟩ : Nd) :: G2') _ _ _ (an11_i rfl (by (first | lia | omega)) rfl hit2 (frB _ F13b ⟨rfl, rfl, trivial⟩) hN15 ha15 ?_ (by simpa using hG12) ?_ ?_))
      · have : gKvs (G1' ++ (⟨e12.key, e12.kt, e12.ia, e12.da, e12.sa, e12.np, e12.nt, e12.sc ++ [(l, tl)], e12.se + 1⟩ : Nd) :: G2') = gKvs (G1' ++ e12 :: G2') := by unfold gKvs; simp
        rw [this]; exact hd12
      · unfold touch at hlv
        split at hlv <;> simp [view] at hlv hl9 ⊢ <;> (first | lia | omega)
      · rw [if_neg (by (first | lia | omega)), add1, ← hv6, ← (hv8.trans (if_pos rfl)), ← hv12, ← hek12]
        exact view_at hsp.1 hsp.2 _ (by simp)
    · have hi1 : i = 1 := by (first | lia | omega)
      subst hi1
      refine tit_end (vs := [.int f tf]) (n := 0) rfl F8 N9 hit' (apart_ne ha9) (by simp) rfl ?_
      intro h10 F10 N10
      exact StopP (hR1z _) (ex5_i o' G' _ _ _ (an7_i rfl F10 N10 (apart_tail ha9) hd8 hG8 hv8))
  · intro s' hzz
    refine ex5_e hzz ?_
    clear hzz
    intro o' G' h tk u hzz
    refine an7_e hzz ?_
    clear hzz
    rintro rfl F8 N8 ha8 hd8 hG8 hv8
    (repeat' ((fail_if_success (with_reducible (first | show gz2 | show gz3 | show gz4 | show gz5 | show gz6 | show gz7 | show gz8 | show gz9 | show gz10 | show gz11 | show gz12 | show gz13 | show gz14 | show gz15))); (first | ((with_reducible show wpAny _ _ (execs _ _) _ _ _); k_gentoks) | with_reducible (first | refine execs_one ?_ | (refine execs_cut ?_; intro _ _) | (refine if_cut ?_; intro _ _)) | ((fail_if_success (with_reducible show gz1)); (first | (refine Kh.go ‹_› _ _ ?_; try dsimp only [KnP]) | ((with_reducible show TurnEnd _ _ _ _ _ _); dsimp only [TurnEnd]))) | (k_unfold; (try dsimp only)) | (k_end; wrow_close) | walk1 | (dsimp only; walk1) | (leave1; try dsimp only))))
    have dp2 : (S.led w .none np nf o' (gLed G' ++ (D, tupObj [.int f tf] 0) :: rest)).Perm ((D, tupObj [.int f tf] 0) :: S.led w .none np nf o' (gLed G' ++ rest)) := (List.perm_middle (l₁ := S.led w .none np nf o' (gLed G')))
    exact ret _ _ o' G' hv8 hG8 hd8 (by k_asm) (fun p hp => (news_perm (by k_asm) dp2) p (.tail _ hp)) (apart_tail (apart_perm ha8 dp2))
end
section
theorem add0_spec {prog : Program} {w : World} (dp un : Nat) (gd : Option (List Code)) (env : Env) (outer : List Env) (h₀ : Heap) (L : Addr) (m : Str → Option Value) (s : Shared)
    (Q E : Value → Shared → Prop) (C : Cx w env outer h₀ L) (F : Fr h₀ L s.heap m) (S : Srt) (np nf : Value) (o : Obj) (rest : List (Addr × Obj)) (G : List Nd) (l : Int) (tl : Tok)
    (N : News h₀ L s.heap (S.led w .none np nf o (gLed G ++ rest))) (ha : Apart (S.led w .none np nf o (gLed G ++ rest)))
    (hdict : o.IsDictOf (intKind prog w) (gKvs G)) (hsys : (S.d == sysModules) = false) (hG : (G.map (·.key)).Nodup) (hGl : G.length < 50) (hB : Bnd (view G))
    (hd : dp + 8 < recursionLimit) (hu : un + 64 < cLine)
    (ret : ∀ h' tk' o' G', view G' = add0 l (view G) → (G'.map (·.key)).Nodup → o'.IsDictOf (intKind prog w) (gKvs G') → Fr h₀ L h' m →
      News h₀ L h' (S.led w .none np nf o' (gLed G' ++ rest)) → Apart (S.led w .none np nf o' (gLed G' ++ rest)) → Q .none { s with heap := h', toks := tk' }) :
    wpAny (model prog w) (arn none dp un gd env outer) (call (.ref 87) [.ref S.x, .int l tl]) Q E s := by
  refine cx_e C ?_
  intro p loose mean mg mb A₀ base B X T hf hk
  refine wpAny_call ?_
  k_dflt (refine' kp_rest ?k1 ?k2 ?k3 ?k4 ?k5 ?kA ?kF ?kK ?k6 ?k7 ?k8 ?kV ?kP ?kG ?kB ?_ ?c2 ?c3 ?c4 ?c5; (case kA => exact rfl); (case kF => first | assumption | exact rfl); (case kK => first | assumption | exact rfl); (case k1 => k_asm); (case k2 => k_asm); (case k3 => k_asm); (case k4 => k_asm); (case k5 => k_asm); (case k6 => k_is); (case k7 => k_is); (case k8 => k_room); (case kV => first | kl_lit | exact rfl); (case kP => exact rfl); (case kG => exact fun _ => rfl); (case kB => exact fun _ => locs rfl); (case c5 => decide); (case c2 => exact rfl); (case c3 => exact rfl); (case c4 => exact rfl))
  intro D g L1 h1 lD FG F1 N1 B1 X1 T1
  (try dsimp only)
  (try k_fold)
  (repeat' ((fail_if_success (with_reducible (first | show gz2 | show gz3 | show gz4 | show gz5 | show gz6 | show gz7 | show gz8 | show gz9 | show gz10 | show gz11 | show gz12 | show gz13 | show gz14 | show gz15))); (first | ((with_reducible show wpAny _ _ (execs _ _) _ _ _); k_gentoks) | with_reducible (first | refine execs_one ?_ | (refine execs_cut ?_; intro _ _) | (refine if_cut ?_; intro _ _)) | ((fail_if_success (with_reducible show gz1)); (first | (refine Kh.go ‹_› _ _ ?_; try dsimp only [KnP]) | ((with_reducible show TurnEnd _ _ _ _ _ _); dsimp only [TurnEnd]))) | (k_unfold; (try dsimp only)) | (k_end; wrow_close) | walk1 | (dsimp only; walk1) | (leave1; try dsimp only))))
  rename Fr _ _ _ _ => F2
  rename News _ _ _ _ => N2
  have hDp : ((D, tupObj [] 0) :: S.led w .none np nf o (gLed G ++ rest)).Perm (S.led w .none np nf o (gLed G ++ (D, tupObj [] 0) :: rest)) := (List.perm_middle (l₁ := S.led w .none np nf o (gLed G))).symm
  refine getinfo2 _ _ _ _ _ _ _ _ _ _ _ _ ⟨⟨_, _, _, _, _, _, _, by k_asm, by k_asm, by k_asm⟩, rfl, rfl⟩ F2 S .none np nf o ((D, tupObj [] 0) :: rest) G l tl (news_perm N2 hDp) (apart_perm (apart_lt lD ha) hDp) hdict hsys hG (by (first | lia | omega)) (by dsimp only [arn, Around.deeper]; (first | lia | omega)) (by dsimp only [arn, Around.deeper]; (first | lia | omega)) ?_
  clear N2 F2
  intro h3 tk3 o3 G3 e3 he3 hek3 hv3 hG3 hd3 F3 N3 ha3
  obtain ⟨G1, G2, rfl⟩ := List.append_of_mem he3
  have fp := focus_perm (S.led w .none np nf o3 []) ((D, tupObj [] 0) :: rest) [] G1 G2 e3
  have N4 := news_perm N3 fp
  have ha4 := apart_perm ha3 fp
  clear N3
  dsimp only [Nd.led, Srt.led, List.cons_append, List.nil_append] at N4 ha4
  generalize hr2 : gLed (G1 ++ G2) ++ (D, tupObj [] 0) :: rest = r2 at N4 ha4
  have hD2 : (D, tupObj [] 0) ∈ r2 := by rw [← hr2]; simp
  have b1 := apart_ne ha4
  (repeat' ((fail_if_success (with_reducible (first | show gz2 | show gz3 | show gz4 | show gz5 | show gz6 | show gz7 | show gz8 | show gz9 | show gz10 | show gz11 | show gz12 | show gz13 | show gz14 | show gz15))); (first | ((with_reducible show wpAny _ _ (execs _ _) _ _ _); k_gentoks) | with_reducible (first | refine execs_one ?_ | (refine execs_cut ?_; intro _ _) | (refine if_cut ?_; intro _ _)) | ((fail_if_success (with_reducible show gz1)); (first | (refine Kh.go ‹_› _ _ ?_; try dsimp only [KnP]) | ((with_reducible show TurnEnd _ _ _ _ _ _); dsimp only [TurnEnd]))) | (k_unfold; (try dsimp only)) | (k_end; wrow_close) | walk1 | (dsimp only; walk1) | (leave1; try dsimp only))))
  refine tup_len (vs := []) (n := 0) (by k_asm) (mem6 hD2) (by simp) ?_
  (repeat' ((fail_if_success (with_reducible (first | show gz2 | show gz3 | show gz4 | show gz5 | show gz6 | show gz7 | show gz8 | show gz9 | show gz10 | show gz11 | show gz12 | show gz13 | show gz14 | show gz15))); (first | ((with_reducible show wpAny _ _ (execs _ _) _ _ _); k_gentoks) | with_reducible (first | refine execs_one ?_ | (refine execs_cut ?_; intro _ _) | (refine if_cut ?_; intro _ _)) | ((fail_if_success (with_reducible show gz1)); (first | (refine Kh.go ‹_› _ _ ?_; try dsimp only [KnP]) | ((with_reducible show TurnEnd _ _ _ _ _ _); dsimp only [TurnEnd]))) | (k_unfold; (try dsimp only)) | (k_end; wrow_close) | walk1 | (dsimp only; walk1) | (leave1; try dsimp only))))
  rename Fr _ _ _ _ => F5
  rename News _ _ _ _ => N5
  rw [show e3.np + ((([] : List Value).length : Nat) : Int) = e3.np by simp] at N5
  generalize Shared.toks _ = tq at N5
  rw [← hr2] at N5
  have fp2 := focus_perm (S.led w .none np nf o3 []) ((D, tupObj [] 0) :: rest) [] G1 G2 ⟨e3.key, e3.kt, e3.ia, e3.da, e3.sa, e3.np, tq, e3.sc, e3.se⟩
  have N6 := news_perm (show News g L1 _ (((⟨e3.key, e3.kt, e3.ia, e3.da, e3.sa, e3.np, tq, e3.sc, e3.se⟩ : Nd).led) ++ (S.led w .none np nf o3 [] ++ (gLed (G1 ++ G2) ++ (D, tupObj [] 0) :: rest))) from N5) fp2.symm
  have ha6 : Apart (S.led w .none np nf o3 (gLed (G1 ++ (⟨e3.key, e3.kt, e3.ia, e3.da, e3.sa, e3.np, tq, e3.sc, e3.se⟩ : Nd) :: G2) ++ (D, tupObj [] 0) :: rest)) := apart_perm (by rw [← hr2] at ha4; exact ha4) fp2.symm
  have hv6 : view (G1 ++ (⟨e3.key, e3.kt, e3.ia, e3.da, e3.sa, e3.np, tq, e3.sc, e3.se⟩ : Nd) :: G2) = touch l (view G) := by
    rw [← hv3]; unfold view; simp
  have hG6 : ((G1 ++ (⟨e3.key, e3.kt, e3.ia, e3.da, e3.sa, e3.np, tq, e3.sc, e3.se⟩ : Nd) :: G2).map (·.key)).Nodup := by simpa using hG3
  have hd6 : o3.IsDictOf (intKind prog w) (gKvs (G1 ++ (⟨e3.key, e3.kt, e3.ia, e3.da, e3.sa, e3.np, tq, e3.sc, e3.se⟩ : Nd) :: G2)) := by
    have : gKvs (G1 ++ (⟨e3.key, e3.kt, e3.ia, e3.da, e3.sa, e3.np, tq, e3.sc, e3.se⟩ : Nd) :: G2) = gKvs (G1 ++ e3 :: G2) := by unfold gKvs; simp
    rw [this]; exact hd3
  generalize (G1 ++ (⟨e3.key, e3.kt, e3.ia, e3.da, e3.sa, e3.np, tq, e3.sc, e3.se⟩ : Nd) :: G2) = G6 at N6 ha6 hv6 hG6 hd6
  clear fp2 N5 fp ha4 hd3 hG3 hv3
  have F6 := frB [(Str.ofString "predecessors", .ref D)] F5 ⟨rfl, trivial⟩
  clear F5
  refine my_for ?_
  (repeat' ((fail_if_success (with_reducible (first | show gz2 | show gz3 | show gz4 | show gz5 | show gz6 | show gz7 | show gz8 | show gz9 | show gz10 | show gz11 | show gz12 | show gz13 | show gz14 | show gz15))); (first | ((with_reducible show wpAny _ _ (execs _ _) _ _ _); k_gentoks) | with_reducible (first | refine execs_one ?_ | (refine execs_cut ?_; intro _ _) | (refine if_cut ?_; intro _ _)) | ((fail_if_success (with_reducible show gz1)); (first | (refine Kh.go ‹_› _ _ ?_; try dsimp only [KnP]) | ((with_reducible show TurnEnd _ _ _ _ _ _); dsimp only [TurnEnd]))) | (k_unfold; (try dsimp only)) | (k_end; wrow_close) | walk1 | (dsimp only; walk1) | (leave1; try dsimp only))))
  refine tit_make (vs := []) (n := 0) F6 N6 (by simp) ?_
  intro it oi h7 hit F7 N7 l7
  refine Stop.mk (my_forLoop (fun k s' => ∃ (oi' : Obj) (h : Heap) (tk : Nat) (u : Str → Option Value), s' = { s with heap := h, toks := tk } ∧ IsTIt oi' D 0 ∧ Fr g L1 h u ∧ News g L1 h ((it, oi') :: S.led w .none np nf o3 (gLed G6 ++ (D, tupObj [] 0) :: rest)))
    (fun s' => ∃ (h : Heap) (tk : Nat) (u : Str → Option Value), s' = { s with heap := h, toks := tk } ∧ Fr g L1 h u ∧ News g L1 h (S.led w .none np nf o3 (gLed G6 ++ (D, tupObj [] 0) :: rest))) ?_ 0
    (ex4_i oi _ _ _ (an4_i rfl hit F7 N7)) ?_)
  · intro I1z R1z Q1z hI1z hR1z hQ1z k s' hzz
    refine ex4_e hzz ?_
    clear hzz
    intro oi' h tk u hzz
    refine an4_e hzz ?_
    clear hzz
    rintro rfl hit' F8 N8
    refine tit_end (vs := []) (n := 0) rfl F8 N8 hit' (apart_ne (p := (it, oi)) (apart_lt l7 ha6)) (by simp) rfl ?_
    intro h10 F10 N10
    exact StopP (hR1z _) (ex3_i _ _ _ (an3_i rfl F10 N10))
  · intro s' hzz
    refine ex3_e hzz ?_
    clear hzz
    intro h tk u hzz
    refine an3_e hzz ?_
    clear hzz
    rintro rfl F8 N8
    (repeat' ((fail_if_success (with_reducible (first | show gz2 | show gz3 | show gz4 | show gz5 | show gz6 | show gz7 | show gz8 | show gz9 | show gz10 | show gz11 | show gz12 | show gz13 | show gz14 | show gz15))); (first | ((with_reducible show wpAny _ _ (execs _ _) _ _ _); k_gentoks) | with_reducible (first | refine execs_one ?_ | (refine execs_cut ?_; intro _ _) | (refine if_cut ?_; intro _ _)) | ((fail_if_success (with_reducible show gz1)); (first | (refine Kh.go ‹_› _ _ ?_; try dsimp only [KnP]) | ((with_reducible show TurnEnd _ _ _ _ _ _); dsimp only [TurnEnd]))) | (k_unfold; (try dsimp only)) | (k_end; wrow_close) | walk1 | (dsimp only; walk1) | (leave1; try dsimp only))))
    have dp2 : (S.led w .none np nf o3 (gLed G6 ++ (D, tupObj [] 0) :: rest)).Perm ((D, tupObj [] 0) :: S.led w .none np nf o3 (gLed G6 ++ rest)) := (List.perm_middle (l₁ := S.led w .none np nf o3 (gLed G6)))
    exact ret _ _ o3 G6 hv6 hG6 hd6 (by k_asm) (fun p hp => (news_perm (by k_asm) dp2) p (.tail _ hp)) (apart_tail (apart_perm ha6 dp2))
end
section
noncomputable def kev {α : Type} (lt : Nat → Nat → Bool) : KasT α → α
  | .ret a => a
  | .ask i j k => kev lt (k (lt i j))
theorem kev_bind {α β : Type} (lt : Nat → Nat → Bool) (f : α → KasT β) : ∀ t : KasT α, kev lt (t.bind f) = kev lt (f (kev lt t))
  | .ret a => rfl
  | .ask i j k => kev_bind lt f (k (lt i j))
section
variable (key : Nat → Int)
noncomputable def ltk (i j : Nat) : Bool := decide (key i < key j)
noncomputable def Kp (p : Array Nat) (i : Nat) : Int := key (p.getD i 0)
theorem Kp_congr {p q : Array Nat} {i j : Nat} (h : p[i]? = q[j]?) : Kp key p i = Kp key q j := by
  unfold Kp; rw [Array.getD_eq_getD_getElem?, Array.getD_eq_getD_getElem?, h]
theorem Kp_rev {p : Array Nat} {i j : Nat} (hj : j ≤ p.size) (k : Nat) : Kp key (kas_rev p i j) k = if i ≤ k ∧ k < j then Kp key p (i + j - 1 - k) else Kp key p k := by
  have e := getElem?_mirror_all (xs := p) (i := i) hj k
  by_cases h : i ≤ k ∧ k < j
  · rw [if_pos h] at e ⊢; exact Kp_congr key e
  · rw [if_neg h] at e ⊢; exact Kp_congr key e
theorem Kp_bub {p : Array Nat} {src d : Nat} (hs : src < p.size) (hd : d ≤ src) (k : Nat) :
    Kp key (bubble p src d) k = if k = src - d then Kp key p src else if src - d < k ∧ k ≤ src then Kp key p (k - 1) else Kp key p k := by
  have e := getElem?_bubble hs d hd k
  by_cases h1 : k = src - d
  · rw [if_pos h1] at e ⊢; exact Kp_congr key e
  · rw [if_neg h1] at e ⊢
    by_cases h2 : src - d < k ∧ k ≤ src
    · rw [if_pos h2] at e ⊢; exact Kp_congr key e
    · rw [if_neg h2] at e ⊢; exact Kp_congr key e
noncomputable def UpTo (p : Array Nat) (n : Nat) : Prop := ∀ i j, i ≤ j → j < n → Kp key p i ≤ Kp key p j
noncomputable def DnTo (p : Array Nat) (n : Nat) : Prop := ∀ i j, i ≤ j → j < n → Kp key p j ≤ Kp key p i
noncomputable def Eqs (p : Array Nat) (n q : Nat) : Prop := ∀ k, n - (q + 1) ≤ k → k < n → Kp key p k = Kp key p (n - 1)
theorem upTo_succ {p : Array Nat} {n : Nat} (h : UpTo key p n) (hn : 1 ≤ n) (hl : Kp key p (n - 1) ≤ Kp key p n) : UpTo key p (n + 1) := fun i j h1 h2 => by
  by_cases e : j < n
  · exact h i j h1 e
  · have : j = n := by (first | lia | omega)
    subst this
    by_cases e2 : i = j
    · subst e2; exact Int.le_refl _
    · exact Int.le_trans (h i (j - 1) (by (first | lia | omega)) (by (first | lia | omega))) hl
theorem dnTo_succ {p : Array Nat} {n : Nat} (h : DnTo key p n) (hn : 1 ≤ n) (hl : Kp key p n ≤ Kp key p (n - 1)) : DnTo key p (n + 1) := fun i j h1 h2 => by
  by_cases e : j < n
  · exact h i j h1 e
  · have : j = n := by (first | lia | omega)
    subst this
    by_cases e2 : i = j
    · subst e2; exact Int.le_refl _
    · exact Int.le_trans hl (h i (j - 1) (by (first | lia | omega)) (by (first | lia | omega)))
theorem asc_ev (p : Array Nat) : ∀ (f n : Nat), 1 ≤ n → UpTo key p n → n ≤ kev (ltk key) (kas_asc p f n) ∧ kev (ltk key) (kas_asc p f n) ≤ n + f ∧ UpTo key p (kev (ltk key) (kas_asc p f n))
  | 0, n, h1, h => ⟨Nat.le_refl _, Nat.le_refl _, h⟩
  | f + 1, n, h1, h => by
    show n ≤ kev (ltk key) (if ltk key (p.getD n 0) (p.getD (n - 1) 0) = true then _ else _) ∧ kev (ltk key) (if ltk key (p.getD n 0) (p.getD (n - 1) 0) = true then _ else _) ≤ _ ∧ UpTo key p (kev (ltk key) (if ltk key (p.getD n 0) (p.getD (n - 1) 0) = true then _ else _))
    by_cases c : ltk key (p.getD n 0) (p.getD (n - 1) 0) = true
    · rw [if_pos c]
      exact ⟨Nat.le_refl _, Nat.le_add_right _ _, h⟩
    · rw [if_neg c]
      have c' : ¬ Kp key p n < Kp key p (n - 1) := fun z => c (decide_eq_true z)
      obtain ⟨a, b, d⟩ := asc_ev p f (n + 1) (by (first | lia | omega)) (upTo_succ key h h1 (by (first | lia | omega)))
      exact ⟨by (first | lia | omega), by (first | lia | omega), d⟩
theorem rev_eqs {p : Array Nat} {n q : Nat} (hn : n ≤ p.size) (h1 : 1 ≤ n) (hq : q + 1 ≤ n) (he : Eqs key p n q) (k : Nat) : Kp key (kas_rev p (n - (q + 1)) n) k = Kp key p k := by
  rw [Kp_rev key hn]
  by_cases c : n - (q + 1) ≤ k ∧ k < n
  · rw [if_pos c, he k c.1 c.2]
    exact he _ (by (first | lia | omega)) (by (first | lia | omega))
  · rw [if_neg c]
theorem desc_ev : ∀ (f : Nat) (p : Array Nat) (n q : Nat), n + f ≤ p.size → 1 ≤ n → q + 1 ≤ n → DnTo key p n → Eqs key p n q → ∀ p' m q', kev (ltk key) (kas_desc f p n q) = (p', m, q') →
    p'.Perm p ∧ n ≤ m ∧ m ≤ n + f ∧ q' + 1 ≤ m ∧ DnTo key p' m ∧ Eqs key p' m q'
  | 0, p, n, q, hz, h1, hq, hd, he, p', m, q', e => by
    cases e
    exact ⟨.refl _, Nat.le_refl _, Nat.le_refl _, hq, hd, he⟩
  | f + 1, p, n, q, hz, h1, hq, hd, he, p', m, q', e => by
    have e' : kev (ltk key) (if ltk key (p.getD n 0) (p.getD (n - 1) 0) = true then (if q > 0 then kas_desc f (kas_rev p (n - (q + 1)) n) (n + 1) 0 else kas_desc f p (n + 1) 0)
      else .ask (p.getD (n - 1) 0) (p.getD n 0) fun d => if d = true then .ret (p, n, q) else kas_desc f p (n + 1) (q + 1)) = (p', m, q') := e
    by_cases c : ltk key (p.getD n 0) (p.getD (n - 1) 0) = true
    · have c' : Kp key p n < Kp key p (n - 1) := of_decide_eq_true c
      rw [if_pos c] at e'
      by_cases hq0 : q > 0
      · rw [if_pos hq0] at e'
        have hr := rev_eqs key (p := p) (n := n) (q := q) (by (first | lia | omega)) h1 hq he
        have hd2 : DnTo key (kas_rev p (n - (q + 1)) n) n := fun i j a b => by rw [hr, hr]; exact hd i j a b
        obtain ⟨a1, a2, a3, a4, a5, a6⟩ := desc_ev f (kas_rev p (n - (q + 1)) n) (n + 1) 0 (by rw [kas_rev_size]; (first | lia | omega)) (by (first | lia | omega)) (by (first | lia | omega)) (dnTo_succ key hd2 h1 (by rw [hr, hr]; (first | lia | omega))) (fun k b1 b2 => by rw [show k = n + 1 - 1 by (first | lia | omega)]) p' m q' e'
        exact ⟨a1.trans (mirror_perm _ _ _ _), by (first | lia | omega), by (first | lia | omega), a4, a5, a6⟩
      · rw [if_neg hq0] at e'
        obtain ⟨a1, a2, a3, a4, a5, a6⟩ := desc_ev f p (n + 1) 0 (by (first | lia | omega)) (by (first | lia | omega)) (by (first | lia | omega)) (dnTo_succ key hd h1 (by (first | lia | omega))) (fun k b1 b2 => by rw [show k = n + 1 - 1 by (first | lia | omega)]) p' m q' e'
        exact ⟨a1, by (first | lia | omega), by (first | lia | omega), a4, a5, a6⟩
    · have c' : ¬ Kp key p n < Kp key p (n - 1) := fun z => c (decide_eq_true z)
      rw [if_neg c] at e'
      have e2 : kev (ltk key) (if ltk key (p.getD (n - 1) 0) (p.getD n 0) = true then .ret (p, n, q) else kas_desc f p (n + 1) (q + 1)) = (p', m, q') := e'
      by_cases d : ltk key (p.getD (n - 1) 0) (p.getD n 0) = true
      · rw [if_pos d] at e2
        cases e2
        exact ⟨.refl _, Nat.le_refl _, by (first | lia | omega), hq, hd, he⟩
      · have d' : ¬ Kp key p (n - 1) < Kp key p n := fun z => d (decide_eq_true z)
        rw [if_neg d] at e2
        have heq : Kp key p n = Kp key p (n - 1) := by (first | lia | omega)
        obtain ⟨a1, a2, a3, a4, a5, a6⟩ := desc_ev f p (n + 1) (q + 1) (by (first | lia | omega)) (by (first | lia | omega)) (by (first | lia | omega)) (dnTo_succ key hd h1 (by (first | lia | omega))) (fun k b1 b2 => by
          by_cases z : k = n
          · subst z; rfl
          · rw [show n + 1 - 1 = n by (first | lia | omega), heq]
            exact he k (by (first | lia | omega)) (by (first | lia | omega))) p' m q' e2
        exact ⟨a1, by (first | lia | omega), by (first | lia | omega), a4, a5, a6⟩
theorem rev_up {p : Array Nat} {n : Nat} (hn : n ≤ p.size) (h : DnTo key p n) : UpTo key (kas_rev p 0 n) n := fun i j a b => by
  rw [Kp_rev key hn, Kp_rev key hn, if_pos ⟨Nat.zero_le _, by (first | lia | omega)⟩, if_pos ⟨Nat.zero_le _, b⟩]
  exact h _ _ (by (first | lia | omega)) (by (first | lia | omega))
theorem tail3_ev {p : Array Nat} {n nrem : Nat} (h1 : 1 ≤ n) (hn : n ≤ nrem) (hz : nrem ≤ p.size) (h : DnTo key p n) : ∀ m p', kev (ltk key) (kas_tail3 n nrem p) = (m, p') → p'.Perm p ∧ 1 ≤ m ∧ m ≤ nrem ∧ UpTo key p' m := by
  intro m p' e
  unfold kas_tail3 at e
  rw [kev_bind] at e
  cases e
  obtain ⟨a, b, c⟩ := asc_ev key (kas_rev p 0 n) (nrem - n) n h1 (rev_up key (by (first | lia | omega)) h)
  exact ⟨mirror_perm _ _ _ _, by (first | lia | omega), by (first | lia | omega), c⟩
theorem asc_stop (p : Array Nat) : ∀ (f n : Nat), kev (ltk key) (kas_asc p f n) < n + f → Kp key p (kev (ltk key) (kas_asc p f n)) < Kp key p (kev (ltk key) (kas_asc p f n) - 1)
  | 0, n, h => absurd h (Nat.lt_irrefl _)
  | f + 1, n, h => by
    have e : kev (ltk key) (kas_asc p (f + 1) n) = kev (ltk key) (if ltk key (p.getD n 0) (p.getD (n - 1) 0) = true then KasT.ret n else kas_asc p f (n + 1)) := rfl
    rw [e] at h ⊢
    by_cases c : ltk key (p.getD n 0) (p.getD (n - 1) 0) = true
    · rw [if_pos c]
      exact of_decide_eq_true c
    · rw [if_neg c] at h ⊢
      exact asc_stop p f (n + 1) (by (first | lia | omega))
theorem descPart_ev {p : Array Nat} {n nrem : Nat} (h1 : 1 ≤ n) (hn : n < nrem) (hz : nrem ≤ p.size) (h : DnTo key p n) (hl : Kp key p n < Kp key p (n - 1)) : ∀ m p', kev (ltk key) (kas_descPart n nrem p) = (m, p') → p'.Perm p ∧ 1 ≤ m ∧ m ≤ nrem ∧ UpTo key p' m := by
  intro m p' e
  unfold kas_descPart at e
  rw [kev_bind] at e
  rcases hr : kev (ltk key) (kas_desc (nrem - (n + 1)) p (n + 1) 0) with ⟨p1, m1, q1⟩
  rw [hr] at e
  obtain ⟨a1, a2, a3, a4, a5, a6⟩ := desc_ev key (nrem - (n + 1)) p (n + 1) 0 (by (first | lia | omega)) (by (first | lia | omega)) (by (first | lia | omega)) (dnTo_succ key h h1 (by (first | lia | omega))) (fun k b1 b2 => by rw [show k = n + 1 - 1 by (first | lia | omega)]) p1 m1 q1 hr
  have sz : p1.size = p.size := a1.size_eq
  dsimp only at e
  by_cases hq : q1 > 0
  · rw [if_pos hq] at e
    have hrv := rev_eqs key (p := p1) (n := m1) (q := q1) (by (first | lia | omega)) (by (first | lia | omega)) a4 a6
    obtain ⟨b1, b2, b3, b4⟩ := tail3_ev key (p := kas_rev p1 (m1 - (q1 + 1)) m1) (n := m1) (nrem := nrem) (by (first | lia | omega)) (by (first | lia | omega)) (by rw [kas_rev_size]; (first | lia | omega)) (fun i j x y => by rw [hrv, hrv]; exact a5 i j x y) m p' e
    exact ⟨b1.trans ((mirror_perm _ _ _ _).trans a1), b2, b3, b4⟩
  · rw [if_neg hq] at e
    obtain ⟨b1, b2, b3, b4⟩ := tail3_ev key (p := p1) (n := m1) (nrem := nrem) (by (first | lia | omega)) (by (first | lia | omega)) (by (first | lia | omega)) a5 m p' e
    exact ⟨b1.trans a1, b2, b3, b4⟩
theorem count_ev {p : Array Nat} {nrem : Nat} (h1 : 1 ≤ nrem) (hz : nrem ≤ p.size) : ∀ m p', kev (ltk key) (kas_count nrem p) = (m, p') → p'.Perm p ∧ 1 ≤ m ∧ m ≤ nrem ∧ UpTo key p' m := by
  intro m p' e
  unfold kas_count at e
  rw [kev_bind] at e
  have hu1 : UpTo key p 1 := fun i j a b => by
    rw [show i = 0 by (first | lia | omega), show j = 0 by (first | lia | omega)]; exact Int.le_refl _
  obtain ⟨a, b, c⟩ := asc_ev key p (nrem - 1) 1 (Nat.le_refl _) hu1
  have st := asc_stop key p (nrem - 1) 1
  generalize kev (ltk key) (kas_asc p (nrem - 1) 1) = n at *
  by_cases hn : (n == nrem) = true
  · rw [if_pos hn] at e
    cases e
    exact ⟨.refl _, by (first | lia | omega), by (first | lia | omega), c⟩
  · rw [if_neg hn] at e
    have hne : n ≠ nrem := fun z => hn (by rw [z]; exact beq_self_eq_true _)
    have hlt := st (by (first | lia | omega))
    by_cases h2 : n > 1
    · rw [if_pos h2] at e
      have e' : kev (ltk key) (if ltk key (p.getD 0 0) (p.getD (n - 1) 0) = true then .ret (n, p) else kas_descPart n nrem (kas_rev p 0 n)) = (m, p') := e
      by_cases d : ltk key (p.getD 0 0) (p.getD (n - 1) 0) = true
      · rw [if_pos d] at e'
        cases e'
        exact ⟨.refl _, by (first | lia | omega), by (first | lia | omega), c⟩
      · rw [if_neg d] at e'
        have d' : ¬ Kp key p 0 < Kp key p (n - 1) := fun z => d (decide_eq_true z)
        have alle : ∀ k, k < n → Kp key p k = Kp key p (n - 1) := fun k hk => by
          have x1 := c 0 k (Nat.zero_le _) hk
          have x2 := c k (n - 1) (by (first | lia | omega)) (by (first | lia | omega))
          (first | lia | omega)
        have hrv : ∀ k, Kp key (kas_rev p 0 n) k = Kp key p k := fun k => by
          rw [Kp_rev key (by (first | lia | omega))]
          by_cases z : 0 ≤ k ∧ k < n
          · rw [if_pos z, alle k z.2, alle _ (by (first | lia | omega))]
          · rw [if_neg z]
        obtain ⟨b1, b2, b3, b4⟩ := descPart_ev key (p := kas_rev p 0 n) (n := n) (nrem := nrem) (by (first | lia | omega)) (by (first | lia | omega)) (by rw [kas_rev_size]; (first | lia | omega)) (fun i j x y => by rw [hrv, hrv, alle i (by (first | lia | omega)), alle j y]; exact Int.le_refl _) (by rw [hrv, hrv]; exact hlt) m p' e'
        exact ⟨b1.trans (mirror_perm _ _ _ _), b2, b3, b4⟩
    · rw [if_neg h2] at e
      exact descPart_ev key (p := p) (n := n) (nrem := nrem) (by (first | lia | omega)) (by (first | lia | omega)) hz (fun i j x y => by rw [show i = 0 by (first | lia | omega), show j = 0 by (first | lia | omega)]; exact Int.le_refl _) hlt m p' e
theorem place_ev (p : Array Nat) (k : Nat) (hu : UpTo key p k) : ∀ (f l r : Nat), l ≤ r → r ≤ k → r - l ≤ f → (∀ i, i < l → Kp key p i ≤ Kp key p k) → (∀ i, r ≤ i → i < k → Kp key p k ≤ Kp key p i) →
    kev (ltk key) (kas_place p k f l r) ≤ k ∧ (∀ i, i < kev (ltk key) (kas_place p k f l r) → Kp key p i ≤ Kp key p k) ∧ (∀ i, kev (ltk key) (kas_place p k f l r) ≤ i → i < k → Kp key p k ≤ Kp key p i)
  | 0, l, r, h1, h2, h3, h4, h5 => by
    have : l = r := by (first | lia | omega)
    subst this
    exact ⟨h2, h4, h5⟩
  | f + 1, l, r, h1, h2, h3, h4, h5 => by
    have e : kas_place p k (f + 1) l r = if l ≥ r then .ret l else .ask (p.getD k 0) (p.getD ((l + r) / 2) 0) fun c => if c = true then kas_place p k f l ((l + r) / 2) else kas_place p k f ((l + r) / 2 + 1) r := rfl
    rw [e]
    by_cases hlr : l ≥ r
    · rw [if_pos hlr]
      have : l = r := by (first | lia | omega)
      subst this
      exact ⟨h2, h4, h5⟩
    · rw [if_neg hlr]
      have e2 : kev (ltk key) (KasT.ask (p.getD k 0) (p.getD ((l + r) / 2) 0) fun c => if c = true then kas_place p k f l ((l + r) / 2) else kas_place p k f ((l + r) / 2 + 1) r) = kev (ltk key) (if ltk key (p.getD k 0) (p.getD ((l + r) / 2) 0) = true then kas_place p k f l ((l + r) / 2) else kas_place p k f ((l + r) / 2 + 1) r) := rfl
      rw [e2]
      by_cases c : ltk key (p.getD k 0) (p.getD ((l + r) / 2) 0) = true
      · rw [if_pos c]
        have c' : Kp key p k < Kp key p ((l + r) / 2) := of_decide_eq_true c
        exact place_ev p k hu f l ((l + r) / 2) (by (first | lia | omega)) (by (first | lia | omega)) (by (first | lia | omega)) h4 fun i a b => by
          have := hu ((l + r) / 2) i a b
          (first | lia | omega)
      · rw [if_neg c]
        have c' : ¬ Kp key p k < Kp key p ((l + r) / 2) := fun z => c (decide_eq_true z)
        exact place_ev p k hu f ((l + r) / 2 + 1) r (by (first | lia | omega)) h2 (by (first | lia | omega)) (fun i a => by
          have := hu i ((l + r) / 2) (by (first | lia | omega)) (by (first | lia | omega))
          (first | lia | omega)) h5
theorem bin_ev : ∀ (f : Nat) (p : Array Nat) (k : Nat), k + f ≤ p.size → UpTo key p k → (kev (ltk key) (kas_bin f p k)).Perm p ∧ UpTo key (kev (ltk key) (kas_bin f p k)) (k + f)
  | 0, p, k, hz, hu => ⟨.refl _, hu⟩
  | f + 1, p, k, hz, hu => by
    have e : kas_bin (f + 1) p k = (kas_place p k k 0 k).bind fun l => kas_bin f (bubble p k (k - l)) (k + 1) := rfl
    rw [e, kev_bind]
    obtain ⟨a, b, c⟩ := place_ev key p k hu k 0 k (Nat.zero_le _) (Nat.le_refl _) (by (first | lia | omega)) (fun i h => absurd h (Nat.not_lt_zero _)) (fun i h1 h2 => by (first | lia | omega))
    generalize kev (ltk key) (kas_place p k k 0 k) = l at *
    have hb := Kp_bub key (p := p) (src := k) (d := k - l) (by (first | lia | omega)) (by (first | lia | omega))
    have hu2 : UpTo key (bubble p k (k - l)) (k + 1) := fun i j h1 h2 => by
      rw [hb i, hb j]
      have el : k - (k - l) = l := by (first | lia | omega)
      rw [el]
      by_cases i1 : i = l
      · rw [if_pos i1]
        by_cases j1 : j = l
        · rw [if_pos j1]; exact Int.le_refl _
        · rw [if_neg j1, if_pos (by (first | lia | omega))]
          exact c _ (by (first | lia | omega)) (by (first | lia | omega))
      · rw [if_neg i1]
        by_cases i2 : l < i ∧ i ≤ k
        · rw [if_pos i2, if_neg (by (first | lia | omega)), if_pos (by (first | lia | omega))]
          exact hu _ _ (by (first | lia | omega)) (by (first | lia | omega))
        · rw [if_neg i2]
          by_cases j1 : j = l
          · rw [if_pos j1]; exact b _ (by (first | lia | omega))
          · rw [if_neg j1]
            by_cases j2 : l < j ∧ j ≤ k
            · rw [if_pos j2]; exact hu _ _ (by (first | lia | omega)) (by (first | lia | omega))
            · rw [if_neg j2]; exact hu _ _ h1 (by (first | lia | omega))
    obtain ⟨x, y⟩ := bin_ev f (bubble p k (k - l)) (k + 1) (by rw [bubble_size]; (first | lia | omega)) hu2
    exact ⟨x.trans (bubble_perm _ _ _), by rw [show k + (f + 1) = k + 1 + f by (first | lia | omega)]; exact y⟩
theorem sort_ev {n : Nat} (h1 : 1 ≤ n) : (kev (ltk key) (kas_sort n)).toList.Perm (List.range n) ∧ (∀ i j, i ≤ j → j < n → Kp key (kev (ltk key) (kas_sort n)) i ≤ Kp key (kev (ltk key) (kas_sort n)) j) := by
  unfold kas_sort
  rw [kev_bind]
  rcases hr : kev (ltk key) (kas_count n (List.toArray (List.range n))) with ⟨m, p⟩
  obtain ⟨a, b, c, d⟩ := count_ev key (p := List.toArray (List.range n)) h1 (by simp) m p hr
  have sz : p.size = n := by have := a.size_eq; simpa using this
  dsimp only
  have pl : p.toList.Perm (List.range n) := by simpa using Array.perm_iff_toList_perm.mp a
  by_cases hm : m < n
  · rw [if_pos hm]
    rw [show max m 1 = m by (first | lia | omega)]
    obtain ⟨x, y⟩ := bin_ev key (n - m) p m (by (first | lia | omega)) d
    rw [show m + (n - m) = n by (first | lia | omega)] at y
    exact ⟨(Array.perm_iff_toList_perm.mp x).trans pl, y⟩
  · rw [if_neg hm]
    have : m = n := by (first | lia | omega)
    subst this
    exact ⟨pl, d⟩
end
end
section
noncomputable def AskIn {α : Type} (n : Nat) (P : α → Prop) : KasT α → Prop
  | .ret a => P a
  | .ask i j k => i < n ∧ j < n ∧ ∀ b, AskIn n P (k b)
theorem AskIn.bind {α β : Type} {n : Nat} {P : α → Prop} {R : β → Prop} {f : α → KasT β} : ∀ {t : KasT α}, AskIn n P t → (∀ a, P a → AskIn n R (f a)) → AskIn n R (t.bind f)
  | .ret a, h, hf => hf a h
  | .ask i j k, h, hf => ⟨h.1, h.2.1, fun b => AskIn.bind (h.2.2 b) hf⟩
theorem AskIn.ite {α : Type} {n : Nat} {P : α → Prop} {c : Prop} [Decidable c] {t u : KasT α} (h1 : AskIn n P t) (h2 : AskIn n P u) : AskIn n P (if c then t else u) := by
  by_cases h : c
  · rw [if_pos h]; exact h1
  · rw [if_neg h]; exact h2
theorem askIn_wp {α : Type} {n : Nat} {cmp : Nat → Nat → (Bool → Shared → Prop) → Shared → Prop} {lt : Nat → Nat → Bool} {S : Shared → Prop} {G : α → Shared → Prop}
    (hc : ∀ i j C s, i < n → j < n → S s → (∀ s', S s' → C (lt i j) s') → cmp i j C s) {P : α → Prop} : ∀ (t : KasT α) (s : Shared), AskIn n P t → S s → (∀ s', S s' → G (kev lt t) s') → t.kasWp cmp G s
  | .ret a, s, _, hs, hg => hg s hs
  | .ask i j k, s, ha, hs, hg => hc i j _ s ha.1 ha.2.1 hs fun s' hs' => askIn_wp hc (k (lt i j)) s' (ha.2.2 _) hs' hg
noncomputable def EntN (n : Nat) (p : Array Nat) : Prop := ∀ x ∈ p.toList, x < n
theorem EntN.get {n : Nat} {p : Array Nat} (h : EntN n p) (h0 : 0 < n) (k : Nat) : p.getD k 0 < n := by
  rw [Array.getD_eq_getD_getElem?]
  cases e : p[k]? with
  | none => exact h0
  | some x => exact h x (Array.mem_toList_iff.mpr (Array.mem_of_getElem? e))
theorem EntN.perm {n : Nat} {p q : Array Nat} (h : EntN n p) (hp : q.Perm p) : EntN n q := fun x hx => h x ((Array.perm_iff_toList_perm.mp hp).mem_iff.mp hx)
theorem EntN.rev {n : Nat} {p : Array Nat} (h : EntN n p) (i j : Nat) : EntN n (kas_rev p i j) := h.perm (mirror_perm _ _ _ _)
theorem EntN.bub {n : Nat} {p : Array Nat} (h : EntN n p) (i j : Nat) : EntN n (bubble p i j) := h.perm (bubble_perm _ _ _)
section
variable {n : Nat} (h0 : 0 < n)
include h0
theorem asc_in {p : Array Nat} (h : EntN n p) : ∀ f k, AskIn n (fun _ => True) (kas_asc p f k)
  | 0, k => trivial
  | f + 1, k => ⟨h.get h0 _, h.get h0 _, fun b => AskIn.ite (t := .ret k) trivial (asc_in h f (k + 1))⟩
theorem desc_in : ∀ f (p : Array Nat) (k q : Nat), EntN n p → AskIn n (fun r => EntN n r.1) (kas_desc f p k q)
  | 0, p, k, q, h => h
  | f + 1, p, k, q, h => ⟨h.get h0 _, h.get h0 _, fun b => AskIn.ite (AskIn.ite (desc_in f _ _ _ (h.rev _ _)) (desc_in f _ _ _ h))
      (u := .ask _ _ _) ⟨h.get h0 _, h.get h0 _, fun d => AskIn.ite (t := .ret (p, k, q)) h (desc_in f _ _ _ h)⟩⟩
theorem tail3_in {p : Array Nat} (h : EntN n p) (k r : Nat) : AskIn n (fun r => EntN n r.2) (kas_tail3 k r p) :=
  (asc_in h0 (h.rev 0 k) (r - k) k).bind fun _ _ => h.rev 0 k
theorem descPart_in {p : Array Nat} (h : EntN n p) (k r : Nat) : AskIn n (fun r => EntN n r.2) (kas_descPart k r p) :=
  (desc_in h0 (r - (k + 1)) p (k + 1) 0 h).bind fun a ha => AskIn.ite (tail3_in h0 (ha.rev _ _) _ _) (tail3_in h0 ha _ _)
theorem count_in {p : Array Nat} (h : EntN n p) (r : Nat) : AskIn n (fun r => EntN n r.2) (kas_count r p) :=
  (asc_in h0 h (r - 1) 1).bind fun k _ => AskIn.ite (t := .ret (k, p)) h (AskIn.ite (t := .ask _ _ _) ⟨h.get h0 _, h.get h0 _, fun c => AskIn.ite (t := .ret (k, p)) h (descPart_in h0 (h.rev _ _) _ _)⟩ (descPart_in h0 h _ _))
theorem place_in {p : Array Nat} (h : EntN n p) (k : Nat) : ∀ f l r, AskIn n (fun _ => True) (kas_place p k f l r)
  | 0, l, r => trivial
  | f + 1, l, r => AskIn.ite (t := .ret l) trivial (u := .ask _ _ _) ⟨h.get h0 _, h.get h0 _, fun c => AskIn.ite (place_in h k f _ _) (place_in h k f _ _)⟩
theorem bin_in : ∀ f (p : Array Nat) (k : Nat), EntN n p → AskIn n (fun _ => True) (kas_bin f p k)
  | 0, p, k, h => trivial
  | f + 1, p, k, h => (place_in h0 h k k 0 k).bind fun l _ => bin_in f _ _ (h.bub _ _)
theorem sort_in : AskIn n (fun _ => True) (kas_sort n) :=
  (count_in h0 (p := List.toArray (List.range n)) (fun x hx => by simpa using hx) n).bind fun a ha => AskIn.ite (bin_in h0 _ _ _ ha) (u := .ret a.2) trivial
end
end
section
noncomputable def tkey (x : X3) : Int := x.2.1 * 16 + x.2.2.1 * 4 + x.2.2.2
noncomputable def Sml (x : X3) : Prop := (0 ≤ x.2.2.1 ∧ x.2.2.1 < 4) ∧ (0 ≤ x.2.2.2 ∧ x.2.2.2 < 4)
section
variable {prog : Program} {w : World} {A : Around} {E : Value → Shared → Prop} {s : Shared} {h₀ : Heap} {L : Addr} {m : Str → Option Value} {news : List (Addr × Obj)}
theorem tri_ask {x y : X3} {Q : Bool → Shared → Prop} (N : News h₀ L s.heap news) (hx : TriIn news x) (hy : TriIn news y) (sx : Sml x) (sy : Sml y) (h : Q (decide (tkey x < tkey y)) s) :
    wpAny (model prog w) A (keyLt' (tuples' true) (.ref x.1) (.ref y.1)) Q E s := by
  obtain ⟨ta, tb, tc, n, mx⟩ := hx
  obtain ⟨ua, ub, uc, k, my⟩ := hy
  obtain ⟨xa, x1, x2, x3⟩ := x
  obtain ⟨ya, y1, y2, y3⟩ := y
  have hb : ∀ b : Bool, (b = true ↔ x1 * 16 + x2 * 4 + x3 < y1 * 16 + y2 * 4 + y3) → Q b s := fun b z => by
    have : b = decide (tkey (xa, x1, x2, x3) < tkey (ya, y1, y2, y3)) := by
      rw [Bool.eq_iff_iff, decide_eq_true_eq]; exact z
    rw [this]; exact h
  clear h
  simp only [Sml] at sx sy
  refine kat_lt (N _ mx).1 rfl (N _ my).1 rfl ?_
  show KatLex prog w A true _ Q [(.int x1 ta, .int y1 ua), (.int x2 tb, .int y2 ub), (.int x3 tc, .int y3 uc)] 0 s
  refine kat_cons (wpAny_eqBool_int ?_)
  by_cases e1 : x1 = y1
  · rw [show (x1 == y1) = true by simp [e1]]
    refine kat_yes (kat_cons (wpAny_eqBool_int ?_))
    by_cases e2 : x2 = y2
    · rw [show (x2 == y2) = true by simp [e2]]
      refine kat_yes (kat_cons (wpAny_eqBool_int ?_))
      by_cases e3 : x3 = y3
      · rw [show (x3 == y3) = true by simp [e3]]
        refine kat_yes (kat_nil ?_)
        exact hb _ (by rw [decide_eq_true_eq]; show 3 < 3 ↔ _; (first | lia | omega))
      · rw [show (x3 == y3) = false by simp [e3]]
        refine kat_no ?_
        refine kat_one _ _ (wpAny_lt_int ?_)
        exact hb _ (by rw [decide_eq_true_eq]; (first | lia | omega))
    · rw [show (x2 == y2) = false by simp [e2]]
      refine kat_no ?_
      refine kat_one _ _ (wpAny_lt_int ?_)
      exact hb _ (by rw [decide_eq_true_eq]; (first | lia | omega))
  · rw [show (x1 == y1) = false by simp [e1]]
    refine kat_no ?_
    refine oneLt_int ?_
    exact hb _ (by rw [decide_eq_true_eq]; (first | lia | omega))
end
section
variable {prog : Program} {w : World} {A : Around} {E : Value → Shared → Prop} {s : Shared} {h₀ : Heap} {L : Addr} {m : Str → Option Value} {news : List (Addr × Obj)}
theorem tri_tups (N : News h₀ L s.heap news) : ∀ (xs : List X3), (∀ x ∈ xs, TriIn news x) → ∃ fs : List Value, KatTups s.heap (refsOf xs) fs ∧ fs.length = xs.length ∧ ∀ v ∈ fs, ∃ a t, v = .int a t
  | [], _ => ⟨[], trivial, rfl, fun v h => nomatch h⟩
  | x :: xs, h => by
    obtain ⟨fs, h1, h2, h3⟩ := tri_tups N xs fun y hy => h y (.tail _ hy)
    obtain ⟨ta, tb, tc, n, mx⟩ := h x (.head _)
    refine ⟨.int x.2.1 ta :: fs, KatTups.cons (N _ mx).1 rfl rfl rfl h1, by simp [h2], fun v hv => ?_⟩
    rcases List.mem_cons.mp hv with rfl | hv
    · exact ⟨_, _, rfl⟩
    · exact h3 v hv
theorem range_pick : ∀ (xs : List X3), (List.range xs.length).filterMap (fun i => xs[i]?) = xs
  | [] => rfl
  | x :: xs => by
    rw [List.length_cons, List.range_succ_eq_map, List.filterMap_cons]
    show x :: List.filterMap _ (List.map Nat.succ (List.range xs.length)) = _
    rw [List.filterMap_map]
    have e : ((fun i => (x :: xs)[i]?) ∘ Nat.succ) = fun i => xs[i]? := funext fun i => rfl
    rw [e, range_pick xs]
theorem sorted_tris {l : Addr} {xs : List X3} {n : Nat} {Q : Value → Shared → Prop} (F : Fr h₀ L s.heap m) (N : News h₀ L s.heap news) (ml : (l, lstObj (refsOf xs) n) ∈ news) (hx : ∀ x ∈ xs, TriIn news x) (hs : ∀ x ∈ xs, Sml x) (h2 : 2 ≤ xs.length) (h64 : xs.length < 64)
    (h : ∀ D c h' ys, Fr h₀ L h' m → News h₀ L h' ((D, lstObj (refsOf ys) c) :: news) → (∀ q ∈ news, q.1 < D) → ys.Perm xs → ys.Pairwise (fun a b => tkey a ≤ tkey b) → Q (.ref D) { s with heap := h' }) :
    wpAny (model prog w) A (call (.builtin "sorted") [.ref l]) Q E s := by
  have hlen : (refsOf xs).length = xs.length := by simp [refsOf]
  refine kat_sorted F N (lst_is N ml) (by (first | lia | omega)) (by (first | lia | omega)) ?_
  intro D e1 h' F' N' lt'
  have hx' : ∀ x ∈ xs, TriIn ((D, seqObj "list" #[] e1) :: news) x := fun x hx1 => by
    obtain ⟨a, b, c, d, e⟩ := hx x hx1
    exact ⟨a, b, c, d, .tail _ e⟩
  obtain ⟨fs, t1, t2, t3⟩ := tri_tups (s := { s with heap := h' }) N' xs hx'
  refine kat_kind (T := .type "int") t1 (by (first | lia | omega)) (fun v hv => ?_) (by decide) ?_
  · obtain ⟨a, t, rfl⟩ := t3 v hv
    exact Looks.now
  rw [show (Value.type "int" != Value.type "tuple") = true by decide]
  rw [hlen]
  have key0 : ∀ i, i < xs.length → ∃ x, xs[i]? = some x := fun i hi => ⟨_, List.getElem?_eq_getElem hi⟩
  refine askIn_wp (n := xs.length) (lt := ltk (fun i => (xs[i]?.map tkey).getD 0)) (S := fun s' => s' = { s with heap := h' }) ?_ (kas_sort xs.length) _ (sort_in (by (first | lia | omega))) rfl ?_
  · rintro i j C _ hi hj rfl hC
    obtain ⟨x, ex⟩ := key0 i hi
    obtain ⟨y, ey⟩ := key0 j hj
    have hC' := hC _ rfl
    show wpAny (model prog w) _ (keyLt' (tuples' true) ((refsOf xs).getD i Value.none) ((refsOf xs).getD j Value.none)) C _ _
    have gx : (refsOf xs).getD i Value.none = .ref x.1 := by simp [refsOf, List.getD_eq_getElem?_getD, ex]
    have gy : (refsOf xs).getD j Value.none = .ref y.1 := by simp [refsOf, List.getD_eq_getElem?_getD, ey]
    rw [gx, gy]
    refine tri_ask (s := { s with heap := h' }) N' (hx' x (List.mem_of_getElem? ex)) (hx' y (List.mem_of_getElem? ey)) (hs x (List.mem_of_getElem? ex)) (hs y (List.mem_of_getElem? ey)) ?_
    simp only [ltk, ex, ey, Option.map_some, Option.getD_some] at hC'
    exact hC'
  · rintro _ rfl
    obtain ⟨pm, so⟩ := sort_ev (fun i => (xs[i]?.map tkey).getD 0) (n := xs.length) (by (first | lia | omega))
    generalize kev (ltk fun i => (xs[i]?.map tkey).getD 0) (kas_sort xs.length) = p at pm so
    have psz : p.size = xs.length := by have := pm.length_eq; simpa using this
    refine KasFin.intro F' N' (UpdF.head fun q hq => Nat.ne_of_lt (lt' q hq)) ?_
    intro h3 c F3 N3
    have hout : (p.toList.map fun i => (refsOf xs).getD i Value.none) = refsOf (p.toList.filterMap fun i => xs[i]?) := by
      have : ∀ l : List Nat, (∀ i ∈ l, i < xs.length) → (l.map fun i => (refsOf xs).getD i Value.none) = refsOf (l.filterMap fun i => xs[i]?) := by
        intro l
        induction l with
        | nil => intro _; rfl
        | cons a l ih =>
          intro hl
          obtain ⟨x, ex⟩ := key0 a (hl a (.head _))
          rw [List.map_cons, List.filterMap_cons, ex, ih fun i hi => hl i (.tail _ hi)]
          simp [refsOf, List.getD_eq_getElem?_getD, ex]
      exact this _ fun i hi => by have := pm.mem_iff.mp hi; simpa using this
    rw [hout] at N3
    refine h D c h3 _ F3 N3 lt' ?_ ?_
    · refine (pm.filterMap _).trans ?_
      rw [range_pick xs]
    · rw [List.pairwise_filterMap, List.pairwise_iff_getElem]
      intro i j hi hj hij x ex y ey
      have hi' : i < p.size := by simpa using hi
      have hj' : j < p.size := by simpa using hj
      have q := so i j (by (first | lia | omega)) (by (first | lia | omega))
      have e1 : p.getD i 0 = p.toList[i] := by simp [Array.getD_eq_getD_getElem?, hi']
      have e2 : p.getD j 0 = p.toList[j] := by simp [Array.getD_eq_getD_getElem?, hj']
      unfold Kp at q
      rw [e1, e2] at q
      have ex' : xs[p.toList[i]]? = some x := ex
      have ey' : xs[p.toList[j]]? = some y := ey
      dsimp only at q
      rw [ex', ey'] at q
      exact q
end
end
section
noncomputable abbrev frs (l : List Env) : List Addr := l.filterMap (·.frame)
theorem frs_mem {env : Env} {outer : List Env} {L b : Addr} (hf : env.frame = some L) (hm : b ∈ frs (env :: outer)) : b = L ∨ b ∈ frs outer := by
  obtain ⟨e, he, hb⟩ := List.mem_filterMap.mp hm
  rcases List.mem_cons.mp he with rfl | he
  · exact .inl (Option.some.inj (hb.symm.trans hf))
  · exact .inr (List.mem_filterMap.mpr ⟨e, he, hb⟩)
/-- the ground below a frame: what stands there for good -/
structure Gd (w : World) (A₀ : Around) (base : Heap) (outer : List Env) (p : Program) (loose : List Str) (mean : ExcName → Option Value) (mg mb : Str → Option Value) (h : Heap) : Prop where
  B : Below A₀ base outer h
  X : (hd.heap_39 w.params).In base
  T : Top p loose mean mg mb base
  D : KtsDicts (frs outer) h
section
variable {w : World} {A₀ A : Around} {base h₀ g : Heap} {env : Env} {outer : List Env} {p : Program} {loose : List Str} {mean : ExcName → Option Value} {mg mb : Str → Option Value} {L : Addr} {m : Str → Option Value} {news : List (Addr × Obj)}
theorem Gd.In (G : Gd w A₀ base outer p loose mean mg mb h₀) : (hd.heap_39 w.params).In h₀ := G.X.keeps G.B.stays
theorem Gd.tp (G : Gd w A₀ base outer p loose mean mg mb h₀) : Top p loose mean mg mb h₀ := G.T.keeps G.B.stays
theorem Gd.cx (G : Gd w A₀ base outer p loose mean mg mb h₀) (hf : env.frame = some L) (hk : env.scope.kind = .function) : Cx w env outer h₀ L := ⟨⟨p, loose, mean, mg, mb, A₀, base, G.B, G.In, G.tp⟩, hf, hk⟩
theorem below_push {h : Heap} (K : Below A₀ base outer h₀) (F : Fr h₀ L h m) (hA : A.frames = some (env :: outer)) (hf : env.frame = some L) (hk : env.scope.kind = .function) : Below A base (env :: outer) h := by
  have hnew : base.get? L = none := by
    cases hq : base.get? L with
    | none => rfl
    | some o => exact absurd (Nat.lt_of_lt_of_le (Heap.lt_size (K.stays L o hq)) F.above) (Nat.lt_irrefl _)
  refine ⟨hA, fun b o e => F.keep b o (K.stays b o e), ?_⟩
  exact .cons (by rw [hk]; decide) hf F.ns hnew (K.frames.of_keeps fun b o e _ => ⟨o, F.keep b o e, rfl⟩)
end
noncomputable def LeaveT (env : Env) (outer : List Env) (A₀ : Around) (base h₀ : Heap) (L : Addr) (m : Str → Option Value) (g : Heap) (R : Result → Shared → Prop) (v : Value) (s' : Shared) : Prop :=
  ∃ g' L' m' news', KtsTurn (frs (env :: outer)) g g' ∧ Fr g' L' s'.heap m' ∧ News g' L' s'.heap news' ∧
    ∀ h₀', KtsTurn (frs outer) h₀ h₀' → Fr h₀' L s'.heap m → News h₀' L s'.heap news' → Below A₀ base outer h₀' → KtsDicts (frs outer) h₀' → R (.ok (.ret v)) s'
section
variable {prog : Program} {w : World} {A₀ A : Around} {s : Shared} {base h₀ : Heap} {env : Env} {outer : List Env} {L : Addr} {m : Str → Option Value} {news : List (Addr × Obj)} {K : Frag} {p : Program} {loose : List Str} {mean : ExcName → Option Value} {mg mb : Str → Option Value}
    {R : Result → Shared → Prop} {name qual : Str} {params : Arguments} {body : List Stmt} {scope : Scope} {dV kV doc pm cdv ct oc : Value} {an od : Option Addr} {osl : Array (Option Value)} {f : Addr} {args : Args} {binds : List (Str × Value)}
theorem ground_of (B : Below A₀ base outer h₀) (F : Fr h₀ L s.heap m) (N : News h₀ L s.heap news) (hA : A.frames = some (env :: outer)) (hf : env.frame = some L) (hk : env.scope.kind = .function) :
    ∃ oL es ep, (hideAll s.heap (news.map (·.1))).get? L = some oL ∧ oL.data = .dict es ep ∧ (∀ (sl : Array (Option Value)) h', h'.get? L = some { oL with slots := sl } → Heap.Ns h' L m) ∧
      h₀.StaysIn (hideAll s.heap (news.map (·.1))) ∧ Below A base (env :: outer) (hideAll s.heap (news.map (·.1))) ∧ Fr h₀ L (hideAll s.heap (news.map (·.1))) m := by
  have nm : ∀ b o, h₀.get? b = some o → b ∉ news.map (·.1) := fun b o e q => by
    obtain ⟨p, hp, rfl⟩ := List.mem_map.mp q
    rw [(N p hp).2.2] at e; cases e
  have st : h₀.StaysIn (hideAll s.heap (news.map (·.1))) := fun b o e => hideAll_get _ (F.keep b o e) (nm b o e)
  obtain ⟨oL, es, ep, hL, hLd, hLk, hLf⟩ := F.ns
  have nL : L ∉ news.map (·.1) := fun q => by
    obtain ⟨p, hp, e⟩ := List.mem_map.mp q
    exact (N p hp).2.1 e
  have hLg := hideAll_get (news.map (·.1)) hL nL
  have B₁ := below_push (A := A) B F hA hf hk
  refine ⟨oL, es, ep, hLg, hLd, fun sl h' e => ⟨_, es, ep, e, hLd, hLk, hLf⟩, st, ⟨hA, fun b o e => st b o (B.stays b o e), ?_⟩, ⟨⟨oL, es, ep, hLg, hLd, hLk, hLf⟩, st, F.above⟩⟩
  refine funFrames_hideAll B₁.frames fun e he b hb hfb => ?_
  rcases List.mem_cons.mp he with rfl | he
  · exact nL ((Option.some.inj (hf.symm.trans hfb) : L = b) ▸ hb)
  · obtain ⟨L₁, o₁, hf₁, ho₁⟩ := funFrames_in B.frames e he
    rw [hf₁] at hfb
    exact nm L₁ o₁ ho₁ ((Option.some.inj hfb : L₁ = b) ▸ hb)
theorem back_of {h' g' : Heap} {L' : Addr} {m' : Str → Option Value} {news' : List (Addr × Obj)} {gn : Heap} {oL : Obj} (B : Below A₀ base outer h₀) (F : Fr h₀ L s.heap m) (D : KtsDicts (frs outer) h₀) (hf : env.frame = some L)
    (hLg : gn.get? L = some oL) (hNs : ∀ (sl : Array (Option Value)) h', h'.get? L = some { oL with slots := sl } → Heap.Ns h' L m) (st : h₀.StaysIn gn)
    (T' : KtsTurn (frs (env :: outer)) gn g') (F' : Fr g' L' h' m') (N' : News g' L' h' news') :
    ∃ h₀', KtsTurn (frs outer) h₀ h₀' ∧ Fr h₀' L h' m ∧ News h₀' L h' news' ∧ Below A₀ base outer h₀' ∧ KtsDicts (frs outer) h₀' := by
  have nL₀ : h₀.get? L = none := kts_self F
  obtain ⟨sl, hs⟩ := T'.up hLg
  obtain ⟨T₁, S₁⟩ := kts_turn_at (h := h') (fs := frs outer) (g := h₀)
    (fun b hb => by
      obtain ⟨_, o, ho', _⟩ := B.frames.mem hb
      exact ⟨o, ho'⟩)
    (fun b o e nmem => F'.keep b o (T'.other b o (st b o e) (fun q => by
      rcases frs_mem hf q with z | z
      · rw [z, nL₀] at e; cases e
      · exact nmem z)))
    (fun b o e hm => by
      obtain ⟨sl', hs'⟩ := T'.up (st b o e)
      exact ⟨sl', F'.keep _ _ hs'⟩)
  have B₃ : Below A₀ base outer (ktsHeap h' (frs outer) h₀) := ⟨B.stack, fun b o e => T₁.other b o (B.stays b o e) (fun hm => by
    rw [(B.frames.mem hm).1] at e; cases e), B.frames.of_keeps fun b o e _ => by
    obtain ⟨sl', hs'⟩ := T₁.up e
    exact ⟨_, hs', rfl⟩⟩
  refine ⟨_, T₁, ⟨hNs sl _ (F'.keep _ _ hs), S₁, by rw [T₁.size]; exact F.above⟩, fun p hp => ⟨(N' p hp).1, fun q => ?_, ?_⟩, B₃, D.turn T₁⟩
  · have := (N' p hp).2.2; rw [q, hs] at this; cases this
  · refine T₁.none_ _ ?_
    cases q : h₀.get? p.1 with
    | none => rfl
    | some o =>
      obtain ⟨sl', hs'⟩ := T'.up (st _ _ q)
      have := (N' p hp).2.2
      rw [hs'] at this; cases this
theorem code_defT (B : Below A₀ base outer h₀) (F : Fr h₀ L s.heap m) (X₀ : K.In h₀) (N : News h₀ L s.heap news) (T : Top p loose mean mg mb h₀) (D : KtsDicts (frs outer) h₀)
    (hA : A.frames = some (env :: outer)) (hf : env.frame = some L) (hke : env.scope.kind = .function)
    (ho : K.lookup f = some ⟨oc, od, .func (fnOf name qual params body scope dV kV doc pm an cdv ct), osl⟩) (hcd : codeIn K cdv qual = true) (hroom : A.depth < recursionLimit)
    (hbind : BindsTo s (fnOf name qual params body scope dV kV doc pm an cdv ct) args binds) (hloc : ∀ y ∈ binds, scope.names.lookup y.1 = some .local)
    (h : ∀ g L' h₁, Fr h₀ L g m → Fr g L' h₁ (fun y => binds.reverse.lookup y) → News g L' h₁ news → Below A base (env :: outer) g → K.In g → Top p loose mean mg mb g → KtsDicts (frs (env :: outer)) g →
      wpAny (model prog w) (A.deeper (envOf qual scope L' f cdv)) (execs body (envOf qual scope L' f cdv))
        (fun fl s' => LeaveT env outer A₀ base h₀ L m g R (match fl with | .ret v => v | _ => .none) s')
        (fun e s' => wpAny (model prog w) (A.deeper (envOf qual scope L' f cdv)) (leaving (envOf qual scope L' f cdv) e) (fun _ s'' => R (.error e) s'') (fun e' s'' => R (.error e') s'') s')
        { s with heap := h₁, toks := s.toks + binds.length })
    (hco : scope.isCoroutine = false) (hgen : scope.isGenerator = false) (hk : scope.kind = .function)
    (hcell : ∀ x ∈ scope.names, x.2 ≠ .cell) : codeAny (model prog w) A (.call (.ref f) args) R s := by
  have X := X₀.keeps F.keep
  refine codeAny_call_def (fd := fnOf name qual params body scope dV kV doc pm an cdv ct) (body := body) (binds := binds) hroom (X _ _ ho) rfl (T.nolimit.keeps F.keep) (codeRec_of X hcd) rfl hbind hcell hloc (fun h₁ hns hk₁ => ?_) hco hgen hk
  obtain ⟨oL, es, ep, hLg, hLd, hNs, st, B₂, FG⟩ := ground_of (A := A) B F N hA hf hke
  refine wpAny_mono (h _ s.heap.objs.size h₁ FG ⟨hns, fun b o e => hk₁ b o (of_hideAll _ e), Nat.le_of_eq (hideAll_size _ _)⟩
    (fun p hp => ⟨hk₁ _ _ (N p hp).1, Nat.ne_of_lt (Heap.lt_size (N p hp).1), hideAll_none _ (List.mem_map_of_mem hp)⟩) B₂ (X₀.keeps st) (T.keeps st) (fun b hb => by
      rcases frs_mem hf hb with rfl | hb
      · exact ⟨oL, es, ep, hLg, hLd⟩
      · obtain ⟨o, es', n', ho', hd'⟩ := D b hb
        exact ⟨o, es', n', st b o ho', hd'⟩)) (fun fl s' hl => ?_) fun _ _ y => y
  obtain ⟨g', L', m', news', T', F', N', k⟩ := hl
  obtain ⟨h₀', a1, a2, a3, a4, a5⟩ := back_of B F D hf hLg hNs st T' F' N'
  exact k h₀' a1 a2 a3 a4 a5
end
section
variable {prog : Program} {w : World} {A₀ : Around} {E : Value → Shared → Prop} {s' : Shared} {base g h : Heap} {outer : List Env} {L a e : Addr} {m : Str → Option Value} {name : Str} {scope : Scope} {cd : Value}
  {b₀ : Stmt} {suite : List Stmt} {pos np : Pos} {rest : List ExceptHandler} {Q : Flow → Shared → Prop} {news : List (Addr × Obj)} {KF : Frag}
  {p : Program} {loose : List Str} {mean : ExcName → Option Value} {mg mb : Str → Option Value} {x : Str} {X T' : String} {oe : Obj} {vs : Array Value} {a0 : Value}
theorem caught_here (K : Below A₀ base outer g) (F : Fr g L h m) (N : News g L h news) (XB : KF.In base) (TB : Top p loose mean mg mb base) (D : KtsDicts (frs outer) g)
    (hkeep : ∀ b o, h.get? b = some o → s'.heap.get? b = some o) (hen : h.get? e = none) (he : s'.heap.get? e = some oe) (hcls : oe.cls = .type X) (hd : oe.data = .fields vs) (h0 : vs[0]? = some a0) (h1 : vs[1]? = some .none)
    (ex : nsIn KF mainGlobals x = some none) (hv : bootBuiltins x = some (.type T')) (hn' : x ≠ "__name__")
    (hexc : isSubtype (.type T') (.type "BaseException") = pure true) (hnt : isSubtype (.type ((Manifest.find? T').elim "type" fun y => y.metatype)) (.type "tuple") = pure false) (hsub : isSubtype (.type X) (.type T') = pure true)
    (k : ∀ h' g', KtsTurn (frs outer) g g' → Fr g' L h' m → News g' L h' news → Below A₀ base outer g' → KF.In g' → Top p loose mean mg mb g' → KtsDicts (frs outer) g' →
      wpAny (model prog w) ((A₀.deeper (envOf name scope L a cd)).mark (some (.ref e))) (execs (b₀ :: suite) (envOf name scope L a cd)) Q E { s' with heap := h' })
    (hk : scope.kind = .function := by rfl) (hx : (envOf name scope L a cd).kindOf x = some .globalImplicit := by rfl) (hdb : (x == ("__debug__" : Str)) = false := by decide)
    (hE : PassesOwnAt (model prog w) ((A₀.deeper (envOf name scope L a cd)).mark (some (.ref e))) (A₀.deeper (envOf name scope L a cd)) (envOf name scope L a cd) E := by passes_own) :
    wpAny (model prog w) (A₀.deeper (envOf name scope L a cd)) (noteFrame (.ref e) (envOf name scope L a cd))
      (fun _ s₂ => wpAny (model prog w) (A₀.deeper (envOf name scope L a cd)) (setFlight (.ref e) none) (fun _ s₃ =>
        wpAny (model prog w) (A₀.deeper (envOf name scope L a cd)) (handleBy (.ref e) (envOf name scope L a cd) (.ExceptHandler (some (.Name x np)) none (b₀ :: suite) pos :: rest)) Q E s₃) E s₂) E s' := by
  have K' := K.push (name := name) (a := a) (cd := cd) F hk
  have hin : ∀ env ∈ (envOf name scope L a cd :: outer), ∀ b, env.frame = some b → b ∈ frs (envOf name scope L a cd :: outer) := fun env he b hb => List.mem_filterMap.mpr ⟨env, he, hb⟩
  let B := hideAll h (frs (envOf name scope L a cd :: outer))
  have hBG : ∀ b o, h.get? b = some o → b ∉ frs (envOf name scope L a cd :: outer) → B.get? b = some o := fun b o q nm => hideAll_get _ q nm
  have hl : ∀ q ∈ news, B.get? q.1 = some q.2 := fun q hq => by
    refine hideAll_get _ (N q hq).1 fun hm => ?_
    rcases frs_mem rfl hm with z | z
    · exact (N q hq).2.1 z
    · obtain ⟨o, ho, _⟩ := (K.frames.mem z).2
      rw [(N q hq).2.2] at ho; cases ho
  have kB : B.StaysIn s'.heap := fun b o q => hkeep b o (of_hideAll _ q)
  have hBe : B.get? e = none := by
    cases q : B.get? e with
    | none => rfl
    | some o => have := of_hideAll _ q; rw [hen] at this; cases this
  have hL : B.get? L = none := hideAll_none _ (hin _ (.head _) L rfl)
  have ff : s'.heap.FunFrames B (envOf name scope L a cd :: outer) := (funFrames_hide K'.frames hin).of_keeps fun b o hb _ => ⟨o, hkeep b o hb, rfl⟩
  have up0 : h.UpToSlots s'.heap := Heap.UpToSlots.of_keeps hkeep
  unfold noteFrame
  dsimp only [envOf]
  refine wpAny_bind (wpAny_field he hd h1 ?_)
  rw [if_neg (by decide)]
  refine wpAny_entryW (base := B) (a0 := a0) (Around.frames_deeper K.stack) ff rfl he kB hBe hd (Array.getElem?_eq_some_iff.mp h1).1 h0 fun h₄ hN4 => ?_
  have hheld₄ : Heap.HeldW B (envOf name scope L a cd :: outer) e (.type X) a0 L h₄ := ⟨hN4.1, hBe, hN4.2.1, hcls ▸ hN4.2.2.1⟩
  have hsm₄ : s'.heap.UpToSlots h₄ := hN4.2.2.2
  refine wpAny_landsW hheld₄ fun h₅ hheld hsm₅' => ?_
  have hsm₅ := (up0.trans hsm₄).trans hsm₅'
  obtain ⟨g₅, T₅, F₅, K₅⟩ := kts_ground K F hBG hheld.1 hsm₅
  have X₅ : KF.In g₅ := XB.keeps K₅.stays
  have P₅ : TopRead p loose mg mb g₅ := topRead_of (TB.keeps K₅.stays)
  obtain ⟨ob, hob, hobc⟩ := hheld.there
  refine wpAny_handleBy_builtin (X := X) (T := T') (b := true) hexc hnt hsub (name_B F₅ X₅ P₅ ex hv hn' ⟨rfl, ⟨ob, hob, hobc⟩, ?_⟩ hk hx hdb)
  refine lands_againW hheld fun h₆ hfl₆ hsm₆ => ?_
  obtain ⟨g₆, T₆, F₆, K₆⟩ := kts_ground K F hBG hfl₆.1 (hsm₅.trans hsm₆)
  have Nl : News g₆ L h₆ news := fun q hq => ⟨hfl₆.1 _ _ (hl q hq), (N q hq).2.1, T₆.none_ _ (N q hq).2.2⟩
  exact wpAny_passesOwnAt hE (k h₆ g₆ T₆ F₆ Nl K₆ (XB.keeps K₆.stays) (TB.keeps K₆.stays) (D.turn T₆))
end
end
section
noncomputable def HnOk (hn : Option Value) (h : Heap) : Prop := hn = none ∨ ∃ c oc cs, hn = some (.ref c) ∧ h.get? c = some oc ∧ oc.data = .fields cs ∧ cs[2]? = some .none
noncomputable abbrev mwObj (it : Addr) : Obj := { cls := .type "method-wrapper", data := .fields #[.builtin "list_iterator.__next__", .ref it] }
theorem entry_unchain : entryFor table "proto.unchain" = some Builtin.«proto.unchain» := entryFor_of_tree (by kernel_rfl)
theorem plain_unchain : plainId "proto.unchain" = true := by decide +kernel
theorem check_lin {it : Addr} : checkBoundCall "list_iterator.__next__" ⟨[.ref it], []⟩ = pure () := by first | kernel_rfl | rfl
theorem plain_lin : plainId "list_iterator.__next__" = true := by decide +kernel
section
variable {prog : Program} {w : World} {A : Around} {E : Value → Shared → Prop} {s : Shared} {h₀ : Heap} {L : Addr} {m : Str → Option Value} {news : List (Addr × Obj)}
theorem raise_new {α : Type} {e : Addr} {oe : Obj} {vs : Array Value} {Q : α → Shared → Prop} (hh : HnOk A.handled s.heap) (hne : ∀ c, A.handled = some (.ref c) → @Ne Nat c e) (he : s.heap.get? e = some oe) (hd : oe.data = .fields vs) (hsz : 2 < vs.size)
    (h : ∀ h' oe' vs', h'.get? e = some oe' → oe'.cls = oe.cls → oe'.data = .fields vs' → vs'[0]? = vs[0]? → vs'[1]? = vs[1]? → (∀ b o, b ≠ e → s.heap.get? b = some o → h'.get? b = some o) → E (.ref e) { s with heap := h' }) :
    wpAny (model prog w) A (raiseNew (.ref e) : Sem α) Q E s := by
  unfold raiseNew
  refine wpAny_bind (wpAny_handled ?_)
  rcases hh with hh | ⟨c, oc, cs, hh, hc, hcd, h2⟩
  · rw [hh]
    exact wpAny_bind (wpAny_pure (wpAny_throw (h _ oe vs he rfl hd rfl rfl fun _ _ _ x => x)))
  · have hce := hne c hh
    rw [hh]
    dsimp only
    rw [if_pos (by simp; exact hce)]
    refine wpAny_bind (wpAny_holding (wpAny_runValue (codeAny_builtin entry_unchain ?_)))
    unfold Builtin.«proto.unchain»
    dsimp only
    refine wpAny_bind (wpAny_field hc hcd h2 ?_)
    rw [if_pos (by rfl)]
    refine wpAny_pure ?_
    refine wpAny_bind ?_
    refine wpAny_mono (wpAny_setField (x := .ref c) he hd hsz (Q := fun _ s' => s' = { s with heap := s.heap.update e (Obj.mapFields (·.setIfInBounds 2 (.ref c))) }) rfl) (fun _ s' hs => ?_) fun _ _ z => z
    subst hs
    refine wpAny_throw (h _ (Obj.mapFields (·.setIfInBounds 2 (.ref c)) oe) _ (Heap.get?_update_self _ he (Obj.isFreed_of_fields (Obj.data_mapFields hd _))) (Obj.cls_mapFields ..) (Obj.data_mapFields hd _) ?_ ?_ fun b o hb ho => ?_)
    · rw [Array.getElem?_setIfInBounds_ne (by decide)]
    · rw [Array.getElem?_setIfInBounds_ne (by decide)]
    · rw [Heap.get?_update_other _ _ (Ne.symm hb)]; exact ho
theorem size_push1 (h : Heap) (o : Obj) : (h.push o).objs.size = h.objs.size + 1 := by simp [Heap.push]
theorem ne_push {h : Heap} {o ob : Obj} {b : Addr} (hb : h.get? b = some ob) : @Ne Nat b (h.push o).objs.size := by
  have h1 : @LT.lt Nat _ b h.objs.size := Heap.lt_size hb
  rw [size_push1]; (first | lia | omega)
theorem none_push (h : Heap) (o : Obj) : h.get? (h.push o).objs.size = none := by
  cases hq : h.get? (h.push o).objs.size with
  | none => rfl
  | some ob => exact absurd rfl (ne_push (o := o) hq)
theorem mw_next {q it l : Addr} {oi : Obj} {i n : Nat} {vs : List Value} {v : Value} {Q : Value → Shared → Prop} (F : Fr h₀ L s.heap m) (N : News h₀ L s.heap ((it, oi) :: news)) (hq : (q, mwObj it) ∈ news) (hi : IsLIt oi l i) (hn : ∀ p ∈ news, p.1 ≠ it) (hm : (l, lstObj vs n) ∈ news) (hx : vs[i]? = some v)
    (h : ∀ oi' h', IsLIt oi' l (i + 1) → Fr h₀ L h' m → News h₀ L h' ((it, oi') :: news) → Q v { s with heap := h' }) : wpAny (model prog w) A (call (.ref q) []) Q E s := by
  have D := N _ (.head _)
  have hol := (N _ (.tail _ hm)).1
  refine wpAny_call (codeAny_of_tree ?_)
  show wpAny _ A.in1 (callAny (.ref q) ⟨[], []⟩) _ _ s
  simp only [callAny]
  refine wpAny_bind (wpAny_load (N _ (.tail _ hq)).1 ?_)
  dsimp only
  rw [if_pos (by decide)]
  show wpAny _ _ (if (Value.type "method-wrapper" != Value.type "method") = true then _ else _) _ _ _
  rw [if_pos (by decide)]
  refine wpAny_bind (wpAny_of_eq (a := ()) check_lin ?_)
  first | refine wpAny_bind (wpAny_pure (wpAny_pure ?_)) | refine wpAny_pure ?_
  refine ⟨plainId_quiet plain_lin _, codeAny_builtin entry_listiter_next ?_⟩
  show wpAny _ _ (field (.ref it) 0 >>= _) _ _ s
  refine wpAny_bind (wpAny_field D.1 hi.2 (x := .ref l) rfl ?_)
  show wpAny _ _ (if (Value.ref l == Value.none) = true then _ else _) _ _ s
  rw [if_neg (show ¬ ((Value.ref l == Value.none) = true) from Bool.false_ne_true)]
  show wpAny _ _ (field (.ref it) 1 >>= _) _ _ s
  refine wpAny_bind (wpAny_field D.1 hi.2 (x := .int i 0) rfl ?_)
  show wpAny _ _ (seqItems? (.ref l) >>= _) _ _ s
  refine wpAny_bind (wpAny_seqItems hol rfl ?_)
  have hx' : vs.toArray[i]? = some v := by simpa using hx
  simp only [Int.toNat_natCast, hx']
  refine wpAny_bind (wpAny_setField D.1 hi.2 (by simp) (wpAny_pure ?_))
  obtain ⟨F', N'⟩ := upd_news F N (Upd.head hn) (Heap.SameBut.update ..) (Heap.get?_update_self _ D.1 (Obj.isFreed_of_fields (Obj.data_mapFields hi.2 _)))
  exact h _ _ ⟨(Obj.cls_mapFields ..).trans hi.1, by rw [Obj.data_mapFields hi.2]; simp [rawInt]⟩ F' N'
theorem mw_stop {q it l : Addr} {oi : Obj} {i n : Nat} {vs : List Value} {Q : Value → Shared → Prop} (hh : HnOk A.handled s.heap) (hhn : ∀ c, A.handled = some (.ref c) → @Ne Nat c it) (F : Fr h₀ L s.heap m) (N : News h₀ L s.heap ((it, oi) :: news)) (hq : (q, mwObj it) ∈ news) (hi : IsLIt oi l i) (hn : ∀ p ∈ news, p.1 ≠ it) (hm : (l, lstObj vs n) ∈ news) (hx : vs[i]? = none)
    (h : ∀ h1 h' e oe ws a0, Fr h₀ L h1 m → News h₀ L h1 news → (∀ b o, h1.get? b = some o → h'.get? b = some o) → h1.get? e = none → h'.get? e = some oe → oe.cls = .type "StopIteration" → oe.data = .fields ws → ws[0]? = some a0 → ws[1]? = some .none → E (.ref e) { s with heap := h' }) :
    wpAny (model prog w) A (call (.ref q) []) Q E s := by
  have D := N _ (.head _)
  have hol := (N _ (.tail _ hm)).1
  refine wpAny_call (codeAny_of_tree ?_)
  show wpAny _ A.in1 (callAny (.ref q) ⟨[], []⟩) _ _ s
  simp only [callAny]
  refine wpAny_bind (wpAny_load (N _ (.tail _ hq)).1 ?_)
  dsimp only
  rw [if_pos (by decide)]
  show wpAny _ _ (if (Value.type "method-wrapper" != Value.type "method") = true then _ else _) _ _ _
  rw [if_pos (by decide)]
  refine wpAny_bind (wpAny_of_eq (a := ()) check_lin ?_)
  first | refine wpAny_bind (wpAny_pure (wpAny_pure ?_)) | refine wpAny_pure ?_
  refine ⟨plainId_quiet plain_lin _, codeAny_builtin entry_listiter_next ?_⟩
  show wpAny _ _ (field (.ref it) 0 >>= _) _ _ s
  refine wpAny_bind (wpAny_field D.1 hi.2 (x := .ref l) rfl ?_)
  show wpAny _ _ (if (Value.ref l == Value.none) = true then _ else _) _ _ s
  rw [if_neg (show ¬ ((Value.ref l == Value.none) = true) from Bool.false_ne_true)]
  show wpAny _ _ (field (.ref it) 1 >>= _) _ _ s
  refine wpAny_bind (wpAny_field D.1 hi.2 (x := .int i 0) rfl ?_)
  show wpAny _ _ (seqItems? (.ref l) >>= _) _ _ s
  refine wpAny_bind (wpAny_seqItems hol rfl ?_)
  have hx' : vs.toArray[i]? = none := by simpa using hx
  simp only [Int.toNat_natCast, hx']
  refine wpAny_bind (wpAny_rule (wpAny_bind (wpAny_setField D.1 hi.2 (by simp) ?_)))
  obtain ⟨F', N'⟩ := drop_news F N hn (h' := s.heap.update it (Obj.mapFields (·.setIfInBounds 0 Value.none))) (Heap.SameBut.update ..).extBut
  show wpAny _ _ (newExc (.type "StopIteration") [] >>= _) _ _ _
  refine wpAny_bind ?_
  simp only [newExc, newTuple]
  refine wpAny_bind (wpAny_newObj_type ?_ (by size_fits))
  refine wpAny_bind (m := firstArgMember _ _) (wpAny_of_eq (a := Value.none) (by first | rfl | (simp only [firstArgMember]; rfl)) ?_)
  refine wpAny_newObj_type ?_ (by size_fits)
  refine raise_new ?_ ?_ (Heap.get?_push_size _ rfl) rfl (by simp [ownMembersOf]) ?_
  · rcases hh with hh | ⟨c, oc, cs, hh, hc, hcd, h2⟩
    · exact .inl hh
    · refine .inr ⟨c, oc, cs, hh, Heap.get?_push_of_some _ (Heap.get?_push_of_some _ ?_), hcd, h2⟩
      rw [Heap.get?_update_other _ _ (Ne.symm (hhn c hh))]; exact hc
  · intro c hc
    rcases hh with hh | ⟨c', oc, cs, hh, hc', hcd, h2⟩
    · exact absurd (hh.symm.trans hc) (by simp)
    · have e1 : c' = c := by have := hh.symm.trans hc; injection this with this; injection this
      subst e1
      exact ne_push (h := s.heap.update it (Obj.mapFields (·.setIfInBounds 0 Value.none))) (by rw [Heap.get?_update_other _ _ (Ne.symm (hhn c' hc))]; exact hc')
  · intro h' oe' vs' e1 e2 e3 e4 e5 e6
    refine h _ h' _ oe' vs' _ F' N' (fun b o hb => e6 b o (ne_push hb) (Heap.get?_push_of_some _ (Heap.get?_push_of_some _ hb))) (none_push _ _) e1 e2 e3 (e4.trans rfl) (e5.trans rfl)
end
section
variable {prog : Program} {w : World} {A : Around} {E : Value → Shared → Prop} {Q : Flow → Shared → Prop} {s : Shared} {env : Env}
theorem my_whileE {test : Expr} {body orelse : List Stmt} {pos : Pos} (I : Nat → Shared → Prop) (R : Shared → Prop)
    (turn : ∀ (I' : Nat → Shared → Prop) (R' : Shared → Prop) (Q' : Flow → Shared → Prop), (∀ k s, I k s → I' k s) → (∀ s, R s → R' s) → (∀ v s, Q (.ret v) s → Q' (.ret v) s) → ∀ n s, I n s → wpAny (model prog w) A (isTrue test env (eval test env)) (fun b s₂ => if b = true then wpAny (model prog w) A (execs body env) (TurnEnd I' R' Q' n) NoE s₂ else wpAny (model prog w) A (execs orelse env) Q NoE s₂) NoE s)
    (n : Nat) (h : I n s) (fin : ∀ s', R s' → Q .next s') : wpAny (model prog w) A (exec (.While test body orelse pos) env) Q E s := by
  refine wpAny_While (codeAny_whileLoop I (fun n s hI => ?_) n h)
  refine wpAny_mono (turn I R Q (fun _ _ x => x) (fun _ x => x) (fun _ _ x => x) n s hI) (fun b s₂ h₂ => ?_) fun _ _ x => x.elim
  cases b with
  | false =>
    simp only [Bool.false_eq_true, if_false] at h₂ ⊢
    exact wpAny_mono h₂ (fun _ _ z => z) fun _ _ x => x.elim
  | true =>
    simp only [if_true] at h₂ ⊢
    refine wpAny_mono h₂ (fun f s₃ h₃ => ?_) fun _ _ x => x.elim
    cases f with
    | brk => exact fin _ h₃
    | ret v => exact h₃
    | next => exact h₃
    | cont => exact h₃
end
/-! keys of a dict in turn -/
noncomputable def IsKIt (o : Obj) (d : Addr) (i n ep : Nat) : Prop := o.cls = .type "dict_keyiterator" ∧ o.data = .fields #[.ref d, .int i 0, .int n 0, .int ep 0]
section
variable {prog : Program} {w : World} {A : Around} {E : Value → Shared → Prop} {s : Shared} {h₀ : Heap} {L : Addr} {m : Str → Option Value} {news : List (Addr × Obj)}
theorem dict_at {d : Addr} {o : Obj} {kvs : List (Int × Value)} (N : News h₀ L s.heap news) (hm : (d, o) ∈ news) (hd : o.IsDictOf (intKind prog w) kvs) : ∃ ep, ∀ h' : Heap, h'.get? d = some o → h'.DictAt (intKind prog w) d kvs ep := by
  obtain ⟨ep, o', es, ho', r⟩ := (kda_dict N hm hd).dictAt
  have e : o' = o := Option.some.inj (ho'.symm.trans (N _ hm).1)
  subst e
  exact ⟨ep, fun h' e => ⟨_, es, e, r⟩⟩
theorem kit_make {d : Addr} {o : Obj} {kvs : List (Int × Value)} {ep : Nat} {Q : Value → Shared → Prop} (F : Fr h₀ L s.heap m) (N : News h₀ L s.heap news) (hm : (d, o) ∈ news) (hsys : (d == sysModules) = false) (hep : ∀ h' : Heap, h'.get? d = some o → h'.DictAt (intKind prog w) d kvs ep)
    (h : ∀ it oi h', IsKIt oi d 0 kvs.length ep → Fr h₀ L h' m → News h₀ L h' ((it, oi) :: news) → (∀ p ∈ news, @LT.lt Nat _ p.1 it) → Q (.ref it) { s with heap := h' }) : wpAny (model prog w) A (pyIter (.ref d)) Q E s := by
  refine wpAny_pyIter_dict hsys (hep _ (N _ hm).1) ?_
  obtain ⟨F', N', l'⟩ := push_news (o := { cls := .type "dict_keyiterator", data := .fields #[.ref d, .int 0 0, .int kvs.length 0, .int ep 0] }) F N
  exact h _ _ _ ⟨rfl, rfl⟩ F' N' l'
theorem kit_next {it d : Addr} {oi o : Obj} {i ep : Nat} {kvs : List (Int × Value)} {k : Int} {v : Value} {Q : Option Value → Shared → Prop} (F : Fr h₀ L s.heap m) (N : News h₀ L s.heap ((it, oi) :: news)) (hi : IsKIt oi d i kvs.length ep) (hn : ∀ p ∈ news, p.1 ≠ it) (hm : (d, o) ∈ news)
    (hep : ∀ h' : Heap, h'.get? d = some o → h'.DictAt (intKind prog w) d kvs ep) (hx : kvs[i]? = some (k, v))
    (h : ∀ t oi' h', IsKIt oi' d (i + 1) kvs.length ep → Fr h₀ L h' m → News h₀ L h' ((it, oi') :: news) → Q (some (.int k t)) { s with heap := h' }) : wpAny (model prog w) A (pyNext (.ref it)) Q E s := by
  have D := N _ (.head _)
  refine wpAny_pyNext_dict_item (knd := intKind prog w) ⟨oi, D.1, hi.1, hi.2⟩ (hep _ (N _ (.tail _ hm)).1) hx fun key h' hkey h1 hs => ?_
  obtain ⟨t, rfl⟩ := Value.isInt_shape hkey
  obtain ⟨oi', e1, e2, e3⟩ := h1
  obtain ⟨F', N'⟩ := upd_news F N (Upd.head hn) hs e1
  exact h t oi' h' ⟨e2, e3⟩ F' N'
theorem kit_end {it d : Addr} {oi o : Obj} {i ep : Nat} {kvs : List (Int × Value)} {Q : Option Value → Shared → Prop} (hh : A.handled = none) (F : Fr h₀ L s.heap m) (N : News h₀ L s.heap ((it, oi) :: news)) (hi : IsKIt oi d i kvs.length ep) (hn : ∀ p ∈ news, p.1 ≠ it) (hm : (d, o) ∈ news)
    (hep : ∀ h' : Heap, h'.get? d = some o → h'.DictAt (intKind prog w) d kvs ep) (hx : kvs[i]? = none)
    (h : ∀ h', Fr h₀ L h' m → News h₀ L h' news → Q none { s with heap := h' }) : wpAny (model prog w) A (pyNext (.ref it)) Q E s := by
  have D := N _ (.head _)
  refine wpAny_pyNext_dict_end (knd := intKind prog w) hh ⟨oi, D.1, hi.1, hi.2⟩ (hep _ (N _ (.tail _ hm)).1) hx fun h' hs => ?_
  obtain ⟨F', N'⟩ := drop_news F N hn hs
  exact h h' F' N'
end
end
section
noncomputable abbrev litObj (l : Addr) : Obj := { cls := .type "list_iterator", data := .fields #[.ref l, .int 0 0] }
theorem slot_lit_ga : Slot "list_iterator" "__getattribute__" "object.__getattribute__" :=
  .of (owner := "object") (n := "__getattribute__") (by rw [typeLookup_type, builtinLookup_eq_fast]; kernel_rfl) (by decide +kernel) (by decide +kernel) (by decide +kernel)
    (by first | exact .inl (by decide +kernel) | exact .inr (by decide +kernel)) (by rw [isSubtype_type]; kernel_rfl)
theorem args_lit_ga (a b : Value) : argsOk "object.__getattribute__" ⟨[a, b], []⟩ := by unfold argsOk; kernel_rfl
theorem entry_lit_ga : entryFor table "object.__getattribute__" = some Builtin.«object.__getattribute__» := entryFor_of_tree (by kernel_rfl)
theorem owner_lin : (".".intercalate ("list_iterator.__next__".cutAt '.').dropLast) = "list_iterator" := by
  have e0 : "list_iterator.__next__".cutAt '.' = ["list_iterator", "__next__"] := by first | rfl | decide +kernel
  rw [e0]; decide +kernel
theorem sub_lit_owner : isSubtype (.type "list_iterator") (.type (".".intercalate ("list_iterator.__next__".cutAt '.').dropLast)) = pure true := by
  rw [owner_lin, isSubtype_type]; kernel_rfl
theorem lk_lit_next : typeLookup (.type "list_iterator") "__next__" = pure (some (.builtin "list_iterator.__next__")) := by rw [typeLookup_type, builtinLookup_eq_fast]; kernel_rfl
theorem type_lin : typeOf (.builtin "list_iterator.__next__") = pure (.type "wrapper_descriptor") := by show builtinType _ = _; rw [builtinType_eq_fast]; kernel_rfl
theorem slot_wd_get : Slot "wrapper_descriptor" "__get__" "wrapper_descriptor.__get__" :=
  .of (owner := "wrapper_descriptor") (n := "__get__") (by rw [typeLookup_type, builtinLookup_eq_fast]; kernel_rfl) (by decide +kernel) (by decide +kernel) (by decide +kernel)
    (by first | exact .inl (by decide +kernel) | exact .inr (by decide +kernel)) (by rw [isSubtype_type]; kernel_rfl)
theorem lk_wd_set : typeLookup (.type "wrapper_descriptor") "__set__" = pure none := by rw [typeLookup_type, builtinLookup_eq_fast]; kernel_rfl
theorem lk_wd_del : typeLookup (.type "wrapper_descriptor") "__delete__" = pure none := by rw [typeLookup_type, builtinLookup_eq_fast]; kernel_rfl
theorem entry_wd_get : entryFor table "wrapper_descriptor.__get__" = some Builtin.«wrapper_descriptor.__get__» := entryFor_of_tree (by kernel_rfl)
theorem args_wd_get (a b c : Value) : argsOk "wrapper_descriptor.__get__" ⟨[a, b, c], []⟩ := by unfold argsOk; kernel_rfl
theorem sub_lit_self : isSubtype (.type "list_iterator") (.type "list_iterator") = pure true := by rw [isSubtype_type]; kernel_rfl
section
variable {prog : Program} {w : World} {A : Around} {E : Value → Shared → Prop} {s : Shared} {h₀ : Heap} {L : Addr} {m : Str → Option Value} {news : List (Addr × Obj)}
theorem call_iter_list {l : Addr} {vs : List Value} {n : Nat} {Q : Value → Shared → Prop} (F : Fr h₀ L s.heap m) (N : News h₀ L s.heap news) (hm : (l, lstObj vs n) ∈ news)
    (h : ∀ it h', Fr h₀ L h' m → News h₀ L h' ((it, litObj l) :: news) → (∀ p ∈ news, @LT.lt Nat _ p.1 it) → Q (.ref it) { s with heap := h' }) : wpAny (model prog w) A (call (.builtin "iter") [.ref l]) Q E s := by
  refine call_function_entry (by decide +kernel) (by decide +kernel) kdk_entry_iter (kdk_args_iter _) ?_
  unfold Builtin.«iter»
  refine wpAny_bind (m := someArgs "iter" 1 2 _) (wpAny_of_eq (a := [Value.ref l]) (by first | rfl | kernel_rfl!) ?_)
  show wpAny _ _ (pyIter (.ref l) >>= _) _ _ _
  refine wpAny_bind (wpAny_pyIter_list (lst_is N hm) ?_)
  obtain ⟨F', N', l'⟩ := push_news (o := litObj l) F N
  exact wpAny_pure ⟨_, rfl, h _ _ F' N' l'⟩
end
section
variable {prog : Program} {w : World} {A : Around} {E : Value → Shared → Prop} {h : Heap} {g : Array GenState} {d : Drawn} {t : Nat} {os : OsState} {a l : Addr}
theorem next_get {R : Result → Shared → Prop} (hx : h.get? a = some (litObj l)) (hq : R (.ok (.ret (.ref h.objs.size))) ⟨h.push (mwObj a), g, d, t, os⟩) :
    codeAny (model prog w) A (.call (.builtin "wrapper_descriptor.__get__") ⟨[.builtin "list_iterator.__next__", .ref a, .type "list_iterator"], []⟩) R ⟨h, g, d, t, os⟩ := by
  have hT : (⟨h, g, d, t, os⟩ : Shared).TypeIs (.ref a) "list_iterator" := ⟨_, hx, rfl⟩
  have hT5 : (⟨h, g, d, t, os⟩ : Shared).TypeIs (.builtin "list_iterator.__next__") "wrapper_descriptor" := type_lin
  have f8 := sub_lit_owner
  refine codeAny_call_builtin slot_wd_get.plain entry_wd_get (slot_wd_get.check _ _ _ _ _ _ _ _ hT5 (args_wd_get _ _ _) ?_)
  unfold Builtin.«wrapper_descriptor.__get__»
  repeat (any_goals (first | assumption | wp_step))
theorem next_entry {tk : Tok} {Q : Fin → Shared → Prop} (hx : h.get? a = some (litObj l)) (hq : Q (.done (.ret (.ref h.objs.size))) ⟨h.push (mwObj a), g, d, t, os⟩) :
    wpAny (model prog w) A (Builtin.«object.__getattribute__» ⟨[.ref a, .str "__next__" tk], []⟩) Q E ⟨h, g, d, t, os⟩ := by
  have hT : (⟨h, g, d, t, os⟩ : Shared).TypeIs (.ref a) "list_iterator" := ⟨_, hx, rfl⟩
  have hT5 : (⟨h, g, d, t, os⟩ : Shared).TypeIs (.builtin "list_iterator.__next__") "wrapper_descriptor" := type_lin
  have f4 := lk_lit_next
  have f5 := type_lin
  have f6 := slot_wd_get.lookup
  have f7 := lk_wd_set
  have f8 := lk_wd_del
  repeat (any_goals (first | assumption | wp_step))
  refine next_get hx ?_
  repeat (any_goals (first | assumption | wp_step))
theorem next_call {tk : Tok} {R : Result → Shared → Prop} (hx : h.get? a = some (litObj l)) (hq : R (.ok (.ret (.ref h.objs.size))) ⟨h.push (mwObj a), g, d, t, os⟩) :
    codeAny (model prog w) A (.call (.builtin "object.__getattribute__") ⟨[.ref a, .str "__next__" tk], []⟩) R ⟨h, g, d, t, os⟩ :=
  codeAny_call_builtin slot_lit_ga.plain entry_lit_ga (slot_lit_ga.check _ _ _ _ _ _ _ _ (show (⟨h, g, d, t, os⟩ : Shared).TypeIs (.ref a) "list_iterator" from ⟨_, hx, rfl⟩) (args_lit_ga _ _) (next_entry hx hq))
theorem next_attr {Q : Value → Shared → Prop} (hx : h.get? a = some (litObj l)) (hq : Q (.ref h.objs.size) ⟨h.push (mwObj a), g, d, t + 1, os⟩) : wpAny (model prog w) A (getAttr (.ref a) (Str.ofString "__next__") true) Q E ⟨h, g, d, t, os⟩ := by
  have hT : ∀ tk', (⟨h, g, d, tk', os⟩ : Shared).TypeIs (.ref a) "list_iterator" := fun _ => ⟨_, hx, rfl⟩
  have f2 := slot_lit_ga.lookup
  have f3 := slot_lit_ga.bind (.ref a)
  unfold getAttr getAttrBy
  repeat (any_goals (first | assumption | exact hT _ | wp_step))
  refine next_call hx ?_
  repeat (any_goals (first | assumption | wp_step))
end
theorem next_attr_N {prog : Program} {w : World} {A : Around} {E : Value → Shared → Prop} {s : Shared} {h₀ : Heap} {L : Addr} {m : Str → Option Value} {news : List (Addr × Obj)} {a l : Addr} {Q : Value → Shared → Prop} (F : Fr h₀ L s.heap m) (N : News h₀ L s.heap news) (hm : (a, litObj l) ∈ news)
    (h : ∀ q h', Fr h₀ L h' m → News h₀ L h' ((q, mwObj a) :: news) → (∀ p ∈ news, @LT.lt Nat _ p.1 q) → Q (.ref q) { s with heap := h', toks := s.toks + 1 }) : wpAny (model prog w) A (getAttr (.ref a) (Str.ofString "__next__") true) Q E s := by
  obtain ⟨F', N', l'⟩ := push_news (o := mwObj a) F N
  obtain ⟨hp, g, d, t, os⟩ := s
  exact next_attr (N _ hm).1 (h _ _ F' N' l')
end
section
/-! the depth-first search, without the program -/
noncomputable def scOf (V : View) (k : Int) : List Int := ((V.find? (fun v => decide (v.1 = k))).map (·.2.2)).getD []
theorem scOf_nd {G : List Nd} (hG : (G.map (·.key)).Nodup) {e : Nd} (he : e ∈ G) : scOf (view G) e.key = e.sc.map (·.1) := by
  induction G with
  | nil => cases he
  | cons a r ih =>
    simp only [List.map_cons, List.nodup_cons] at hG
    unfold scOf view
    rw [List.map_cons, List.find?_cons]
    rcases List.mem_cons.mp he with rfl | h
    · simp
    · have hne : a.key ≠ e.key := fun q => hG.1 (by rw [q]; exact List.mem_map_of_mem h)
      simp only [hne, decide_false]
      exact ih hG.2 h
noncomputable def FinO (V : View) : List Int → Prop
  | [] => True
  | k :: d => (∀ c ∈ scOf V k, c ∈ d) ∧ FinO V d
structure IsRing (V : View) (r : List Int) : Prop where
  len : 2 ≤ r.length
  ends : r.head? = r.getLast?
  nd : r.tail.Nodup
  edge : ∀ i a b, r[i]? = some a → r[i + 1]? = some b → b ∈ scOf V a
structure Ent where
  nd : Nd
  tk : Tok
  mw : Addr
  it : Addr
  oi : Obj
  pos : Nat
  ix : Tok
noncomputable abbrev ekeys (rs : List Ent) : List Int := rs.map (·.nd.key)
noncomputable def stV (rs : List Ent) : List Value := rs.reverse.map fun e => .int e.nd.key e.tk
noncomputable def itV (rs : List Ent) : List Value := rs.reverse.map fun e => .ref e.mw
noncomputable def nsK : List Ent → List (Int × Value)
  | [] => []
  | e :: r => nsK r ++ [(e.nd.key, .int r.length e.ix)]
noncomputable def kLed : List Ent → List (Addr × Obj)
  | [] => []
  | e :: r => (e.mw, mwObj e.it) :: (e.it, e.oi) :: kLed r
theorem stV_cons (e : Ent) (r : List Ent) : stV (e :: r) = stV r ++ [.int e.nd.key e.tk] := by simp [stV]
theorem itV_cons (e : Ent) (r : List Ent) : itV (e :: r) = itV r ++ [.ref e.mw] := by simp [itV]
theorem stV_len (r : List Ent) : (stV r).length = r.length := by simp [stV]
theorem itV_len (r : List Ent) : (itV r).length = r.length := by simp [itV]
theorem nsK_len : ∀ (r : List Ent), (nsK r).length = r.length
  | [] => rfl
  | e :: r => by simp [nsK, nsK_len r]
noncomputable def Chain (done : List Int) : List Ent → Option Int → Prop
  | [], _ => True
  | e :: r, nx => (∀ c ∈ (e.nd.sc.map (·.1)).take e.pos, c ∈ done ∨ nx = some c) ∧ (∀ c, nx = some c → c ∈ e.nd.sc.map (·.1)) ∧ Chain done r (some e.nd.key)
structure DInv (G : List Nd) (rs : List Ent) (done : List Int) (seen : Int → Bool) : Prop where
  seen : ∀ k, seen k = true ↔ k ∈ done ∨ k ∈ ekeys rs
  nd : (ekeys rs).Nodup
  ap : ∀ k ∈ ekeys rs, k ∉ done
  fin : FinO (view G) done
  ok : ∀ e ∈ rs, e.nd ∈ G ∧ IsLIt e.oi e.nd.sa e.pos
noncomputable def unseen (G : List Nd) (seen : Int → Bool) : Nat := (G.filter fun e => !seen e.key).length
noncomputable def remn (rs : List Ent) : Nat := (rs.map fun e => e.nd.sc.length - e.pos).sum
theorem unseen_eq {G : List Nd} {f g : Int → Bool} (h : ∀ e ∈ G, f e.key = g e.key) : unseen G f = unseen G g := by
  unfold unseen
  rw [List.filter_congr fun e he => by rw [h e he]]
theorem unseen_mark {G : List Nd} (hG : (G.map (·.key)).Nodup) {e : Nd} (he : e ∈ G) {seen : Int → Bool} (hs : seen e.key = false) : unseen G (fun k' => seen k' || decide (k' = e.key)) + 1 = unseen G seen := by
  induction G with
  | nil => cases he
  | cons a r ih =>
    simp only [List.map_cons, List.nodup_cons] at hG
    rcases List.mem_cons.mp he with rfl | h
    · have h2 : unseen r (fun k' => seen k' || decide (k' = e.key)) = unseen r seen := unseen_eq fun x hx => by
        have : x.key ≠ e.key := fun q => hG.1 (by rw [← q]; exact List.mem_map_of_mem hx)
        simp [this]
      unfold unseen at h2 ⊢
      rw [List.filter_cons_of_neg (by simp), List.filter_cons_of_pos (by simp [hs]), List.length_cons, h2]
    · have hne : a.key ≠ e.key := fun q => hG.1 (by rw [q]; exact List.mem_map_of_mem h)
      have h2 := ih hG.2 h
      unfold unseen at h2 ⊢
      cases hsa : seen a.key with
      | true => rw [List.filter_cons_of_neg (by simp [hsa]), List.filter_cons_of_neg (by simp [hsa])]; exact h2
      | false => rw [List.filter_cons_of_pos (by simp [hsa, hne]), List.filter_cons_of_pos (by simp [hsa]), List.length_cons, List.length_cons]; (first | lia | omega)
theorem chain_mono {d d' : List Int} (h : ∀ c ∈ d, c ∈ d') : ∀ {rs : List Ent} {nx : Option Int}, Chain d rs nx → Chain d' rs nx
  | [], _, _ => trivial
  | e :: r, nx, ⟨a, b, c⟩ => ⟨fun x hx => (a x hx).imp (h x) id, b, chain_mono h c⟩
theorem chain_edges {G : List Nd} (hG : (G.map (·.key)).Nodup) {done : List Int} : ∀ {rs : List Ent} {nx : Int}, (∀ e ∈ rs, e.nd ∈ G) → Chain done rs (some nx) → ∀ i a b, ((ekeys rs.reverse) ++ [nx])[i]? = some a → ((ekeys rs.reverse) ++ [nx])[i + 1]? = some b → b ∈ scOf (view G) a
  | [], nx, _, _, i, a, b, _, h2 => by simp at h2
  | e :: r, nx, ho, ⟨_, h1, h2⟩, i, a, b, ha, hb => by
    have ho' := fun x hx => ho x (.tail _ hx)
    have e1 : ekeys (e :: r).reverse = ekeys r.reverse ++ [e.nd.key] := by simp
    rw [e1] at ha hb
    have hl : (ekeys r.reverse ++ [e.nd.key]).length = r.length + 1 := by simp
    by_cases hi : i + 1 < r.length + 1
    · rw [List.getElem?_append_left (by rw [hl]; (first | lia | omega))] at ha hb
      exact chain_edges hG ho' h2 i a b ha hb
    · by_cases hi2 : i = r.length
      · subst hi2
        rw [List.getElem?_append_left (by rw [hl]; (first | lia | omega)), List.getElem?_append_right (by simp)] at ha
        rw [List.getElem?_append_right (by rw [hl]; (first | lia | omega))] at hb
        simp at ha hb
        subst ha hb
        rw [scOf_nd hG (ho e (.head _))]
        exact h1 _ rfl
      · exfalso
        have := (List.getElem?_eq_some_iff.mp hb).1
        simp at this
        (first | lia | omega)
/-- the ring that is found -/
theorem ring_of {G : List Nd} (hG : (G.map (·.key)).Nodup) {done : List Int} {rs : List Ent} {nx : Int} (ho : ∀ e ∈ rs, e.nd ∈ G) (hc : Chain done rs (some nx)) (hn : (ekeys rs).Nodup) {pre post : List Int} (hp : ekeys rs.reverse = pre ++ nx :: post) :
    IsRing (view G) (nx :: (post ++ [nx])) := by
  have hnd : (pre ++ nx :: post).Nodup := by
    rw [← hp]
    have : ekeys rs.reverse = (ekeys rs).reverse := by simp
    rw [this]; exact (List.reverse_perm _).nodup_iff.mpr hn
  have hed := chain_edges hG ho hc
  rw [hp] at hed
  refine ⟨by simp, by rw [show nx :: (post ++ [nx]) = (nx :: post) ++ [nx] from rfl, List.getLast?_append]; simp, ?_, fun i a b ha hb => ?_⟩
  · have h2 := (List.nodup_append.mp hnd).2.1
    rw [List.nodup_cons] at h2
    show (post ++ [nx]).Nodup
    rw [List.nodup_append]
    refine ⟨h2.2, by simp, ?_⟩
    intro x hx y hy
    rw [List.mem_singleton.mp hy]
    rintro rfl
    exact h2.1 hx
  · refine hed (pre.length + i) a b ?_ ?_
    · rw [List.append_assoc, List.getElem?_append_right (by (first | lia | omega))]
      simpa using ha
    · rw [List.append_assoc, List.getElem?_append_right (by (first | lia | omega))]
      have : pre.length + i + 1 - pre.length = i + 1 := by (first | lia | omega)
      rw [this]
      simpa using hb
theorem nsK_val : ∀ {rs : List Ent} {k : Int}, (ekeys rs).Nodup → k ∈ ekeys rs → ∃ (j : Nat) (t : Tok) (pre post : List Int), valueAt (nsK rs) k = some (.int j t) ∧ ekeys rs.reverse = pre ++ k :: post ∧ pre.length = j
  | [], k, _, hk => by simp at hk
  | e :: r, k, hn, hk => by
    have e1 : ekeys (e :: r).reverse = ekeys r.reverse ++ [e.nd.key] := by simp
    rw [e1]
    simp only [List.map_cons, List.nodup_cons] at hn
    rcases List.mem_cons.mp hk with rfl | h
    · refine ⟨r.length, e.ix, ekeys r.reverse, [], ?_, rfl, by simp⟩
      have hno : ∀ {q : List Ent}, e.nd.key ∉ ekeys q → (nsK q).find? (fun p => decide (p.1 = e.nd.key)) = none := by
        intro q
        induction q with
        | nil => intro _; rfl
        | cons a b ih =>
          intro hq
          simp only [List.map_cons, List.mem_cons, not_or] at hq
          unfold nsK
          rw [List.find?_append, ih hq.2]
          simp [Ne.symm hq.1]
      unfold valueAt nsK
      rw [List.find?_append, hno hn.1]
      simp
    · obtain ⟨j, t, pre, post, h1, h2, h3⟩ := nsK_val hn.2 h
      refine ⟨j, t, pre, post ++ [e.nd.key], ?_, by rw [h2]; simp, h3⟩
      unfold valueAt nsK
      unfold valueAt at h1
      rw [List.find?_append]
      cases hf : (nsK r).find? (fun p => decide (p.1 = k)) with
      | none => rw [hf] at h1; simp at h1
      | some v => rw [hf] at h1; simpa using h1
theorem nsK_none : ∀ {rs : List Ent} {k : Int}, k ∉ ekeys rs → valueAt (nsK rs) k = none
  | [], k, _ => rfl
  | e :: r, k, hk => by
    simp only [List.map_cons, List.mem_cons, not_or] at hk
    have := nsK_none hk.2
    unfold valueAt nsK
    unfold valueAt at this
    rw [List.find?_append, Option.map_eq_none_iff.mp this]
    simp [Ne.symm hk.1]
theorem nsK_any {rs : List Ent} {k : Int} (hk : k ∉ ekeys rs) : (nsK rs).any (fun p => decide (p.1 = k)) = false := by
  induction rs with
  | nil => rfl
  | cons e r ih =>
    simp only [List.map_cons, List.mem_cons, not_or] at hk
    unfold nsK
    rw [List.any_append, ih hk.2]
    simp [Ne.symm hk.1]
theorem nsK_push {rs : List Ent} {k : Int} {v : Value} (hk : k ∉ ekeys rs) : stored (nsK rs) k v = nsK rs ++ [(k, v)] := by
  unfold stored
  rw [if_neg (by rw [nsK_any hk]; exact Bool.false_ne_true)]
theorem nsK_pop {e : Ent} {rs : List Ent} (hk : e.nd.key ∉ ekeys rs) : without (nsK (e :: rs)) e.nd.key = nsK rs := by
  unfold without
  rw [show nsK (e :: rs) = nsK rs ++ [(e.nd.key, .int rs.length e.ix)] from rfl, List.filter_append]
  have h2 : (nsK rs).filter (fun p => decide (p.1 ≠ e.nd.key)) = nsK rs := by
    rw [List.filter_eq_self]
    intro p hp
    have := List.any_eq_false.mp (nsK_any hk) p hp
    simpa using this
  rw [h2]
  simp
theorem nodup_le : ∀ {l m : List Int}, l.Nodup → (∀ x ∈ l, x ∈ m) → l.length ≤ m.length
  | [], m, _, _ => Nat.zero_le _
  | x :: l, m, hn, hs => by
    rw [List.nodup_cons] at hn
    have hx := hs x (.head _)
    have h1 := nodup_le (l := l) (m := m.erase x) hn.2 fun y hy => (List.mem_erase_of_ne (fun q : y = x => hn.1 (by rw [← q]; exact hy))).mpr (hs y (.tail _ hy))
    have h2 := List.length_erase_of_mem hx
    have h3 := List.length_pos_of_mem hx
    simp only [List.length_cons]
    (first | lia | omega)
theorem rs_len {G : List Nd} {rs : List Ent} {done : List Int} {seen : Int → Bool} (h : DInv G rs done seen) : rs.length ≤ G.length := by
  have := nodup_le (m := G.map (·.key)) h.nd fun x hx => by
    obtain ⟨e, he, rfl⟩ := List.mem_map.mp hx
    exact List.mem_map_of_mem (h.ok e he).1
  simpa using this
end
section
section
variable {M : Model} {A : Around} {E : Value → Shared → Prop} {s : Shared}
theorem callWith_mw {pos : Pos} {q it : Addr} {env : Env} {Q : Value → Shared → Prop} (hq : s.heap.get? q = some (mwObj it)) (h : wpAny M A (call (.ref q) []) Q E s) : wpAny M A (callWith pos (.ref q) [] (backTo pos (starEach [] env)) (backToKw pos (keywordEach [] env))) Q E s := by
  show wpAny M A (callWith pos (.ref q) [] [] []) Q E s
  unfold callWith
  refine wpAny_bind (wpAny_holding (evalArgs_nil3 (wpAny_bind (wpAny_standAt ?_))))
  refine wpAny_bind (m := keeperOf (.ref q)) ?_
  unfold keeperOf
  refine wpAny_bind (wpAny_load hq ?_)
  dsimp only
  rw [if_pos (by decide)]
  refine wpAny_pure ?_
  rw [if_pos (by decide)]
  exact wpAny_bind (wpAny_mono h (fun r s₂ hr => wpAny_bind (wpAny_holding (wpAny_point (wpAny_pure hr)))) fun _ _ x => x)
end
theorem nd_mem {w : World} {S : Srt} {rd np nf : Value} {o : Obj} {rest kl : List (Addr × Obj)} {G : List Nd} {e : Nd} (he : e ∈ G) {p : Addr × Obj} (hp : ∀ r, p ∈ gLed (e :: r)) : p ∈ kl ++ S.led w rd np nf o (gLed G ++ rest) := by
  refine List.mem_append_right _ (.tail _ (.tail _ (.tail _ (List.mem_append_left _ ?_))))
  obtain ⟨G1, G2, rfl⟩ := List.append_of_mem he
  rw [gLed_append]
  exact List.mem_append_right _ (hp _)
theorem sa_mem {w : World} {S : Srt} {rd np nf : Value} {o : Obj} {rest kl : List (Addr × Obj)} {G : List Nd} {e : Nd} (he : e ∈ G) : (e.sa, lstObj (valsOf e.sc) e.se) ∈ kl ++ S.led w rd np nf o (gLed G ++ rest) := nd_mem he fun _ => .tail _ (.tail _ (.head _))
theorem ia_mem {w : World} {S : Srt} {rd np nf : Value} {o : Obj} {rest kl : List (Addr × Obj)} {G : List Nd} {e : Nd} (he : e ∈ G) : (e.ia, infoObj e.da e.sa e.np e.nt e.key e.kt) ∈ kl ++ S.led w rd np nf o (gLed G ++ rest) := nd_mem he fun _ => .head _
theorem da_mem {w : World} {S : Srt} {rd np nf : Value} {o : Obj} {rest kl : List (Addr × Obj)} {G : List Nd} {e : Nd} (he : e ∈ G) : (e.da, dictOf [] 0) ∈ kl ++ S.led w rd np nf o (gLed G ++ rest) := nd_mem he fun _ => .tail _ (.head _)
theorem isExc_SI : isSubtype (.type "StopIteration") (.type "BaseException") = pure true := by rw [isSubtype_type]; kernel_rfl
theorem notTuple_SI : isSubtype (.type ((Manifest.find? "StopIteration").elim "type" fun y => y.metatype)) (.type "tuple") = pure false := by first | (rw [isSubtype_type]; kernel_rfl) | kernel_rfl
theorem sub_SI : isSubtype (.type "StopIteration") (.type "StopIteration") = pure true := by rw [isSubtype_type]; kernel_rfl
theorem upd_at {d : Addr} {o o' : Obj} : ∀ {l₁ l₂ : List (Addr × Obj)}, Apart (l₁ ++ (d, o) :: l₂) → Upd d o o' (l₁ ++ (d, o) :: l₂) (l₁ ++ (d, o') :: l₂)
  | [], l₂, h => .head (apart_ne h)
  | p :: r, l₂, h => .tail (fun e => apart_ne (l := r ++ (d, o) :: l₂) h (d, o) (by simp) e.symm) (upd_at (apart_tail h))
theorem updF_at {d : Addr} {o : Obj} : ∀ {l₁ l₂ : List (Addr × Obj)}, Apart (l₁ ++ (d, o) :: l₂) → UpdF d o (l₁ ++ (d, o) :: l₂) (fun o' => l₁ ++ (d, o') :: l₂)
  | [], l₂, h => .head (apart_ne h)
  | p :: r, l₂, h => .tail (g := fun o' => r ++ (d, o') :: l₂) (fun e => apart_ne (l := r ++ (d, o) :: l₂) h (d, o) (by simp) e.symm) (updF_at (apart_tail h))
end
section
/-! an exception in flight whose context is known to be none -/
noncomputable def TrX (h base : Heap) (e : Addr) (cls fl : Value) : Prop :=
  ∃ oe vs T oT ts, h.get? e = some oe ∧ oe.cls = cls ∧ oe.data = .fields vs ∧ vs[1]? = some (.ref T) ∧ vs[2]? = some .none ∧ base.get? T = none ∧ T ≠ e ∧ h.get? T = some oT ∧ oT.data = .fields ts ∧ ts[3]? = some fl
structure StX (base : Heap) (l : List Env) (e : Addr) (cls fl : Value) (h h' : Heap) : Prop where
  st : base.StaysIn h'
  ff : h'.FunFrames base l
  tr : TrX h' base e cls fl
  up : h.UpToSlots h'
section
variable {M : Model} {A : Around} {E : Value → Shared → Prop} {s : Shared}
theorem entryX {base : Heap} {env : Env} {outer : List Env} {L e : Addr} {oe : Obj} {vs : Array Value} {head : Value} {hadNext : Bool} {Q : Unit → Shared → Prop}
    (hfr : A.frames = some (env :: outer)) (hl : s.heap.FunFrames base (env :: outer)) (hf : env.frame = some L)
    (he : s.heap.get? e = some oe) (hkb : base.StaysIn s.heap) (hen : base.get? e = none) (hd : oe.data = .fields vs) (h2 : vs[2]? = some .none)
    (h : ∀ h', StX base (env :: outer) e oe.cls (rawInt L) s.heap h' → Q () { s with heap := h' }) :
    wpAny M A (do let a ← frameOf env; let pl ← entryPlaceOf L hadNext; let b ← EntryCells.newEntry head a .none (rawInt L) .none pl; setField (.ref e) 1 b) Q E s := by
  have hsz : 1 < vs.size := Nat.lt_of_succ_lt (Array.getElem?_eq_some_iff.mp h2).1
  have hene : e ∉ (env :: outer).filterMap (·.frame) := fun hm => by
    obtain ⟨_, o, ho, hnf⟩ := hl.mem hm
    rw [he] at ho; cases ho; exact hnf vs hd
  refine wpAny_bind (wpAny_frameOf_fun hfr hl hf fun h₁ hs₁ => ?_)
  refine wpAny_bind (wpAny_entryPlaceOf fun pl hpl => ?_)
  unfold EntryCells.newEntry newFields
  refine wpAny_bind (wpAny_newObj_type ?_ (hpl.sizeOk5 _ _ _ _ _))
  have he₁ : h₁.get? e = some oe := (hs₁.2.1 e hene).trans he
  have kb₁ : base.StaysIn h₁ := fun b o hbo => (hs₁.2.1 b fun hm => by rw [(hl.mem hm).1] at hbo; cases hbo).trans (hkb b o hbo)
  generalize hTo : ({ cls := .type "traceback", dict := none, data := .fields ([head, .ref L, .none, rawInt L, .none] ++ (if pl.isEmpty then List.replicate 6 Value.none else pl)).toArray } : Obj) = oT
  have he₂ := Heap.get?_push_of_some (h := h₁) oT he₁
  have hTe : h₁.objs.size ≠ e := Nat.ne_of_gt (Heap.lt_size he₁)
  have hd₃ := Obj.data_mapFields hd (·.setIfInBounds 1 (Value.ref h₁.objs.size))
  have he₃ := Heap.get?_update_self (Obj.mapFields (·.setIfInBounds 1 (Value.ref h₁.objs.size))) he₂ (Obj.isFreed_of_fields hd₃)
  have hT₃ := (Heap.get?_update_other (h₁.push oT) (Obj.mapFields (·.setIfInBounds 1 (Value.ref h₁.objs.size))) (Ne.symm hTe)).trans (Heap.get?_push_size h₁ (o := oT) (by rw [← hTo]; rfl))
  have keep : ∀ b o, b ≠ e → h₁.get? b = some o → ((h₁.push oT).update e (Obj.mapFields (·.setIfInBounds 1 (Value.ref h₁.objs.size)))).get? b = some o := fun b o hbe hb => by
    rw [Heap.get?_update_other _ _ (Ne.symm hbe)]
    exact Heap.get?_push_of_some _ hb
  have noRec : ∀ b o, s.heap.get? b = some o → (∀ vs, o.data ≠ .fields vs) → b ≠ e := fun b o hb hnf q => by
    rw [q, he] at hb; cases hb; exact hnf vs hd
  refine wpAny_setField he₂ hd hsz (h _ ⟨fun b o hbo => keep b o (fun q => by rw [q, hen] at hbo; cases hbo) (kb₁ b o hbo), hl.of_keeps fun b o hb hnf => ?_, ?_, fun b o hb hnf => ?_⟩)
  · obtain ⟨sl, hs⟩ := hs₁.2.2 b o hb
    exact ⟨_, keep b _ (noRec b o hb hnf) hs, rfl⟩
  · refine ⟨_, _, h₁.objs.size, oT, ([head, .ref L, .none, rawInt L, .none] ++ (if pl.isEmpty then List.replicate 6 Value.none else pl)).toArray, he₃, Obj.cls_mapFields _ _, hd₃, by simp [hsz], by rw [Array.getElem?_setIfInBounds_ne (by decide)]; exact h2, kb₁.fresh, hTe, hT₃, by rw [← hTo], by simp⟩
  · obtain ⟨sl, hs⟩ := hs₁.2.2 b o hb
    exact ⟨sl, keep b _ (noRec b o hb hnf) hs⟩
theorem flightX {base : Heap} {l : List Env} {e : Addr} {cls fl : Value} {Q : Unit → Shared → Prop} (hkb : base.StaysIn s.heap) (hl : s.heap.FunFrames base l) (ht : TrX s.heap base e cls fl)
    (h : ∀ h', StX base l e cls .none s.heap h' → Q () { s with heap := h' }) : wpAny M A (setFlight (.ref e) none) Q E s := by
  obtain ⟨oe, vs, T, oT, ts, he, hc, hd, h1, h2, hnT, hTe, hT, hdT, h3⟩ := ht
  have hsz3 : 3 < ts.size := (Array.getElem?_eq_some_iff.mp h3).1
  have other : ∀ b, b ≠ T → (s.heap.update T (Obj.mapFields (·.setIfInBounds 3 ((none : Option Addr).elim Value.none fun f => rawInt f)))).get? b = s.heap.get? b := fun b hb => Heap.get?_update_other _ _ (Ne.symm hb)
  have noRec : ∀ b o, s.heap.get? b = some o → (∀ vs, o.data ≠ .fields vs) → b ≠ T := fun b o hb hnf q => by
    rw [q, hT] at hb; cases hb; exact hnf ts hdT
  unfold setFlight
  refine wpAny_bind (wpAny_field he hd h1 ?_)
  rw [if_pos (show (Value.ref T != Value.none) = true from by simp)]
  refine wpAny_setField hT hdT hsz3 (h _ ⟨fun b o hbo => (other b fun q => by rw [q, hnT] at hbo; cases hbo).trans (hkb b o hbo), hl.of_keeps fun b o hb hnf => ⟨o, (other b (noRec b o hb hnf)).trans hb, rfl⟩, ?_, fun b o hb hnf => ⟨o.slots, (other b (noRec b o hb hnf)).trans hb⟩⟩)
  exact ⟨oe, vs, T, _, _, (other e (Ne.symm hTe)).trans he, hc, hd, h1, h2, hnT, hTe, Heap.get?_update_self _ hT (Obj.isFreed_of_fields (Obj.data_mapFields hdT _)), Obj.data_mapFields hdT _, by simp [hsz3]⟩
theorem leavingX {base : Heap} {env : Env} {outer : List Env} {L e : Addr} {oe : Obj} {vs : Array Value} {Q : Unit → Shared → Prop}
    (hfr : A.frames = some (env :: outer)) (hl : s.heap.FunFrames base (env :: outer)) (hf : env.frame = some L)
    (he : s.heap.get? e = some oe) (hkb : base.StaysIn s.heap) (hen : base.get? e = none) (hd : oe.data = .fields vs) (h1 : vs[1]? = some .none) (h2 : vs[2]? = some .none)
    (h : ∀ h', StX base (env :: outer) e oe.cls .none s.heap h' → Q () { s with heap := h' }) : wpAny M A (leaving env (.ref e)) Q E s := by
  unfold leaving noteFrame
  simp only [hf]
  refine wpAny_bind (wpAny_bind (wpAny_field he hd h1 ?_))
  rw [if_neg (by decide)]
  refine entryX hfr hl hf he hkb hen hd h2 fun h' x => ?_
  refine flightX x.st x.ff x.tr fun h'' y => h h'' ⟨y.st, y.ff, y.tr, x.up.trans y.up⟩
theorem noteX {base : Heap} {env : Env} {outer : List Env} {L e : Addr} {cls : Value} {Q : Unit → Shared → Prop}
    (hfr : A.frames = some (env :: outer)) (hl : s.heap.FunFrames base (env :: outer)) (hf : env.frame = some L) (ht : TrX s.heap base e cls .none) (hkb : base.StaysIn s.heap) (hen : base.get? e = none)
    (h : ∀ h', StX base (env :: outer) e cls (rawInt L) s.heap h' → Q () { s with heap := h' }) : wpAny M A (noteFrame (.ref e) env) Q E s := by
  obtain ⟨oe, vs, T, oT, ts, he, rfl, hd, h1, h2, hnT, hTe, hT, hdT, h3⟩ := ht
  unfold noteFrame
  simp only [hf]
  refine wpAny_bind (wpAny_field he hd h1 ?_)
  rw [if_pos (show (Value.ref T != Value.none) = true from by simp)]
  refine wpAny_bind (wpAny_field hT hdT h3 ?_)
  rw [if_neg (show ¬ ((Value.none == rawInt L) = true) from by simp [rawInt])]
  refine wpAny_bind (wpAny_setField hT hdT (Array.getElem?_eq_some_iff.mp h3).1 ?_)
  have other : ∀ b, b ≠ T → (s.heap.update T (Obj.mapFields (·.setIfInBounds 3 Value.none))).get? b = s.heap.get? b := fun b hb => Heap.get?_update_other _ _ (Ne.symm hb)
  have noRec : ∀ b o, s.heap.get? b = some o → (∀ vs, o.data ≠ .fields vs) → b ≠ T := fun b o hb hnf q => by
    rw [q, hT] at hb; cases hb; exact hnf ts hdT
  refine entryX hfr (hl.of_keeps fun b o hb hnf => ⟨o, (other b (noRec b o hb hnf)).trans hb, rfl⟩) hf ((other e (Ne.symm hTe)).trans he)
    (fun b o hbo => (other b fun q => by rw [q, hnT] at hbo; cases hbo).trans (hkb b o hbo)) hen hd h2 fun h' x => h h' ⟨x.st, x.ff, x.tr, fun b o hb hnf => x.up b o ((other b (noRec b o hb hnf)).trans hb) hnf⟩
end
/-- an exception that has left a frame -/
structure RaisedX (base G : Heap) (l : List Env) (e : Addr) (cls : Value) (news : List (Addr × Obj)) (h : Heap) : Prop where
  ex : ∃ B, base.StaysIn B ∧ (∀ b o, G.get? b = some o → b ∉ frs l → B.get? b = some o) ∧ (∀ q ∈ news, B.get? q.1 = some q.2 ∧ G.get? q.1 = none ∧ base.get? q.1 = none) ∧ B.StaysIn h ∧ B.get? e = none ∧ h.FunFrames B l ∧ TrX h B e cls .none
  up : G.UpToSlots h
section
variable {M : Model} {A : Around} {E : Value → Shared → Prop} {s' : Shared} {base g h : Heap} {outer : List Env} {L a e : Addr} {m : Str → Option Value} {name : Str} {scope : Scope} {cd : Value} {Q : Unit → Shared → Prop} {news : List (Addr × Obj)}
theorem leave_rawX {cls : Value} {oe : Obj} {vs : Array Value} (K : Below A base outer g) (hkp : ∀ b o, h.get? b = some o → s'.heap.get? b = some o) (hnw : h.get? e = none) (he : s'.heap.get? e = some oe) (hcls : oe.cls = cls) (hdt : oe.data = .fields vs) (h1 : vs[1]? = some .none) (h2 : vs[2]? = some .none) (F : Fr g L h m) (N : News g L h news)
    (hQ : ∀ h', RaisedX base g outer e cls news h' → Q () { s' with heap := h' }) (hk : scope.kind = .function := by rfl) :
    wpAny M (A.deeper (envOf name scope L a cd)) (leaving (envOf name scope L a cd) (.ref e)) Q E s' := by
  have K' := K.push (name := name) (a := a) (cd := cd) F hk
  have hin : ∀ env ∈ (envOf name scope L a cd :: outer), ∀ b, env.frame = some b → b ∈ frs (envOf name scope L a cd :: outer) := fun env he b hb => List.mem_filterMap.mpr ⟨env, he, hb⟩
  have st : base.StaysIn (hideAll h (frs (envOf name scope L a cd :: outer))) := fun b o q => hideAll_get _ (K'.stays b o q) fun hm => by
    rw [(K'.frames.mem hm).1] at q; cases q
  have sg : ∀ b o, g.get? b = some o → b ∉ frs outer → (hideAll h (frs (envOf name scope L a cd :: outer))).get? b = some o := fun b o q nm => hideAll_get _ (F.keep b o q) fun hm => by
    rcases kts_mem hm with z | z
    · rw [z, kts_self F] at q
      cases q
    · exact nm z
  have hl : ∀ q ∈ news, (hideAll h (frs (envOf name scope L a cd :: outer))).get? q.1 = some q.2 ∧ g.get? q.1 = none ∧ base.get? q.1 = none := fun q hq => by
    refine ⟨hideAll_get _ (N q hq).1 fun hm => ?_, (N q hq).2.2, fresh_of_stays K.stays (N q hq).2.2⟩
    rcases kts_mem hm with z | z
    · exact (N q hq).2.1 z
    · obtain ⟨o, ho, _⟩ := (K.frames.mem z).2
      rw [(N q hq).2.2] at ho; cases ho
  subst hcls
  have fresh : (hideAll h (frs (envOf name scope L a cd :: outer))).get? e = none := by
    cases q : (hideAll h (frs (envOf name scope L a cd :: outer))).get? e with
    | none => rfl
    | some o => have := of_hideAll _ q; rw [hnw] at this; cases this
  refine leavingX K'.stack ((funFrames_hide K'.frames hin).of_keeps fun b o hb _ => ⟨o, hkp b o hb, rfl⟩) rfl he (fun b o hb => hkp b o (of_hideAll _ hb)) fresh hdt h1 h2 fun h' x => ?_
  obtain ⟨x1, ⟨_, _, x2⟩, x3, x4⟩ := x
  exact hQ h' ⟨⟨_, st, sg, hl, x1, fresh, x2, x3⟩, ((Heap.UpToSlots.of_keeps F.keep).trans (Heap.UpToSlots.of_keeps hkp)).trans x4⟩
theorem leave_raiseX {cls : Value} {vs : List Value} (K : Below A base outer g) (hx : Heap.MadeExcOf h s'.heap e cls vs) (F : Fr g L h m) (N : News g L h news)
    (hQ : ∀ h', RaisedX base g outer e cls news h' → Q () { s' with heap := h' }) (hk : scope.kind = .function := by rfl) :
    wpAny M (A.deeper (envOf name scope L a cd)) (leaving (envOf name scope L a cd) (.ref e)) Q E s' := by
  obtain ⟨t, he, htn, ht⟩ := hx.there
  exact leave_rawX K hx.keeps hx.new he rfl rfl rfl rfl F N hQ hk
theorem leave_newX {cls : String} (K : Below A base outer g) (hx : Heap.NewExc h s'.heap e cls) (F : Fr g L h m) (N : News g L h news)
    (hQ : ∀ h', RaisedX base g outer e (.type cls) news h' → Q () { s' with heap := h' }) (hk : scope.kind = .function := by rfl) :
    wpAny M (A.deeper (envOf name scope L a cd)) (leaving (envOf name scope L a cd) (.ref e)) Q E s' := by
  obtain ⟨ob, t, he, hc, hd⟩ := hx.there
  exact leave_rawX K hx.keeps hx.new he hc hd rfl rfl F N hQ hk
end
end
section
section
variable {prog : Program} {w : World} {A₀ : Around} {E : Value → Shared → Prop} {s' : Shared} {base g G : Heap} {outer : List Env} {L a e C : Addr} {m : Str → Option Value} {name : Str} {scope : Scope} {cd : Value}
  {b₀ : Stmt} {suite : List Stmt} {pos np : Pos} {rest : List ExceptHandler} {Q : Flow → Shared → Prop} {news : List (Addr × Obj)} {KF : Frag}
  {p : Program} {loose : List Str} {mean : ExcName → Option Value} {mg mb : Str → Option Value} {x : Str} {cls : Value} {X T' : String}
/-- what holds in the handler -/
noncomputable def InX (A₀ : Around) (base g : Heap) (outer : List Env) (L : Addr) (m : Str → Option Value) (e : Addr) (cls : Value) (news : List (Addr × Obj)) (KF : Frag) (p : Program) (loose : List Str) (mean : ExcName → Option Value) (mg mb : Str → Option Value) (h' g' : Heap) (oe : Obj) (cs : Array Value) : Prop :=
  KtsTurn (frs outer) g g' ∧ Fr g' L h' m ∧ News g' L h' ((e, oe) :: news) ∧ oe.data = .fields cs ∧ cs[2]? = some .none ∧ (∀ q ∈ news, q.1 ≠ e) ∧ Below A₀ base outer g' ∧ KF.In g' ∧ Top p loose mean mg mb g' ∧ KtsDicts (frs outer) g'
theorem in_of {B h₆ : Heap} (F : Fr g L G m) (K : Below A₀ base outer g) (hup : G.UpToSlots h₆) (XB : KF.In base) (TB : Top p loose mean mg mb base) (D : KtsDicts (frs outer) g)
    (hBG : ∀ b o, G.get? b = some o → b ∉ frs (envOf name scope L a cd :: outer) → B.get? b = some o) (hl : ∀ q ∈ news, B.get? q.1 = some q.2 ∧ G.get? q.1 = none ∧ base.get? q.1 = none) (hen : B.get? e = none)
    (x : StX B (envOf name scope L a cd :: outer) e cls .none s'.heap h₆) :
    ∃ g' oe cs, InX A₀ base g outer L m e cls news KF p loose mean mg mb h₆ g' oe cs := by
  obtain ⟨g₆, T₆, F₆, K₆⟩ := kts_ground K F hBG x.st hup
  obtain ⟨oe, vs, T, oT, ts, he, hc, hd, h1, h2, hnT, hTe, hT, hdT, h3⟩ := x.tr
  have hL : B.get? L = none := by
    obtain ⟨_, ⟨L', _, hf, hn', _⟩, _⟩ := x.ff
    obtain rfl : L = L' := Option.some.inj hf
    exact hn'
  have ne₆ : g₆.get? e = none := T₆.none_ _ (kts_fresh F hBG hen fun o ho m => by
    obtain ⟨_, o', ho', hnf⟩ := K.frames.mem m
    rw [ho] at ho'
    cases ho'
    obtain ⟨sl, hs⟩ := hup _ _ (F.keep _ _ ho) hnf
    rw [he] at hs
    cases hs
    exact hnf _ hd)
  have N₆ := News.more F₆ News.nil he (fun es n q => by rw [hd] at q; cases q) ne₆
  have Nl : News g₆ L h₆ news := fun q hq => ⟨x.st _ _ (hl q hq).1, (fun z => by have := (hl q hq).1; rw [z, hL] at this; cases this), T₆.none_ _ (kts_none F.keep (hl q hq).2.1)⟩
  exact ⟨g₆, oe, vs, T₆, F₆, (fun q hq => (List.mem_cons.mp hq).elim (fun e' => N₆ q (e' ▸ .head _)) (Nl q)), hd, h2, (fun q hq z => by have := (hl q hq).1; rw [z, hen] at this; cases this), K₆, XB.keeps K₆.stays, TB.keeps K₆.stays, D.turn T₆⟩
theorem caughtX_own (R : RaisedX base G (envOf name scope L a cd :: outer) e (.ref C) news s'.heap) (F : Fr g L G m) (K : Below A₀ base outer g) (XB : KF.In base) (TB : Top p loose mean mg mb base) (D : KtsDicts (frs outer) g)
    (ex : nsIn KF mainGlobals x = some (some (.ref C))) (q : ktsIn KF C "BaseException" = true)
    (k : ∀ h' g' oe cs, InX A₀ base g outer L m e (.ref C) news KF p loose mean mg mb h' g' oe cs →
      wpAny (model prog w) ((A₀.deeper (envOf name scope L a cd)).mark (some (.ref e))) (execs (b₀ :: suite) (envOf name scope L a cd)) Q E { s' with heap := h' })
    (hk : scope.kind = .function := by rfl) (hx : (envOf name scope L a cd).kindOf x = some .globalImplicit := by rfl) (hdb : (x == ("__debug__" : Str)) = false := by decide)
    (hE : PassesOwnAt (model prog w) ((A₀.deeper (envOf name scope L a cd)).mark (some (.ref e))) (A₀.deeper (envOf name scope L a cd)) (envOf name scope L a cd) E := by passes_own) :
    wpAny (model prog w) (A₀.deeper (envOf name scope L a cd)) (noteFrame (.ref e) (envOf name scope L a cd))
      (fun _ s₂ => wpAny (model prog w) (A₀.deeper (envOf name scope L a cd)) (setFlight (.ref e) none) (fun _ s₃ =>
        wpAny (model prog w) (A₀.deeper (envOf name scope L a cd)) (handleBy (.ref e) (envOf name scope L a cd) (.ExceptHandler (some (.Name x np)) none (b₀ :: suite) pos :: rest)) Q E s₃) E s₂) E s' := by
  obtain ⟨⟨B, hB, hBG, hl, hst, hen, hff, htr⟩, hup⟩ := R
  refine noteX (Around.frames_deeper K.stack) hff rfl htr hst hen fun h₄ x₄ => ?_
  refine flightX x₄.st x₄.ff x₄.tr fun h₅ x₅ => ?_
  obtain ⟨g₅, T₅, F₅, K₅⟩ := kts_ground K F hBG x₅.st ((hup.trans x₄.up).trans x₅.up)
  have X₅ : KF.In g₅ := XB.keeps K₅.stays
  have P₅ : TopRead p loose mg mb g₅ := topRead_of (TB.keeps K₅.stays)
  obtain ⟨ob, _, _, _, _, hob, hobc, _⟩ := x₅.tr
  obtain ⟨nm, q', N, bs, bm, hdct, sn, sub, ab, col, dd, k0, k1, k2, k3, k5, newId, hC, hbase, hbT⟩ := kts_cls X₅ q
  have hC₅ := F₅.keep _ _ hC
  refine wpAny_handleBy_cons (codeAny_handlers_test (name_K F₅ X₅ P₅ ex ?_ hk hx hdb)) (by intro q; cases q)
  refine wpAny_excMatches_sub_self hC₅ hob hobc hbase (codeAny_handlers_suite ?_)
  refine flightX x₅.st x₅.ff x₅.tr fun h₆ x₆ => ?_
  obtain ⟨g₆, oe, cs, hI⟩ := in_of (s' := { s' with heap := h₅ }) F K (((hup.trans x₄.up).trans x₅.up).trans x₆.up) XB TB D hBG hl hen x₆
  exact wpAny_passesOwnAt hE (k h₆ g₆ oe cs hI)
theorem caughtX_type (R : RaisedX base G (envOf name scope L a cd :: outer) e (.type X) news s'.heap) (F : Fr g L G m) (K : Below A₀ base outer g) (XB : KF.In base) (TB : Top p loose mean mg mb base) (D : KtsDicts (frs outer) g)
    (ex : nsIn KF mainGlobals x = some none) (hv : bootBuiltins x = some (.type T')) (hn' : x ≠ "__name__")
    (hexc : isSubtype (.type T') (.type "BaseException") = pure true) (hnt : isSubtype (.type ((Manifest.find? T').elim "type" fun y => y.metatype)) (.type "tuple") = pure false) (hsub : isSubtype (.type X) (.type T') = pure true)
    (k : ∀ h' g' oe cs, InX A₀ base g outer L m e (.type X) news KF p loose mean mg mb h' g' oe cs →
      wpAny (model prog w) ((A₀.deeper (envOf name scope L a cd)).mark (some (.ref e))) (execs (b₀ :: suite) (envOf name scope L a cd)) Q E { s' with heap := h' })
    (hk : scope.kind = .function := by rfl) (hx : (envOf name scope L a cd).kindOf x = some .globalImplicit := by rfl) (hdb : (x == ("__debug__" : Str)) = false := by decide)
    (hE : PassesOwnAt (model prog w) ((A₀.deeper (envOf name scope L a cd)).mark (some (.ref e))) (A₀.deeper (envOf name scope L a cd)) (envOf name scope L a cd) E := by passes_own) :
    wpAny (model prog w) (A₀.deeper (envOf name scope L a cd)) (noteFrame (.ref e) (envOf name scope L a cd))
      (fun _ s₂ => wpAny (model prog w) (A₀.deeper (envOf name scope L a cd)) (setFlight (.ref e) none) (fun _ s₃ =>
        wpAny (model prog w) (A₀.deeper (envOf name scope L a cd)) (handleBy (.ref e) (envOf name scope L a cd) (.ExceptHandler (some (.Name x np)) none (b₀ :: suite) pos :: rest)) Q E s₃) E s₂) E s' := by
  obtain ⟨⟨B, hB, hBG, hl, hst, hen, hff, htr⟩, hup⟩ := R
  refine noteX (Around.frames_deeper K.stack) hff rfl htr hst hen fun h₄ x₄ => ?_
  refine flightX x₄.st x₄.ff x₄.tr fun h₅ x₅ => ?_
  obtain ⟨g₅, T₅, F₅, K₅⟩ := kts_ground K F hBG x₅.st ((hup.trans x₄.up).trans x₅.up)
  have X₅ : KF.In g₅ := XB.keeps K₅.stays
  have P₅ : TopRead p loose mg mb g₅ := topRead_of (TB.keeps K₅.stays)
  obtain ⟨ob, _, _, _, _, hob, hobc, _⟩ := x₅.tr
  refine wpAny_handleBy_builtin (X := X) (T := T') (b := true) hexc hnt hsub (name_B F₅ X₅ P₅ ex hv hn' ⟨rfl, ⟨ob, hob, hobc⟩, ?_⟩ hk hx hdb)
  refine flightX x₅.st x₅.ff x₅.tr fun h₆ x₆ => ?_
  obtain ⟨g₆, oe, cs, hI⟩ := in_of (s' := { s' with heap := h₅ }) F K (((hup.trans x₄.up).trans x₅.up).trans x₆.up) XB TB D hBG hl hen x₆
  exact wpAny_passesOwnAt hE (k h₆ g₆ oe cs hI)
end
theorem ground_turn {A₀ : Around} {base h₀ g g' : Heap} {env : Env} {outer : List Env} {L : Addr} {m : Str → Option Value} (B : Below A₀ base outer h₀) (FG : Fr h₀ L g m) (D : KtsDicts (frs outer) h₀) (hf : env.frame = some L) (T' : KtsTurn (frs (env :: outer)) g g') :
    ∃ h₀', KtsTurn (frs outer) h₀ h₀' ∧ Fr h₀' L g' m ∧ Below A₀ base outer h₀' ∧ KtsDicts (frs outer) h₀' := by
  have nL₀ : h₀.get? L = none := kts_self FG
  obtain ⟨T₁, S₁⟩ := kts_turn_at (h := g') (fs := frs outer) (g := h₀)
    (fun b hb => by
      obtain ⟨_, o, ho', _⟩ := B.frames.mem hb
      exact ⟨o, ho'⟩)
    (fun b o e nmem => T'.other b o (FG.keep b o e) (fun q => by
      rcases frs_mem hf q with z | z
      · rw [z, nL₀] at e; cases e
      · exact nmem z))
    (fun b o e hm => T'.up (FG.keep b o e))
  have up : g.UpToSlots g' := fun b o e _ => T'.up e
  exact ⟨_, T₁, ⟨up.ns FG.ns, S₁, by rw [T₁.size]; exact FG.above⟩, ⟨B.stack, fun b o e => T₁.other b o (B.stays b o e) (fun hm => by
    rw [(B.frames.mem hm).1] at e; cases e), B.frames.of_keeps fun b o e _ => by
    obtain ⟨sl', hs'⟩ := T₁.up e
    exact ⟨_, hs', rfl⟩⟩, D.turn T₁⟩
end
section
noncomputable abbrev fcLed (w : World) (S : Srt) (rd np nf : Value) (o : Obj) (rest : List (Addr × Obj)) (G : List Nd) (stA itA seA dA dit : Addr) (rs : List Ent) (so dob oit : Obj) (n1 n2 : Nat) : List (Addr × Obj) :=
  (stA, lstObj (stV rs) n1) :: (itA, lstObj (itV rs) n2) :: (seA, so) :: (dA, dob) :: (dit, oit) :: (kLed rs ++ S.led w rd np nf o (gLed G ++ rest))
noncomputable abbrev fcLoc (S : Srt) (stA itA seA dA : Addr) : List (Str × Value) := [(Str.ofString "self", .ref S.x), (Str.ofString "n2i", .ref S.d), (Str.ofString "stack", .ref stA), (Str.ofString "itstack", .ref itA), (Str.ofString "seen", .ref seA), (Str.ofString "node2stacki", .ref dA)]
noncomputable def FcI (prog : Program) (w : World) (S : Srt) (rd np nf : Value) (o : Obj) (rest : List (Addr × Obj)) (G : List Nd) (A1 : Around) (env : Env) (outer : List Env) (base g : Heap) (L1 stA itA seA dA dit : Addr) (s : Shared) (loc : List (Str × Value)) (rs : List Ent) (done : List Int) (seen : Int → Bool) (oit : Obj) (s' : Shared) : Prop :=
  ∃ (g' h : Heap) (tk : Nat) (u : Str → Option Value) (so dob : Obj) (n1 n2 nS : Nat), s' = { s with heap := h, toks := tk } ∧ KtsTurn (frs (env :: outer)) g g' ∧ Below A1 base (env :: outer) g' ∧ KtsDicts (frs (env :: outer)) g' ∧
    Fr g' L1 h (kB u (loc ++ fcLoc S stA itA seA dA)) ∧ News g' L1 h (fcLed w S rd np nf o rest G stA itA seA dA dit rs so dob oit n1 n2) ∧ Apart (fcLed w S rd np nf o rest G stA itA seA dA dit rs so dob oit n1 n2) ∧
    so.SetObjOf (intKind prog w) seen nS ∧ nS + unseen G seen = G.length ∧ dob.IsDictOf (intKind prog w) (nsK rs) ∧ DInv G rs done seen
theorem frontDit {w : World} {S : Srt} {rd np nf : Value} {o : Obj} {rest : List (Addr × Obj)} {G : List Nd} {stA itA seA dA dit : Addr} {rs : List Ent} {so dob oit : Obj} {n1 n2 : Nat} :
    (fcLed w S rd np nf o rest G stA itA seA dA dit rs so dob oit n1 n2).Perm ((dit, oit) :: (stA, lstObj (stV rs) n1) :: (itA, lstObj (itV rs) n2) :: (seA, so) :: (dA, dob) :: (kLed rs ++ S.led w rd np nf o (gLed G ++ rest))) :=
  List.perm_middle (l₁ := [_, _, _, _])
/-- what stands apart, said singly -/
theorem fcApart {a b c d e : Addr × Obj} {r : List (Addr × Obj)} (h : Apart (a :: b :: c :: d :: e :: r)) :
    (@Ne Nat b.1 a.1 ∧ @Ne Nat c.1 a.1 ∧ @Ne Nat d.1 a.1 ∧ @Ne Nat e.1 a.1 ∧ ∀ q ∈ r, q.1 ≠ a.1) ∧ (@Ne Nat a.1 b.1 ∧ @Ne Nat c.1 b.1 ∧ @Ne Nat d.1 b.1 ∧ @Ne Nat e.1 b.1 ∧ ∀ q ∈ r, q.1 ≠ b.1) ∧
    (@Ne Nat a.1 c.1 ∧ @Ne Nat b.1 c.1 ∧ @Ne Nat d.1 c.1 ∧ @Ne Nat e.1 c.1 ∧ ∀ q ∈ r, q.1 ≠ c.1) ∧ (@Ne Nat a.1 d.1 ∧ @Ne Nat b.1 d.1 ∧ @Ne Nat c.1 d.1 ∧ @Ne Nat e.1 d.1 ∧ ∀ q ∈ r, q.1 ≠ d.1) := by
  have h1 := apart_ne h
  have h2 := apart_ne (apart_tail h)
  have h3 := apart_ne (apart_tail (apart_tail h))
  have h4 := apart_ne (apart_tail (apart_tail (apart_tail h)))
  exact ⟨⟨h1 b (by simp), h1 c (by simp), h1 d (by simp), h1 e (by simp), fun q hq => h1 q (by simp [hq])⟩, ⟨fun z => h1 b (by simp) z.symm, h2 c (by simp), h2 d (by simp), h2 e (by simp), fun q hq => h2 q (by simp [hq])⟩,
    ⟨fun z => h1 c (by simp) z.symm, fun z => h2 c (by simp) z.symm, h3 d (by simp), h3 e (by simp), fun q hq => h3 q (by simp [hq])⟩, ⟨fun z => h1 d (by simp) z.symm, fun z => h2 d (by simp) z.symm, fun z => h3 d (by simp) z.symm, h4 e (by simp), fun q hq => h4 q (by simp [hq])⟩⟩
theorem fcApart_e {a b c d e : Addr × Obj} {r : List (Addr × Obj)} (h : Apart (a :: b :: c :: d :: e :: r)) {G : Prop} (k : @Ne Nat b.1 a.1 → @Ne Nat c.1 a.1 → @Ne Nat d.1 a.1 → @Ne Nat e.1 a.1 → (∀ q ∈ r, q.1 ≠ a.1) → @Ne Nat a.1 b.1 → @Ne Nat c.1 b.1 → @Ne Nat d.1 b.1 → @Ne Nat e.1 b.1 → (∀ q ∈ r, q.1 ≠ b.1) → @Ne Nat a.1 c.1 → @Ne Nat b.1 c.1 → @Ne Nat d.1 c.1 → @Ne Nat e.1 c.1 → (∀ q ∈ r, q.1 ≠ c.1) → @Ne Nat a.1 d.1 → @Ne Nat b.1 d.1 → @Ne Nat c.1 d.1 → @Ne Nat e.1 d.1 → (∀ q ∈ r, q.1 ≠ d.1) → G) : G :=
  have x := fcApart h
  k x.1.1 x.1.2.1 x.1.2.2.1 x.1.2.2.2.1 x.1.2.2.2.2 x.2.1.1 x.2.1.2.1 x.2.1.2.2.1 x.2.1.2.2.2.1 x.2.1.2.2.2.2 x.2.2.1.1 x.2.2.1.2.1 x.2.2.1.2.2.1 x.2.2.1.2.2.2.1 x.2.2.1.2.2.2.2 x.2.2.2.1 x.2.2.2.2.1 x.2.2.2.2.2.1 x.2.2.2.2.2.2.1 x.2.2.2.2.2.2.2
theorem newsSub {h₀ h : Heap} {L : Addr} {l l' : List (Addr × Obj)} (N : News h₀ L h l) (hs : l' ⊆ l) : News h₀ L h l' := fun q hq => N q (hs hq)
theorem sub5 {α : Type} {l l' : List α} (a b c d e : α) (h : l' ⊆ l) : (a :: b :: c :: d :: e :: l') ⊆ (a :: b :: c :: d :: e :: l) := List.cons_subset_cons _ (List.cons_subset_cons _ (List.cons_subset_cons _ (List.cons_subset_cons _ (List.cons_subset_cons _ h))))
theorem sub3 {α : Type} {l : List α} (a b c : α) : l ⊆ (a :: b :: c :: l) := fun _ h => .tail _ (.tail _ (.tail _ h))
theorem newsDup {h₀ h : Heap} {L : Addr} {a b c d e x y z : Addr × Obj} {r : List (Addr × Obj)} (N : News h₀ L h (a :: b :: c :: d :: e :: r)) (hx : x ∈ r) (hy : y ∈ r) (hz : z ∈ r) : News h₀ L h (a :: b :: c :: d :: e :: x :: y :: z :: r) :=
  newsSub N (sub5 _ _ _ _ _ (List.cons_subset.mpr ⟨hx, List.cons_subset.mpr ⟨hy, List.cons_subset.mpr ⟨hz, List.Subset.refl _⟩⟩⟩))
theorem fcNews {h₀ h : Heap} {L : Addr} {a b c d e x y z u v : Addr × Obj} {kl r rr : List (Addr × Obj)} (hrr : kl ++ r = rr) (N : News h₀ L h (u :: v :: a :: b :: c :: d :: e :: x :: y :: z :: rr)) : News h₀ L h (a :: b :: c :: d :: e :: ((u :: v :: kl) ++ r)) :=
  by subst hrr; exact news_perm (newsSub (newsSub N (List.cons_subset_cons _ (List.cons_subset_cons _ (sub5 _ _ _ _ _ (sub3 _ _ _))))) (List.Subset.refl _)) (List.perm_append_comm_assoc [u, v] [a, b, c, d, e] _)
theorem fcNews0 {h₀ h : Heap} {L : Addr} {a b c d e x y z : Addr × Obj} {kl r rr : List (Addr × Obj)} (hrr : kl ++ r = rr) (N : News h₀ L h (a :: b :: c :: d :: e :: x :: y :: z :: rr)) : News h₀ L h (a :: b :: c :: d :: e :: (kl ++ r)) :=
  by subst hrr; exact newsSub N (sub5 _ _ _ _ _ (sub3 _ _ _))
theorem dinv_push {G : List Nd} {rs : List Ent} {done : List Int} {seen : Int → Bool} (hI : DInv G rs done seen) {e : Nd} {tk ix : Tok} {q it : Addr} {oi : Obj} (he : e ∈ G) (hL : IsLIt oi e.sa 0) (hs : seen e.key = false) (hn : e.key ∉ ekeys rs) : DInv G (⟨e, tk, q, it, oi, 0, ix⟩ :: rs) done (fun k' => seen k' || decide (k' = e.key)) where
  seen k := by
    simp only [Bool.or_eq_true, decide_eq_true_eq, hI.seen k, List.map_cons, List.mem_cons]
    exact ⟨fun h => h.elim (fun h => h.elim .inl (fun h => .inr (.inr h))) (fun h => .inr (.inl h)), fun h => h.elim (fun h => .inl (.inl h)) (fun h => h.elim .inr (fun h => .inl (.inr h)))⟩
  nd := List.nodup_cons.mpr ⟨hn, hI.nd⟩
  ap := List.forall_mem_cons.mpr ⟨fun hc => Bool.false_ne_true (hs.symm.trans ((hI.seen e.key).mpr (.inl hc))), hI.ap⟩
  fin := hI.fin
  ok := List.forall_mem_cons.mpr ⟨⟨he, hL⟩, hI.ok⟩
theorem dinv_step {G : List Nd} {r : List Ent} {e : Ent} {done : List Int} {seen : Int → Bool} (hI : DInv G (e :: r) done seen) {oi : Obj} {j : Nat} (hL : IsLIt oi e.nd.sa j) : DInv G ({ e with oi := oi, pos := j } :: r) done seen :=
  ⟨hI.seen, hI.nd, hI.ap, hI.fin, List.forall_mem_cons.mpr ⟨⟨(hI.ok e (.head _)).1, hL⟩, fun e' h => hI.ok e' (.tail _ h)⟩⟩
theorem dinv_pop {G : List Nd} {r : List Ent} {e : Ent} {done : List Int} {seen : Int → Bool} (hI : DInv G (e :: r) done seen) (hf : ∀ c ∈ scOf (view G) e.nd.key, c ∈ done) : DInv G r (e.nd.key :: done) seen where
  seen k := by
    rw [hI.seen k]
    simp only [List.map_cons, List.mem_cons]
    exact ⟨fun h => h.elim (fun h => .inl (.inr h)) (fun h => h.elim (fun h => .inl (.inl h)) .inr), fun h => h.elim (fun h => h.elim (fun h => .inr (.inl h)) .inl) (fun h => .inr (.inr h))⟩
  nd := (List.nodup_cons.mp hI.nd).2
  ap := fun k hk hk2 => (List.mem_cons.mp hk2).elim (fun h => (List.nodup_cons.mp hI.nd).1 ((congrArg (· ∈ ekeys r) h).mp hk)) (hI.ap k (.tail _ hk))
  fin := ⟨hf, hI.fin⟩
  ok := fun e' h => hI.ok e' (.tail _ h)
theorem dinv_new {G : List Nd} {rs : List Ent} {done : List Int} {seen : Int → Bool} (hI : DInv G rs done seen) {k : Int} (hs : seen k = false) : k ∉ ekeys rs := fun q => Bool.false_ne_true (hs.symm.trans ((hI.seen k).mpr (.inr q)))
theorem push_le {G : List Nd} (hG : (G.map (·.key)).Nodup) (hB : Bnd (view G)) {rs : List Ent} {seen : Int → Bool} {e : Nd} {tk ix : Tok} {q it : Addr} {oi : Obj} (he : e ∈ G) (hs : seen e.key = false) : unseen G (fun k' => seen k' || decide (k' = e.key)) * 101 + remn (⟨e, tk, q, it, oi, 0, ix⟩ :: rs) ≤ unseen G seen * 101 + remn rs := by
  have hum := unseen_mark hG he hs
  have hbn := bnd_nd hB he
  unfold remn
  rw [List.map_cons, List.sum_cons]
  dsimp only
  (first | lia | omega)
theorem nS_push {nS u v m : Nat} (h : nS + u = m) (h2 : v + 1 = u) : nS + 1 + v = m := by (first | lia | omega)
theorem remn_cons (e : Ent) (r : List Ent) : remn (e :: r) = (e.nd.sc.length - e.pos) + remn r := by unfold remn; rw [List.map_cons, List.sum_cons]
theorem remn_tail (e : Ent) (r : List Ent) : remn r ≤ remn (e :: r) := by rw [remn_cons]; (first | lia | omega)
theorem step_lt {e : Ent} {r : List Ent} {u m : Nat} {oi : Obj} (h : u + remn (e :: r) ≤ m) (hp : e.pos < e.nd.sc.length) : u + remn ({ e with oi := oi, pos := e.pos + 1 } :: r) < m := by
  rw [remn_cons] at h ⊢
  dsimp only
  (first | lia | omega)
theorem chain_step {e : Ent} {done : List Int} {c : Int} {tc : Tok} (hc : e.nd.sc[e.pos]? = some (c, tc)) (hcA : ∀ c ∈ (e.nd.sc.map (·.1)).take e.pos, c ∈ done ∨ (none : Option Int) = some c) : ∀ c' ∈ (e.nd.sc.map (·.1)).take (e.pos + 1), c' ∈ done ∨ some c = some c' := fun c' hc' => by
  rw [List.take_add_one, List.getElem?_map, hc] at hc'
  rcases List.mem_append.mp hc' with q | q
  · exact .inl ((hcA c' q).resolve_right (fun h => nomatch h))
  · exact .inr (by rw [List.mem_singleton.mp q])
theorem fin_of {G : List Nd} (hG : (G.map (·.key)).Nodup) {e : Ent} (he : e.nd ∈ G) {done : List Int} (hp : ¬ e.pos < e.nd.sc.length) (hcA : ∀ c ∈ (e.nd.sc.map (·.1)).take e.pos, c ∈ done ∨ (none : Option Int) = some c) : ∀ c ∈ scOf (view G) e.nd.key, c ∈ done := fun c hc => by
  rw [scOf_nd hG he] at hc
  rw [List.take_of_length_le (by simp; (first | lia | omega))] at hcA
  exact (hcA c hc).resolve_right (fun h => nomatch h)
theorem ring_at {G : List Nd} (hG : (G.map (·.key)).Nodup) {done : List Int} {rs : List Ent} {nx : Int} {tn : Tok} {seen : Int → Bool} (hI : DInv G rs done seen) (hc : Chain done rs (some nx)) {j : Nat} {pre post : List Int} (hj2 : ekeys rs.reverse = pre ++ nx :: post) (hj3 : pre.length = j) :
    IsRing (view G) (((rs.reverse.map fun e => (e.nd.key, e.tk)).drop j ++ [(nx, tn)]).map (·.1)) := by
  have e1 : ((rs.reverse.map fun e => (e.nd.key, e.tk)).drop j ++ [(nx, tn)]).map (·.1) = nx :: (post ++ [nx]) := by
    rw [List.map_append, List.map_drop, List.map_map]
    show (ekeys rs.reverse).drop j ++ [nx] = _
    rw [hj2, ← hj3, List.drop_left]
    rfl
  rw [e1]
  exact ring_of hG (fun e he => (hI.ok e he).1) hc hI.nd hj2
theorem lt_of_len {a b : Nat} (h : a ≤ b) (hb : b < 50) : a < 50 := Nat.lt_of_le_of_lt h hb
theorem chain_seen {done : List Int} {rs : List Ent} {k : Int} (h : Chain done rs (some k)) (hk : k ∈ done) : Chain done rs none := by
  cases rs with
  | nil => trivial
  | cons e r => exact ⟨fun c hc => .inl ((h.1 c hc).elim id fun q => Option.some.inj q ▸ hk), fun c hc => (by cases hc), h.2.2⟩
theorem slice_from (rs : List Ent) (j : Nat) (hj : j ≤ rs.length) : slicePick (stV rs).toArray (some (j : Int)) none none = (valsOf ((rs.reverse.map fun e => (e.nd.key, e.tk)).drop j)).toArray := by
  rw [kms_pick_eq]
  unfold kms_pick
  have e1 : kms_lo (some (j : Int)) (stV rs).length = j := by
    unfold kms_lo
    rw [stV_len]
    dsimp only
    rw [if_neg (by (first | lia | omega)), Int.toNat_natCast]
    (first | lia | omega)
  have e2 : kms_hi none (stV rs).length = (stV rs).length := by unfold kms_hi; rfl
  show (List.take (kms_hi none (stV rs).length - kms_lo (some (j : Int)) (stV rs).length) (List.drop (kms_lo (some (j : Int)) (stV rs).length) (stV rs))).toArray = _
  rw [e1, e2, List.take_of_length_le (by rw [List.length_drop]; exact Nat.le_refl _)]
  unfold stV valsOf
  rw [List.map_drop, List.map_map]
  rfl
theorem fcPush {a2 b2 c2 d2 e2 x y z : Addr × Obj} {kl r rr : List (Addr × Obj)} {it q : Addr} {om oi o1 o2 o3 o4 o5 : Obj} (hrr : kl ++ r = rr) (ha : Apart ((a2.1, o1) :: (b2.1, o2) :: (c2.1, o3) :: (d2.1, o4) :: (e2.1, o5) :: rr)) (l5 : ∀ p ∈ a2 :: b2 :: c2 :: d2 :: e2 :: x :: y :: z :: rr, @LT.lt Nat _ p.1 it) (l6 : @LT.lt Nat _ it q)
    {a' b' c' d' e' : Obj} : Apart ((a2.1, a') :: (b2.1, b') :: (c2.1, c') :: (d2.1, d') :: (e2.1, e') :: (((q, om) :: (it, oi) :: kl) ++ r)) := by
  have h1 : Apart (a2 :: b2 :: c2 :: d2 :: e2 :: rr) := ha
  have l5' : ∀ p ∈ a2 :: b2 :: c2 :: d2 :: e2 :: rr, @LT.lt Nat _ p.1 it := fun p hp => l5 p (by
    simp only [List.mem_cons] at hp ⊢
    rcases hp with h | h | h | h | h | h <;> simp [h])
  have h2 := apart_lt (p := (it, oi)) l5' h1
  have h3 := apart_lt (p := (q, om)) (List.forall_mem_cons.mpr ⟨l6, fun p hp => Nat.lt_trans (l5' p hp) l6⟩) h2
  have h4 := apart_perm h3 (List.perm_append_comm_assoc [(q, om), (it, oi)] [a2, b2, c2, d2, e2] rr)
  subst hrr
  exact h4
theorem fcyc_spec {prog : Program} {w : World} (hn : Option Value) (dp un : Nat) (gd : Option (List Code)) (env : Env) (outer : List Env) (h₀ : Heap) (L : Addr) (m : Str → Option Value) (s : Shared) (A₀ : Around) (base : Heap) (p : Program) (loose : List Str) (mean : ExcName → Option Value) (mg mb : Str → Option Value)
    (Q E : Value → Shared → Prop) (GD : Gd w A₀ base outer p loose mean mg mb h₀) (hf : env.frame = some L) (hk : env.scope.kind = .function) (F : Fr h₀ L s.heap m) (S : Srt) (rd np nf : Value) (o : Obj) (rest : List (Addr × Obj)) (G : List Nd)
    (N : News h₀ L s.heap (S.led w rd np nf o (gLed G ++ rest))) (ha : Apart (S.led w rd np nf o (gLed G ++ rest)))
    (hdict : o.IsDictOf (intKind prog w) (gKvs G)) (hsys : (S.d == sysModules) = false) (hG : (G.map (·.key)).Nodup) (hGl : G.length < 50) (hB : Bnd (view G)) (hcl : ∀ e ∈ G, ∀ c ∈ e.sc.map (·.1), ∃ e' ∈ G, e'.key = c)
    (hd : dp + 8 < recursionLimit) (hu : un + 64 < cLine)
    (hhn : hn = none ∨ ((∀ done, FinO (view G) done → ¬ ∀ e ∈ G, e.key ∈ done) ∧ ∃ c oc cs, hn = some (.ref c) ∧ (c, oc) ∈ rest ∧ oc.data = .fields cs ∧ cs[2]? = some .none))
    (ret1 : ∀ done, FinO (view G) done → (∀ e ∈ G, e.key ∈ done) → ∀ h₀' h' tk', KtsTurn (frs outer) h₀ h₀' → Gd w A₀ base outer p loose mean mg mb h₀' → Fr h₀' L h' m → News h₀' L h' (S.led w rd np nf o (gLed G ++ rest)) → Q .none { s with heap := h', toks := tk' })
    (ret2 : ∀ ring : List (Int × Tok), IsRing (view G) (ring.map (·.1)) → ∀ h₀' h' tk' r n, KtsTurn (frs outer) h₀ h₀' → Gd w A₀ base outer p loose mean mg mb h₀' → Fr h₀' L h' m → News h₀' L h' ((r, lstObj (valsOf ring) n) :: S.led w rd np nf o (gLed G ++ rest)) →
      Apart ((r, lstObj (valsOf ring) n) :: S.led w rd np nf o (gLed G ++ rest)) → Q (.ref r) { s with heap := h', toks := tk' }) :
    wpAny (model prog w) (arn hn dp un gd env outer) (call (.ref 127) [.ref S.x]) Q E s := by
  have X := GD.In
  have T := GD.tp
  obtain ⟨B, XB, TB, D⟩ := GD
  refine wpAny_call ?_
  k_dflt (refine' code_defT ?k1 ?k2 ?k3 ?k4 ?k5 ?kD ?kA ?kF ?kK ?k6 ?k7 ?k8 ?k9 ?kB ?_ ?c2 ?c3 ?c4 ?c5; (case kA => exact rfl); (case kF => first | assumption | exact rfl); (case kK => first | assumption | exact rfl); (case k1 => k_asm); (case k2 => k_asm); (case k3 => k_asm); (case k4 => k_asm); (case k5 => k_asm); (case kD => k_asm); (case k6 => k_is); (case k7 => k_is); (case k8 => k_room); (case k9 => first | exact BindsTo.of_eq rfl | exact binds_K (by k_in) rfl (by k_is) rfl rfl rfl); (case c5 => decide); (case kB => exact locs rfl); (case c2 => exact rfl); (case c3 => exact rfl); (case c4 => exact rfl))
  intro g L1 h1 FG F1 N1 B1 X1 T1 D1
  (try dsimp only)
  (try k_fold)
  (repeat' ((fail_if_success (with_reducible (first | show gz2 | show gz3 | show gz4 | show gz5 | show gz6 | show gz7 | show gz8 | show gz9 | show gz10 | show gz11 | show gz12 | show gz13 | show gz14 | show gz15))); (first | ((with_reducible show wpAny _ _ (execs _ _) _ _ _); k_gentoks) | with_reducible (first | refine execs_one ?_ | (refine execs_cut ?_; intro _ _) | (refine if_cut ?_; intro _ _)) | ((fail_if_success (with_reducible show gz1)); (first | (refine Kh.go ‹_› _ _ ?_; try dsimp only [KnP]) | ((with_reducible show TurnEnd _ _ _ _ _ _); dsimp only [TurnEnd]))) | (k_unfold; (try dsimp only)) | (k_end; wrow_close) | walk1 | (dsimp only; walk1) | (leave1; try dsimp only))))
  rename Fr _ _ _ _ => F2
  rename News _ _ _ _ => N2
  rename (_ == sysModules) = false => hsysd
  rename _ ∧ _ ∧ _ ∧ AllLt _ _ => l1a
  rename _ ∧ _ ∧ _ ∧ _ ∧ AllLt _ _ => l1b
  rename _ ∧ _ ∧ _ ∧ _ ∧ _ ∧ AllLt _ _ => l1c
  rename _ ∧ _ ∧ _ ∧ _ ∧ _ ∧ _ ∧ AllLt _ _ => l1d
  rename_i tk1 _ _ hA _ _ _ stA hB1 hC tk2 _ _ itA hD1 hE1 _ _ _ seA hF1 led hsI hsS hG1 _ _ _ dA hH1 dob hdS fdS hdI fdI hZ _ _
  clear hdS fdS fdI hsS
  generalize hso : ({ cls := Value.type "set", data := Data.set #[] 0 (SetTable.fresh 0 0 led) } : Obj) = so at hsI N2
  refine my_for ?_
  (repeat' ((fail_if_success (with_reducible (first | show gz2 | show gz3 | show gz4 | show gz5 | show gz6 | show gz7 | show gz8 | show gz9 | show gz10 | show gz11 | show gz12 | show gz13 | show gz14 | show gz15))); (first | ((with_reducible show wpAny _ _ (execs _ _) _ _ _); k_gentoks) | with_reducible (first | refine execs_one ?_ | (refine execs_cut ?_; intro _ _) | (refine if_cut ?_; intro _ _)) | ((fail_if_success (with_reducible show gz1)); (first | (refine Kh.go ‹_› _ _ ?_; try dsimp only [KnP]) | ((with_reducible show TurnEnd _ _ _ _ _ _); dsimp only [TurnEnd]))) | (k_unfold; (try dsimp only)) | (k_end; wrow_close) | walk1 | (dsimp only; walk1) | (leave1; try dsimp only))))
  rename Fr _ _ _ _ => F3
  rename News _ _ _ _ => N3
  obtain ⟨ep, hep⟩ := dict_at (s := { s with heap := hZ }) (prog := prog) (w := w) (d := S.d) (o := o) (kvs := gKvs G) N3 (by k_mem) hdict
  refine kit_make (d := S.d) (o := o) (kvs := gKvs G) (ep := ep) F3 N3 (by k_mem) hsys hep ?_
  intro dit oit0 h4 hit0 F4 N4 l4
  have F5 := frB (fcLoc S stA itA seA dA) F4 ⟨rfl, rfl, rfl, rfl, rfl, rfl, trivial⟩
  have hN5 : News g L1 h4 (fcLed w S rd np nf o rest G stA itA seA dA dit [] so dob oit0 0 0) := news_perm N4 ((List.reverse_perm [(dit, oit0), (dA, dob), (seA, so), (itA, lstObj [] 0), (stA, lstObj [] 0)]).symm.append_right _)
  have la : ∀ q ∈ S.led w rd np nf o (gLed G ++ rest), @LT.lt Nat _ q.1 stA := List.forall_mem_cons.mpr ⟨l1a.1, List.forall_mem_cons.mpr ⟨l1a.2.1, List.forall_mem_cons.mpr ⟨l1a.2.2.1, fun p hp => kst_ltOf l1a.2.2.2 p hp⟩⟩⟩
  have ha5 : Apart (fcLed w S rd np nf o rest G stA itA seA dA dit [] so dob oit0 0 0) := by
    have a1 := apart_lt (p := (stA, lstObj [] 0)) la ha
    have a2 := apart_lt (p := (itA, lstObj [] 0)) (List.forall_mem_cons.mpr ⟨l1b.1, fun q hq => Nat.lt_trans (la q hq) l1b.1⟩) a1
    have a3 := apart_lt (p := (seA, so)) (List.forall_mem_cons.mpr ⟨l1c.1, List.forall_mem_cons.mpr ⟨l1c.2.1, fun q hq => Nat.lt_trans (la q hq) l1c.2.1⟩⟩) a2
    have a4 := apart_lt (p := (dA, dob)) (List.forall_mem_cons.mpr ⟨l1d.1, List.forall_mem_cons.mpr ⟨l1d.2.1, List.forall_mem_cons.mpr ⟨l1d.2.2.1, fun q hq => Nat.lt_trans (la q hq) l1d.2.2.1⟩⟩⟩) a3
    have a5 := apart_lt (p := (dit, oit0)) l4 a4
    exact apart_perm a5 ((List.reverse_perm [(dit, oit0), (dA, dob), (seA, so), (itA, lstObj [] 0), (stA, lstObj [] 0)]).symm.append_right _)
  clear N4 F4 N3 F3
  have hgl : (gKvs G).length = G.length := by unfold gKvs; simp
  refine Stop.mk (my_forLoop (fun k s' => ∃ (i : Nat) (done : List Int) (seen : Int → Bool) (oit : Obj), k = G.length + 1 - i ∧ i ≤ G.length ∧ IsKIt oit S.d i (gKvs G).length ep ∧ (∀ e ∈ G.take i, e.key ∈ done) ∧
      FcI prog w S rd np nf o rest G (arn hn dp un gd env outer) env outer base g L1 stA itA seA dA dit s [] [] done seen oit s')
    (fun s' => ∃ (done : List Int) (g' h : Heap) (tk : Nat) (u : Str → Option Value), FinO (view G) done ∧ (∀ e ∈ G, e.key ∈ done) ∧ s' = { s with heap := h, toks := tk } ∧ KtsTurn (frs (env :: outer)) g g' ∧ Below (arn hn dp un gd env outer) base (env :: outer) g' ∧ Fr g' L1 h u ∧ News g' L1 h (S.led w rd np nf o (gLed G ++ rest))) ?_ (G.length + 1)
    (ex4_i 0 [] (fun _ => false) oit0 (an5_i rfl (Nat.zero_le _) hit0 (fun e he => by simp at he) (ex9_i g h4 _ _ so dob 0 0 0 (an11_i rfl KtsTurn.refl B1 D1 F5 hN5 ha5 hsI (by simp [unseen]) hdI ⟨by simp, by simp, by simp, trivial, by simp⟩)))) ?_)
  · clear hN5 ha5 F5 hsI hdI hit0 l4 l1a l1b l1c l1d la B1 X1 T1 D1 FG
    intro I1z R1z Q1z hI1z hR1z hQ1z k s' hzz
    refine ex4_e hzz ?_
    clear hzz
    intro i done0 seen0 oit hzz
    refine an5_e hzz ?_
    clear hzz
    rintro rfl hi hit hdn hzz
    refine ex9_e hzz ?_
    clear hzz
    intro g' h tk u so dob n1 n2 nS hzz
    refine an11_e hzz ?_
    clear hzz
    rintro rfl KT B2 D2 F2 N2 ha2 hse hns hdd hI
    have X2 := XB.keeps B2.stays
    have T2 := TB.keeps B2.stays
    by_cases hi2 : i < G.length
    · obtain ⟨e0, he0⟩ : ∃ e0, G[i]? = some e0 := ⟨G[i], List.getElem?_eq_getElem hi2⟩
      have hx0 : (gKvs G)[i]? = some (e0.key, .ref e0.ia) := by unfold gKvs; rw [List.getElem?_map, he0]; rfl
      have hN3 := news_perm N2 (frontDit ..)
      have ha3 := apart_perm ha2 (frontDit ..)
      refine kit_next (d := S.d) (o := o) (kvs := gKvs G) (ep := ep) F2 hN3 hit (apart_ne ha3) (by k_mem) hep hx0 ?_
      intro t0 oit1 h3 hit1 F3 N3
      have N4 := news_perm N3 (frontDit ..).symm
      have ha4 : Apart (fcLed w S rd np nf o rest G stA itA seA dA dit [] so dob oit1 n1 n2) := ha2
      clear N2 hN3 N3 F2 ha3 ha2
      dsimp only [NextIs]
      refine wpAny_assign_Name ?_
      have hkk := fcApart ha4
      have he0G : e0 ∈ G := List.mem_of_getElem? he0
      have htk : ∀ e ∈ G.take (i + 1), e ∈ G.take i ∨ e = e0 := fun e he => by
        rw [List.take_add_one, he0] at he
        simpa using he
      dsimp only [fcLed, kLed, List.nil_append] at N4 ha4
      (repeat' ((fail_if_success (with_reducible (first | show gz2 | show gz3 | show gz4 | show gz5 | show gz6 | show gz7 | show gz8 | show gz9 | show gz10 | show gz11 | show gz12 | show gz13 | show gz14 | show gz15))); (first | ((with_reducible show wpAny _ _ (execs _ _) _ _ _); k_gentoks) | with_reducible (first | refine execs_one ?_ | (refine execs_cut ?_; intro _ _) | (refine if_cut ?_; intro _ _)) | ((fail_if_success (with_reducible show gz1)); (first | (refine Kh.go ‹_› _ _ ?_; try dsimp only [KnP]) | ((with_reducible show TurnEnd _ _ _ _ _ _); dsimp only [TurnEnd]))) | (k_unfold; (try dsimp only)) | (k_end; wrow_close) | walk1 | (dsimp only; walk1) | (leave1; try dsimp only))))
      · rename Fr _ _ _ _ => F5
        rename News _ _ _ _ => N5
        rename Obj.SetObjOf _ _ _ _ => hse
        rename seen0 _ = true => hs0
        have hk0 : e0.key ∈ done0 := by have := (hI.seen e0.key).mp hs0; simpa using this
        refine StopN hI1z (G.length - i) (sb2 (by assumption)) (ex4_i (i + 1) done0 seen0 oit1 (an5_i (sb1 _ _) (by assumption) hit1 (fun e he => (htk e he).elim (hdn e) (fun q => q ▸ hk0)) (ex9_i g' _ _ _ so dob n1 n2 nS (an11_i rfl KT B2 D2 (frB (fcLoc S stA itA seA dA) F5 ⟨rfl, rfl, rfl, rfl, rfl, rfl, trivial⟩) N5 ha4 hse hns hdd hI))))
      · rename Fr _ _ _ _ => F5
        rename News _ _ _ _ => N5
        rename Obj.SetObjOf _ _ _ _ => hse
        rename seen0 _ = false => hs0
        refine my_while (fun n s' => ∃ (rs : List Ent) (done : List Int) (seen : Int → Bool) (node : Int) (tn : Tok), n = unseen G seen * 101 + remn rs ∧ (∃ e ∈ G, e.key = node) ∧ Chain done rs (some node) ∧ (rs = [] → seen node = false ∧ node = e0.key) ∧ (rs ≠ [] → seen e0.key = true) ∧ (∀ k ∈ done0, k ∈ done) ∧
            FcI prog w S rd np nf o rest G (arn hn dp un gd env outer) env outer base g L1 stA itA seA dA dit s [(Str.ofString "node", .int node tn)] rs done seen oit1 s')
          (fun s' => ∃ (done : List Int) (seen : Int → Bool), e0.key ∈ done ∧ (∀ k ∈ done0, k ∈ done) ∧ FcI prog w S rd np nf o rest G (arn hn dp un gd env outer) env outer base g L1 stA itA seA dA dit s [] [] done seen oit1 s')
          ?_ _ (ex5_i [] done0 seen0 e0.key t0 (an7_i rfl ⟨e0, he0G, rfl⟩ trivial (fun _ => ⟨hs0, rfl⟩) (fun q => absurd rfl q) (fun _ q => q) (ex9_i g' _ _ _ so dob n1 n2 nS (an11_i rfl KT B2 D2 (frB ((Str.ofString "node", .int e0.key t0) :: fcLoc S stA itA seA dA) F5 ⟨rfl, rfl, rfl, rfl, rfl, rfl, rfl, trivial⟩) N5 ha4 hse hns hdd hI)))) ?_
        · clear F5 N5 hse hdd hI hns ha4 hkk B2 D2 X2 T2 KT hs0 hit
          intro I2z R2z Q2z hI2z hR2z hQ2z n s' hzz
          refine ex5_e hzz ?_
          clear hzz
          intro rs done seen node tn hzz
          refine an7_e hzz ?_
          clear hzz
          rintro rfl ⟨en, henG, rfl⟩ hch hr0 hr1 hdm hzz
          refine ex9_e hzz ?_
          clear hzz
          intro g' h tk u so dob n1 n2 nS hzz
          refine an11_e hzz ?_
          clear hzz
          rintro rfl KT B2 D2 F2 N2 ha2 hse hns hdd hI
          have X2 := XB.keeps B2.stays
          have T2 := TB.keeps B2.stays
          refine fcApart_e ha2 ?_
          intro c1 c2 c3 c4 c5 c6 c7 c8 c9 c10 c11 c12 c13 c14 c15 c16 c17 c18 c19 c20
          dsimp only at c1 c2 c3 c4 c5 c6 c7 c8 c9 c10 c11 c12 c13 c14 c15 c16 c17 c18 c19 c20
          have hmd : (S.d, o) ∈ kLed rs ++ S.led w rd np nf o (gLed G ++ rest) := List.mem_append_right _ (.tail _ (.tail _ (.head _)))
          have hmi : (en.ia, infoObj en.da en.sa en.np en.nt en.key en.kt) ∈ kLed rs ++ S.led w rd np nf o (gLed G ++ rest) := ia_mem henG
          have hmda : (en.da, dictOf [] 0) ∈ kLed rs ++ S.led w rd np nf o (gLed G ++ rest) := da_mem henG
          have k9 : @Ne Nat en.da stA := c5 _ hmda
          have k10 : @Ne Nat en.da itA := c10 _ hmda
          have k11 : @Ne Nat en.da seA := c15 _ hmda
          have k12 : @Ne Nat en.da dA := c20 _ hmda
          have hms : (en.sa, lstObj (valsOf en.sc) en.se) ∈ kLed rs ++ S.led w rd np nf o (gLed G ++ rest) := sa_mem henG
          dsimp only [fcLed] at N2 ha2
          have k1 : @Ne Nat en.ia stA := c5 _ hmi
          have k2 : @Ne Nat en.ia itA := c10 _ hmi
          have k3 : @Ne Nat en.ia seA := c15 _ hmi
          have k4 : @Ne Nat en.ia dA := c20 _ hmi
          have k5 : @Ne Nat en.sa stA := c5 _ hms
          have k6 : @Ne Nat en.sa itA := c10 _ hms
          have k7 : @Ne Nat en.sa seA := c15 _ hms
          have k8 : @Ne Nat en.sa dA := c20 _ hms
          have N2 := newsDup N2 hmi hms hmda
          generalize hrr : kLed rs ++ S.led w rd np nf o (gLed G ++ rest) = rr at N2 ha2 c5 c10 c15 c20 hmd hmi hms hmda
          have hrl := lt_of_len (rs_len hI) hGl
          have hsz : (stV rs).length < 50 := by rw [stV_len]; exact hrl
          have hszi : (itV rs).length < 50 := by rw [itV_len]; exact hrl
          (repeat' ((fail_if_success (with_reducible (first | show gz2 | show gz3 | show gz4 | show gz5 | show gz6 | show gz7 | show gz8 | show gz9 | show gz10 | show gz11 | show gz12 | show gz13 | show gz14 | show gz15 | show gz53))); (first | ((with_reducible show wpAny _ _ (execs _ _) _ _ _); k_gentoks) | with_reducible (first | refine execs_one ?_ | (refine execs_cut ?_; intro _ _) | (refine if_cut ?_; intro _ _)) | ((fail_if_success (with_reducible show gz1)); (first | (refine Kh.go ‹_› _ _ ?_; try dsimp only [KnP]) | ((with_reducible show TurnEnd _ _ _ _ _ _); dsimp only [TurnEnd]))) | (k_unfold; (try dsimp only)) | (k_end; wrow_close) | walk1 | (dsimp only; walk1) | (leave1; try dsimp only))))
          refine cut (fun f s' => match f with
            | .next => ∃ (rs' : List Ent) (done : List Int) (seen' : Int → Bool), Chain done rs' none ∧ unseen G seen' * 101 + remn rs' ≤ unseen G seen * 101 + remn rs ∧ seen' e0.key = true ∧ (∀ k ∈ done0, k ∈ done) ∧
                FcI prog w S rd np nf o rest G (arn hn dp un gd env outer) env outer base g L1 stA itA seA dA dit s [] rs' done seen' oit1 s'
            | .ret v => ∃ (ring : List (Int × Tok)) (g' h : Heap) (tk : Nat) (u : Str → Option Value) (r : Addr) (nr : Nat), IsRing (view G) (ring.map (·.1)) ∧ v = .ref r ∧ s' = { s with heap := h, toks := tk } ∧ KtsTurn (frs (env :: outer)) g g' ∧ Fr g' L1 h u ∧
                News g' L1 h ((r, lstObj (valsOf ring) nr) :: S.led w rd np nf o (gLed G ++ rest)) ∧ Apart ((r, lstObj (valsOf ring) nr) :: S.led w rd np nf o (gLed G ++ rest))
            | _ => False) ?_ ?_
          · intro C1z hC1z
            (repeat' ((fail_if_success (with_reducible (first | show gz2 | show gz3 | show gz4 | show gz5 | show gz6 | show gz7 | show gz8 | show gz9 | show gz10 | show gz11 | show gz12 | show gz13 | show gz14 | show gz15))); (first | ((with_reducible show wpAny _ _ (execs _ _) _ _ _); k_gentoks) | with_reducible (first | refine execs_one ?_ | (refine execs_cut ?_; intro _ _) | (refine if_cut ?_; intro _ _)) | ((fail_if_success (with_reducible show gz1)); (first | (refine Kh.go ‹_› _ _ ?_; try dsimp only [KnP]) | ((with_reducible show TurnEnd _ _ _ _ _ _); dsimp only [TurnEnd]))) | (k_unfold; (try dsimp only)) | (k_end; wrow_close) | walk1 | (dsimp only; walk1) | (leave1; try dsimp only))))
            · rename Fr _ _ _ _ => F3
              rename News _ _ _ _ => N3
              by_cases hin : en.key ∈ ekeys rs
              · refine ex4_e (nsK_val hI.nd hin) ?_
                intro j tj pre post hzz
                refine an3_e hzz ?_
                clear hzz
                rintro hj1 hj2 hj3
                refine kda_in (knd := intKind _ _) (k := en.key) N3 (by k_mem) hdd hsysd (intKind_is _ _ _ _) true (by rw [hj1]; rfl) ?_
                (repeat' ((fail_if_success (with_reducible (first | show gz2 | show gz3 | show gz4 | show gz5 | show gz6 | show gz7 | show gz8 | show gz9 | show gz10 | show gz11 | show gz12 | show gz13 | show gz14 | show gz15))); (first | ((with_reducible show wpAny _ _ (execs _ _) _ _ _); k_gentoks) | with_reducible (first | refine execs_one ?_ | (refine execs_cut ?_; intro _ _) | (refine if_cut ?_; intro _ _)) | ((fail_if_success (with_reducible show gz1)); (first | (refine Kh.go ‹_› _ _ ?_; try dsimp only [KnP]) | ((with_reducible show TurnEnd _ _ _ _ _ _); dsimp only [TurnEnd]))) | (k_unfold; (try dsimp only)) | (k_end; wrow_close) | walk1 | (dsimp only; walk1) | (leave1; try dsimp only))))
                refine kda_item (knd := intKind _ _) (k := en.key) N3 (by k_mem) hdd (intKind_is _ _ _ _) hj1 ?_
                (repeat' ((fail_if_success (with_reducible (first | show gz2 | show gz3 | show gz4 | show gz5 | show gz6 | show gz7 | show gz8 | show gz9 | show gz10 | show gz11 | show gz12 | show gz13 | show gz14 | show gz15))); (first | ((with_reducible show wpAny _ _ (execs _ _) _ _ _); k_gentoks) | with_reducible (first | refine execs_one ?_ | (refine execs_cut ?_; intro _ _) | (refine if_cut ?_; intro _ _)) | ((fail_if_success (with_reducible show gz1)); (first | (refine Kh.go ‹_› _ _ ?_; try dsimp only [KnP]) | ((with_reducible show TurnEnd _ _ _ _ _ _); dsimp only [TurnEnd]))) | (k_unfold; (try dsimp only)) | (k_end; wrow_close) | walk1 | (dsimp only; walk1) | (leave1; try dsimp only))))
                rename Fr _ _ _ _ => F4
                rename News _ _ _ _ => N4
                rename _ ∧ _ ∧ _ ∧ _ ∧ _ ∧ _ ∧ _ ∧ _ ∧ _ ∧ AllLt _ _ => l4
                have hjl : j ≤ rs.length := by have := congrArg List.length hj2; simp at this; (first | lia | omega)
                have hsl := slice_from rs j hjl
                refine kmk_add_lit (its := (valsOf ((rs.reverse.map fun e => (e.nd.key, e.tk)).drop j)).toArray) (its2 := #[.int en.key tn]) (zs := valsOf ((rs.reverse.map fun e => (e.nd.key, e.tk)).drop j ++ [(en.key, tn)])) F4 N4 ⟨_, (N4 _ (.tail _ (.head _))).1, rfl, 0, by rw [← hsl]⟩ ⟨_, (N4 _ (.head _)).1, rfl, 0, rfl⟩ (by simp) ?_ (by rw [sizeLine_eq]; simp; (first | lia | omega))
                intro D5 h5 F5 N5 l5
                have hring := ring_at (tn := tn) hG hI hch hj2 hj3
                have hsub : ∀ q ∈ S.led w rd np nf o (gLed G ++ rest), q ∈ rr := fun q hq => by rw [← hrr]; exact List.mem_append_right _ hq
                exact StopP (hC1z _ _) (ex7_i _ g' _ _ _ D5 0 (an7_i hring rfl rfl KT F5 (fun q hq => (List.mem_cons.mp hq).elim (fun e => N5 q (e ▸ .head _)) (fun h => N5 q (.tail _ (.tail _ (.tail _ (.tail _ (.tail _ (.tail _ (.tail _ (.tail _ (.tail _ (.tail _ (.tail _ (hsub q h)))))))))))))) (apart_lt (fun q hq => l5 q (.tail _ (.tail _ (.tail _ (.tail _ (.tail _ (.tail _ (.tail _ (.tail _ (.tail _ (.tail _ (hsub q hq)))))))))))) ha)))
              · rename seen _ = true => hs1
                have hdn1 : en.key ∈ done := ((hI.seen en.key).mp hs1).resolve_right hin
                have hrne : rs ≠ [] := fun q => by have := (hr0 q).1; rw [hs1] at this; cases this
                refine kda_in (knd := intKind _ _) (k := en.key) N3 (by k_mem) hdd hsysd (intKind_is _ _ _ _) false (by rw [nsK_none hin]; rfl) ?_
                (repeat' ((fail_if_success (with_reducible (first | show gz2 | show gz3 | show gz4 | show gz5 | show gz6 | show gz7 | show gz8 | show gz9 | show gz10 | show gz11 | show gz12 | show gz13 | show gz14 | show gz15))); (first | ((with_reducible show wpAny _ _ (execs _ _) _ _ _); k_gentoks) | with_reducible (first | refine execs_one ?_ | (refine execs_cut ?_; intro _ _) | (refine if_cut ?_; intro _ _)) | ((fail_if_success (with_reducible show gz1)); (first | (refine Kh.go ‹_› _ _ ?_; try dsimp only [KnP]) | ((with_reducible show TurnEnd _ _ _ _ _ _); dsimp only [TurnEnd]))) | (k_unfold; (try dsimp only)) | (k_end; wrow_close) | walk1 | (dsimp only; walk1) | (leave1; try dsimp only))))
                rename Fr _ _ _ _ => F4
                rename News _ _ _ _ => N4
                rename Obj.SetObjOf _ _ _ _ => hse4
                refine StopP (hC1z _ _) (ex3_i rs done seen (an5_i (chain_seen hch hdn1) (Nat.le_refl _) (hr1 hrne) hdm (ex9_i g' _ _ _ so dob n1 n2 nS (an11_i rfl KT B2 D2 (frB (fcLoc S stA itA seA dA) F4 ⟨rfl, rfl, rfl, rfl, rfl, rfl, trivial⟩) (fcNews0 hrr N4) (by dsimp only [fcLed]; rw [hrr]; exact ha2) hse4 hns hdd hI))))
            · rename Fr _ _ _ _ => F3
              rename News _ _ _ _ => N3
              rename seen _ = false => hs0
              refine kda_item (knd := intKind _ _) (k := en.key) (v := .ref en.ia) N3 (by simp [hmd]) hdict (intKind_is _ _ _ _) (gKvs_some hG henG) ?_
              (repeat' ((fail_if_success (with_reducible (first | show gz2 | show gz3 | show gz4 | show gz5 | show gz6 | show gz7 | show gz8 | show gz9 | show gz10 | show gz11 | show gz12 | show gz13 | show gz14 | show gz15))); (first | ((with_reducible show wpAny _ _ (execs _ _) _ _ _); k_gentoks) | with_reducible (first | refine execs_one ?_ | (refine execs_cut ?_; intro _ _) | (refine if_cut ?_; intro _ _)) | ((fail_if_success (with_reducible show gz1)); (first | (refine Kh.go ‹_› _ _ ?_; try dsimp only [KnP]) | ((with_reducible show TurnEnd _ _ _ _ _ _); dsimp only [TurnEnd]))) | (k_unfold; (try dsimp only)) | (k_end; wrow_close) | walk1 | (dsimp only; walk1) | (leave1; try dsimp only))))
              rename Fr _ _ _ _ => F4
              rename News _ _ _ _ => N4
              refine call_iter_list (vs := valsOf en.sc) (n := en.se) F4 N4 (by k_mem) ?_
              intro it h5 F5 N5 l5
              refine next_attr_N (l := en.sa) F5 N5 (by k_mem) ?_
              intro q h6 F6 N6 l6
              have l6a := l6 _ (.head _)
              have m1 := l5 (stA, lstObj (stV rs) n1) (by k_mem)
              have m2 := l5 (itA, lstObj (itV rs) n2) (by k_mem)
              have m3 := l5 (dA, dob) (by k_mem)
              dsimp only at l6a m1 m2 m3
              (repeat' ((fail_if_success (with_reducible (first | show gz2 | show gz3 | show gz4 | show gz5 | show gz6 | show gz7 | show gz8 | show gz9 | show gz10 | show gz11 | show gz12 | show gz13 | show gz14 | show gz15))); (first | ((with_reducible show wpAny _ _ (execs _ _) _ _ _); k_gentoks) | with_reducible (first | refine execs_one ?_ | (refine execs_cut ?_; intro _ _) | (refine if_cut ?_; intro _ _)) | ((fail_if_success (with_reducible show gz1)); (first | (refine Kh.go ‹_› _ _ ?_; try dsimp only [KnP]) | ((with_reducible show TurnEnd _ _ _ _ _ _); dsimp only [TurnEnd]))) | (k_unfold; (try dsimp only)) | (k_end; wrow_close) | walk1 | (dsimp only; walk1) | (leave1; try dsimp only))))
              rename Fr _ _ _ _ => F7
              rename News _ _ _ _ => N7
              refine kst_len (us := stV rs) (k := rs.length) (c := n1) N7 (by k_mem) (stV_len rs) (by (first | lia | omega)) ?_
              (repeat' ((fail_if_success (with_reducible (first | show gz2 | show gz3 | show gz4 | show gz5 | show gz6 | show gz7 | show gz8 | show gz9 | show gz10 | show gz11 | show gz12 | show gz13 | show gz14 | show gz15))); (first | ((with_reducible show wpAny _ _ (execs _ _) _ _ _); k_gentoks) | with_reducible (first | refine execs_one ?_ | (refine execs_cut ?_; intro _ _) | (refine if_cut ?_; intro _ _)) | ((fail_if_success (with_reducible show gz1)); (first | (refine Kh.go ‹_› _ _ ?_; try dsimp only [KnP]) | ((with_reducible show TurnEnd _ _ _ _ _ _); dsimp only [TurnEnd]))) | (k_unfold; (try dsimp only)) | (k_end; wrow_close) | walk1 | (dsimp only; walk1) | (leave1; try dsimp only))))
              have hnin : en.key ∉ ekeys rs := dinv_new hI hs0
              k_dflt (refine' kda_set (knd := intKind _ _) ?F ?N ?U hdd (intKind_is _ _ _ _) ?z ?_; (case F => k_asm); (case N => k_asm); (case U => k_updF); (case z => rw [sizeLine_eq, nsK_len]; (first | lia | omega)))
              intro h8 dob8 F8 N8 hd8
              rw [nsK_push hnin] at hd8
              dsimp only at N8 hd8
              (repeat' ((fail_if_success (with_reducible (first | show gz2 | show gz3 | show gz4 | show gz5 | show gz6 | show gz7 | show gz8 | show gz9 | show gz10 | show gz11 | show gz12 | show gz13 | show gz14 | show gz15))); (first | ((with_reducible show wpAny _ _ (execs _ _) _ _ _); k_gentoks) | with_reducible (first | refine execs_one ?_ | (refine execs_cut ?_; intro _ _) | (refine if_cut ?_; intro _ _)) | ((fail_if_success (with_reducible show gz1)); (first | (refine Kh.go ‹_› _ _ ?_; try dsimp only [KnP]) | ((with_reducible show TurnEnd _ _ _ _ _ _); dsimp only [TurnEnd]))) | (k_unfold; (try dsimp only)) | (k_end; wrow_close) | walk1 | (dsimp only; walk1) | (leave1; try dsimp only))))
              rename Fr _ _ _ _ => F9
              rename News _ _ _ _ => N9
              rename Obj.SetObjOf _ _ _ _ => hse9
              obtain ⟨tix, hd9⟩ : ∃ tix : Tok, dob8.IsDictOf (intKind prog w) (nsK (⟨en, tn, q, it, litObj en.sa, 0, tix⟩ :: rs)) := ⟨_, hd8⟩
              have eSt : W.listOf ((stV rs).toArray.push (Value.int en.key tn)) (n1 + 1) = lstObj (stV (⟨en, tn, q, it, litObj en.sa, 0, tix⟩ :: rs)) (n1 + 1) := by rw [stV_cons, List.push_toArray]
              have eIt : W.listOf ((itV rs).toArray.push (Value.ref q)) (n2 + 1) = lstObj (itV (⟨en, tn, q, it, litObj en.sa, 0, tix⟩ :: rs)) (n2 + 1) := by rw [itV_cons, List.push_toArray]
              rw [eSt, eIt] at N9
              rw [if_neg (by rw [hs0]; exact Bool.false_ne_true)] at hse9
              have hum := unseen_mark hG henG hs0
              refine StopP (hC1z _ _) (ex3_i (⟨en, tn, q, it, litObj en.sa, 0, tix⟩ :: rs) done (fun k' => seen k' || decide (k' = en.key)) (an5_i ⟨fun c hc => (nomatch hc), fun c hc => (nomatch hc), hch⟩ (push_le hG hB henG hs0) ?_ hdm (ex9_i g' _ _ _ _ dob8 (n1 + 1) (n2 + 1) (nS + 1) (an11_i rfl KT B2 D2 (frB (fcLoc S stA itA seA dA) F9 ⟨rfl, rfl, rfl, rfl, rfl, rfl, trivial⟩) (fcNews hrr N9) (fcPush hrr ha2 l5 l6a) hse9 (nS_push hns hum) hd9 (dinv_push hI henG ⟨rfl, rfl⟩ hs0 hnin)))))
              · cases rs with
                | nil => rw [(hr0 rfl).2]; exact (Bool.or_eq_true ..).mpr (.inr (decide_eq_true rfl))
                | cons a b => exact (Bool.or_eq_true ..).mpr (.inl (hr1 (fun h => nomatch h)))
          · intro f s' hR
            cases f with
            | brk => cases hR
            | cont => cases hR
            | ret v =>
              refine ex7_e (hR) ?_
              clear hR
              intro ring g2 h2 tk2 u2 r nr hzz
              refine an7_e hzz ?_
              clear hzz
              rintro hring rfl rfl KT2 F2' N2' ha'
              (repeat (refine Kh.go ‹_› _ _ ?_; try dsimp only [KnP]))
              (try dsimp only [TurnEnd])
              refine hQ2z _ _ ?_
              (repeat (refine Kh.go ‹_› _ _ ?_; try dsimp only [KnP]))
              (try dsimp only [TurnEnd])
              refine hQ1z _ _ ?_
              (repeat (refine Kh.go ‹_› _ _ ?_; try dsimp only [KnP]))
              (try dsimp only)
              k_unfold
              (try dsimp only)
              exact ⟨g2, _, _, _, KT2, F2', N2', fun h₀' KT' F' N' B' D' => ret2 ring hring h₀' _ _ r nr KT' ⟨B', XB, TB, D'⟩ F' N' ha'⟩
            | next =>
              refine ex3_e (hR) ?_
              clear hR
              intro rs1 done1 seen1 hzz
              refine an5_e hzz ?_
              clear hzz
              rintro hch1 hme1 hse1 hdm1 hFc1
              clear F2 N2 ha2 hse hns hdd hI B2 D2 X2 T2 KT hch hr0 hr1 hdm hmd hmi hms hmda k1 k2 k3 k4 k5 k6 k7 k8 k9 k10 k11 k12 c1 c2 c3 c4 c5 c6 c7 c8 c9 c10 c11 c12 c13 c14 c15 c16 c17 c18 c19 c20 hrl hsz hszi
              (try dsimp only)
              (repeat' ((fail_if_success (with_reducible (first | show gz2 | show gz3 | show gz4 | show gz5 | show gz6 | show gz7 | show gz8 | show gz9 | show gz10 | show gz11 | show gz12 | show gz13 | show gz14 | show gz15))); (first | ((with_reducible show wpAny _ _ (execs _ _) _ _ _); k_gentoks) | with_reducible (first | refine execs_one ?_ | (refine execs_cut ?_; intro _ _) | (refine if_cut ?_; intro _ _)) | ((fail_if_success (with_reducible show gz1)); (first | (refine Kh.go ‹_› _ _ ?_; try dsimp only [KnP]) | ((with_reducible show TurnEnd _ _ _ _ _ _); dsimp only [TurnEnd]))) | (k_unfold; (try dsimp only)) | (k_end; wrow_close) | walk1 | (dsimp only; walk1) | (leave1; try dsimp only))))
              refine my_whileE (fun k s' => ∃ (rs2 : List Ent) (done : List Int) (seen2 : Int → Bool), k = rs2.length ∧ Chain done rs2 none ∧ unseen G seen2 * 101 + remn rs2 ≤ unseen G seen * 101 + remn rs ∧ seen2 e0.key = true ∧ (∀ k ∈ done0, k ∈ done) ∧
                  FcI prog w S rd np nf o rest G (arn hn dp un gd env outer) env outer base g L1 stA itA seA dA dit s [] rs2 done seen2 oit1 s')
                (fun s' => ∃ (rs2 : List Ent) (done : List Int) (seen2 : Int → Bool) (node : Int) (tn : Tok), unseen G seen2 * 101 + remn rs2 < unseen G seen * 101 + remn rs ∧ (∃ e ∈ G, e.key = node) ∧ Chain done rs2 (some node) ∧ rs2 ≠ [] ∧ seen2 e0.key = true ∧ (∀ k ∈ done0, k ∈ done) ∧
                  FcI prog w S rd np nf o rest G (arn hn dp un gd env outer) env outer base g L1 stA itA seA dA dit s [(Str.ofString "node", .int node tn)] rs2 done seen2 oit1 s')
                ?_ _ (ex3_i rs1 done1 seen1 (an6_i rfl hch1 hme1 hse1 hdm1 hFc1)) ?_
              · clear hFc1 hme1 hse1 hdm1 hch1
                intro I3z R3z Q3z hI3z hR3z hQ3z k s' hzz
                refine ex3_e hzz ?_
                clear hzz
                intro rs2 done seen2 hzz
                refine an6_e hzz ?_
                clear hzz
                rintro rfl hch2 hme2 hse2 hdm2 hzz
                refine ex9_e hzz ?_
                clear hzz
                intro g' h tk u so dob n1 n2 nS hzz
                refine an11_e hzz ?_
                clear hzz
                rintro rfl KT B2 D2 F2 N2 ha2 hse hns hdd hI
                have X2 := XB.keeps B2.stays
                have T2 := TB.keeps B2.stays
                have hrl := lt_of_len (rs_len hI) hGl
                have hsz : (stV rs2).length < 50 := by rw [stV_len]; exact hrl
                cases rs2 with
                | nil =>
                  (repeat' ((fail_if_success (with_reducible (first | show gz2 | show gz3 | show gz4 | show gz5 | show gz6 | show gz7 | show gz8 | show gz9 | show gz10 | show gz11 | show gz12 | show gz13 | show gz14 | show gz15))); (first | ((with_reducible show wpAny _ _ (execs _ _) _ _ _); k_gentoks) | with_reducible (first | refine execs_one ?_ | (refine execs_cut ?_; intro _ _) | (refine if_cut ?_; intro _ _)) | ((fail_if_success (with_reducible show gz1)); (first | (refine Kh.go ‹_› _ _ ?_; try dsimp only [KnP]) | ((with_reducible show TurnEnd _ _ _ _ _ _); dsimp only [TurnEnd]))) | (k_unfold; (try dsimp only)) | (k_end; wrow_close) | walk1 | (dsimp only; walk1) | (leave1; try dsimp only))))
                  exact StopP (hR2z _) (ex2_i done seen2 (an3_i (by have := (hI.seen e0.key).mp hse2; simpa using this) hdm2 (ex9_i g' _ _ _ so dob n1 n2 nS (an11_i rfl KT B2 D2 F2 N2 ha2 hse hns hdd hI))))
                | cons e r =>
                  rw [stV_cons] at hsz
                  dsimp only [fcLed] at N2 ha2
                  have ha2o := ha2
                  rw [stV_cons, itV_cons] at N2 ha2
                  dsimp only [kLed, List.cons_append] at N2 ha2
                  have hrm : ∀ q ∈ rest, q ∈ kLed r ++ S.led w rd np nf o (gLed G ++ rest) := fun q hq => List.mem_append_right _ (.tail _ (.tail _ (.tail _ (List.mem_append_right _ hq))))
                  obtain ⟨heG, heL⟩ := hI.ok e (.head _)
                  have hms : (e.nd.sa, lstObj (valsOf e.nd.sc) e.nd.se) ∈ kLed r ++ S.led w rd np nf o (gLed G ++ rest) := sa_mem heG
                  (repeat' ((fail_if_success (with_reducible (first | show gz2 | show gz3 | show gz4 | show gz5 | show gz6 | show gz7 | show gz8 | show gz9 | show gz10 | show gz11 | show gz12 | show gz13 | show gz14 | show gz15))); (first | ((with_reducible show wpAny _ _ (execs _ _) _ _ _); k_gentoks) | with_reducible (first | refine execs_one ?_ | (refine execs_cut ?_; intro _ _) | (refine if_cut ?_; intro _ _)) | ((fail_if_success (with_reducible show gz1)); (first | (refine Kh.go ‹_› _ _ ?_; try dsimp only [KnP]) | ((with_reducible show TurnEnd _ _ _ _ _ _); dsimp only [TurnEnd]))) | (k_unfold; (try dsimp only)) | (k_end; wrow_close) | walk1 | (dsimp only; walk1) | (leave1; try dsimp only))))
                  · rename List.isEmpty _ = true => hem
                    simp at hem
                  rename Fr _ _ _ _ => F3
                  rename News _ _ _ _ => N3
                  refine wpAny_Try_except ?_
                  (repeat' ((fail_if_success (with_reducible (first | show gz2 | show gz3 | show gz4 | show gz5 | show gz6 | show gz7 | show gz8 | show gz9 | show gz10 | show gz11 | show gz12 | show gz13 | show gz14 | show gz15))); (first | ((with_reducible show wpAny _ _ (execs _ _) _ _ _); k_gentoks) | with_reducible (first | refine execs_one ?_ | (refine execs_cut ?_; intro _ _) | (refine if_cut ?_; intro _ _)) | ((fail_if_success (with_reducible show gz1)); (first | (refine Kh.go ‹_› _ _ ?_; try dsimp only [KnP]) | ((with_reducible show TurnEnd _ _ _ _ _ _); dsimp only [TurnEnd]))) | (k_unfold; (try dsimp only)) | (k_end; wrow_close) | walk1 | (dsimp only; walk1) | (leave1; try dsimp only))))
                  refine kde_neg (l := itA) (vs := itV r ++ [.ref e.mw]) (j := (itV r).length) (v := .ref e.mw) (lst_is (n := n2) N3 (.tail _ (.head _))) (by decide) (by decide) (by simp [seqIndex?]; (first | lia | omega)) (by simp) ?_
                  refine callWith_mw (it := e.it) (N3 _ (.tail _ (.tail _ (.tail _ (.tail _ (.tail _ (.head _))))))).1 ?_
                  have N4 := news_perm N3 (List.perm_middle (l₁ := [_, _, _, _, _, _]))
                  have ha4 := apart_perm ha2 (List.perm_middle (l₁ := [_, _, _, _, _, _]))
                  dsimp only [List.cons_append, List.nil_append] at N4 ha4
                  have hch3 := hch2
                  obtain ⟨hcA, hcB, hcC⟩ := hch3
                  by_cases hpos : e.pos < e.nd.sc.length
                  · obtain ⟨c, tc, hc⟩ : ∃ c tc, e.nd.sc[e.pos]? = some (c, tc) := ⟨_, _, List.getElem?_eq_getElem hpos⟩
                    have hcm : c ∈ e.nd.sc.map (·.1) := List.mem_map.mpr ⟨_, List.mem_of_getElem? hc, rfl⟩
                    refine mw_next (q := e.mw) (it := e.it) (l := e.nd.sa) (oi := e.oi) (i := e.pos) (n := e.nd.se) (vs := valsOf e.nd.sc) (v := .int c tc) F3 N4 (.tail _ (.tail _ (.tail _ (.tail _ (.tail _ (.head _)))))) heL (apart_ne ha4) (.tail _ (.tail _ (.tail _ (.tail _ (.tail _ (.tail _ hms)))))) (by rw [List.getElem?_map, hc]; rfl) ?_
                    intro oi' h5 hit5 F5 N5
                    have N6 := news_perm N5 (List.perm_middle (l₁ := [_, _, _, _, _, _])).symm
                    dsimp only [List.cons_append, List.nil_append] at N6
                    clear N5 N4 N3
                    (repeat' ((fail_if_success (with_reducible (first | show gz2 | show gz3 | show gz4 | show gz5 | show gz6 | show gz7 | show gz8 | show gz9 | show gz10 | show gz11 | show gz12 | show gz13 | show gz14 | show gz15))); (first | ((with_reducible show wpAny _ _ (execs _ _) _ _ _); k_gentoks) | with_reducible (first | refine execs_one ?_ | (refine execs_cut ?_; intro _ _) | (refine if_cut ?_; intro _ _)) | ((fail_if_success (with_reducible show gz1)); (first | (refine Kh.go ‹_› _ _ ?_; try dsimp only [KnP]) | ((with_reducible show TurnEnd _ _ _ _ _ _); dsimp only [TurnEnd]))) | (k_unfold; (try dsimp only)) | (k_end; wrow_close) | walk1 | (dsimp only; walk1) | (leave1; try dsimp only))))
                    rename Fr _ _ _ _ => F7
                    rename News _ _ _ _ => N7
                    refine StopP (hR3z _) (ex5_i ({ e with oi := oi', pos := e.pos + 1 } :: r) done seen2 c tc (an7_i (step_lt hme2 hpos) (hcl e.nd heG c hcm) ⟨chain_step hc hcA, fun c' hc' => Option.some.inj hc' ▸ hcm, hcC⟩ (fun h => nomatch h) hse2 hdm2 (ex9_i g' _ _ _ so dob n1 n2 nS (an11_i rfl KT B2 D2 (frB ((Str.ofString "node", .int c tc) :: fcLoc S stA itA seA dA) F7 ⟨rfl, rfl, rfl, rfl, rfl, rfl, rfl, trivial⟩) ?_ ha2o hse hns hdd (dinv_step hI hit5)))))
                    dsimp only [fcLed, kLed, List.cons_append]
                    rw [stV_cons, itV_cons]
                    exact N7
                  · refine mw_stop (q := e.mw) (it := e.it) (l := e.nd.sa) (oi := e.oi) (i := e.pos) (n := e.nd.se) (vs := valsOf e.nd.sc) ?hh ?hc F3 N4 (.tail _ (.tail _ (.tail _ (.tail _ (.tail _ (.head _)))))) heL (apart_ne ha4) (.tail _ (.tail _ (.tail _ (.tail _ (.tail _ (.tail _ hms)))))) (by simp; (first | lia | omega)) ?_
                    case hh =>
                      rcases hhn with q | ⟨_, c, oc, cs, q, hcr, hcd, hc2⟩
                      · exact .inl q
                      · exact .inr ⟨c, oc, cs, q, (N3 (c, oc) (.tail _ (.tail _ (.tail _ (.tail _ (.tail _ (.tail _ (.tail _ (hrm _ hcr))))))))).1, hcd, hc2⟩
                    case hc =>
                      intro c' hc'
                      rcases hhn with q | ⟨_, c, oc, cs, q, hcr, hcd, hc2⟩
                      · exact absurd (q.symm.trans hc') (by simp)
                      · have e1 : c = c' := by have := q.symm.trans hc'; injection this with this; injection this
                        subst e1
                        exact apart_ne ha4 (c, oc) (.tail _ (.tail _ (.tail _ (.tail _ (.tail _ (.tail _ (hrm _ hcr)))))))
                    intro h5 h6 ex oe ws a0 F5 N5 hkeep hen hex hcls hdat hw0 hw1
                    dsimp only
                    refine caught_here (x := Str.ofString "StopIteration") (X := "StopIteration") (T' := "StopIteration") B2 F5 N5 XB TB D2 hkeep hen hex hcls hdat hw0 hw1 (by k_is) PyProof.Rows.Boot.«StopIteration» (by decide) isExc_SI notTuple_SI sub_SI ?_
                    intro h7 g7 KT7 F7 N7 B7 X7 T7 D7
                    clear N5 F5 N4 N3 F3
                    have ha5 := apart_tail ha4
                    have ha6' := apart_tail (apart_perm ha5 (List.perm_middle (l₁ := [_, _, _, _, _])))
                    have ha6 : Apart (fcLed w S rd np nf o rest G stA itA seA dA dit r so dob oit1 (n1 + 1) (n2 + 1)) := ha6'
                    refine fcApart_e ha5 ?_
                    intro c1 c2 c3 c4 c5 c6 c7 c8 c9 c10 c11 c12 c13 c14 c15 c16 c17 c18 c19 c20
                    have k3 : @Ne Nat e.mw dA := c20 _ (.head _)
                    replace c20 := fun q hq => c20 q (.tail _ hq)
                    dsimp only at c1 c2 c3 c4 c6 c7 c8 c9 c16 c17 c18 c19 c20
                    generalize hrr : kLed r ++ S.led w rd np nf o (gLed G ++ rest) = rr at N7 c20 ha5
                    (repeat' ((fail_if_success (with_reducible (first | show gz2 | show gz3 | show gz4 | show gz5 | show gz6 | show gz7 | show gz8 | show gz9 | show gz10 | show gz11 | show gz12 | show gz13 | show gz14 | show gz15))); (first | ((with_reducible show wpAny _ _ (execs _ _) _ _ _); k_gentoks) | with_reducible (first | refine execs_one ?_ | (refine execs_cut ?_; intro _ _) | (refine if_cut ?_; intro _ _)) | ((fail_if_success (with_reducible show gz1)); (first | (refine Kh.go ‹_› _ _ ?_; try dsimp only [KnP]) | ((with_reducible show TurnEnd _ _ _ _ _ _); dsimp only [TurnEnd]))) | (k_unfold; (try dsimp only)) | (k_end; wrow_close) | walk1 | (dsimp only; walk1) | (leave1; try dsimp only))))
                    rename Fr _ _ _ _ => F8
                    rename News _ _ _ _ => N8
                    refine lst_pop (p := stV r) (y := .int e.nd.key e.tk) F8 N8 (Upd.head (apart_ne ha5)) (by rw [stV_len]; simp at hrl; (first | lia | omega)) ?_
                    intro h9 F9 N9
                    (try dsimp only at N9)
                    clear N8 F8
                    (repeat' ((fail_if_success (with_reducible (first | show gz2 | show gz3 | show gz4 | show gz5 | show gz6 | show gz7 | show gz8 | show gz9 | show gz10 | show gz11 | show gz12 | show gz13 | show gz14 | show gz15))); (first | ((with_reducible show wpAny _ _ (execs _ _) _ _ _); k_gentoks) | with_reducible (first | refine execs_one ?_ | (refine execs_cut ?_; intro _ _) | (refine if_cut ?_; intro _ _)) | ((fail_if_success (with_reducible show gz1)); (first | (refine Kh.go ‹_› _ _ ?_; try dsimp only [KnP]) | ((with_reducible show TurnEnd _ _ _ _ _ _); dsimp only [TurnEnd]))) | (k_unfold; (try dsimp only)) | (k_end; wrow_close) | walk1 | (dsimp only; walk1) | (leave1; try dsimp only))))
                    obtain ⟨jv, tjv, _, _, hjv, _, _⟩ := nsK_val hI.nd (k := e.nd.key) (.head _)
                    rename Fr _ _ _ _ => F9
                    rename News _ _ _ _ => N9
                    refine kob_del (knd := intKind _ _) (d := dA) (o := dob) (k := e.nd.key) F9 N9 (updF_at (l₁ := [_, _, _]) (show Apart ((stA, lstObj (stV r) (n1 + 1)) :: (itA, lstObj (itV r ++ [.ref e.mw]) n2) :: (seA, so) :: (dA, dob) :: (dit, oit1) :: (e.mw, mwObj e.it) :: rr) from ha5)) hdd (intKind_is _ _ _ _) (by rw [hjv]; rfl) (by rw [sizeLine_eq, nsK_len]; (first | lia | omega)) ?_
                    intro h10 dob10 F10 N10 hd10
                    rw [nsK_pop (List.nodup_cons.mp (show (e.nd.key :: ekeys r).Nodup from hI.nd)).1] at hd10
                    dsimp only [List.cons_append, List.nil_append] at N10
                    clear N9 F9
                    (repeat' ((fail_if_success (with_reducible (first | show gz2 | show gz3 | show gz4 | show gz5 | show gz6 | show gz7 | show gz8 | show gz9 | show gz10 | show gz11 | show gz12 | show gz13 | show gz14 | show gz15))); (first | ((with_reducible show wpAny _ _ (execs _ _) _ _ _); k_gentoks) | with_reducible (first | refine execs_one ?_ | (refine execs_cut ?_; intro _ _) | (refine if_cut ?_; intro _ _)) | ((fail_if_success (with_reducible show gz1)); (first | (refine Kh.go ‹_› _ _ ?_; try dsimp only [KnP]) | ((with_reducible show TurnEnd _ _ _ _ _ _); dsimp only [TurnEnd]))) | (k_unfold; (try dsimp only)) | (k_end; wrow_close) | walk1 | (dsimp only; walk1) | (leave1; try dsimp only))))
                    rename Fr _ _ _ _ => F11
                    rename News _ _ _ _ => N11
                    refine lst_pop (p := itV r) (y := .ref e.mw) F11 (news_swap N11) (Upd.head ?_) (by rw [itV_len]; simp at hrl; (first | lia | omega)) ?_
                    · exact apart_ne (apart_perm (show Apart ((stA, lstObj (stV r) (n1 + 1)) :: (itA, lstObj (itV r ++ [.ref e.mw]) n2) :: (seA, so) :: (dA, dob10) :: (dit, oit1) :: (e.mw, mwObj e.it) :: rr) from ha5) (.swap ..))
                    intro h12 F12 N12
                    have N13 := news_swap N12
                    clear N12 N11 F11
                    (repeat' ((fail_if_success (with_reducible (first | show gz2 | show gz3 | show gz4 | show gz5 | show gz6 | show gz7 | show gz8 | show gz9 | show gz10 | show gz11 | show gz12 | show gz13 | show gz14 | show gz15))); (first | ((with_reducible show wpAny _ _ (execs _ _) _ _ _); k_gentoks) | with_reducible (first | refine execs_one ?_ | (refine execs_cut ?_; intro _ _) | (refine if_cut ?_; intro _ _)) | ((fail_if_success (with_reducible show gz1)); (first | (refine Kh.go ‹_› _ _ ?_; try dsimp only [KnP]) | ((with_reducible show TurnEnd _ _ _ _ _ _); dsimp only [TurnEnd]))) | (k_unfold; (try dsimp only)) | (k_end; wrow_close) | walk1 | (dsimp only; walk1) | (leave1; try dsimp only))))
                    rename Fr _ _ _ _ => F13
                    have hnk := (List.nodup_cons.mp (show (e.nd.key :: ekeys r).Nodup from hI.nd))
                    refine StopN hI3z r.length (Nat.lt_succ_self _) (ex3_i r (e.nd.key :: done) seen2 (an6_i rfl (chain_seen (chain_mono (fun c hc => .tail _ hc) hcC) (.head _)) (Nat.le_trans (Nat.add_le_add_left (remn_tail e r) _) hme2) hse2 (fun k hk => .tail _ (hdm2 k hk)) (ex9_i g7 _ _ _ so dob10 (n1 + 1) (n2 + 1) nS (an11_i rfl (KT.trans KT7) B7 D7 (frB (fcLoc S stA itA seA dA) F13 ⟨rfl, rfl, rfl, rfl, rfl, rfl, trivial⟩) ?_ ha6 hse hns hd10 (dinv_pop hI (fin_of hG heG hpos hcA))))))
                    subst hrr
                    exact newsSub N13 (sub5 _ _ _ _ _ (fun _ h => .tail _ h))
              · intro s' hzz
                refine ex5_e hzz ?_
                clear hzz
                intro rs2 done seen2 node tn2 hzz
                refine an7_e hzz ?_
                clear hzz
                rintro hlt hne hch2 hrn hs2 hdm2 hFc2
                (repeat' ((fail_if_success (with_reducible (first | show gz2 | show gz3 | show gz4 | show gz5 | show gz6 | show gz7 | show gz8 | show gz9 | show gz10 | show gz11 | show gz12 | show gz13 | show gz14 | show gz15))); (first | ((with_reducible show wpAny _ _ (execs _ _) _ _ _); k_gentoks) | with_reducible (first | refine execs_one ?_ | (refine execs_cut ?_; intro _ _) | (refine if_cut ?_; intro _ _)) | ((fail_if_success (with_reducible show gz1)); (first | (refine Kh.go ‹_› _ _ ?_; try dsimp only [KnP]) | ((with_reducible show TurnEnd _ _ _ _ _ _); dsimp only [TurnEnd]))) | (k_unfold; (try dsimp only)) | (k_end; wrow_close) | walk1 | (dsimp only; walk1) | (leave1; try dsimp only))))
                exact StopN hI2z _ hlt (ex5_i rs2 done seen2 node tn2 (an7_i rfl hne hch2 (fun q => absurd q hrn) (fun _ => hs2) hdm2 hFc2))
        · intro s' hzz
          refine ex2_e hzz ?_
          clear hzz
          intro done seen hzz
          refine an3_e hzz ?_
          clear hzz
          rintro hk0 hdm hzz
          refine ex9_e hzz ?_
          clear hzz
          intro g' h tk u so dob n1 n2 nS hzz
          refine an11_e hzz ?_
          clear hzz
          rintro rfl KT B2 D2 F2 N2 ha2 hse hns hdd hI
          have X2 := XB.keeps B2.stays
          have T2 := TB.keeps B2.stays
          (repeat' ((fail_if_success (with_reducible (first | show gz2 | show gz3 | show gz4 | show gz5 | show gz6 | show gz7 | show gz8 | show gz9 | show gz10 | show gz11 | show gz12 | show gz13 | show gz14 | show gz15))); (first | ((with_reducible show wpAny _ _ (execs _ _) _ _ _); k_gentoks) | with_reducible (first | refine execs_one ?_ | (refine execs_cut ?_; intro _ _) | (refine if_cut ?_; intro _ _)) | ((fail_if_success (with_reducible show gz1)); (first | (refine Kh.go ‹_› _ _ ?_; try dsimp only [KnP]) | ((with_reducible show TurnEnd _ _ _ _ _ _); dsimp only [TurnEnd]))) | (k_unfold; (try dsimp only)) | (k_end; wrow_close) | walk1 | (dsimp only; walk1) | (leave1; try dsimp only))))
          refine StopN hI1z (G.length - i) (sb2 (by assumption)) (ex4_i (i + 1) done seen oit1 (an5_i (sb1 _ _) (by assumption) hit1 (fun e he => (htk e he).elim (fun q => hdm _ (hdn e q)) (fun q => q ▸ hk0)) (ex9_i g' _ _ _ so dob n1 n2 nS (an11_i rfl KT B2 D2 F2 N2 ha2 hse hns hdd hI))))
    · have hie : i = G.length := by (first | lia | omega)
      subst hie
      have hall : ∀ e ∈ G, e.key ∈ done0 := fun e he => hdn e (by rw [List.take_length]; exact he)
      rcases hhn with hhn | ⟨hno, _⟩
      · have hN3 := news_perm N2 (frontDit ..)
        have ha3 := apart_perm ha2 (frontDit ..)
        refine kit_end (d := S.d) (o := o) (kvs := gKvs G) (ep := ep) (by rw [hhn]; rfl) F2 hN3 hit (apart_ne ha3) (by k_mem) hep (by rw [List.getElem?_eq_none]; (first | lia | omega)) ?_
        intro h3 F3 N3
        exact StopP (hR1z _) (ex5_i done0 g' _ _ _ (an7_i hI.fin hall rfl KT B2 F3 (fun q hq => N3 q (by simp only [kLed, List.nil_append]; exact .tail _ (.tail _ (.tail _ (.tail _ hq)))))))
      · exact absurd hall (hno done0 hI.fin)
  · intro s' hzz
    refine ex5_e hzz ?_
    clear hzz
    intro done g' h tk u hzz
    refine an7_e hzz ?_
    clear hzz
    rintro hfin hall rfl KT B2 F2 N2
    have X2 := XB.keeps B2.stays
    have T2 := TB.keeps B2.stays
    (repeat' ((fail_if_success (with_reducible (first | show gz2 | show gz3 | show gz4 | show gz5 | show gz6 | show gz7 | show gz8 | show gz9 | show gz10 | show gz11 | show gz12 | show gz13 | show gz14 | show gz15))); (first | ((with_reducible show wpAny _ _ (execs _ _) _ _ _); k_gentoks) | with_reducible (first | refine execs_one ?_ | (refine execs_cut ?_; intro _ _) | (refine if_cut ?_; intro _ _)) | ((fail_if_success (with_reducible show gz1)); (first | (refine Kh.go ‹_› _ _ ?_; try dsimp only [KnP]) | ((with_reducible show TurnEnd _ _ _ _ _ _); dsimp only [TurnEnd]))) | (k_unfold; (try dsimp only)) | (k_end; wrow_close) | walk1 | (dsimp only; walk1) | (leave1; try dsimp only))))
    exact ⟨g', _, _, _, KT, F2, N2, fun h₀' KT' F' N' B' D' => ret1 done hfin hall h₀' _ _ KT' ⟨B', XB, TB, D'⟩ F' N'⟩
end
section
open LCg LCt in
noncomputable def SrcW (prog : Program) (w : World) (A : Around) (h₀ : Heap) (L : Addr) (m : Str → Option Value) (env : Env) (ct elt : Expr) (x : Str) (scope : Scope) (cl : List (Str × Addr)) (Q : Value → Shared → Prop) (it : Value) (s₂ : Shared) : Prop :=
  ∃ (I : Addr) (fp : List Addr) (n : Nat) (P : Nat → Value → Prop) (St : Nat → Heap → Prop) (S : List (Addr × Obj) → Prop) (news : List (Addr × Obj)), it = .ref I ∧ Walks prog w A I fp [I] n P St ∧ n ≤ sizeLine ∧ (∀ i h, St i h → ∃ o, h.get? I = some o) ∧
    (∀ i h h' o nw, St i h → h.get? I = some o → h'.get? I = some o → (∀ b o, h₀.get? b = some o → h'.get? b = some o) → News h₀ L h' nw → S nw → St i h') ∧ St 0 s₂.heap ∧ (∀ b ∈ fp, b < s₂.heap.objs.size) ∧
    Fr h₀ L s₂.heap m ∧ News h₀ L s₂.heap news ∧ L ≠ I ∧ h₀.get? I = none ∧ (∀ p ∈ news, p.1 ≠ I) ∧ S news ∧ CompRestT prog w A h₀ L m env ct elt x scope cl s₂ S P (FinE h₀ L m s₂ Q) n 0 [] news
section
open LCg LCt
variable {prog : Program} {w : World} {A : Around} {E : Value → Shared → Prop} {s : Shared} {h₀ : Heap} {L : Addr} {m : Str → Option Value} {env : Env}
theorem ListComp_W {ct elt iter : Expr} {x : Str} {px : Pos} {scope : Scope} {cl : List (Str × Addr)} {pos : Pos} {Q : Value → Shared → Prop}
    (F₀ : Fr h₀ L s.heap m) (hclos : closureFor scope env = pure cl) (hcell : ∀ y ∈ scope.names, y.2 ≠ .cell) (hkind : scope.kind = .function)
    (hnames : ∀ y ∈ scope.names, y.2 = .local → scope.names.lookup y.1 = some .local) (hx : scope.names.lookup x = some .local)
    (h : wpAny (model prog w) A (eval iter env) (fun xv s₁ => wpAny (model prog w) A (pyIter xv) (fun it s₂ => Stop (SrcW prog w A h₀ L m env ct elt x scope cl Q it s₂)) E s₁) E s)
    (hs : ∀ x, foldedSetIterable iter env x = pure x := by intro _; rfl) :
    wpAny (model prog w) A (eval (.ListComp elt [⟨.Name x px, iter, [ct], 0⟩] scope pos) env) Q E s := by
  rw [eval_ListComp]
  refine wpAny_comprehension_free (use := none) rfl hs hclos hkind hnames (wpAny_mono h (fun xv s₁ h₁ => ?_) fun _ _ e => e)
  refine wpAny_mono h₁ (fun it s₂ h₂ => ?_) fun _ _ e => e
  obtain ⟨I, fp, n, P, St, S, news, rfl, W, hsz, hIo, hSt, hst, hfp, F, N, hIL, hI₀, off, hS, R⟩ := h₂
  refine block_T W hsz hIo hSt hcell hkind hx hst hfp F N hIL hI₀ off hS R ?_
  intro D C h tk m' ys news' F' N' o1 hn hC₀ hD₀ hCL hDL hCD offC fin
  refine ⟨m', hn, fun h'' hs'' => fin D h'' tk (F'.change hs'' hCL hC₀) (fun p hp => ?_) o1⟩
  refine ⟨hs''.extBut _ _ ?_ (N' p hp).1, (N' p hp).2⟩
  rcases List.mem_cons.mp hp with rfl | hp
  · exact Ne.symm hCD
  · exact offC p hp
/-- a turn's end -/
noncomputable def TurnC (h₀ : Heap) (L : Addr) (m : Str → Option Value) (s : Shared) (I : Addr) (oI : Obj) (C : Addr) (oC : Obj) (D : Addr) (oD : Obj) (S : List (Addr × Obj) → Prop) (J : List (Addr × Obj) → Prop) (s₂ : Shared) : Prop :=
  ∃ h' tk news', s₂ = { s with heap := h', toks := tk } ∧ Fr h₀ L h' m ∧ News h₀ L h' ((I, oI) :: (C, oC) :: (D, oD) :: news') ∧ Off3 I C D news' ∧ S news' ∧ J news'
theorem comp_indT {ct elt : Expr} {x : Str} {scope : Scope} {cl : List (Str × Addr)} {S : List (Addr × Obj) → Prop} {P : Nat → Value → Prop} {Fin : List Value → List (Addr × Obj) → Prop} {n : Nat} {news : List (Addr × Obj)} (J : Nat → List Value → List (Addr × Obj) → Prop)
    (start : J 0 [] news) (fin : ∀ ys nw, J n ys nw → Fin ys nw)
    (turn : ∀ i ys nw, i < n → J i ys nw → ∀ (s : Shared) (m : Str → Option Value) v I oI C oC D m₂ h tk (E' : Value → Shared → Prop), P i v → NsObj oC m₂ → m₂ x = some v → Fr h₀ L h m → News h₀ L h ((I, oI) :: (C, oC) :: (D, lst ys) :: nw) → Off3 I C D nw → ((@Ne Nat I C) ∧ (@Ne Nat I D) ∧ (@Ne Nat C D)) →
      ∀ (T₁ : Value → Shared → Prop) (T₂ : Shared → Prop), (∀ y s', TurnC h₀ L m s I oI C oC D (lst ys) S (J (i + 1) (ys ++ [y])) s' → T₁ y s') → (∀ s', TurnC h₀ L m s I oI C oC D (lst ys) S (J (i + 1) ys) s' → T₂ s') →
      wpAny (model prog w) A (isTrue ct (compEnvC scope cl C env) (eval ct (compEnvC scope cl C env))) (fun ok s' => if ok = true then
        wpAny (model prog w) A (eval elt (compEnvC scope cl C env)) (fun y s'' => Stop (T₁ y s'')) E' s'
        else Stop (T₂ s')) E' { s with heap := h, toks := tk }) :
    CompRestT prog w A h₀ L m env ct elt x scope cl s S P Fin n 0 [] news := by
  suffices H : ∀ k i ys nw, i + k = n → J i ys nw → CompRestT prog w A h₀ L m env ct elt x scope cl s S P Fin k i ys nw from H n 0 [] news (by (first | lia | omega)) start
  intro k
  induction k with
  | zero =>
    intro i ys nw e hJ
    have e' : i = n := by (first | lia | omega)
    subst e'
    exact fin ys nw hJ
  | succ k ih =>
    intro i ys nw e hJ v I oI C oC D m₂ h tk E' hP hC hx F N off ne
    refine wpAny_mono (turn i ys nw (by (first | lia | omega)) hJ s m v I oI C oC D m₂ h tk E' hP hC hx F N off ne (fun y s' => TurnC h₀ L m s I oI C oC D (lst ys) S (J (i + 1) (ys ++ [y])) s') (TurnC h₀ L m s I oI C oC D (lst ys) S (J (i + 1) ys)) (fun _ _ z => z) (fun _ z => z)) (fun ok s' h' => ?_) fun _ _ z => z
    cases ok with
    | true =>
      simp only [if_true] at h' ⊢
      refine wpAny_mono h' (fun y s'' h'' => ?_) fun _ _ z => z
      obtain ⟨h₂, tk₂, nw₂, rfl, F₂, N₂, off₂, hS₂, hJ₂⟩ := h''
      exact ⟨h₂, tk₂, nw₂, rfl, F₂, N₂, off₂, hS₂, ih (i + 1) _ nw₂ (by (first | lia | omega)) hJ₂⟩
    | false =>
      simp only [Bool.false_eq_true, if_false] at h' ⊢
      obtain ⟨h₂, tk₂, nw₂, rfl, F₂, N₂, off₂, hS₂, hJ₂⟩ := h'
      exact ⟨h₂, tk₂, nw₂, rfl, F₂, N₂, off₂, hS₂, ih (i + 1) _ nw₂ (by (first | lia | omega)) hJ₂⟩
/-- over a dict's values, the ledger left as it is -/
theorem src_values {ct elt : Expr} {x : Str} {scope : Scope} {cl : List (Str × Addr)} {Q : Value → Shared → Prop} {news : List (Addr × Obj)} {vw d : Addr} {o : Obj} {kvs : List (Int × Value)} (hh : A.handled = none) (F : Fr h₀ L s.heap m) (N : News h₀ L s.heap news)
    (hv : (vw, ({ cls := .type "dict_values", data := .fields #[.ref d] } : Obj)) ∈ news) (hm : (d, o) ∈ news) (hd : o.IsDictOf (intKind prog w) kvs) (hlen : kvs.length < 1000)
    (R : ∀ g, CompRestT prog w A h₀ L m env ct elt x scope cl { s with heap := g } (fun nw => nw = news) (fun i v => ∃ k, kvs[i]? = some (k, v)) (FinE h₀ L m { s with heap := g } Q) kvs.length 0 [] news) :
    wpAny (model prog w) A (pyIter (.ref vw)) (fun it s₂ => Stop (SrcW prog w A h₀ L m env ct elt x scope cl Q it s₂)) E s := by
  obtain ⟨ep, hep⟩ := dict_at (prog := prog) (w := w) N hm hd
  have hdl : d < s.heap.objs.size := Heap.lt_size (N _ hm).1
  refine wpAny_pyIter_values (knd := intKind prog w) (kvs := kvs) (ep := ep) ⟨_, (N _ hv).1, rfl, rfl⟩ (hep _ (N _ hm).1) ?_
  have up : ∀ b ob, s.heap.get? b = some ob → (s.heap.push { cls := .type "dict_valueiterator", data := .fields #[.ref d, .int 0 0, .int kvs.length 0, .int ep 0] }).get? b = some ob := fun b ob e => Heap.get?_push_of_some _ e
  refine Stop.mk ⟨s.heap.objs.size, _, _, _, _, (fun nw => nw = news), news, rfl, Walks.dictValues (knd := intKind prog w) hh _ d (Nat.ne_of_lt hdl) kvs ep, by rw [sizeLine_eq]; (first | lia | omega), fun i h st => by obtain ⟨ob, e, _⟩ := st.1; exact ⟨ob, e⟩, ?_, ⟨⟨_, Heap.get?_push_size _ rfl, rfl, rfl⟩, hep _ (up _ _ (N _ hm).1)⟩, fun b hb => ?_, F.keeps up, N.grown up, Nat.ne_of_lt F.ns.lt, next_is_new F, fun p hp => Nat.ne_of_lt (Heap.lt_size (N p hp).1), rfl, R _⟩
  · rintro i h h' o' nw st e e' hk N' rfl
    refine ⟨?_, hep _ (N' _ hm).1⟩
    obtain ⟨ob, q, r⟩ := st.1
    rw [e] at q; cases q; exact ⟨_, e', r⟩
  · show b < (s.heap.push _).objs.size
    rw [Heap.size_push]
    rcases List.mem_cons.mp hb with rfl | hb
    · exact Nat.lt_succ_self _
    · rw [List.mem_singleton.mp hb]; exact Nat.lt_succ_of_lt hdl
end
end
section
section
variable {prog : Program} {w : World} {A : Around} {E : Value → Shared → Prop} {Q : Flow → Shared → Prop} {s : Shared} {env : Env}
noncomputable def NextIsT (prog : Program) (w : World) (A : Around) (env : Env) (target : Expr) (body : List Stmt) (it : Value) (I : Nat → Shared → Prop) (R : Shared → Prop) (Q : Flow → Shared → Prop) (n : Nat) (r : Option Value) (s₁ : Shared) : Prop := match r with
  | none => Stop (R s₁)
  | some v => wpAny (model prog w) A (letOwnedTupleGo target it v) (fun _ s₁' => wpAny (model prog w) A (assign target env v) (fun _ s₂ => wpAny (model prog w) A (execs body env) (TurnEnd I R Q n) NoE s₂) NoE s₁') NoE s₁
theorem my_forLoopT {target : Expr} {it : Value} {body : List Stmt} (I : Nat → Shared → Prop) (R : Shared → Prop)
    (turn : ∀ (I' : Nat → Shared → Prop) (R' : Shared → Prop) (Q' : Flow → Shared → Prop), (∀ k s, I k s → I' k s) → (∀ s, R s → R' s) → (∀ v s, Q (.ret v) s → Q' (.ret v) s) → ∀ n s, I n s → wpAny (model prog w) A (pyNext it) (NextIsT prog w A env target body it I' R' Q' n) NoE s)
    (n : Nat) (h : I n s) (fin : ∀ s', R s' → Q .next s') : ForAt prog w A env target body Q E it s := by
  refine codeAny_forLoop_any I (fun n s hI => ?_) n h
  refine wpAny_mono (turn I R Q (fun _ _ x => x) (fun _ x => x) (fun _ _ x => x) n s hI) (fun r s₁ h₁ => ?_) fun _ _ x => x.elim
  cases r with
  | none => exact wpAny_execs_nil (fin _ h₁)
  | some v =>
    refine wpAny_mono h₁ (fun _ s₁' h₁' => wpAny_mono h₁' (fun _ s₂ h₂ => wpAny_mono h₂ (fun f s₃ h₃ => ?_) fun _ _ x => x.elim) fun _ _ x => x.elim) fun _ _ x => x.elim
    cases f with
    | brk => exact fin _ h₃
    | ret v => exact h₃
    | next => exact h₃
    | cont => exact h₃
theorem own_list {M : Model} {E' : Value → Shared → Prop} {es : List Expr} {k : Nat} {pos : Pos} {it a l : Addr} {oi : Obj} {i : Nat} {P : Unit → Shared → Prop} (ho : s.heap.get? it = some oi) (hi : IsLIt oi l i) (h : P () s) :
    wpAny M A (letOwnedTupleGo (.Tuple es k pos) (.ref it) (.ref a)) P E' s := by
  obtain ⟨c, d, dt, sl⟩ := oi
  obtain ⟨h1, h2⟩ := hi
  dsimp only at h1 h2
  subst h1 h2
  show wpAny _ _ (load it >>= _) _ _ _
  refine wpAny_bind (wpAny_load ho ?_)
  dsimp only
  rw [if_neg]
  · exact wpAny_pure h
  · rw [show (["enumerate", "zip", "dict_itemiterator", "dict_reverseitemiterator", "odict_iterator", "itertools.zip_longest", "itertools.pairwise"].contains "list_iterator") = false from by decide +kernel]
    simp
end
section
variable {prog : Program} {w : World} {A : Around} {E : Value → Shared → Prop} {s : Shared} {h₀ : Heap} {L : Addr} {m : Str → Option Value} {news : List (Addr × Obj)}
theorem rit_make {r : Addr} {k : Int} {t u v : Tok} {Q : Value → Shared → Prop} (hr : IsRange s.heap r 0 k 1 t u v) (hsm : Builtin.Range.small 0 k 1 = true) (hsz : Builtin.Range.rangeSize 0 k 1 = k) (F : Fr h₀ L s.heap m) (N : News h₀ L s.heap news)
    (h : ∀ it h', Fr h₀ L h' m → News h₀ L h' ((it, rngIt 0 k 1) :: news) → (∀ p ∈ news, @LT.lt Nat _ p.1 it) → Q (.ref it) { s with heap := h' }) : wpAny (model prog w) A (pyIter (.ref r)) Q E s := by
  refine wpAny_pyIter_range hr hsm ?_
  rw [hsz]
  obtain ⟨F', N', l'⟩ := push_news (o := rngIt 0 k 1) F N
  exact h _ _ F' N' l'
end
section
variable {M : Model} {A : Around} {E : Value → Shared → Prop} {s : Shared} {env : Env} {K : Frag}
theorem MethodStar {n name : Str} {np apos p pos : Pos} {e : Expr} {Q : Value → Shared → Prop}
    (h : wpAny M A (eval (.Name n np) env) (fun ov s₁ => wpAny M A (getAttr ov name true) (fun f s₂ => wpAny M A (callWith pos f [] (backTo pos (starEach [.Starred e p] env)) []) Q E s₂) E s₁) E s) :
    wpAny M A (eval (.Call (.Attribute (.Name n np) name apos) [.Starred e p] [] pos) env) Q E s := by
  rw [arm_eval_Call]
  have e1 : attributeBase (.Name n np) name env (eval (.Name n np) env) = eval (.Name n np) env := rfl
  rw [e1]
  refine wpAny_bind (wpAny_mono h (fun ov s₁ h₁ => wpAny_bind (wpAny_standAt ?_)) fun _ _ x => x)
  unfold methodCall
  refine wpAny_bind (wpAny_holding ?_)
  show wpAny M A (getAttr ov name true >>= fun r => pure (r, [])) _ _ _
  refine wpAny_bind (wpAny_mono h₁ (fun f s₂ h₂ => wpAny_pure ?_) fun _ _ x => x)
  show wpAny M A ((pure pos : Sem Pos) >>= _) _ _ _
  exact wpAny_bind (wpAny_pure h₂)
theorem callWith_MS {q g : Addr} {self : Value} {p pos : Pos} {e : Expr} {Q : Value → Shared → Prop} (hf : fnIn K g = true)
    (h : wpAny M A (eval e env) (fun v s₁ => StarOf M A E v (fun vs s₂ => MethP K q g self s₂.heap ∧ wpAny M A (call (.ref q) vs) Q E s₂) s₁) E s)
    (he : starEach [.Starred e p] env = [(true, eval e env)] := by rfl) :
    wpAny M A (callWith pos (.ref q) [] (backTo pos (starEach [.Starred e p] env)) []) Q E s := by
  rw [he]
  exact ks_call rfl (keeps_M hf) (ks_lone h)
end
end
section
section
open LCg LCt
variable {prog : Program} {w : World} {A : Around} {E : Value → Shared → Prop} {s : Shared} {h₀ : Heap} {L : Addr} {m : Str → Option Value} {env : Env}
theorem comp_indU {elt : Expr} {x : Str} {scope : Scope} {cl : List (Str × Addr)} {S : List (Addr × Obj) → Prop} {P : Nat → Value → Prop} {Fin : List Value → List (Addr × Obj) → Prop} {n : Nat} {news : List (Addr × Obj)} (J : Nat → List Value → List (Addr × Obj) → Prop)
    (start : J 0 [] news) (fin : ∀ ys nw, J n ys nw → Fin ys nw)
    (turn : ∀ i ys nw, i < n → J i ys nw → ∀ (s : Shared) (m : Str → Option Value) v I oI C oC D m₂ h tk (E' : Value → Shared → Prop), P i v → NsObj oC m₂ → m₂ x = some v → Fr h₀ L h m → News h₀ L h ((I, oI) :: (C, oC) :: (D, lst ys) :: nw) → Off3 I C D nw → ((@Ne Nat I C) ∧ (@Ne Nat I D) ∧ (@Ne Nat C D)) →
      ∀ (T₁ : Value → Shared → Prop), (∀ y s', TurnC h₀ L m s I oI C oC D (lst ys) S (J (i + 1) (ys ++ [y])) s' → T₁ y s') →
      wpAny (model prog w) A (eval elt (compEnvC scope cl C env)) (fun y s'' => Stop (T₁ y s'')) E' { s with heap := h, toks := tk }) :
    CompRest prog w A h₀ L m env elt x scope cl s S P Fin n 0 [] news := by
  suffices H : ∀ k i ys nw, i + k = n → J i ys nw → CompRest prog w A h₀ L m env elt x scope cl s S P Fin k i ys nw from H n 0 [] news (by (first | lia | omega)) start
  intro k
  induction k with
  | zero =>
    intro i ys nw e hJ
    have e' : i = n := by (first | lia | omega)
    subst e'
    exact fin ys nw hJ
  | succ k ih =>
    intro i ys nw e hJ v I oI C oC D m₂ h tk E' hP hC hx F N off ne
    refine wpAny_mono (turn i ys nw (by (first | lia | omega)) hJ s m v I oI C oC D m₂ h tk E' hP hC hx F N off ne (fun y s' => TurnC h₀ L m s I oI C oC D (lst ys) S (J (i + 1) (ys ++ [y])) s') (fun _ _ z => z)) (fun y s'' h'' => ?_) fun _ _ z => z
    obtain ⟨h₂, tk₂, nw₂, rfl, F₂, N₂, off₂, hS₂, hJ₂⟩ := h''
    exact ⟨h₂, tk₂, nw₂, rfl, F₂, N₂, off₂, hS₂, ih (i + 1) _ nw₂ (by (first | lia | omega)) hJ₂⟩
end
theorem off3_cons {I C D : Addr} {p : Addr × Obj} {l : List (Addr × Obj)} (h1 : @LT.lt Nat _ I p.1) (h2 : @LT.lt Nat _ C p.1) (h3 : @LT.lt Nat _ D p.1) (h : LCg.Off3 I C D l) : LCg.Off3 I C D (p :: l) := ⟨⟨Nat.ne_of_gt h1, Nat.ne_of_gt h2, Nat.ne_of_gt h3⟩, h⟩
theorem off1_ne' {D : Addr} : ∀ {l : List (Addr × Obj)}, LCg.Off1 D l → ∀ q ∈ l, q.1 ≠ D
  | [], _, _, h => nomatch h
  | _ :: _, x, q, h => by
    rcases List.mem_cons.mp h with rfl | h
    · exact x.1
    · exact off1_ne' x.2 q h
end
section
/-! zip over two lists, as a part of the ledger -/
noncomputable abbrev zipO (f0 : Value) (TI TO : Addr) : Obj := { cls := .type "zip", dict := none, data := .fields #[f0, .bool false, .bool false, .ref TI, .ref TO], slots := #[] }
noncomputable abbrev pairO (a b : Value) : Obj := { cls := .type "tuple", data := .seq #[a, b] }
structure ZA where
  z : Addr
  TI : Addr
  TO : Addr
  i1 : Addr
  i2 : Addr
noncomputable abbrev ZA.led (Z : ZA) (f0 a b : Value) (o1 o2 : Obj) (r : List (Addr × Obj)) : List (Addr × Obj) := (Z.z, zipO f0 Z.TI Z.TO) :: (Z.TI, pairO (.ref Z.i1) (.ref Z.i2)) :: (Z.TO, pairO a b) :: (Z.i1, o1) :: (Z.i2, o2) :: r
theorem ZA.apart {Z : ZA} {f0 a b : Value} {o1 o2 oa ob : Obj} {r : List (Addr × Obj)} {l1 l2 : Addr} (ha : Apart (Z.led f0 a b o1 o2 r)) (m1 : (l1, oa) ∈ r) (m2 : (l2, ob) ∈ r) : ZipApart Z.z Z.TI Z.TO Z.i1 Z.i2 l1 l2 := by
  have h1 := apart_ne ha
  have h2 := apart_ne (apart_tail ha)
  have h3 := apart_ne (apart_tail (apart_tail ha))
  have h4 := apart_ne (apart_tail (apart_tail (apart_tail ha)))
  have h5 := apart_ne (apart_tail (apart_tail (apart_tail (apart_tail ha))))
  exact ⟨h1 _ (.head _), h1 _ (.tail _ (.head _)), h1 _ (.tail _ (.tail _ (.head _))), h1 _ (.tail _ (.tail _ (.tail _ (.head _)))), Ne.symm (h2 _ (.head _)), Ne.symm (h2 _ (.tail _ (.head _))), Ne.symm (h2 _ (.tail _ (.tail _ (.head _)))),
    Ne.symm (h3 _ (.head _)), Ne.symm (h3 _ (.tail _ (.head _))), Ne.symm (h4 _ (.head _)), h1 _ (.tail _ (.tail _ (.tail _ (.tail _ m1)))), h3 _ (.tail _ (.tail _ m1)), h4 _ (.tail _ m1), h5 _ m1, h1 _ (.tail _ (.tail _ (.tail _ (.tail _ m2)))), h3 _ (.tail _ (.tail _ m2)), h4 _ (.tail _ m2), h5 _ m2⟩
theorem none_of_le {h₀ h : Heap} {L : Addr} {m : Str → Option Value} (F : Fr h₀ L h m) {b : Addr} (hb : h.objs.size ≤ b) : h₀.get? b = none := by
  cases e : h₀.get? b with
  | none => rfl
  | some o => exact absurd (Heap.lt_size (F.keep _ _ e)) (Nat.not_lt.mpr hb)
section
variable {prog : Program} {w : World} {A : Around} {E : Value → Shared → Prop} {s : Shared} {h₀ : Heap} {L : Addr} {m : Str → Option Value} {news : List (Addr × Obj)}
theorem zip_make {l1 l2 : Addr} {xs ys : List Value} {n1 n2 : Nat} {Q : Value → Shared → Prop} (F : Fr h₀ L s.heap m) (N : News h₀ L s.heap news) (ha : Apart news) (m1 : (l1, lstObj xs n1) ∈ news) (m2 : (l2, lstObj ys n2) ∈ news)
    (h : ∀ (Z : ZA) o1 o2 h', IsLIt o1 l1 0 → IsLIt o2 l2 0 → Fr h₀ L h' m → News h₀ L h' (Z.led .none .none .none o1 o2 news) → Apart (Z.led .none .none .none o1 o2 news) → Q (.ref Z.z) { s with heap := h' }) :
    wpAny (model prog w) A (call (.type "zip") [.ref l1, .ref l2]) Q E s := by
  refine call_zip_2 (lst_is N m1) (lst_is N m2) fun h' hz hTI hTO hi1 hi2 hsz hk => ?_
  obtain ⟨o1, e1, c1⟩ := hi1
  obtain ⟨o2, e2, c2⟩ := hi2
  have hlt : ∀ p ∈ news, @LT.lt Nat _ p.1 s.heap.objs.size := fun p hp => Heap.lt_size (N p hp).1
  have hL : @LT.lt Nat _ L s.heap.objs.size := F.ns.lt
  have ne : ∀ k : Nat, (show Nat from s.heap.objs.size + k) ≠ L := fun k => Nat.ne_of_gt (Nat.lt_of_lt_of_le hL (Nat.le_add_right _ k))
  refine h ⟨s.heap.objs.size + 4, s.heap.objs.size + 2, s.heap.objs.size + 3, s.heap.objs.size, s.heap.objs.size + 1⟩ o1 o2 h' c1 c2 (F.keeps hk) ?_ ?_
  · intro p hp
    simp only [ZA.led, List.mem_cons] at hp
    rcases hp with rfl | rfl | rfl | rfl | rfl | hp
    · exact ⟨hz, ne 4, none_of_le F (Nat.le_add_right _ 4)⟩
    · exact ⟨hTI, ne 2, none_of_le F (Nat.le_add_right _ 2)⟩
    · exact ⟨hTO, ne 3, none_of_le F (Nat.le_add_right _ 3)⟩
    · exact ⟨e1, ne 0, none_of_le F (Nat.le_refl _)⟩
    · exact ⟨e2, ne 1, none_of_le F (Nat.le_add_right _ 1)⟩
    · exact ⟨hk _ _ (N p hp).1, (N p hp).2⟩
  · generalize hq : (s.heap.objs.size : Nat) = q at hlt
    have lts : ∀ k : Nat, ∀ p ∈ news, p.1 ≠ (show Addr from q + k) := fun k p hp => Nat.ne_of_lt (Nat.lt_of_lt_of_le (hlt p hp) (Nat.le_add_right _ k))
    refine apart_cons ?_ (apart_cons ?_ (apart_cons ?_ (apart_cons ?_ (apart_cons (lts 1) ha))))
    · intro p hp
      simp only [List.mem_cons] at hp
      rcases hp with rfl | rfl | rfl | rfl | hp
      · show (q + 2 : Nat) ≠ q + 4; (first | lia | omega)
      · show (q + 3 : Nat) ≠ q + 4; (first | lia | omega)
      · show (q : Nat) ≠ q + 4; (first | lia | omega)
      · show (q + 1 : Nat) ≠ q + 4; (first | lia | omega)
      · exact lts 4 p hp
    · intro p hp
      simp only [List.mem_cons] at hp
      rcases hp with rfl | rfl | rfl | hp
      · show (q + 3 : Nat) ≠ q + 2; (first | lia | omega)
      · show (q : Nat) ≠ q + 2; (first | lia | omega)
      · show (q + 1 : Nat) ≠ q + 2; (first | lia | omega)
      · exact lts 2 p hp
    · intro p hp
      simp only [List.mem_cons] at hp
      rcases hp with rfl | rfl | hp
      · show (q : Nat) ≠ q + 3; (first | lia | omega)
      · show (q + 1 : Nat) ≠ q + 3; (first | lia | omega)
      · exact lts 3 p hp
    · intro p hp
      simp only [List.mem_cons] at hp
      rcases hp with rfl | hp
      · show (q + 1 : Nat) ≠ q; (first | lia | omega)
      · exact lts 0 p hp
/-- all but four objects stay -/
theorem zip_keep {Z : ZA} {f0 a b : Value} {o1 o2 : Obj} {h h' : Heap} (F : Fr h₀ L h m) (N : News h₀ L h (Z.led f0 a b o1 o2 news)) (hk : ∀ c o, c ≠ Z.z → c ≠ Z.TO → c ≠ Z.i1 → c ≠ Z.i2 → h.get? c = some o → h'.get? c = some o) : Fr h₀ L h' m := by
  have n1 := N _ (.head _)
  have n3 := N _ (.tail _ (.tail _ (.head _)))
  have n4 := N _ (.tail _ (.tail _ (.tail _ (.head _))))
  have n5 := N _ (.tail _ (.tail _ (.tail _ (.tail _ (.head _)))))
  refine ⟨F.ns.at' fun o e => hk L o (Ne.symm n1.2.1) (Ne.symm n3.2.1) (Ne.symm n4.2.1) (Ne.symm n5.2.1) e, fun b o e => hk b o ?_ ?_ ?_ ?_ (F.keep b o e), F.above⟩
  · intro q; subst q; have := n1.2.2; rw [e] at this; cases this
  · intro q; subst q; have := n3.2.2; rw [e] at this; cases this
  · intro q; subst q; have := n4.2.2; rw [e] at this; cases this
  · intro q; subst q; have := n5.2.2; rw [e] at this; cases this
theorem zip_next {Z : ZA} {a b x y : Value} {o1 o2 : Obj} {l1 l2 : Addr} {xs ys : List Value} {n1 n2 k : Nat} {Q : Option Value → Shared → Prop} (F : Fr h₀ L s.heap m) (N : News h₀ L s.heap (Z.led .none a b o1 o2 news)) (ha : Apart (Z.led .none a b o1 o2 news))
    (h1 : IsLIt o1 l1 k) (h2 : IsLIt o2 l2 k) (m1 : (l1, lstObj xs n1) ∈ news) (m2 : (l2, lstObj ys n2) ∈ news) (hx : xs[k]? = some x) (hy : ys[k]? = some y)
    (h : ∀ T o1' o2' h', IsLIt o1' l1 (k + 1) → IsLIt o2' l2 (k + 1) → Fr h₀ L h' m → News h₀ L h' ((T, pairO x y) :: Z.led (rawInt T) x y o1' o2' news) → (∀ p ∈ Z.led .none a b o1 o2 news, @LT.lt Nat _ p.1 T) → Q (some (.ref T)) { s with heap := h' }) :
    wpAny (model prog w) A (pyNext (.ref Z.z)) Q E s := by
  have t5 : ∀ {q : Addr × Obj}, q ∈ news → q ∈ Z.led .none a b o1 o2 news := fun hq => .tail _ (.tail _ (.tail _ (.tail _ (.tail _ hq))))
  have D := ZA.apart ha m1 m2
  refine wpAny_pyNext_zip_item D (N _ (.head _)).1 (N _ (.tail _ (.head _))).1 (N _ (.tail _ (.tail _ (.head _)))).1 ⟨o1, (N _ (.tail _ (.tail _ (.tail _ (.head _))))).1, h1⟩ ⟨o2, (N _ (.tail _ (.tail _ (.tail _ (.tail _ (.head _)))))).1, h2⟩ (lst_is N (t5 m1)) (lst_is N (t5 m2)) (by simpa using hx) (by simpa using hy) ?_
  intro h' hz' hTO' hi1' hi2' hT' hsz' hk
  obtain ⟨o1', e1, c1⟩ := hi1'
  obtain ⟨o2', e2, c2⟩ := hi2'
  have hlt : ∀ p ∈ Z.led .none a b o1 o2 news, @LT.lt Nat _ p.1 s.heap.objs.size := fun p hp => Heap.lt_size (N p hp).1
  have a1 := apart_ne ha
  have a2 := apart_ne (apart_tail ha)
  have a3 := apart_ne (apart_tail (apart_tail ha))
  have a4 := apart_ne (apart_tail (apart_tail (apart_tail ha)))
  have a5 := apart_ne (apart_tail (apart_tail (apart_tail (apart_tail ha))))
  refine h s.heap.objs.size o1' o2' h' c1 c2 (zip_keep F N hk) (fun p hp => ?_) hlt
  simp only [ZA.led, List.mem_cons] at hp
  rcases hp with rfl | rfl | rfl | rfl | rfl | rfl | hp
  · exact ⟨hT', Nat.ne_of_gt F.ns.lt, none_of_le F (Nat.le_refl _)⟩
  · exact ⟨hz', (N _ (.head _)).2⟩
  · exact ⟨hk _ _ D.TIz D.TITO D.TIi1 D.TIi2 (N _ (.tail _ (.head _))).1, (N _ (.tail _ (.head _))).2⟩
  · exact ⟨hTO', (N _ (.tail _ (.tail _ (.head _)))).2⟩
  · exact ⟨e1, (N _ (.tail _ (.tail _ (.tail _ (.head _))))).2⟩
  · exact ⟨e2, (N _ (.tail _ (.tail _ (.tail _ (.tail _ (.head _)))))).2⟩
  · exact ⟨hk _ _ (a1 p (.tail _ (.tail _ (.tail _ (.tail _ hp))))) (a3 p (.tail _ (.tail _ hp))) (a4 p (.tail _ hp)) (a5 p hp) (N p (t5 hp)).1, (N p (t5 hp)).2⟩
theorem zip_own {Z : ZA} {a b : Value} {o1 o2 : Obj} {T : Addr} {oT : Obj} {es : List Expr} {k : Nat} {pos : Pos} {Q : Unit → Shared → Prop} (F : Fr h₀ L s.heap m) (N : News h₀ L s.heap ((T, oT) :: Z.led (rawInt T) a b o1 o2 news)) (ha : Apart ((T, oT) :: Z.led (rawInt T) a b o1 o2 news))
    (h : ∀ h', Fr h₀ L h' m → News h₀ L h' ((T, oT) :: Z.led .none a b o1 o2 news) → Q () { s with heap := h' }) : wpAny (model prog w) A (letOwnedTupleGo (.Tuple es k pos) (.ref Z.z) (.ref T)) Q E s := by
  refine wpAny_letOwnedTupleGo_zip (TI := Z.TI) (TO := Z.TO) (N _ (.tail _ (.head _))).1 fun h' hz' hs' => ?_
  obtain ⟨F', N'⟩ := upd_news F N (upd_at (l₁ := [(T, oT)]) (o' := zipO .none Z.TI Z.TO) ha) hs' hz'
  exact h h' F' N'
theorem zip_end {Z : ZA} {a b : Value} {o1 o2 : Obj} {l1 l2 : Addr} {xs ys : List Value} {n1 n2 k : Nat} {Q : Option Value → Shared → Prop} (hh : A.handled = none) (F : Fr h₀ L s.heap m) (N : News h₀ L s.heap (Z.led .none a b o1 o2 news)) (ha : Apart (Z.led .none a b o1 o2 news))
    (h1 : IsLIt o1 l1 k) (h2 : IsLIt o2 l2 k) (m1 : (l1, lstObj xs n1) ∈ news) (m2 : (l2, lstObj ys n2) ∈ news) (he : xs[k]? = none)
    (h : ∀ h', Fr h₀ L h' m → News h₀ L h' news → Q none { s with heap := h' }) : wpAny (model prog w) A (pyNext (.ref Z.z)) Q E s := by
  have t5 : ∀ {q : Addr × Obj}, q ∈ news → q ∈ Z.led .none a b o1 o2 news := fun hq => .tail _ (.tail _ (.tail _ (.tail _ (.tail _ hq))))
  have D := ZA.apart ha m1 m2
  have a1 := apart_ne ha
  have a3 := apart_ne (apart_tail (apart_tail ha))
  have a4 := apart_ne (apart_tail (apart_tail (apart_tail ha)))
  have a5 := apart_ne (apart_tail (apart_tail (apart_tail (apart_tail ha))))
  refine wpAny_pyNext_zip_end hh D (N _ (.head _)).1 (N _ (.tail _ (.head _))).1 (N _ (.tail _ (.tail _ (.head _)))).1 ⟨o1, (N _ (.tail _ (.tail _ (.tail _ (.head _))))).1, h1⟩ ⟨o2, (N _ (.tail _ (.tail _ (.tail _ (.tail _ (.head _)))))).1, h2⟩ (lst_is N (t5 m1)) (lst_is N (t5 m2)) (.inl (by simpa using he)) ?_
  intro h' hk
  refine h h' (zip_keep F N hk) fun p hp => ⟨hk _ _ (a1 p (.tail _ (.tail _ (.tail _ (.tail _ hp))))) (a3 p (.tail _ (.tail _ hp))) (a4 p (.tail _ hp)) (a5 p hp) (N p (t5 hp)).1, (N p (t5 hp)).2⟩
end
end
section
section
open LCg LCt LCp
variable {prog : Program} {w : World} {A : Around} {E : Value → Shared → Prop} {s : Shared} {h₀ : Heap} {L : Addr} {m : Str → Option Value} {env : Env}
/-- a comprehension over a list of triples, its three names stored anew each turn -/
noncomputable def Src3 (prog : Program) (w : World) (A : Around) (h₀ : Heap) (L : Addr) (m : Str → Option Value) (env : Env) (elt : Expr) (x₁ x₂ x₃ : Str) (scope : Scope) (cl : List (Str × Addr)) (Q : Value → Shared → Prop) (xv : Value) (s₁ : Shared) : Prop :=
  ∃ (l : Addr) (vs : List Value) (nl : Nat) (news : List (Addr × Obj)) (J : Nat → List Value → List (Addr × Obj) → Prop), xv = .ref l ∧ A.handled = none ∧ vs.length < 1000 ∧ Fr h₀ L s₁.heap m ∧ News h₀ L s₁.heap news ∧ (l, lstObj vs nl) ∈ news ∧ J 0 [] news ∧
    (∀ ys nw, J vs.length ys nw → ∀ D h tk, Fr h₀ L h m → News h₀ L h ((D, lst ys) :: nw) → Off1 D nw → Q (.ref D) { s₁ with heap := h, toks := tk }) ∧
    ∀ i v ys nw, vs[i]? = some v → J i ys nw → (l, lstObj vs nl) ∈ nw → ∃ (t : Addr) (v₁ v₂ v₃ : Value) (nt : Nat), v = .ref t ∧ (t, tupObj [v₁, v₂, v₃] nt) ∈ nw ∧
      ∀ (s₁ : Shared) (m : Str → Option Value) I oI C oC D m₂ h tk (E' : Value → Shared → Prop), NsObj oC m₂ → m₂ x₁ = some v₁ → m₂ x₂ = some v₂ → m₂ x₃ = some v₃ → Fr h₀ L h m → News h₀ L h ((I, oI) :: (C, oC) :: (D, lst ys) :: nw) → Off3 I C D nw → ((@Ne Nat I C) ∧ (@Ne Nat I D) ∧ (@Ne Nat C D)) →
        ∀ (T₁ : Value → Shared → Prop), (∀ y s'', TurnC h₀ L m s₁ I oI C oC D (lst ys) (fun nw' => (l, lstObj vs nl) ∈ nw') (J (i + 1) (ys ++ [y])) s'' → T₁ y s'') → wpAny (model prog w) A (eval elt (compEnvC scope cl C env)) (fun y s'' => Stop (T₁ y s'')) E' { s₁ with heap := h, toks := tk }
theorem compLoop_pair_op {elt iter : Expr} {elts : List Expr} {x1} {tp : Pos} {scope : Scope} {pos : Pos} {it acc : Value} {env : Env} {R : Result → Shared → Prop} (I : Nat → Shared → Prop)
    (turn : ∀ (I' : Nat → Shared → Prop) (R' : Shared → Prop) (NE : Value → Shared → Prop), (∀ k s, I k s → I' k s) → (∀ s, R (.ok .next) s → R' s) → ∀ n s, I n s → wpAny (model prog w) A (pyNext it) (fun r s₁ => match r with
      | none => R' s₁
      | some v => wpAny (model prog w) A (letOwnedTupleGo (.Tuple elts x1 tp) it v) (fun _ s₁' => wpAny (model prog w) A (assign (.Tuple elts x1 tp) env v) (fun _ s₂ =>
          wpAny (model prog w) A (eval elt env) (fun x s₄ =>
              wpAny (model prog w) A (call (.builtin "list.append") [acc, x]) (fun _ s₅ => ∃ m, m < n ∧ I' m s₅) NE s₄) NE s₂) NE s₁') NE s₁) NE s)
    (n : Nat) (h : I n s) : codeAny (model prog w) A (.compLoop (.ListComp elt [⟨.Tuple elts x1 tp, iter, [], 0⟩] scope pos) 0 it acc env) R s :=
  codeAny_compLoop_pair I (turn I (fun s => R (.ok .next) s) _ (fun _ _ x => x) fun _ x => x) n h
theorem ListComp_3 {elt iter : Expr} {x₁ x₂ x₃ : Str} {p₁ p₂ p₃ tp : Pos} {kt : Nat} {scope : Scope} {cl : List (Str × Addr)} {pos : Pos} {Q : Value → Shared → Prop} (F₀ : Fr h₀ L s.heap m)
    (hclos : closureFor scope env = pure cl) (hcell : ∀ y ∈ scope.names, y.2 ≠ .cell) (hkind : scope.kind = .function)
    (hnames : ∀ y ∈ scope.names, y.2 = .local → scope.names.lookup y.1 = some .local) (hx₁ : scope.names.lookup x₁ = some .local) (hx₂ : scope.names.lookup x₂ = some .local) (hx₃ : scope.names.lookup x₃ = some .local) (h12 : x₁ ≠ x₂) (h13 : x₁ ≠ x₃) (h23 : x₂ ≠ x₃)
    (h : wpAny (model prog w) A (eval iter env) (fun xv s₁ => Stop (Src3 prog w A h₀ L m env elt x₁ x₂ x₃ scope cl Q xv s₁)) E s)
    (hs : ∀ x, foldedSetIterable iter env x = pure x := by intro _; rfl) :
    wpAny (model prog w) A (eval (.ListComp elt [⟨.Tuple [.Name x₁ p₁, .Name x₂ p₂, .Name x₃ p₃] kt tp, iter, [], 0⟩] scope pos) env) Q E s := by
  rw [eval_ListComp]
  refine wpAny_comprehension_free (use := none) rfl hs hclos hkind hnames (wpAny_mono h (fun xv s₁ h₁ => ?_) fun _ _ e => e)
  refine ex5_e (h₁) ?_
  clear h₁
  intro l vs nl news J hzz
  refine an9_e hzz ?_
  clear hzz
  rintro rfl hh hvl F1 N1 hml hJ0 hfin hturn
  refine wpAny_pyIter_list (lst_is N1 hml) ?_
  refine an3_e (push_news (o := { cls := .type "list_iterator", data := .fields #[.ref l, .int 0 0] }) F1 N1) ?_
  rintro F2 N2 l2
  generalize hI : s₁.heap.objs.size = I at N2 l2 ⊢
  generalize hH1 : s₁.heap.push { cls := .type "list_iterator", data := .fields #[.ref l, .int 0 0] } = H1 at F2 N2 ⊢
  have hIl : @LT.lt Nat _ I H1.objs.size := Heap.lt_size (N2 _ (.head _)).1
  have hLl : @LT.lt Nat _ L H1.objs.size := F2.ns.lt
  refine wpAny_newObj_type (wpAny_newFunctionEnv hcell (by intro y hy; simp at hy) (fun h₁ hns₁ hsb₁ => ?_) hkind)
  dsimp only at hns₁ hsb₁ ⊢
  refine an3_e (push_news (s := { s₁ with heap := H1 }) (o := lst []) F2 N2) ?_
  rintro F3 N3 l3
  dsimp only at F3 N3 l3
  have hDsz : (H1.push (lst [])).objs.size = H1.objs.size + 1 := Heap.size_push ..
  generalize hD : H1.objs.size = D at *
  have hH2e : H1.push { cls := .type "list", dict := none, data := .seq ([] : List Value).toArray } = H1.push (lst []) := rfl
  rw [hH2e] at hns₁ hsb₁ ⊢
  generalize hH2 : H1.push (lst []) = H2 at *
  have hCe : (H2.objs.size : Nat) = D + 1 := hDsz
  have hDC : @LT.lt Nat _ D H2.objs.size := by rw [hCe]; exact Nat.lt_succ_self _
  have nC : ∀ p ∈ (D, lst []) :: (I, ({ cls := .type "list_iterator", data := .fields #[.ref l, .int 0 0] } : Obj)) :: news, @LT.lt Nat _ p.1 H2.objs.size := fun p hp => Heap.lt_size (N3 p hp).1
  have hCL : (H2.objs.size : Addr) ≠ L := Nat.ne_of_gt F3.ns.lt
  have hC₀ : h₀.get? H2.objs.size = none := none_of_le F3 (Nat.le_refl _)
  have old : ∀ b o, H2.get? b = some o → h₁.get? b = some o := fun b o e => hsb₁.extBut b o (Nat.ne_of_lt (Heap.lt_size e)) (Heap.get?_push_of_some _ e)
  have F4 : Fr h₀ L h₁ m := F3.keeps old
  obtain ⟨oC0, heC0, hoC0⟩ := ns_obj hns₁
  have hID : @Ne Nat I D := Nat.ne_of_lt hIl
  have hIC : @Ne Nat I H2.objs.size := Nat.ne_of_lt (Nat.lt_trans hIl hDC)
  have hDC' : @Ne Nat D H2.objs.size := Nat.ne_of_lt hDC
  have N4 : News h₀ L h₁ ((I, ({ cls := .type "list_iterator", data := .fields #[.ref l, .int 0 0] } : Obj)) :: (H2.objs.size, oC0) :: (D, lst []) :: news) := fun p hp => by
    rcases List.mem_cons.mp hp with rfl | hp
    · exact ⟨old _ _ (N3 _ (.tail _ (.head _))).1, (N3 _ (.tail _ (.head _))).2⟩
    · rcases List.mem_cons.mp hp with rfl | hp
      · exact ⟨heC0, hCL, hC₀⟩
      · rcases List.mem_cons.mp hp with rfl | hp
        · exact ⟨old _ _ (N3 _ (.head _)).1, (N3 _ (.head _)).2⟩
        · exact ⟨old _ _ (N3 p (.tail _ (.tail _ hp))).1, (N3 p (.tail _ (.tail _ hp))).2⟩
  have off4 : Off3 I H2.objs.size D news := Off3.of fun p hp => ⟨Nat.ne_of_lt (l2 p hp), Nat.ne_of_lt (nC p (.tail _ (.tail _ hp))), Nat.ne_of_lt (l3 p (.tail _ hp))⟩
  generalize hC : (H2.objs.size : Addr) = C at *
  have loop : ∀ s₃ : Shared, s₃ = { s₁ with heap := h₁, toks := s₁.toks + ([] : List (Str × Value)).length } →
      codeAny (model prog w) A (.compLoop (.ListComp elt [⟨.Tuple [.Name x₁ p₁, .Name x₂ p₂, .Name x₃ p₃] kt tp, iter, [], 0⟩] scope pos) 0 (.ref I) (.ref D) (compEnvC scope cl C env)) (compPost (model prog w) A E none Q (.ref D) C) s₃ := by
    rintro s₃ rfl
    refine compLoop_pair_op (fun k s' => ∃ (h' : Heap) (tk i : Nat) (ys : List Value) (oI oC : Obj) (m' : Str → Option Value) (nw : List (Addr × Obj)), s' = { s₁ with heap := h', toks := tk } ∧ i ≤ vs.length ∧ k = vs.length + 1 - i ∧ ys.length = i ∧ IsLIt oI l i ∧ NsObj oC m' ∧ Fr h₀ L h' m ∧
        News h₀ L h' ((I, oI) :: (C, oC) :: (D, lst ys) :: nw) ∧ Off3 I C D nw ∧ (l, lstObj vs nl) ∈ nw ∧ J i ys nw) ?_ (vs.length + 1) ⟨h₁, _, 0, [], _, oC0, _, news, rfl, Nat.zero_le _, rfl, rfl, ⟨rfl, rfl⟩, hoC0, F4, N4, off4, hml, hJ0⟩
    intro Iz Rz Nz hIz hRz k s' hzz
    refine ex8_e hzz ?_
    clear hzz
    intro h' tk i ys oI oC m' nw hzz
    refine an11_e hzz ?_
    clear hzz
    rintro rfl hi rfl hyl hit hoC F' N' off' hml' hJ
    have off3 := off'.mem
    have hneI : ∀ p ∈ (C, oC) :: (D, lst ys) :: nw, p.1 ≠ I := fun p hp => by
      rcases List.mem_cons.mp hp with rfl | hp
      · exact Ne.symm hIC
      · rcases List.mem_cons.mp hp with rfl | hp
        · exact Ne.symm hID
        · exact (off3 p hp).1
    by_cases hlt : i < vs.length
    · obtain ⟨v, hv⟩ : ∃ v, vs[i]? = some v := ⟨_, List.getElem?_eq_getElem hlt⟩
      refine ex5_e (hturn i v ys nw hv hJ hml') ?_
      intro t v₁ v₂ v₃ nt hzz
      refine an3_e hzz ?_
      clear hzz
      rintro rfl hmt hgo
      refine lit_next (l := l) (vs := vs) (n := nl) F' N' hit hneI (.tail _ (.tail _ hml')) hv ?_
      intro oI' h5 hit5 F5 N5
      dsimp only
      refine own_list (N5 _ (.head _)).1 hit5 ?_
      have ht : IsTup h5 t #[v₁, v₂, v₃] := ⟨_, (N5 _ (.tail _ (.tail _ (.tail _ hmt)))).1, rfl, nt, rfl⟩
      refine assign_Tuple_tuple hh ht rfl rfl fun h6 he => ?_
      have he' : ∀ b o, h5.get? b = some o → h6.get? b = some o := fun b o e => he b o (Nat.ne_of_lt (Heap.lt_size e)) e
      have hnC : h6.Ns C m' := hoC.ns (he' _ _ (N5 _ (.tail _ (.head _))).1)
      refine assignInOrder_cons (wpAny_assign_Name (wpAny_storeName_local (lookup_relabel_local hx₁) hnC (fun h7 hn7 hs7 => ?_) (by simp [compEnvC, relabel, hkind])))
      refine assignInOrder_cons (wpAny_assign_Name (wpAny_storeName_local (lookup_relabel_local hx₂) hn7 (fun h8 hn8 hs8 => ?_) (by simp [compEnvC, relabel, hkind])))
      refine assignInOrder_cons (wpAny_assign_Name (wpAny_storeName_local (lookup_relabel_local hx₃) hn8 (fun h9 hn9 hs9 => ?_) (by simp [compEnvC, relabel, hkind])))
      refine assignInOrder_nil ?_
      have old9 : ∀ b o, b ≠ C → h5.get? b = some o → h9.get? b = some o := fun b o hb e => hs9.extBut b o hb (hs8.extBut b o hb (hs7.extBut b o hb (he' b o e)))
      obtain ⟨oC9, heC9, hoC9⟩ := ns_obj hn9
      have F9 : Fr h₀ L h9 m := (((F5.keeps he').change hs7 hCL hC₀).change hs8 hCL hC₀).change hs9 hCL hC₀
      have N9 : News h₀ L h9 ((I, oI') :: (C, oC9) :: (D, lst ys) :: nw) := fun p hp => by
        rcases List.mem_cons.mp hp with rfl | hp
        · exact ⟨old9 _ _ hIC (N5 _ (.head _)).1, (N5 _ (.head _)).2⟩
        · rcases List.mem_cons.mp hp with rfl | hp
          · exact ⟨heC9, hCL, hC₀⟩
          · rcases List.mem_cons.mp hp with rfl | hp
            · exact ⟨old9 _ _ hDC' (N5 _ (.tail _ (.tail _ (.head _)))).1, (N5 _ (.tail _ (.tail _ (.head _)))).2⟩
            · exact ⟨old9 _ _ (off3 p hp).2.1 (N5 p (.tail _ (.tail _ (.tail _ hp)))).1, (N5 p (.tail _ (.tail _ (.tail _ hp)))).2⟩
      refine wpAny_mono (hgo s₁ m I oI' C oC9 D _ h9 _ _ hoC9 (by simp [h12, h13]) (by simp [h23]) (by simp) F9 N9 off' ⟨hIC, hID, Ne.symm hDC'⟩ _ (fun _ _ z => z)) (fun y s'' h'' => ?_) fun _ _ e => e
      refine ex3_e (h'') ?_
      clear h''
      intro h10 tk10 nw10 hzz
      refine an6_e hzz ?_
      clear hzz
      rintro rfl F10 N10 off10 hml10 hJ10
      have zI := N10 _ (.head _)
      have zC := N10 _ (.tail _ (.head _))
      have zD := N10 _ (.tail _ (.tail _ (.head _)))
      refine append_at (hsz := by show ys.toArray.size ≤ sizeLine; rw [List.size_toArray, hyl, sizeLine_eq]; (first | lia | omega)) zD.1 fun h11 hs11 hD11 => ?_
      have off10' := off10.mem
      refine ⟨vs.length + 1 - (i + 1), sb3 (by assumption), hIz _ _ ⟨h11, tk10, i + 1, ys ++ [y], oI', oC9, _, nw10, rfl, hlt, rfl, by rw [List.length_append, List.length_singleton, hyl], hit5, hoC9, F10.change hs11 zD.2.1 zD.2.2, fun p hp => ?_, off10, hml10, hJ10⟩⟩
      rcases List.mem_cons.mp hp with rfl | hp
      · exact ⟨hs11.extBut _ _ hID zI.1, zI.2⟩
      · rcases List.mem_cons.mp hp with rfl | hp
        · exact ⟨hs11.extBut _ _ (Ne.symm hDC') zC.1, zC.2⟩
        · rcases List.mem_cons.mp hp with rfl | hp
          · exact ⟨hD11.trans (congrArg some (lst_snoc ys y)), zD.2⟩
          · exact ⟨hs11.extBut _ _ (off10' p hp).2.2 (N10 p (.tail _ (.tail _ (.tail _ hp)))).1, (N10 p (.tail _ (.tail _ (.tail _ hp)))).2⟩
    · obtain rfl : i = vs.length := Nat.le_antisymm hi (Nat.not_lt.mp hlt)
      refine lit_end (l := l) (vs := vs) (n := nl) hh F' N' hit hneI (.tail _ (.tail _ hml')) (by simp) ?_
      intro h5 F5 N5
      dsimp only
      have zC := N5 _ (.head _)
      refine hRz _ ⟨m', hoC.ns zC.1, fun h6 hs6 => hfin ys nw hJ D h6 _ (F5.change hs6 hCL hC₀) (fun p hp => ?_) off'.one⟩
      refine ⟨hs6.extBut _ _ ?_ (N5 p (.tail _ hp)).1, (N5 p (.tail _ hp)).2⟩
      rcases List.mem_cons.mp hp with rfl | hp
      · exact hDC'
      · exact (off3 p hp).2.1
  exact codeAny_compStart_list (loop _ rfl) (wpAny_pyIter_listiter (l := l) (i := 0) ⟨_, (N4 _ (.head _)).1, rfl, rfl⟩ (loop _ rfl))
end
end
section
section
open LCg LCt LCp
theorem newEnv_cell1 {M : Model} {A : Around} {E : Value → Shared → Prop} {s : Shared} {scope : Scope} {globals : Addr} {cl : List (Str × Addr)} {qual n0 x : Str} {fr : List (Str × NameKind)} {env : Env} {Q : Env → Shared → Prop}
    (hnm : scope.names = (n0, .local) :: (x, .cell) :: fr) (hfr : ∀ z ∈ fr, z.2 ≠ .cell)
    (h : Q { scope := scope, locals := s.heap.objs.size, globals := globals, cells := (x, s.heap.objs.size + 1) :: cl, qual := qual, func := none, code := env.code, frame := env.frame, builtins := env.builtins } { s with heap := (s.heap.push { cls := .type "dict", data := .dict #[] }).push { cls := .type "cell", data := .cell none } }) :
    wpAny M A (newFunctionEnv scope globals cl [] qual none .none (some env)) Q E s := by
  have hc : ∀ (r : List (Str × NameKind)) (k : Nat) (acc : List (Str × Addr)), (∀ z ∈ r, z.2 ≠ .cell) → cellsFrom k r acc = acc := by
    intro r
    induction r with
    | nil => intro k acc _; rfl
    | cons a r ih =>
      intro k acc ha
      obtain ⟨nm, kd⟩ := a
      have h1 : (kd == NameKind.cell) = false := by have := ha _ (.head _); cases kd <;> first | rfl | exact absurd rfl this
      unfold cellsFrom
      rw [h1]
      exact ih k acc fun z hz => ha z (.tail _ hz)
  have hp : ∀ (r : List (Str × NameKind)) (hh : Heap), (∀ z ∈ r, z.2 ≠ .cell) → pushCells hh r = hh := by
    intro r
    induction r with
    | nil => intro hh _; rfl
    | cons a r ih =>
      intro hh ha
      obtain ⟨nm, kd⟩ := a
      have h1 : (kd == NameKind.cell) = false := by have := ha _ (.head _); cases kd <;> first | rfl | exact absurd rfl this
      unfold pushCells
      rw [h1]
      exact ih hh fun z hz => ha z (.tail _ hz)
  simp only [newFunctionEnv, Option.isSome_some, if_true]
  refine wpAny_bind (wpAny_alloc ?_)
  refine wpAny_bind (wpAny_layCells _ (fun name kind cells => by cases hkc : kind == NameKind.cell <;> simp [hkc]) _ _ _ _ ?_)
  rw [hnm]
  have e1 : cellsFrom (s.heap.push { cls := .type "dict", data := .dict #[] }).objs.size ((n0, NameKind.local) :: (x, NameKind.cell) :: fr) cl = (x, s.heap.objs.size + 1) :: cl := by
    show cellsFrom ((s.heap.push { cls := .type "dict", data := .dict #[] }).objs.size + 1) fr ((x, (s.heap.push { cls := .type "dict", data := .dict #[] }).objs.size) :: cl) = _
    rw [hc _ _ _ hfr, Heap.size_push]
  have e2 : pushCells (s.heap.push { cls := .type "dict", data := .dict #[] }) ((n0, NameKind.local) :: (x, NameKind.cell) :: fr) = (s.heap.push { cls := .type "dict", data := .dict #[] }).push { cls := .type "cell", data := .cell none } := by
    show pushCells ((s.heap.push { cls := .type "dict", data := .dict #[] }).push { cls := .type "cell", data := .cell none }) fr = _
    exact hp _ _ hfr
  dsimp only
  rw [e1, e2]
  simp only [List.forIn_nil]
  exact wpAny_bind (wpAny_pure (wpAny_pure h))
variable {prog : Program} {w : World} {A : Around} {E : Value → Shared → Prop} {s : Shared} {h₀ : Heap} {L : Addr} {m : Str → Option Value} {env : Env}
noncomputable def TurnX (h₀ : Heap) (L : Addr) (m : Str → Option Value) (s₁ : Shared) (I : Addr) (oI : Obj) (C : Addr) (oC : Obj) (cA : Addr) (oX : Obj) (D : Addr) (ys : List Value) (P : List (Addr × Obj) → Prop) (s' : Shared) : Prop :=
  ∃ (h : Heap) (tk : Nat) (nw : List (Addr × Obj)), s' = { s₁ with heap := h, toks := tk } ∧ Fr h₀ L h m ∧ News h₀ L h ((I, oI) :: (C, oC) :: (cA, oX) :: (D, lst ys) :: nw) ∧ Apart ((I, oI) :: (C, oC) :: (cA, oX) :: (D, lst ys) :: nw) ∧ P nw
/-- a comprehension over a range, its name a cell, with one test -/
noncomputable def SrcC (prog : Program) (w : World) (A : Around) (h₀ : Heap) (L : Addr) (m : Str → Option Value) (env : Env) (ct elt : Expr) (x y : Str) (scope : Scope) (cl : List (Str × Addr)) (Q : Flow → Shared → Prop) (xv : Value) (s₁ : Shared) : Prop :=
  ∃ (r : Addr) (k : Nat) (t u v : Tok) (news : List (Addr × Obj)) (J : Nat → List Value → List (Addr × Obj) → Prop), xv = .ref r ∧ A.handled = none ∧ k < 1000 ∧ IsRange s₁.heap r 0 (k : Int) 1 t u v ∧ Builtin.Range.small 0 (k : Int) 1 = true ∧ Builtin.Range.rangeSize 0 (k : Int) 1 = (k : Int) ∧ Fr h₀ L s₁.heap m ∧ News h₀ L s₁.heap news ∧ Apart news ∧ J 0 [] news ∧
    (∀ ys nw, J k ys nw → ∀ D h tk, Fr h₀ L h (fun z => if z = y then some (.ref D) else m z) → News h₀ L h ((D, lst ys) :: nw) → Apart ((D, lst ys) :: nw) → Q .next { s₁ with heap := h, toks := tk }) ∧
    ∀ i ys nw, i < k → J i ys nw → ∀ (s₁ : Shared) (m : Str → Option Value) I oI C oC cA oX D tt h tk (E' : Value → Shared → Prop), oX.data = .cell (some (.int (i : Int) tt)) → Fr h₀ L h m → News h₀ L h ((I, oI) :: (C, oC) :: (cA, oX) :: (D, lst ys) :: nw) → Apart ((I, oI) :: (C, oC) :: (cA, oX) :: (D, lst ys) :: nw) →
      ∀ (T₁ : Value → Shared → Prop) (T₂ : Shared → Prop), (∀ yv s', TurnX h₀ L m s₁ I oI C oC cA oX D ys (J (i + 1) (ys ++ [yv])) s' → T₁ yv s') → (∀ s', TurnX h₀ L m s₁ I oI C oC cA oX D ys (J (i + 1) ys) s' → T₂ s') →
      wpAny (model prog w) A (isTrue ct (compEnvC scope ((x, cA) :: cl) C env) (eval ct (compEnvC scope ((x, cA) :: cl) C env))) (fun ok s' => if ok = true then
        wpAny (model prog w) A (eval elt (compEnvC scope ((x, cA) :: cl) C env)) (fun yv s'' => Stop (T₁ yv s'')) E' s'
        else Stop (T₂ s')) E' { s₁ with heap := h, toks := tk }
theorem apart_obj {l₁ l₂ : List (Addr × Obj)} {d : Addr} {o o' : Obj} (h : Apart (l₁ ++ (d, o) :: l₂)) : Apart (l₁ ++ (d, o') :: l₂) := by
  unfold Apart at h ⊢
  simpa using h
theorem compLoop_tests_op {elt target iter : Expr} {ifs : List Expr} {scope : Scope} {pos : Pos} {it acc : Value} {env : Env} {R : Result → Shared → Prop} (I : Nat → Shared → Prop)
    (turn : ∀ (I' : Nat → Shared → Prop) (R' : Shared → Prop) (NE : Value → Shared → Prop), (∀ k s, I k s → I' k s) → (∀ s, R (.ok .next) s → R' s) → ∀ n s, I n s → wpAny (model prog w) A (pyNext it) (fun r s₁ => match r with
      | none => R' s₁
      | some v => wpAny (model prog w) A (assign target env v) (fun _ s₂ =>
          wpAny (model prog w) A (forIn ifs true fun c r => if r = true then do let ok ← isTrue c env (eval c env); pure (ForInStep.yield ok) else pure (ForInStep.yield r)) (fun ok s₃ =>
            if ok = true then wpAny (model prog w) A (eval elt env) (fun x s₄ =>
              wpAny (model prog w) A (call (.builtin "list.append") [acc, x]) (fun _ s₅ => ∃ m, m < n ∧ I' m s₅) NE s₄) NE s₃
            else ∃ m, m < n ∧ I' m s₃) NE s₂) NE s₁) NE s)
    (n : Nat) (h : I n s) (ht : ∀ v, letOwnedTupleGo target it v = pure () := by intro _; rfl) : codeAny (model prog w) A (.compLoop (.ListComp elt [⟨target, iter, ifs, 0⟩] scope pos) 0 it acc env) R s :=
  codeAny_compLoop_tests I (turn I (fun s => R (.ok .next) s) _ (fun _ _ x => x) fun _ x => x) n h ht
theorem Assign_ListComp_C {ct elt iter : Expr} {x y n0 : Str} {px py : Pos} {scope : Scope} {fr : List (Str × NameKind)} {cl : List (Str × Addr)} {pos spos : Pos} {Q : Flow → Shared → Prop} (F₀ : Fr h₀ L s.heap m) (hLe : env.locals = L)
    (hsw : swapsWith (.ListComp elt [⟨.Name x px, iter, [ct], 0⟩] scope pos) (some (.Name y py)) spos.line env = pure true)
    (hclos : closureFor scope env = pure cl) (hnm : scope.names = (n0, .local) :: (x, .cell) :: fr) (hfr : ∀ z ∈ fr, z.2 ≠ .cell) (hkind : scope.kind = .function)
    (hnames : ∀ z ∈ scope.names, z.2 = .local → scope.names.lookup z.1 = some .local) (hx : ∀ C cA, (compEnvC scope ((x, cA) :: cl) C env).kindOf x = some .cell)
    (hy : env.kindOf y = some .local) (hp : (env.scope.kind == .class || (env.scope.kind == .module && env.locals != env.globals)) = false)
    (h : wpAny (model prog w) A (eval iter env) (fun xv s₁ => Stop (SrcC prog w A h₀ L m env ct elt x y scope cl Q xv s₁)) E s)
    (hs : ∀ x, foldedSetIterable iter env x = pure x := by intro _; rfl) :
    wpAny (model prog w) A (exec (.Assign [.Name y py] (.ListComp elt [⟨.Name x px, iter, [ct], 0⟩] scope pos) spos) env) Q E s := by
  subst hLe
  rw [exec_Assign_Name_used _ _ _ _ hsw]
  refine wpAny_bind (wpAny_standAt (wpAny_bind ?_))
  show wpAny _ A (do let _ ← comprehension (.ListComp elt [⟨.Name x px, iter, [ct], 0⟩] scope pos) scope env _ (newList []) false (eval iter env) (some (assign (.Name y py) env))) _ _ s
  refine wpAny_bind (wpAny_mono (wpAny_comprehension_free (use := some (assign (.Name y py) env)) (Q := fun _ s' => Q .next s') rfl hs hclos hkind hnames
    (wpAny_mono h (fun xv s₁ h₁ => ?_) fun _ _ e => e)) (fun _ s' hq => wpAny_pure (wpAny_pure hq)) fun _ _ e => e)
  refine ex7_e (h₁) ?_
  clear h₁
  intro r k t u v news J hzz
  refine an12_e hzz ?_
  clear hzz
  rintro rfl hh hk hR hsm hsz F1 N1 ha1 hJ0 hfin hturn
  refine rit_make hR hsm hsz F1 N1 ?_
  intro I H1 F2 N2 l2
  have ha2 : Apart ((I, rngIt 0 (k : Int) 1) :: news) := apart_lt l2 ha1
  refine wpAny_newObj_type (newEnv_cell1 hnm hfr ?_)
  refine an3_e (push_news (s := { s₁ with heap := H1 }) (o := lst []) F2 N2) ?_
  rintro F3 N3 l3
  have ha3 := apart_lt (p := (H1.objs.size, lst [])) l3 ha2
  dsimp only at F3 N3 l3 ha3 ⊢
  have hH2e : H1.push { cls := .type "list", dict := none, data := .seq ([] : List Value).toArray } = H1.push (lst []) := rfl
  rw [hH2e]
  generalize hD : H1.objs.size = D at *
  generalize hH2 : H1.push (lst []) = H2 at *
  refine an3_e (push_news (s := { s₁ with heap := H2 }) (o := { cls := .type "dict", data := .dict #[] }) F3 N3) ?_
  rintro F4 N4 l4
  have ha4 := apart_lt (p := (H2.objs.size, { cls := .type "dict", data := .dict #[] })) l4 ha3
  have hns4 : (H2.push { cls := .type "dict", data := .dict #[] }).Ns H2.objs.size (fun _ => none) := Heap.Ns.new H2 (.type "dict")
  dsimp only at F4 N4 l4 ha4 ⊢
  have hsz4 : (H2.push { cls := .type "dict", data := .dict #[] }).objs.size = H2.objs.size + 1 := Heap.size_push ..
  rw [← hsz4]
  generalize hC : H2.objs.size = C at *
  generalize hH3 : H2.push { cls := .type "dict", data := .dict #[] } = H3 at *
  refine an3_e (push_news (s := { s₁ with heap := H3 }) (o := { cls := .type "cell", data := .cell none }) F4 N4) ?_
  rintro F5 N5 l5
  have ha5 := apart_lt (p := (H3.objs.size, { cls := .type "cell", data := .cell none })) l5 ha4
  have hns5 := hns4.keeps (h' := H3.push { cls := .type "cell", data := .cell none }) fun b o e => Heap.get?_push_of_some _ e
  dsimp only at F5 N5 l5 ha5 ⊢
  generalize hcA : H3.objs.size = cA at *
  generalize hH4 : H3.push { cls := .type "cell", data := .cell none } = H4 at *
  obtain ⟨oC0, heC0, hoC0⟩ := ns_obj hns5
  have zC := N5 _ (.tail _ (.head _))
  have eoC : oC0 = { cls := .type "dict", data := .dict #[] } := Option.some.inj (heC0.symm.trans zC.1)
  have pm : ((cA, ({ cls := .type "cell", data := .cell none } : Obj)) :: (C, ({ cls := .type "dict", data := .dict #[] } : Obj)) :: (D, lst []) :: (I, rngIt 0 (k : Int) 1) :: news).Perm ((I, rngIt 0 (k : Int) 1) :: (C, oC0) :: (cA, ({ cls := .type "cell", data := .cell none } : Obj)) :: (D, lst []) :: news) := by
    rw [eoC]
    refine (List.Perm.swap _ _ _).trans ?_
    exact ((((List.Perm.swap _ _ _).cons _).trans (List.Perm.swap _ _ _)).cons _).trans (List.Perm.swap _ _ _)
  have N6 := news_perm N5 pm
  have ha6 := apart_perm ha5 pm
  have loop : ∀ s₃ : Shared, s₃ = { s₁ with heap := H4 } →
      codeAny (model prog w) A (.compLoop (.ListComp elt [⟨.Name x px, iter, [ct], 0⟩] scope pos) 0 (.ref I) (.ref D) (compEnvC scope ((x, cA) :: cl) C env)) (compPost (model prog w) A E (some (assign (.Name y py) env)) (fun _ s' => Q .next s') (.ref D) C) s₃ := by
    rintro s₃ rfl
    refine compLoop_tests_op (fun kk s' => ∃ (h' : Heap) (tk i : Nat) (ys : List Value) (oC oX : Obj) (m' : Str → Option Value) (vX : Option Value) (nw : List (Addr × Obj)), s' = { s₁ with heap := h', toks := tk } ∧ i ≤ k ∧ kk = k + 1 - i ∧ ys.length ≤ i ∧ oX.data = .cell vX ∧ NsObj oC m' ∧ Fr h₀ env.locals h' m ∧
        News h₀ env.locals h' ((I, rngIt (i : Int) ((k : Int) - i) 1) :: (C, oC) :: (cA, oX) :: (D, lst ys) :: nw) ∧ Apart ((I, rngIt (i : Int) ((k : Int) - i) 1) :: (C, oC) :: (cA, oX) :: (D, lst ys) :: nw) ∧ J i ys nw) ?_ (k + 1) ⟨H4, s₁.toks, 0, [], oC0, _, _, none, news, rfl, Nat.zero_le _, rfl, Nat.le_refl _, rfl, hoC0, F5, by simpa using N6, by simpa using ha6, hJ0⟩
    intro Iz Rz Nz hIz hRz kk s' hzz
    refine ex9_e hzz ?_
    clear hzz
    intro h' tk i ys oC oX m' vX nw hzz
    refine an10_e hzz ?_
    clear hzz
    rintro rfl hi rfl hyl hoX hoC F' N' ha' hJ
    by_cases hlt : i < k
    · refine rng_next F' N' (Upd.head (apart_ne ha')) (by (first | lia | omega)) ?_
      intro h6 F6 N6'
      dsimp only
      have eI : rngIt ((i : Int) + 1) ((k : Int) - (i : Int) - 1) 1 = rngIt ((i + 1 : Nat) : Int) ((k : Int) - ((i + 1 : Nat) : Int)) 1 := by
        rw [show ((i + 1 : Nat) : Int) = (i : Int) + 1 by (first | lia | omega), show (k : Int) - (i + 1) = k - i - 1 by (first | lia | omega)]
      rw [eI] at N6'
      have ha6' : Apart ((I, rngIt ((i + 1 : Nat) : Int) ((k : Int) - ((i + 1 : Nat) : Int)) 1) :: (C, oC) :: (cA, oX) :: (D, lst ys) :: nw) := apart_obj (l₁ := []) ha'
      refine wpAny_assign_Name (wpAny_storeName_cell (v₀ := vX) (by simp [compEnvC, relabel, hkind]) (hx C cA) (c := cA) (by simp [compEnvC]) ⟨oX, (N6' _ (.tail _ (.tail _ (.head _)))).1, hoX⟩ fun h7 hv7 hs7 => ?_)
      obtain ⟨oX', heX', hoX'⟩ := hv7
      obtain ⟨F7, N7⟩ := upd_news (o' := oX') F6 N6' (upd_at (l₁ := [(I, rngIt ((i + 1 : Nat) : Int) ((k : Int) - ((i + 1 : Nat) : Int)) 1), (C, oC)]) ha6') hs7 heX'
      have ha7 : Apart ((I, rngIt ((i + 1 : Nat) : Int) ((k : Int) - ((i + 1 : Nat) : Int)) 1) :: (C, oC) :: (cA, oX') :: (D, lst ys) :: nw) := apart_obj (l₁ := [_, _]) ha6'
      refine wpAny_tests_one ?_
      refine wpAny_mono (hturn i ys nw hlt hJ s₁ m I _ C oC cA oX' D _ h7 _ _ hoX' F7 N7 ha7 _ _ (fun _ _ z => z) (fun _ z => z)) (fun ok s₄ h₄ => ?_) fun _ _ e => e
      cases ok with
      | true =>
        simp only [if_true] at h₄ ⊢
        refine wpAny_mono h₄ (fun yv s₅ h₅ => ?_) fun _ _ e => e
        refine ex3_e (h₅) ?_
        clear h₅
        intro h8 tk8 nw8 hzz
        refine an5_e hzz ?_
        clear hzz
        rintro rfl F8 N8 ha8 hJ8
        have zD := N8 _ (.tail _ (.tail _ (.tail _ (.head _))))
        refine append_at (hsz := by show ys.toArray.size ≤ sizeLine; rw [List.size_toArray, sizeLine_eq]; (first | lia | omega)) zD.1 fun h9 hs9 hD9 => ?_
        obtain ⟨F9, N9⟩ := upd_news (o' := lst (ys ++ [yv])) F8 N8 (upd_at (l₁ := [(I, rngIt ((i + 1 : Nat) : Int) ((k : Int) - ((i + 1 : Nat) : Int)) 1), (C, oC), (cA, oX')]) ha8) hs9 (hD9.trans (congrArg some (lst_snoc ys yv)))
        exact ⟨k + 1 - (i + 1), sb3 (by assumption), hIz _ _ ⟨h9, tk8, i + 1, ys ++ [yv], oC, oX', m', _, nw8, rfl, hlt, rfl, by simp; exact hyl, hoX', hoC, F9, N9, apart_obj (l₁ := [_, _, _]) ha8, hJ8⟩⟩
      | false =>
        simp only [Bool.false_eq_true, if_false] at h₄ ⊢
        refine ex3_e (h₄) ?_
        clear h₄
        intro h8 tk8 nw8 hzz
        refine an5_e hzz ?_
        clear hzz
        rintro rfl F8 N8 ha8 hJ8
        exact ⟨k + 1 - (i + 1), sb3 (by assumption), hIz _ _ ⟨h8, tk8, i + 1, ys, oC, oX', m', _, nw8, rfl, hlt, rfl, by (first | lia | omega), hoX', hoC, F8, N8, ha8, hJ8⟩⟩
    · obtain rfl : i = k := Nat.le_antisymm hi (Nat.not_lt.mp hlt)
      refine rng_end hh F' N' (apart_ne ha') (by (first | lia | omega)) ?_
      intro h6 F6 N6'
      have haT := apart_tail ha'
      refine hRz _ ?_
      show wpAny _ A (assign (.Name y py) env (.ref D)) _ _ _
      refine wpAny_assign_Name (wpAny_storeName_local hy F6.ns (fun h₂ hn₂ hs₂ => ?_) hp)
      have hL₀ : h₀.get? env.locals = none := Heap.get?_none_of_le F6.above
      have F₂ : Fr h₀ env.locals h₂ (fun z => if z = y then some (.ref D) else m z) := ⟨hn₂, fun b o e => hs₂.extBut b o (fun q => by rw [q, hL₀] at e; cases e) (F6.keep b o e), F6.above⟩
      have N₂ : News h₀ env.locals h₂ ((C, oC) :: (cA, oX) :: (D, lst ys) :: nw) := fun p hp => ⟨hs₂.extBut _ _ (N6' p hp).2.1 (N6' p hp).1, (N6' p hp).2⟩
      have zC := N₂ _ (.head _)
      refine ⟨m', hoC.ns zC.1, fun h₃ hs₃ => ?_⟩
      have neC := apart_ne haT
      refine hfin ys nw hJ D h₃ _ (F₂.change hs₃ zC.2.1 zC.2.2) (fun p hp => ⟨hs₃.extBut _ _ (neC p (.tail _ hp)) (N₂ p (.tail _ (.tail _ hp))).1, (N₂ p (.tail _ (.tail _ hp))).2⟩) (apart_tail (apart_tail haT))
  exact codeAny_compStart_list (loop _ rfl) (wpAny_pyIter_rangeiter (x := 0) (left := (k : Int)) (step := 1) (by have := (N6 _ (.head _)).1; exact this) (loop _ rfl))
end
end
section
/-- the ready list of prepare -/
noncomputable def rdy (G : List Nd) : List (Int × Tok) := (G.filter fun e => decide (e.np = 0)).map fun e => (e.key, e.kt)
theorem off1_ne {D : Addr} : ∀ {l : List (Addr × Obj)}, LCg.Off1 D l → ∀ q ∈ l, q.1 ≠ D
  | [], _, _, h => nomatch h
  | _ :: _, x, q, h => by
    rcases List.mem_cons.mp h with rfl | h
    · exact x.1
    · exact off1_ne x.2 q h
theorem scOf_mem {G : List Nd} {a c : Int} (h : c ∈ scOf (view G) a) : ∃ e ∈ G, e.key = a ∧ c ∈ e.sc.map (·.1) := by
  unfold scOf at h
  cases hf : (view G).find? (fun v => decide (v.1 = a)) with
  | none => rw [hf] at h; simp at h
  | some v =>
    rw [hf] at h
    have h1 := List.mem_of_find?_eq_some hf
    have h2 := List.find?_some hf
    obtain ⟨e, he, rfl⟩ := List.mem_map.mp h1
    exact ⟨e, he, by simpa using h2, by simpa using h⟩
theorem ring_len {G : List Nd} {r : List Int} (hcl : ∀ e ∈ G, ∀ c ∈ e.sc.map (·.1), ∃ e' ∈ G, e'.key = c) (h : IsRing (view G) r) : r.length ≤ G.length + 1 := by
  have := nodup_le (m := G.map (·.key)) h.nd fun x hx => by
    obtain ⟨i, hi⟩ := List.mem_iff_getElem?.mp hx
    rw [List.getElem?_tail] at hi
    obtain ⟨a, ha⟩ : ∃ a, r[i]? = some a := ⟨r[i]'(by have := (List.getElem?_eq_some_iff.mp hi).1; (first | lia | omega)), List.getElem?_eq_getElem _⟩
    obtain ⟨e, he, _, hc⟩ := scOf_mem (h.edge i a x ha hi)
    obtain ⟨e', he', rfl⟩ := hcl e he x hc
    exact List.mem_map_of_mem he'
  simp at this
  (first | lia | omega)
theorem put_rd {w : World} {t1 t2 t3 t4 : Tok} {d : Addr} {rd np nf v k : Value} {hs : Int} {n : Nat} : (putL (Str.ofString "_ready_nodes") hs k v (srtEs w t1 t2 t3 t4 d rd np nf), putN (Str.ofString "_ready_nodes") (srtEs w t1 t2 t3 t4 d rd np nf) n) = (srtEs w t1 t2 t3 t4 d v np nf, n) := rfl
theorem put_np {w : World} {t1 t2 t3 t4 : Tok} {d : Addr} {rd np nf v k : Value} {hs : Int} {n : Nat} : (putL (Str.ofString "_npassedout") hs k v (srtEs w t1 t2 t3 t4 d rd np nf), putN (Str.ofString "_npassedout") (srtEs w t1 t2 t3 t4 d rd np nf) n) = (srtEs w t1 t2 t3 t4 d rd v nf, n) := rfl
theorem put_nf {w : World} {t1 t2 t3 t4 : Tok} {d : Addr} {rd np nf v k : Value} {hs : Int} {n : Nat} : (putL (Str.ofString "_nfinished") hs k v (srtEs w t1 t2 t3 t4 d rd np nf), putN (Str.ofString "_nfinished") (srtEs w t1 t2 t3 t4 d rd np nf) n) = (srtEs w t1 t2 t3 t4 d rd np v, n) := rfl
theorem prep_again {prog : Program} {w : World} (hn : Option Value) (dp un : Nat) (gd : Option (List Code)) (env : Env) (outer : List Env) (h₀ : Heap) (L : Addr) (m : Str → Option Value) (s : Shared) (A₀ : Around) (base : Heap) (p : Program) (loose : List Str) (mean : ExcName → Option Value) (mg mb : Str → Option Value)
    (Q E : Value → Shared → Prop) (GD : Gd w A₀ base outer p loose mean mg mb h₀) (hf : env.frame = some L) (hk : env.scope.kind = .function) (F : Fr h₀ L s.heap m) (S : Srt) (R : Addr) (np nf : Value) (o : Obj) (rest : List (Addr × Obj))
    (N : News h₀ L s.heap (S.led w (.ref R) np nf o rest)) (ha : Apart (S.led w (.ref R) np nf o rest))
    (hd : dp + 8 < recursionLimit) (hu : un + 64 < cLine)
    (ret : ∀ g' e h' tk', Fr h₀ L g' m → RaisedX base g' (env :: outer) e (.type "ValueError") (S.led w (.ref R) np nf o rest) h' → E (.ref e) { s with heap := h', toks := tk' }) :
    wpAny (model prog w) (arn none dp un gd env outer) (call (.ref 92) [.ref S.x]) Q E s := by
  have X := GD.In
  have T := GD.tp
  obtain ⟨B, XB, TB, D⟩ := GD
  refine wpAny_call ?_
  k_dflt (refine' code_defT ?k1 ?k2 ?k3 ?k4 ?k5 ?kD ?kA ?kF ?kK ?k6 ?k7 ?k8 ?k9 ?kB ?_ ?c2 ?c3 ?c4 ?c5; (case kA => exact rfl); (case kF => first | assumption | exact rfl); (case kK => first | assumption | exact rfl); (case k1 => k_asm); (case k2 => k_asm); (case k3 => k_asm); (case k4 => k_asm); (case k5 => k_asm); (case kD => k_asm); (case k6 => k_is); (case k7 => k_is); (case k8 => k_room); (case k9 => first | exact BindsTo.of_eq rfl | exact binds_K (by k_in) rfl (by k_is) rfl rfl rfl); (case c5 => decide); (case kB => exact locs rfl); (case c2 => exact rfl); (case c3 => exact rfl); (case c4 => exact rfl))
  intro g L1 h1 FG F1 N1 B1 X1 T1 D1
  (try dsimp only)
  (try k_fold)
  (repeat' ((fail_if_success (with_reducible (first | show gz2 | show gz3 | show gz4 | show gz5 | show gz6 | show gz7 | show gz8 | show gz9 | show gz10 | show gz11 | show gz12 | show gz13 | show gz14 | show gz15))); (first | ((with_reducible show wpAny _ _ (execs _ _) _ _ _); k_gentoks) | with_reducible (first | refine execs_one ?_ | (refine execs_cut ?_; intro _ _) | (refine if_cut ?_; intro _ _)) | ((fail_if_success (with_reducible show gz1)); (first | (refine Kh.go ‹_› _ _ ?_; try dsimp only [KnP]) | ((with_reducible show TurnEnd _ _ _ _ _ _); dsimp only [TurnEnd]))) | (k_unfold; (try dsimp only)) | (k_end; wrow_close) | walk1 | (dsimp only; walk1) | (leave1; try dsimp only))))
  rename Heap.NewExc _ _ _ _ => hx
  rename Fr _ _ _ _ => F2
  rename News _ _ _ _ => N2
  refine leave_newX (A := arn none dp un gd env outer) B1 hx F2 N2 ?_
  intro h' R'
  exact ret _ _ _ _ FG R'

theorem prep_spec {prog : Program} {w : World} (dp un : Nat) (gd : Option (List Code)) (env : Env) (outer : List Env) (h₀ : Heap) (L : Addr) (m : Str → Option Value) (s : Shared) (A₀ : Around) (base : Heap) (p : Program) (loose : List Str) (mean : ExcName → Option Value) (mg mb : Str → Option Value)
    (Q E : Value → Shared → Prop) (GD : Gd w A₀ base outer p loose mean mg mb h₀) (hf : env.frame = some L) (hk : env.scope.kind = .function) (F : Fr h₀ L s.heap m) (S : Srt) (np nf : Value) (o : Obj) (rest : List (Addr × Obj)) (G : List Nd)
    (N : News h₀ L s.heap (S.led w .none np nf o (gLed G ++ rest))) (ha : Apart (S.led w .none np nf o (gLed G ++ rest)))
    (hdict : o.IsDictOf (intKind prog w) (gKvs G)) (hsys : (S.d == sysModules) = false) (hG : (G.map (·.key)).Nodup) (hGl : G.length < 50) (hB : Bnd (view G)) (hcl : ∀ e ∈ G, ∀ c ∈ e.sc.map (·.1), ∃ e' ∈ G, e'.key = c)
    (hd : dp + 12 < recursionLimit) (hu : un + 96 < cLine)
    (ret1 : ∀ done, FinO (view G) done → (∀ e ∈ G, e.key ∈ done) → ∀ h₀' h' tk' (S' : Srt) (R : Addr) (n : Nat), S'.x = S.x → S'.d = S.d → KtsTurn (frs outer) h₀ h₀' → Gd w A₀ base outer p loose mean mg mb h₀' → Fr h₀' L h' m →
      News h₀' L h' (S'.led w (.ref R) np nf o (gLed G ++ (R, lstObj (valsOf (rdy G)) n) :: rest)) → Apart (S'.led w (.ref R) np nf o (gLed G ++ (R, lstObj (valsOf (rdy G)) n) :: rest)) → Q .none { s with heap := h', toks := tk' })
    (ret2 : ∀ ring : List Int, IsRing (view G) ring → ∀ h₀' g' h' tk' (S' : Srt) (R : Addr) (n : Nat) (e : Addr), S'.x = S.x → S'.d = S.d → KtsTurn (frs outer) h₀ h₀' → Gd w A₀ base outer p loose mean mg mb h₀' → Fr h₀' L g' m →
      RaisedX base g' (env :: outer) e (.ref 55) (S'.led w (.ref R) np nf o (gLed G ++ (R, lstObj (valsOf (rdy G)) n) :: rest)) h' → Apart (S'.led w (.ref R) np nf o (gLed G ++ (R, lstObj (valsOf (rdy G)) n) :: rest)) → E (.ref e) { s with heap := h', toks := tk' }) :
    wpAny (model prog w) (arn none dp un gd env outer) (call (.ref 92) [.ref S.x]) Q E s := by
  have X := GD.In
  have T := GD.tp
  obtain ⟨B, XB, TB, D⟩ := GD
  refine wpAny_call ?_
  k_dflt (refine' code_defT ?k1 ?k2 ?k3 ?k4 ?k5 ?kD ?kA ?kF ?kK ?k6 ?k7 ?k8 ?k9 ?kB ?_ ?c2 ?c3 ?c4 ?c5; (case kA => exact rfl); (case kF => first | assumption | exact rfl); (case kK => first | assumption | exact rfl); (case k1 => k_asm); (case k2 => k_asm); (case k3 => k_asm); (case k4 => k_asm); (case k5 => k_asm); (case kD => k_asm); (case k6 => k_is); (case k7 => k_is); (case k8 => k_room); (case k9 => first | exact BindsTo.of_eq rfl | exact binds_K (by k_in) rfl (by k_is) rfl rfl rfl); (case c5 => decide); (case kB => exact locs rfl); (case c2 => exact rfl); (case c3 => exact rfl); (case c4 => exact rfl))
  intro g L1 h1 FG F1 N1 B1 X1 T1 D1
  (try dsimp only)
  (try k_fold)
  have F1' := frB [(Str.ofString "self", .ref S.x)] F1 ⟨rfl, trivial⟩
  clear F1
  (repeat' ((fail_if_success (with_reducible (first | show gz2 | show gz3 | show gz4 | show gz5 | show gz6 | show gz7 | show gz8 | show gz9 | show gz10 | show gz11 | show gz12 | show gz13 | show gz14 | show gz15))); (first | ((with_reducible show wpAny _ _ (execs _ _) _ _ _); k_gentoks) | with_reducible (first | refine execs_one ?_ | (refine execs_cut ?_; intro _ _) | (refine if_cut ?_; intro _ _)) | ((fail_if_success (with_reducible show gz1)); (first | (refine Kh.go ‹_› _ _ ?_; try dsimp only [KnP]) | ((with_reducible show TurnEnd _ _ _ _ _ _); dsimp only [TurnEnd]))) | (k_unfold; (try dsimp only)) | (k_end; wrow_close) | walk1 | (dsimp only; walk1) | (leave1; try dsimp only))))
  rename Fr _ _ _ _ => F2
  rename News _ _ _ _ => N2
  refine ListComp_W F2 (by with_unfolding_all rfl) (by decide) (by rfl) (by decide) (by rfl) ?_
  (repeat' ((fail_if_success (with_reducible (first | show gz2 | show gz3 | show gz4 | show gz5 | show gz6 | show gz7 | show gz8 | show gz9 | show gz10 | show gz11 | show gz12 | show gz13 | show gz14 | show gz15))); (first | ((with_reducible show wpAny _ _ (execs _ _) _ _ _); k_gentoks) | with_reducible (first | refine execs_one ?_ | (refine execs_cut ?_; intro _ _) | (refine if_cut ?_; intro _ _)) | ((fail_if_success (with_reducible show gz1)); (first | (refine Kh.go ‹_› _ _ ?_; try dsimp only [KnP]) | ((with_reducible show TurnEnd _ _ _ _ _ _); dsimp only [TurnEnd]))) | (k_unfold; (try dsimp only)) | (k_end; wrow_close) | walk1 | (dsimp only; walk1) | (leave1; try dsimp only))))
  rename Fr _ _ _ _ => F3
  rename News _ _ _ _ => N3
  have hmd : (S.d, o) ∈ S.led w .none np nf o (gLed G ++ rest) := .tail _ (.tail _ (.head _))
  refine kdl_method (knd := intKind prog w) (kvs := gKvs G) PySem.F.slot_dict_values PySem.F.type_dict_values N3 hmd hdict ?_
  (repeat' ((fail_if_success (with_reducible (first | show gz2 | show gz3 | show gz4 | show gz5 | show gz6 | show gz7 | show gz8 | show gz9 | show gz10 | show gz11 | show gz12 | show gz13 | show gz14 | show gz15))); (first | ((with_reducible show wpAny _ _ (execs _ _) _ _ _); k_gentoks) | with_reducible (first | refine execs_one ?_ | (refine execs_cut ?_; intro _ _) | (refine if_cut ?_; intro _ _)) | ((fail_if_success (with_reducible show gz1)); (first | (refine Kh.go ‹_› _ _ ?_; try dsimp only [KnP]) | ((with_reducible show TurnEnd _ _ _ _ _ _); dsimp only [TurnEnd]))) | (k_unfold; (try dsimp only)) | (k_end; wrow_close) | walk1 | (dsimp only; walk1) | (leave1; try dsimp only))))
  rename Fr _ _ _ _ => F4
  rename News _ _ _ _ => N4
  rename_i vw h4 _
  have hkl : (gKvs G).length = G.length := by unfold gKvs; simp
  refine src_values (d := S.d) (o := o) (kvs := gKvs G) rfl F4 N4 (.head _) (.tail _ hmd) hdict (by (first | lia | omega)) ?_
  intro g5
  refine comp_indT (fun i ys nw => nw = (vw, ({ cls := .type "dict_values", data := .fields #[.ref S.d] } : Obj)) :: S.led w .none np nf o (gLed G ++ rest) ∧ ys = valsOf (rdy (G.take i))) ⟨rfl, rfl⟩ ?_ ?_
  · rintro ys nw ⟨rfl, rfl⟩
    intro R h5 tk5 F5 N5 off5
    rw [hkl, List.take_length] at N5
    clear F4 N4
    have a1 := apart_ne ha
    have a2 := apart_ne (apart_tail ha)
    have a3 := apart_ne (apart_tail (apart_tail ha))
    have e1 : @Ne Nat S.dx S.x := a1 _ (.head _)
    have e2 : @Ne Nat S.d S.dx := a2 _ (.head _)
    have e3 : ∀ q ∈ gLed G ++ rest, q.1 ≠ S.dx := fun q hq => a2 q (.tail _ hq)
    have e4 : @Ne Nat S.x R := off5.2.1
    have e5 : @Ne Nat S.dx R := off5.2.2.1
    have e6 : @Ne Nat S.d R := off5.2.2.2.1
    have N6 : News g L1 h5 ((R, lstObj (valsOf (rdy G)) (valsOf (rdy G)).length) :: S.led w .none np nf o (gLed G ++ rest)) := fun q hq => N5 q ((List.mem_cons.mp hq).elim (fun z => z ▸ .head _) fun z => .tail _ (.tail _ z))
    have haR : Apart ((R, lstObj (valsOf (rdy G)) (valsOf (rdy G)).length) :: S.led w .none np nf o (gLed G ++ rest)) := apart_cons (off1_ne off5.2) ha
    clear N5
    generalize hr : gLed G ++ rest = r at N6 e3 haR
    (repeat' ((fail_if_success (with_reducible (first | show gz2 | show gz3 | show gz4 | show gz5 | show gz6 | show gz7 | show gz8 | show gz9 | show gz10 | show gz11 | show gz12 | show gz13 | show gz14 | show gz15))); (first | ((with_reducible show wpAny _ _ (execs _ _) _ _ _); k_gentoks) | with_reducible (first | refine execs_one ?_ | (refine execs_cut ?_; intro _ _) | (refine if_cut ?_; intro _ _)) | ((fail_if_success (with_reducible show gz1)); (first | (refine Kh.go ‹_› _ _ ?_; try dsimp only [KnP]) | ((with_reducible show TurnEnd _ _ _ _ _ _); dsimp only [TurnEnd]))) | (k_unfold; (try dsimp only)) | (k_end; wrow_close) | walk1 | (dsimp only; walk1) | (leave1; try dsimp only))))
    k_dflt (refine' set_dict ?k1 ?k2 ?k3 ?k4 ?k5 ?k6 ?k7 ?k8 ?k9 ?k10 ?k11 ?k12 ?k13 ?_; (case k1 => k_asm); (case k2 => k_asm); (case k3 => k_asm); (case k4 => k_inst); (case k5 => exact rfl); (case k6 => k_is); (case k7 => k_is); (case k8 => k_is); (case k9 => k_is); (case k10 => k_get); (case k11 => exact put_rd); (case k12 => exact upd_at (l₁ := [_, _]) haR); (case k13 => exact Nat.le_of_ble_eq_true rfl); k_whole)
    intro h6 F6 N7
    (repeat' ((fail_if_success (with_reducible (first | show gz2 | show gz3 | show gz4 | show gz5 | show gz6 | show gz7 | show gz8 | show gz9 | show gz10 | show gz11 | show gz12 | show gz13 | show gz14 | show gz15))); (first | ((with_reducible show wpAny _ _ (execs _ _) _ _ _); k_gentoks) | with_reducible (first | refine execs_one ?_ | (refine execs_cut ?_; intro _ _) | (refine if_cut ?_; intro _ _)) | ((fail_if_success (with_reducible show gz1)); (first | (refine Kh.go ‹_› _ _ ?_; try dsimp only [KnP]) | ((with_reducible show TurnEnd _ _ _ _ _ _); dsimp only [TurnEnd]))) | (k_unfold; (try dsimp only)) | (k_end; wrow_close) | walk1 | (dsimp only; walk1) | (leave1; try dsimp only))))
    subst hr
    have hp : ((R, lstObj (valsOf (rdy G)) (valsOf (rdy G)).length) :: S.led w (.ref R) np nf o (gLed G ++ rest)).Perm (S.led w (.ref R) np nf o (gLed G ++ (R, lstObj (valsOf (rdy G)) (valsOf (rdy G)).length) :: rest)) := (List.perm_middle (l₁ := S.led w (.ref R) np nf o (gLed G))).symm
    have haR' : Apart (S.led w (.ref R) np nf o (gLed G ++ (R, lstObj (valsOf (rdy G)) (valsOf (rdy G)).length) :: rest)) := apart_perm (show Apart ((R, lstObj (valsOf (rdy G)) (valsOf (rdy G)).length) :: S.led w (.ref R) np nf o (gLed G ++ rest)) from haR) hp
    refine fcyc_spec _ _ _ _ _ _ _ _ _ _ (arn none dp un gd env outer) base p loose mean mg mb _ _ ⟨B1, XB, TB, D1⟩ rfl rfl F6 S (.ref R) np nf o ((R, lstObj (valsOf (rdy G)) (valsOf (rdy G)).length) :: rest) G (news_perm N7 hp) haR' hdict hsys hG hGl hB hcl (by dsimp only [arn, Around.deeper]; (first | lia | omega)) (by dsimp only [arn, Around.deeper]; (first | lia | omega)) (.inl rfl) ?_ ?_
    · intro done hfin hall g7 h7 tk7 KT7 GD7 F7 N8
      obtain ⟨B7, _, _, D7⟩ := GD7
      have X7 := XB.keeps B7.stays
      have T7 := TB.keeps B7.stays
      clear N7 F6
      dsimp only [Srt.led] at N8
      (repeat' ((fail_if_success (with_reducible (first | show gz2 | show gz3 | show gz4 | show gz5 | show gz6 | show gz7 | show gz8 | show gz9 | show gz10 | show gz11 | show gz12 | show gz13 | show gz14 | show gz15))); (first | ((with_reducible show wpAny _ _ (execs _ _) _ _ _); k_gentoks) | with_reducible (first | refine execs_one ?_ | (refine execs_cut ?_; intro _ _) | (refine if_cut ?_; intro _ _)) | ((fail_if_success (with_reducible show gz1)); (first | (refine Kh.go ‹_› _ _ ?_; try dsimp only [KnP]) | ((with_reducible show TurnEnd _ _ _ _ _ _); dsimp only [TurnEnd]))) | (k_unfold; (try dsimp only)) | (k_end; wrow_close) | walk1 | (dsimp only; walk1) | (leave1; try dsimp only))))
      rename Fr _ _ _ _ => F9
      rename News _ _ _ _ => N9
      exact ⟨g7, _, _, _, KT7, F9, N9, fun h₀' KT' F' N' B' D' => ret1 done hfin hall h₀' _ _ S R _ rfl rfl KT' ⟨B', XB, TB, D'⟩ F' N' haR'⟩
    · intro ring hring g7 h7 tk7 rr nr KT7 GD7 F7 N8 ha8
      obtain ⟨B7, _, _, D7⟩ := GD7
      have X7 := XB.keeps B7.stays
      have T7 := TB.keeps B7.stays
      clear N7 F6
      dsimp only [Srt.led] at N8
      (repeat' ((fail_if_success (with_reducible (first | show gz2 | show gz3 | show gz4 | show gz5 | show gz6 | show gz7 | show gz8 | show gz9 | show gz10 | show gz11 | show gz12 | show gz13 | show gz14 | show gz15))); (first | ((with_reducible show wpAny _ _ (execs _ _) _ _ _); k_gentoks) | with_reducible (first | refine execs_one ?_ | (refine execs_cut ?_; intro _ _) | (refine if_cut ?_; intro _ _)) | ((fail_if_success (with_reducible show gz1)); (first | (refine Kh.go ‹_› _ _ ?_; try dsimp only [KnP]) | ((with_reducible show TurnEnd _ _ _ _ _ _); dsimp only [TurnEnd]))) | (k_unfold; (try dsimp only)) | (k_end; wrow_close) | walk1 | (dsimp only; walk1) | (leave1; try dsimp only))))
      have hrl := ring_len hcl hring
      rw [List.length_map] at hrl
      refine lst_truthy (vs := valsOf ring) (n := nr) (by k_asm) (.head _) (by rw [List.length_map]; (first | lia | omega)) ?_
      have hne : (!(valsOf ring).isEmpty) = true := by
        have := hring.len
        cases ring with
        | nil => simp at this
        | cons a b => rfl
      rw [hne]
      (repeat' ((fail_if_success (with_reducible (first | show gz2 | show gz3 | show gz4 | show gz5 | show gz6 | show gz7 | show gz8 | show gz9 | show gz10 | show gz11 | show gz12 | show gz13 | show gz14 | show gz15))); (first | ((with_reducible show wpAny _ _ (execs _ _) _ _ _); k_gentoks) | with_reducible (first | refine execs_one ?_ | (refine execs_cut ?_; intro _ _) | (refine if_cut ?_; intro _ _)) | ((fail_if_success (with_reducible show gz1)); (first | (refine Kh.go ‹_› _ _ ?_; try dsimp only [KnP]) | ((with_reducible show TurnEnd _ _ _ _ _ _); dsimp only [TurnEnd]))) | (k_unfold; (try dsimp only)) | (k_end; wrow_close) | walk1 | (dsimp only; walk1) | (leave1; try dsimp only))))
      rename Heap.MadeExcOf _ _ _ _ _ => hx
      rename Fr _ _ _ _ => F9
      rename News _ _ _ _ => N9
      obtain ⟨h₀', KT', FG', B', D'⟩ := ground_turn B FG D hf KT7
      refine leave_raiseX (A := arn none dp un gd env outer) B7 hx F9 (fun q hq => N9 q (.tail _ hq)) ?_
      intro h' R'
      exact ret2 _ hring h₀' g7 _ _ S R _ _ rfl rfl KT' ⟨B', XB, TB, D'⟩ FG' R' haR'
  · rintro i ys nw hi ⟨rfl, rfl⟩ so5 mo5 v I oI C oC D5 m₂ h5 tk5 E' ⟨k, hk5⟩ hC hx F5 N5 off ne T5z U5z h5z k5z
    obtain ⟨e, he⟩ : ∃ e, G[i]? = some e := ⟨G[i], List.getElem?_eq_getElem (by (first | lia | omega))⟩
    have hv : v = .ref e.ia := by unfold gKvs at hk5; rw [List.getElem?_map, he] at hk5; cases hk5; rfl
    subst hv
    have heG := List.mem_of_getElem? he
    have hmi : (e.ia, infoObj e.da e.sa e.np e.nt e.key e.kt) ∈ S.led w .none np nf o (gLed G ++ rest) := ia_mem (kl := []) heG
    have hmda : (e.da, dictOf [] 0) ∈ S.led w .none np nf o (gLed G ++ rest) := da_mem (kl := []) heG
    have N6 : News g L1 h5 ((e.ia, infoObj e.da e.sa e.np e.nt e.key e.kt) :: (e.da, dictOf [] 0) :: (I, oI) :: (C, oC) :: (D5, LCg.lst (valsOf (rdy (G.take i)))) :: (vw, ({ cls := .type "dict_values", data := .fields #[.ref S.d] } : Obj)) :: S.led w .none np nf o (gLed G ++ rest)) := fun q hq => by
      rcases List.mem_cons.mp hq with rfl | hq
      · exact N5 _ (.tail _ (.tail _ (.tail _ (.tail _ hmi))))
      · rcases List.mem_cons.mp hq with rfl | hq
        · exact N5 _ (.tail _ (.tail _ (.tail _ (.tail _ hmda))))
        · exact N5 _ hq
    clear F4 N4 N5
    have htk : ∀ (b : Bool), b = decide (e.np = 0) → valsOf (rdy (G.take (i + 1))) = if b = true then valsOf (rdy (G.take i)) ++ [.int e.key e.kt] else valsOf (rdy (G.take i)) := fun b hb => by
      subst hb
      unfold rdy valsOf
      rw [List.take_add_one, he]
      simp only [Option.toList, List.filter_append, List.map_append, List.filter_cons, List.filter_nil]
      by_cases hz : e.np = 0 <;> simp [hz]
    (repeat' ((fail_if_success (with_reducible (first | show gz2 | show gz3 | show gz4 | show gz5 | show gz6 | show gz7 | show gz8 | show gz9 | show gz10 | show gz11 | show gz12 | show gz13 | show gz14 | show gz15))); (first | ((with_reducible show wpAny _ _ (execs _ _) _ _ _); k_gentoks) | with_reducible (first | refine execs_one ?_ | (refine execs_cut ?_; intro _ _) | (refine if_cut ?_; intro _ _)) | ((fail_if_success (with_reducible show gz1)); (first | (refine Kh.go ‹_› _ _ ?_; try dsimp only [KnP]) | ((with_reducible show TurnEnd _ _ _ _ _ _); dsimp only [TurnEnd]))) | (k_unfold; (try dsimp only)) | (k_end; wrow_close) | walk1 | (dsimp only; walk1) | (leave1; try dsimp only))))
    · rename Fr _ _ _ _ => F7
      rename News _ _ _ _ => N7
      exact StopP (h5z _ _) (ex3_i _ _ _ (an7_i rfl F7 (fun q hq => N7 q (.tail _ (.tail _ hq))) off rfl rfl (by rw [htk true (by simp; assumption), if_pos rfl])))
    · rename Fr _ _ _ _ => F7
      rename News _ _ _ _ => N7
      exact StopP (k5z _) (ex3_i _ _ _ (an7_i rfl F7 (fun q hq => N7 q (.tail _ (.tail _ hq))) off rfl rfl (by rw [htk false (by simp; assumption), if_neg (by decide)])))
end
section
theorem meets_bool_list (l : Addr) (vs : List Value) (hfit : vs.length < 1000) :
    Meets (Builtin.«bool.__new__» ⟨[.type "bool", .ref l], []⟩) (fun _ R s => s.heap.IsList l vs.toArray ∧ R (.ok (.ret (.bool (!vs.isEmpty)))) { s with toks := s.toks + 1 + 1 }) :=
  Meets.of_wp fun prog w A R s hs => by
    obtain ⟨hp, g, d, tk, os⟩ := s
    obtain ⟨hl, hs⟩ := hs
    have f1 := F.conv_sub_bool
    repeat (any_goals (first | assumption | (with_reducible refine wpAny_truthy_list hl (by rw [List.size_toArray]; (first | lia | omega)) ?_) | wp_step))
    all_goals first | exact ⟨_, rfl, by simpa using hs⟩ | exact (by simpa using hs) | skip
theorem bool_list {prog : Program} {w : World} {A : Around} {E : Value → Shared → Prop} {s : Shared} {h₀ : Heap} {L : Addr} {news : List (Addr × Obj)} {l : Addr} {vs : List Value} {n : Nat} {Q : Value → Shared → Prop} (N : News h₀ L s.heap news) (hm : (l, lstObj vs n) ∈ news) (hfit : vs.length < 1000) (h : Q (.bool (!vs.isEmpty)) { s with toks := s.toks + 1 + 1 }) :
    wpAny (model prog w) A (call (.type "bool") [.ref l]) Q E s :=
  call_bool_1 (meets_bool_list l vs hfit) ⟨lst_is N hm, show wants (fun obj s₁ => s₁.TypeIs obj "bool" ∧ Q obj s₁) E _ _ from ⟨rfl, h⟩⟩
theorem active_spec {prog : Program} {w : World} (dp un : Nat) (gd : Option (List Code)) (env : Env) (outer : List Env) (h₀ : Heap) (L : Addr) (m : Str → Option Value) (s : Shared)
    (Q E : Value → Shared → Prop) (C : Cx w env outer h₀ L) (F : Fr h₀ L s.heap m) (S : Srt) (R : Addr) (a b : Int) (ta tb : Tok) (o : Obj) (rest : List (Addr × Obj)) (rl : List (Int × Tok)) (n : Nat)
    (N : News h₀ L s.heap ((R, lstObj (valsOf rl) n) :: S.led w (.ref R) (.int a ta) (.int b tb) o rest)) (hl : rl.length < 1000)
    (hd : dp + 8 < recursionLimit) (hu : un + 64 < cLine)
    (ret : ∀ h' tk', Fr h₀ L h' m → News h₀ L h' ((R, lstObj (valsOf rl) n) :: S.led w (.ref R) (.int a ta) (.int b tb) o rest) → Q (.bool (decide (b < a) || !rl.isEmpty)) { s with heap := h', toks := tk' }) :
    wpAny (model prog w) (arn none dp un gd env outer) (call (.ref 106) [.ref S.x]) Q E s := by
  refine cx_e C ?_
  intro p loose mean mg mb A₀ base B X T hf hk
  refine wpAny_call ?_
  k_dflt (refine' code_def ?k1 ?k2 ?k3 ?k4 ?k5 ?kA ?kF ?kK ?k6 ?k7 ?k8 ?k9 ?kB ?_ ?c2 ?c3 ?c4 ?c5; (case kA => exact rfl); (case kF => first | assumption | exact rfl); (case kK => first | assumption | exact rfl); (case k1 => k_asm); (case k2 => k_asm); (case k3 => k_asm); (case k4 => k_asm); (case k5 => k_asm); (case k6 => k_is); (case k7 => k_is); (case k8 => k_room); (case k9 => first | exact BindsTo.of_eq rfl | exact binds_K (by k_in) rfl (by k_is) rfl rfl rfl); (case c5 => decide); (case kB => exact locs rfl); (case c2 => exact rfl); (case c3 => exact rfl); (case c4 => exact rfl))
  intro g L1 h1 FG F1 N1 B1 X1 T1
  (try dsimp only)
  (try k_fold)
  have F1' := frB [(Str.ofString "self", .ref S.x)] F1 ⟨rfl, trivial⟩
  clear F1
  (repeat' ((fail_if_success (with_reducible (first | show gz2 | show gz3 | show gz4 | show gz5 | show gz6 | show gz7 | show gz8 | show gz9 | show gz10 | show gz11 | show gz12 | show gz13 | show gz14 | show gz15))); (first | ((with_reducible show wpAny _ _ (execs _ _) _ _ _); k_gentoks) | with_reducible (first | refine execs_one ?_ | (refine execs_cut ?_; intro _ _) | (refine if_cut ?_; intro _ _)) | ((fail_if_success (with_reducible show gz1)); (first | (refine Kh.go ‹_› _ _ ?_; try dsimp only [KnP]) | ((with_reducible show TurnEnd _ _ _ _ _ _); dsimp only [TurnEnd]))) | (k_unfold; (try dsimp only)) | (k_end; wrow_close) | walk1 | (dsimp only; walk1) | (leave1; try dsimp only))))
  · rename (_ : Int) < _ => hb
    rw [decide_eq_true hb, Bool.true_or] at ret
    rw [decide_eq_true hb]
    exact ret _ _ (by k_asm) (by k_asm)
  · rename ¬ _ => hb
    refine bool_list (vs := valsOf rl) (n := n) (by k_asm) (.head _) (by rw [List.length_map]; exact hl) ?_
    rw [decide_eq_false hb, Bool.false_or] at ret
    rw [show (valsOf rl).isEmpty = rl.isEmpty from by cases rl <;> rfl]
    (repeat' ((fail_if_success (with_reducible (first | show gz2 | show gz3 | show gz4 | show gz5 | show gz6 | show gz7 | show gz8 | show gz9 | show gz10 | show gz11 | show gz12 | show gz13 | show gz14 | show gz15))); (first | ((with_reducible show wpAny _ _ (execs _ _) _ _ _); k_gentoks) | with_reducible (first | refine execs_one ?_ | (refine execs_cut ?_; intro _ _) | (refine if_cut ?_; intro _ _)) | ((fail_if_success (with_reducible show gz1)); (first | (refine Kh.go ‹_› _ _ ?_; try dsimp only [KnP]) | ((with_reducible show TurnEnd _ _ _ _ _ _); dsimp only [TurnEnd]))) | (k_unfold; (try dsimp only)) | (k_end; wrow_close) | walk1 | (dsimp only; walk1) | (leave1; try dsimp only))))
    exact ret _ _ (by k_asm) (by k_asm)
end
section
noncomputable def outV (V : View) (ks : List Int) : View := ks.foldl (fun V k => atKey k (fun v => (v.1, -1, v.2.2)) V) V
theorem perm_in {α : Type} (x r : α) (A B rest : List α) : (x :: (A ++ (B ++ r :: rest))).Perm (A ++ (B ++ r :: x :: rest)) := by
  have h1 : A ++ (B ++ r :: x :: rest) = (A ++ B ++ [r]) ++ x :: rest := by simp
  have h2 : x :: (A ++ (B ++ r :: rest)) = x :: ((A ++ B ++ [r]) ++ rest) := by simp
  rw [h1, h2]
  exact List.perm_middle.symm
theorem perm_mid3 {α : Type} (A B : List α) (r : α) (rest : List α) : (A ++ (B ++ r :: rest)).Perm (r :: (A ++ (B ++ rest))) := by
  rw [← List.append_assoc, ← List.append_assoc]
  exact List.perm_middle
theorem ready_spec {prog : Program} {w : World} (dp un : Nat) (gd : Option (List Code)) (env : Env) (outer : List Env) (h₀ : Heap) (L : Addr) (m : Str → Option Value) (s : Shared)
    (Q E : Value → Shared → Prop) (C : Cx w env outer h₀ L) (F : Fr h₀ L s.heap m) (S : Srt) (R : Addr) (a : Int) (ta : Tok) (nf : Value) (o : Obj) (rest : List (Addr × Obj)) (G : List Nd) (rl : List (Int × Tok)) (n : Nat)
    (N : News h₀ L s.heap (S.led w (.ref R) (.int a ta) nf o (gLed G ++ (R, lstObj (valsOf rl) n) :: rest))) (ha : Apart (S.led w (.ref R) (.int a ta) nf o (gLed G ++ (R, lstObj (valsOf rl) n) :: rest)))
    (hdict : o.IsDictOf (intKind prog w) (gKvs G)) (hsys : (S.d == sysModules) = false) (hG : (G.map (·.key)).Nodup) (hGl : G.length < 50) (hl : rl.length < 50) (hne : rl ≠ []) (hin : ∀ k ∈ rl, ∃ e ∈ G, e.key = k.1)
    (hd : dp + 8 < recursionLimit) (hu : un + 64 < cLine)
    (ret : ∀ h' tk' G' T ta' n', view G' = outV (view G) (rl.map (·.1)) → gKvs G' = gKvs G → Fr h₀ L h' m →
      News h₀ L h' (S.led w (.ref R) (.int (a + rl.length) ta') nf o (gLed G' ++ (R, lstObj [] n') :: (T, tupObj (valsOf rl) 0) :: rest)) → Apart (S.led w (.ref R) (.int (a + rl.length) ta') nf o (gLed G' ++ (R, lstObj [] n') :: (T, tupObj (valsOf rl) 0) :: rest)) → Q (.ref T) { s with heap := h', toks := tk' }) :
    wpAny (model prog w) (arn none dp un gd env outer) (call (.ref 99) [.ref S.x]) Q E s := by
  refine cx_e C ?_
  intro p loose mean mg mb A₀ base B X T hf hk
  refine wpAny_call ?_
  k_dflt (refine' code_def ?k1 ?k2 ?k3 ?k4 ?k5 ?kA ?kF ?kK ?k6 ?k7 ?k8 ?k9 ?kB ?_ ?c2 ?c3 ?c4 ?c5; (case kA => exact rfl); (case kF => first | assumption | exact rfl); (case kK => first | assumption | exact rfl); (case k1 => k_asm); (case k2 => k_asm); (case k3 => k_asm); (case k4 => k_asm); (case k5 => k_asm); (case k6 => k_is); (case k7 => k_is); (case k8 => k_room); (case k9 => first | exact BindsTo.of_eq rfl | exact binds_K (by k_in) rfl (by k_is) rfl rfl rfl); (case c5 => decide); (case kB => exact locs rfl); (case c2 => exact rfl); (case c3 => exact rfl); (case c4 => exact rfl))
  intro g L1 h1 FG F1 N1 B1 X1 T1
  (try dsimp only)
  (try k_fold)
  have F1' := frB [(Str.ofString "self", .ref S.x)] F1 ⟨rfl, trivial⟩
  clear F1
  (repeat' ((fail_if_success (with_reducible (first | show gz2 | show gz3 | show gz4 | show gz5 | show gz6 | show gz7 | show gz8 | show gz9 | show gz10 | show gz11 | show gz12 | show gz13 | show gz14 | show gz15))); (first | ((with_reducible show wpAny _ _ (execs _ _) _ _ _); k_gentoks) | with_reducible (first | refine execs_one ?_ | (refine execs_cut ?_; intro _ _) | (refine if_cut ?_; intro _ _)) | ((fail_if_success (with_reducible show gz1)); (first | (refine Kh.go ‹_› _ _ ?_; try dsimp only [KnP]) | ((with_reducible show TurnEnd _ _ _ _ _ _); dsimp only [TurnEnd]))) | (k_unfold; (try dsimp only)) | (k_end; wrow_close) | walk1 | (dsimp only; walk1) | (leave1; try dsimp only))))
  rename Fr _ _ _ _ => F2
  rename News _ _ _ _ => N2
  have hmR : (R, lstObj (valsOf rl) n) ∈ S.led w (.ref R) (.int a ta) nf o (gLed G ++ (R, lstObj (valsOf rl) n) :: rest) := .tail _ (.tail _ (.tail _ (List.mem_append_right _ (.head _))))
  refine kde_tupleOf (zs := valsOf rl) F2 N2 (lst_is N2 hmR) (by simp; (first | lia | omega)) rfl ?_
  intro Tp h3 F3 N3 l3
  (repeat' ((fail_if_success (with_reducible (first | show gz2 | show gz3 | show gz4 | show gz5 | show gz6 | show gz7 | show gz8 | show gz9 | show gz10 | show gz11 | show gz12 | show gz13 | show gz14 | show gz15))); (first | ((with_reducible show wpAny _ _ (execs _ _) _ _ _); k_gentoks) | with_reducible (first | refine execs_one ?_ | (refine execs_cut ?_; intro _ _) | (refine if_cut ?_; intro _ _)) | ((fail_if_success (with_reducible show gz1)); (first | (refine Kh.go ‹_› _ _ ?_; try dsimp only [KnP]) | ((with_reducible show TurnEnd _ _ _ _ _ _); dsimp only [TurnEnd]))) | (k_unfold; (try dsimp only)) | (k_end; wrow_close) | walk1 | (dsimp only; walk1) | (leave1; try dsimp only))))
  refine my_for ?_
  (repeat' ((fail_if_success (with_reducible (first | show gz2 | show gz3 | show gz4 | show gz5 | show gz6 | show gz7 | show gz8 | show gz9 | show gz10 | show gz11 | show gz12 | show gz13 | show gz14 | show gz15))); (first | ((with_reducible show wpAny _ _ (execs _ _) _ _ _); k_gentoks) | with_reducible (first | refine execs_one ?_ | (refine execs_cut ?_; intro _ _) | (refine if_cut ?_; intro _ _)) | ((fail_if_success (with_reducible show gz1)); (first | (refine Kh.go ‹_› _ _ ?_; try dsimp only [KnP]) | ((with_reducible show TurnEnd _ _ _ _ _ _); dsimp only [TurnEnd]))) | (k_unfold; (try dsimp only)) | (k_end; wrow_close) | walk1 | (dsimp only; walk1) | (leave1; try dsimp only))))
  rename Fr _ _ _ _ => F4
  rename News _ _ _ _ => N4
  have haT := apart_lt (p := (Tp, tupObj (valsOf rl) 0)) l3 ha
  have hpT : ((Tp, tupObj (valsOf rl) 0) :: S.led w (.ref R) (.int a ta) nf o (gLed G ++ (R, lstObj (valsOf rl) n) :: rest)).Perm (S.led w (.ref R) (.int a ta) nf o (gLed G ++ (R, lstObj (valsOf rl) n) :: (Tp, tupObj (valsOf rl) 0) :: rest)) :=
    perm_in _ _ (S.led w (.ref R) (.int a ta) nf o []) (gLed G) rest
  refine tit_make (vs := valsOf rl) (n := 0) F4 N4 (.head _) ?_
  intro it oi h5 hit F5 N5 l5
  have haI := apart_lt (p := (it, oi)) l5 haT
  have F6 := frB [(Str.ofString "self", .ref S.x), (Str.ofString "result", .ref Tp), (Str.ofString "n2i", .ref S.d)] F5 ⟨rfl, rfl, rfl, trivial⟩
  (try clear N4); (try clear N3); (try clear N2); (try clear F5)
  generalize hY : (R, lstObj (valsOf rl) n) :: (Tp, tupObj (valsOf rl) 0) :: rest = Y at hpT
  have hTY : (Tp, tupObj (valsOf rl) 0) ∈ Y := by rw [← hY]; simp
  refine Stop.mk (my_forLoop (fun k s' => ∃ (i : Nat) (oi' : Obj) (G' : List Nd) (h : Heap) (tk : Nat) (u : Str → Option Value), k = rl.length + 1 - i ∧ i ≤ rl.length ∧ s' = { s with heap := h, toks := tk } ∧ IsTIt oi' Tp i ∧
    Fr g L1 h (kB u [(Str.ofString "self", .ref S.x), (Str.ofString "result", .ref Tp), (Str.ofString "n2i", .ref S.d)]) ∧ News g L1 h ((it, oi') :: S.led w (.ref R) (.int a ta) nf o (gLed G' ++ Y)) ∧ Apart ((it, oi') :: S.led w (.ref R) (.int a ta) nf o (gLed G' ++ Y)) ∧
    gKvs G' = gKvs G ∧ (G'.map (·.key)) = G.map (·.key) ∧ view G' = outV (view G) ((rl.take i).map (·.1)))
    (fun s' => ∃ (G' : List Nd) (h : Heap) (tk : Nat) (u : Str → Option Value), s' = { s with heap := h, toks := tk } ∧ Fr g L1 h (kB u [(Str.ofString "self", .ref S.x), (Str.ofString "result", .ref Tp)]) ∧ News g L1 h (S.led w (.ref R) (.int a ta) nf o (gLed G' ++ Y)) ∧ Apart (S.led w (.ref R) (.int a ta) nf o (gLed G' ++ Y)) ∧
    gKvs G' = gKvs G ∧ view G' = outV (view G) (rl.map (·.1))) ?_ (rl.length + 1)
    (ex6_i 0 oi G _ _ _ (an10_i rfl (Nat.zero_le _) rfl hit F6 (news_perm N5 (hpT.cons _)) (apart_perm haI (hpT.cons _)) rfl rfl rfl)) ?_)
  · intro I1z R1z Q1z hI1z hR1z hQ1z k s' hzz
    refine ex6_e hzz ?_
    clear hzz
    intro i oi' G' h tk u hzz
    refine an10_e hzz ?_
    clear hzz
    rintro rfl hi rfl hit' F8 N8 ha8 hkv8 hkk8 hv8
    by_cases hlt : i < rl.length
    · obtain ⟨k, tk0, hk0⟩ : ∃ k t, rl[i]? = some (k, t) := ⟨_, _, List.getElem?_eq_getElem hlt⟩
      refine tit_next (vs := valsOf rl) (n := 0) (v := .int k tk0) F8 N8 hit' (apart_ne ha8) (.tail _ (.tail _ (.tail _ (List.mem_append_right _ hTY)))) (by rw [List.getElem?_map, hk0]; rfl) ?_
      intro oi2 h10 hit2 F10 N10
      dsimp only [NextIs]
      refine wpAny_assign_Name ?_
      (repeat' ((fail_if_success (with_reducible (first | show gz2 | show gz3 | show gz4 | show gz5 | show gz6 | show gz7 | show gz8 | show gz9 | show gz10 | show gz11 | show gz12 | show gz13 | show gz14 | show gz15))); (first | ((with_reducible show wpAny _ _ (execs _ _) _ _ _); k_gentoks) | with_reducible (first | refine execs_one ?_ | (refine execs_cut ?_; intro _ _) | (refine if_cut ?_; intro _ _)) | ((fail_if_success (with_reducible show gz1)); (first | (refine Kh.go ‹_› _ _ ?_; try dsimp only [KnP]) | ((with_reducible show TurnEnd _ _ _ _ _ _); dsimp only [TurnEnd]))) | (k_unfold; (try dsimp only)) | (k_end; wrow_close) | walk1 | (dsimp only; walk1) | (leave1; try dsimp only))))
      rename Fr _ _ _ _ => F11
      rename News _ _ _ _ => N11
      obtain ⟨e0, he0, hek0⟩ := hin (k, tk0) (List.mem_of_getElem? hk0)
      obtain ⟨e, heG, hek⟩ : ∃ e ∈ G', e.key = k := by
        have : k ∈ G'.map (·.key) := by rw [hkk8]; exact List.mem_map.mpr ⟨e0, he0, hek0⟩
        obtain ⟨e, h1, h2⟩ := List.mem_map.mp this
        exact ⟨e, h1, h2⟩
      subst hek
      have hG' : (G'.map (·.key)).Nodup := by rw [hkk8]; exact hG
      refine kda_item (knd := intKind _ _) (k := e.key) (v := .ref e.ia) (d := S.d) (o := o) N11 (.tail _ (.tail _ (.tail _ (.head _)))) (hkv8 ▸ hdict) (intKind_is _ _ _ _) (gKvs_some hG' heG) ?_
      obtain ⟨G1, G2, rfl⟩ := List.append_of_mem heG
      have fp := focus_perm ((it, oi2) :: S.led w (.ref R) (.int a ta) nf o []) Y [] G1 G2 e
      have N13 := news_perm N11 fp
      have ha13 := apart_perm (show Apart ((it, oi2) :: S.led w (.ref R) (.int a ta) nf o (gLed (G1 ++ e :: G2) ++ Y)) from ha8) fp
      have ha13' := ha13
      (try clear N11); (try clear N10)
      dsimp only [Nd.led, List.cons_append, List.nil_append] at N13 ha13
      have b1 := apart_ne ha13
      (repeat' ((fail_if_success (with_reducible (first | show gz2 | show gz3 | show gz4 | show gz5 | show gz6 | show gz7 | show gz8 | show gz9 | show gz10 | show gz11 | show gz12 | show gz13 | show gz14 | show gz15))); (first | ((with_reducible show wpAny _ _ (execs _ _) _ _ _); k_gentoks) | with_reducible (first | refine execs_one ?_ | (refine execs_cut ?_; intro _ _) | (refine if_cut ?_; intro _ _)) | ((fail_if_success (with_reducible show gz1)); (first | (refine Kh.go ‹_› _ _ ?_; try dsimp only [KnP]) | ((with_reducible show TurnEnd _ _ _ _ _ _); dsimp only [TurnEnd]))) | (k_unfold; (try dsimp only)) | (k_end; wrow_close) | walk1 | (dsimp only; walk1) | (leave1; try dsimp only))))
      rename Fr _ _ _ _ => F14
      rename News _ _ _ _ => N14
      obtain ⟨tq, N15⟩ : ∃ tq, News g L1 _ ((⟨e.key, e.kt, e.ia, e.da, e.sa, -1, tq, e.sc, e.se⟩ : Nd).led ++ ((it, oi2) :: S.led w (.ref R) (.int a ta) nf o [] ++ (gLed (G1 ++ G2) ++ Y))) := ⟨_, N14⟩
      have fp2 := focus_perm ((it, oi2) :: S.led w (.ref R) (.int a ta) nf o []) Y [] G1 G2 ⟨e.key, e.kt, e.ia, e.da, e.sa, -1, tq, e.sc, e.se⟩
      have hsp := nd_split hG' rfl
      refine StopN hI1z (rl.length - i) (sb2 (by assumption)) (ex6_i (i + 1) oi2 (G1 ++ (⟨e.key, e.kt, e.ia, e.da, e.sa, -1, tq, e.sc, e.se⟩ : Nd) :: G2) _ _ _ (an10_i (sb1 _ _) (by assumption) rfl hit2 (frB _ F14 ⟨rfl, rfl, rfl, trivial⟩) (news_perm N15 fp2.symm) (apart_perm (show Apart ((⟨e.key, e.kt, e.ia, e.da, e.sa, -1, tq, e.sc, e.se⟩ : Nd).led ++ ((it, oi2) :: S.led w (.ref R) (.int a ta) nf o [] ++ (gLed (G1 ++ G2) ++ Y))) from ha13') fp2.symm) ?_ ?_ ?_))
      · rw [← hkv8]; unfold gKvs; simp
      · rw [← hkk8]; simp
      · rw [List.take_add_one, hk0, Option.toList, List.map_append, List.map_cons, List.map_nil]
        unfold outV at hv8 ⊢
        rw [List.foldl_append, ← hv8]
        exact view_at hsp.1 hsp.2 _ rfl
    · have hie : i = rl.length := by (first | lia | omega)
      subst hie
      refine tit_end (vs := valsOf rl) (n := 0) rfl F8 N8 hit' (apart_ne ha8) (.tail _ (.tail _ (.tail _ (List.mem_append_right _ hTY)))) (by simp) ?_
      intro h10 F10 N10
      rw [List.take_length] at hv8
      exact StopP (hR1z _) (ex4_i G' _ _ _ (an6_i rfl (frB _ F10 ⟨rfl, rfl, trivial⟩) N10 (apart_tail ha8) hkv8 hv8))
  · intro s' hzz
    refine ex4_e hzz ?_
    clear hzz
    intro G' h tk u hzz
    refine an6_e hzz ?_
    clear hzz
    rintro rfl F8 N8 ha8 hkv8 hv8
    subst hY
    have fpR := (perm_mid3 (S.led w (.ref R) (.int a ta) nf o []) (gLed G') (R, lstObj (valsOf rl) n) ((Tp, tupObj (valsOf rl) 0) :: rest))
    have N9 := news_perm N8 fpR
    have ha9 := apart_perm ha8 fpR
    clear N8
    dsimp only [List.cons_append, List.nil_append] at N9 ha9
    generalize hr4 : gLed G' ++ (Tp, tupObj (valsOf rl) 0) :: rest = r4 at N9 ha9
    have hT4 : (Tp, tupObj (valsOf rl) 0) ∈ r4 := by rw [← hr4]; simp
    (repeat' ((fail_if_success (with_reducible (first | show gz2 | show gz3 | show gz4 | show gz5 | show gz6 | show gz7 | show gz8 | show gz9 | show gz10 | show gz11 | show gz12 | show gz13 | show gz14 | show gz15))); (first | ((with_reducible show wpAny _ _ (execs _ _) _ _ _); k_gentoks) | with_reducible (first | refine execs_one ?_ | (refine execs_cut ?_; intro _ _) | (refine if_cut ?_; intro _ _)) | ((fail_if_success (with_reducible show gz1)); (first | (refine Kh.go ‹_› _ _ ?_; try dsimp only [KnP]) | ((with_reducible show TurnEnd _ _ _ _ _ _); dsimp only [TurnEnd]))) | (k_unfold; (try dsimp only)) | (k_end; wrow_close) | walk1 | (dsimp only; walk1) | (leave1; try dsimp only))))
    rename Fr _ _ _ _ => F9
    rename News _ _ _ _ => N9
    refine kl_clear (its := (valsOf rl).toArray) (n := n) F9 N9 (upd_at (l₁ := []) ha9) (by simpa using hne) (by rw [sizeLine_eq]; simp; (first | lia | omega)) ?_
    intro h10 F10 N10
    clear N9 F9
    (repeat' ((fail_if_success (with_reducible (first | show gz2 | show gz3 | show gz4 | show gz5 | show gz6 | show gz7 | show gz8 | show gz9 | show gz10 | show gz11 | show gz12 | show gz13 | show gz14 | show gz15))); (first | ((with_reducible show wpAny _ _ (execs _ _) _ _ _); k_gentoks) | with_reducible (first | refine execs_one ?_ | (refine execs_cut ?_; intro _ _) | (refine if_cut ?_; intro _ _)) | ((fail_if_success (with_reducible show gz1)); (first | (refine Kh.go ‹_› _ _ ?_; try dsimp only [KnP]) | ((with_reducible show TurnEnd _ _ _ _ _ _); dsimp only [TurnEnd]))) | (k_unfold; (try dsimp only)) | (k_end; wrow_close) | walk1 | (dsimp only; walk1) | (leave1; try dsimp only))))
    rename Fr _ _ _ _ => F11
    rename News _ _ _ _ => N11
    refine tup_len (vs := valsOf rl) (n := 0) N11 (.tail _ (.tail _ (.tail _ (.tail _ hT4)))) (by simp; (first | lia | omega)) ?_
    rw [List.length_map]
    (repeat' ((fail_if_success (with_reducible (first | show gz2 | show gz3 | show gz4 | show gz5 | show gz6 | show gz7 | show gz8 | show gz9 | show gz10 | show gz11 | show gz12 | show gz13 | show gz14 | show gz15))); (first | ((with_reducible show wpAny _ _ (execs _ _) _ _ _); k_gentoks) | with_reducible (first | refine execs_one ?_ | (refine execs_cut ?_; intro _ _) | (refine if_cut ?_; intro _ _)) | ((fail_if_success (with_reducible show gz1)); (first | (refine Kh.go ‹_› _ _ ?_; try dsimp only [KnP]) | ((with_reducible show TurnEnd _ _ _ _ _ _); dsimp only [TurnEnd]))) | (k_unfold; (try dsimp only)) | (k_end; wrow_close) | walk1 | (dsimp only; walk1) | (leave1; try dsimp only))))
    k_dflt (refine' set_dict ?k1 ?k2 ?k3 ?k4 ?k5 ?k6 ?k7 ?k8 ?k9 ?k10 ?k11 ?k12 ?k13 ?_; (case k1 => k_asm); (case k2 => k_asm); (case k3 => k_asm); (case k4 => k_inst); (case k5 => exact rfl); (case k6 => k_is); (case k7 => k_is); (case k8 => k_is); (case k9 => k_is); (case k10 => k_get); (case k11 => exact put_np); (case k12 => exact upd_at (l₁ := [_, _]) (show Apart ((R, lstObj [] (n + 1)) :: S.led w (.ref R) (.int a ta) nf o r4) from ha9)); (case k13 => exact Nat.le_of_ble_eq_true rfl); k_whole)
    intro h12 F12 N12
    (repeat' ((fail_if_success (with_reducible (first | show gz2 | show gz3 | show gz4 | show gz5 | show gz6 | show gz7 | show gz8 | show gz9 | show gz10 | show gz11 | show gz12 | show gz13 | show gz14 | show gz15))); (first | ((with_reducible show wpAny _ _ (execs _ _) _ _ _); k_gentoks) | with_reducible (first | refine execs_one ?_ | (refine execs_cut ?_; intro _ _) | (refine if_cut ?_; intro _ _)) | ((fail_if_success (with_reducible show gz1)); (first | (refine Kh.go ‹_› _ _ ?_; try dsimp only [KnP]) | ((with_reducible show TurnEnd _ _ _ _ _ _); dsimp only [TurnEnd]))) | (k_unfold; (try dsimp only)) | (k_end; wrow_close) | walk1 | (dsimp only; walk1) | (leave1; try dsimp only))))
    rename Fr _ _ _ _ => F13
    rename News _ _ _ _ => N13
    subst hr4
    obtain ⟨tq, N14⟩ : ∃ tq, News h₀ L _ ((R, lstObj [] (n + 1)) :: S.led w (.ref R) (.int (a + rl.length) tq) nf o (gLed G' ++ (Tp, tupObj (valsOf rl) 0) :: rest)) := ⟨_, N13⟩
    have fpQ := perm_mid3 (S.led w (.ref R) (.int (a + rl.length) tq) nf o []) (gLed G') (R, lstObj [] (n + 1)) ((Tp, tupObj (valsOf rl) 0) :: rest)
    exact ret _ _ G' Tp tq (n + 1) hv8 hkv8 (by k_asm) (news_perm N14 fpQ.symm) (apart_perm (show Apart ((R, lstObj [] (n + 1)) :: S.led w (.ref R) (.int (a + rl.length) tq) nf o (gLed G' ++ (Tp, tupObj (valsOf rl) 0) :: rest)) from ha9) fpQ.symm)
end
section
noncomputable def npOf (V : View) (k : Int) : Int := ((V.find? (fun v => decide (v.1 = k))).map (·.2.1)).getD 0
noncomputable def decV (st : View × List Int) (c : Int) : View × List Int :=
  (atKey c (fun v => (v.1, v.2.1 - 1, v.2.2)) st.1, if npOf st.1 c = 1 then st.2 ++ [c] else st.2)
noncomputable def doneV (st : View × List Int) (k : Int) : View × List Int := (scOf st.1 k).foldl decV (atKey k (fun v => (v.1, -2, v.2.2)) st.1, st.2)
noncomputable def fixN (e : Nd) : Nd := { e with np := 0, nt := 0 }
theorem fix_kvs {G G' : List Nd} (h : G'.map fixN = G.map fixN) : gKvs G' = gKvs G := by
  have := congrArg (List.map fun e : Nd => (e.key, Value.ref e.ia)) h
  rw [List.map_map, List.map_map] at this
  exact this
theorem fix_keys {G G' : List Nd} (h : G'.map fixN = G.map fixN) : G'.map (·.key) = G.map (·.key) := by
  have := congrArg (List.map fun e : Nd => e.key) h
  rw [List.map_map, List.map_map] at this
  exact this
theorem fix_in {G G' : List Nd} (h : G'.map fixN = G.map fixN) {k : Int} (hk : ∃ e ∈ G, e.key = k) : ∃ e ∈ G', e.key = k := by
  obtain ⟨e, he, rfl⟩ := hk
  have : e.key ∈ G'.map (·.key) := by rw [fix_keys h]; exact List.mem_map_of_mem he
  obtain ⟨e', h1, h2⟩ := List.mem_map.mp this
  exact ⟨e', h1, h2⟩
theorem fix_mem {G G' : List Nd} (h : G'.map fixN = G.map fixN) {e : Nd} (he : e ∈ G') : ∃ e0 ∈ G, fixN e0 = fixN e := by
  have : fixN e ∈ G.map fixN := by rw [← h]; exact List.mem_map_of_mem he
  obtain ⟨e0, h1, h2⟩ := List.mem_map.mp this
  exact ⟨e0, h1, h2⟩
theorem fix_eq {a b : Nd} (h : fixN a = fixN b) : a.sa = b.sa ∧ a.sc = b.sc ∧ a.se = b.se := by
  have h1 := congrArg Nd.sa h
  have h2 := congrArg Nd.sc h
  have h3 := congrArg Nd.se h
  exact ⟨h1, h2, h3⟩
theorem npOf_nd {G : List Nd} (hG : (G.map (·.key)).Nodup) {e : Nd} (he : e ∈ G) : npOf (view G) e.key = e.np := by
  induction G with
  | nil => cases he
  | cons a r ih =>
    simp only [List.map_cons, List.nodup_cons] at hG
    unfold npOf view
    rw [List.map_cons, List.find?_cons]
    rcases List.mem_cons.mp he with rfl | h
    · simp
    · have hne : a.key ≠ e.key := fun q => hG.1 (by rw [q]; exact List.mem_map_of_mem h)
      simp only [hne, decide_false]
      exact ih hG.2 h
theorem perm_RD {α : Type} (x r : α) (A B rest : List α) : (x :: (A ++ (B ++ r :: rest))).Perm (r :: (A ++ (B ++ x :: rest))) :=
  ((perm_mid3 A B r rest).cons x).trans ((List.Perm.swap _ _ _).trans ((perm_mid3 A B x rest).symm.cons r))
theorem done_code {prog : Program} {w : World} (dp un : Nat) (gd : Option (List Code)) (env : Env) (outer : List Env) (h₀ : Heap) (L : Addr) (m : Str → Option Value) (s : Shared)
    (Q E : Value → Shared → Prop) (C : Cx w env outer h₀ L) (F : Fr h₀ L s.heap m) (S : Srt) (R : Addr) (np : Value) (b : Int) (tb : Tok) (o : Obj) (rest : List (Addr × Obj)) (G : List Nd) (rl : List (Int × Tok)) (n : Nat) (ks : List (Int × Tok))
    (N : News h₀ L s.heap (S.led w (.ref R) np (.int b tb) o (gLed G ++ (R, lstObj (valsOf rl) n) :: rest))) (ha : Apart (S.led w (.ref R) np (.int b tb) o (gLed G ++ (R, lstObj (valsOf rl) n) :: rest)))
    (hdict : o.IsDictOf (intKind prog w) (gKvs G)) (hsys : (S.d == sysModules) = false) (hG : (G.map (·.key)).Nodup) (hGl : G.length < 50) (hl : rl.length < 50) (hkl : ks.length ≤ 4) (hB : Bnd (view G)) (hcl : ∀ e ∈ G, ∀ c ∈ e.sc.map (·.1), ∃ e' ∈ G, e'.key = c)
    (hin : ∀ k ∈ ks, ∃ e ∈ G, e.key = k.1) (hnd : (ks.map (·.1)).Nodup) (hout : ∀ (V : View) (r : List Int) (i : Nat) (k : Int), (V, r) = ((ks.take i).map (·.1)).foldl doneV (view G, rl.map (·.1)) → (ks.map (·.1))[i]? = some k → npOf V k = -1)
    (hd : dp + 8 < recursionLimit) (hu : un + 64 < cLine)
    (ret : ∀ h' tk' G' rl' tb' n', (view G', rl'.map (·.1)) = (ks.map (·.1)).foldl doneV (view G, rl.map (·.1)) → gKvs G' = gKvs G → Fr h₀ L h' m →
      News h₀ L h' (S.led w (.ref R) np (.int (b + ks.length) tb') o (gLed G' ++ (R, lstObj (valsOf rl') n') :: rest)) → Apart (S.led w (.ref R) np (.int (b + ks.length) tb') o (gLed G' ++ (R, lstObj (valsOf rl') n') :: rest)) → Q .none { s with heap := h', toks := tk' }) :
    codeAny (model prog w) (arn none dp un gd env outer) (.call (.ref 120) ⟨.ref S.x :: valsOf ks, []⟩) (fun r s' => match r with | .ok (.ret v) => Q v s' | .ok _ => False | .error e => E e s') s := by
  refine cx_e C ?_
  intro p loose mean mg mb A₀ base B X T hf hk
  k_dflt (refine' kp_rest (vs := valsOf ks) (g₁ := fun D => some [(Str.ofString "self", .ref S.x), (Str.ofString "nodes", .ref D)]) (binds := fun D => [(Str.ofString "self", .ref S.x), (Str.ofString "nodes", .ref D)]) ?k1 ?k2 ?k3 ?k4 ?k5 ?kA ?kF ?kK ?k6 ?k7 ?k8 ?kV ?kP ?kG ?kB ?_ ?c2 ?c3 ?c4 ?c5; (case kA => exact rfl); (case kF => first | assumption | exact rfl); (case kK => first | assumption | exact rfl); (case k1 => k_asm); (case k2 => k_asm); (case k3 => k_asm); (case k4 => k_asm); (case k5 => k_asm); (case k6 => k_is); (case k7 => k_is); (case k8 => k_room); (case kV => exact rfl); (case kP => (match ks, hkl with | [], _ => exact rfl | [_], _ => exact rfl | [_, _], _ => exact rfl | [_, _, _], _ => exact rfl | [_, _, _, _], _ => exact rfl | _ :: _ :: _ :: _ :: _ :: _, h => exact absurd h (by simp))); (case kG => exact fun _ => rfl); (case kB => exact fun _ => locs rfl); (case c5 => decide); (case c2 => exact rfl); (case c3 => exact rfl); (case c4 => exact rfl))
  intro D g L1 h1 lD FG F1 N1 B1 X1 T1
  (try dsimp only)
  (try k_fold)
  have F1' := frB [(Str.ofString "self", .ref S.x), (Str.ofString "nodes", .ref D)] F1 ⟨rfl, rfl, trivial⟩
  clear F1
  (repeat' ((fail_if_success (with_reducible (first | show gz2 | show gz3 | show gz4 | show gz5 | show gz6 | show gz7 | show gz8 | show gz9 | show gz10 | show gz11 | show gz12 | show gz13 | show gz14 | show gz15 | show gz16))); (first | ((with_reducible show TurnEnd _ _ _ _ _ _); dsimp only [TurnEnd]) | (k_unfold; (try dsimp only)) | (k_end; wrow_close) | walk1 | (dsimp only; walk1) | (leave1; try dsimp only))))
  refine my_for ?_
  (repeat' ((fail_if_success (with_reducible (first | show gz2 | show gz3 | show gz4 | show gz5 | show gz6 | show gz7 | show gz8 | show gz9 | show gz10 | show gz11 | show gz12 | show gz13 | show gz14 | show gz15 | show gz16))); (first | ((with_reducible show TurnEnd _ _ _ _ _ _); dsimp only [TurnEnd]) | (k_unfold; (try dsimp only)) | (k_end; wrow_close) | walk1 | (dsimp only; walk1) | (leave1; try dsimp only))))
  rename Fr _ _ _ _ => F4
  rename News _ _ _ _ => N4
  refine tit_make (vs := valsOf ks) (n := 0) F4 N4 (.head _) ?_
  intro it oi h5 hit F5 N5 l5
  have hpT : ((it, oi) :: (D, tupObj (valsOf ks) 0) :: S.led w (.ref R) np (.int b tb) o (gLed G ++ (R, lstObj (valsOf rl) n) :: rest)).Perm ((it, oi) :: (R, lstObj (valsOf rl) n) :: S.led w (.ref R) np (.int b tb) o (gLed G ++ (D, tupObj (valsOf ks) 0) :: rest)) :=
    (perm_RD (D, tupObj (valsOf ks) 0) (R, lstObj (valsOf rl) n) (S.led w (.ref R) np (.int b tb) o []) (gLed G) rest).cons _
  have haI := apart_perm (apart_lt (p := (it, oi)) l5 (apart_lt (p := (D, tupObj (valsOf ks) 0)) lD ha)) hpT
  have N6 := news_perm N5 hpT
  have F6 := frB [(Str.ofString "self", .ref S.x), (Str.ofString "nodes", .ref D), (Str.ofString "n2i", .ref S.d)] F5 ⟨rfl, rfl, rfl, trivial⟩
  (try clear N4); (try clear N5); (try clear F5); (try clear F4)
  have hDY : (D, tupObj (valsOf ks) 0) ∈ (D, tupObj (valsOf ks) 0) :: rest := .head _
  generalize hY : (D, tupObj (valsOf ks) 0) :: rest = Y at N6 haI hDY
  refine Stop.mk (my_forLoop (fun k s' => ∃ (i : Nat) (oi' : Obj) (G' : List Nd) (rl' : List (Int × Tok)) (n' : Nat) (tb' : Tok) (h : Heap) (tk : Nat) (u : Str → Option Value), k = ks.length + 1 - i ∧ i ≤ ks.length ∧ s' = { s with heap := h, toks := tk } ∧ IsTIt oi' D i ∧
    Fr g L1 h (kB u [(Str.ofString "self", .ref S.x), (Str.ofString "nodes", .ref D), (Str.ofString "n2i", .ref S.d)]) ∧ News g L1 h ((it, oi') :: (R, lstObj (valsOf rl') n') :: S.led w (.ref R) np (.int (b + i) tb') o (gLed G' ++ Y)) ∧ Apart ((it, oi') :: (R, lstObj (valsOf rl') n') :: S.led w (.ref R) np (.int (b + i) tb') o (gLed G' ++ Y)) ∧
    G'.map fixN = G.map fixN ∧ rl'.length ≤ 50 + 100 * i ∧ (view G', rl'.map (·.1)) = ((ks.take i).map (·.1)).foldl doneV (view G, rl.map (·.1)))
    (fun s' => ∃ (G' : List Nd) (rl' : List (Int × Tok)) (n' : Nat) (tb' : Tok) (h : Heap) (tk : Nat) (u : Str → Option Value), s' = { s with heap := h, toks := tk } ∧ Fr g L1 h u ∧ News g L1 h ((R, lstObj (valsOf rl') n') :: S.led w (.ref R) np (.int (b + ks.length) tb') o (gLed G' ++ Y)) ∧ Apart ((R, lstObj (valsOf rl') n') :: S.led w (.ref R) np (.int (b + ks.length) tb') o (gLed G' ++ Y)) ∧
    G'.map fixN = G.map fixN ∧ (view G', rl'.map (·.1)) = (ks.map (·.1)).foldl doneV (view G, rl.map (·.1))) ?_ (ks.length + 1)
    (ex9_i 0 oi G rl n tb _ _ _ (an10_i rfl (Nat.zero_le _) rfl hit F6 (by simpa using N6) (by simpa using haI) rfl (by (first | lia | omega)) rfl)) ?_)
  · (try clear N6); (try clear F6); (try clear haI)
    intro I1z R1z Q1z hI1z hR1z hQ1z k s' hzz
    refine ex9_e hzz ?_
    clear hzz
    intro i oi' G' rl' n' tb' h tk u hzz
    refine an10_e hzz ?_
    clear hzz
    rintro rfl hi rfl hit' F8 N8 ha8 hfx8 hrl8 hv8
    have hkv8 := fix_kvs hfx8
    have hkk8 := fix_keys hfx8
    have hG' : (G'.map (·.key)).Nodup := by rw [hkk8]; exact hG
    by_cases hlt : i < ks.length
    · obtain ⟨k, tk0, hk0⟩ : ∃ k t, ks[i]? = some (k, t) := ⟨_, _, List.getElem?_eq_getElem hlt⟩
      refine tit_next (vs := valsOf ks) (n := 0) (v := .int k tk0) F8 N8 hit' (apart_ne ha8) (.tail _ (.tail _ (.tail _ (.tail _ (List.mem_append_right _ hDY))))) (by rw [List.getElem?_map, hk0]; rfl) ?_
      intro oi2 h10 hit2 F10 N10
      dsimp only [NextIs]
      refine wpAny_assign_Name ?_
      (repeat' ((fail_if_success (with_reducible (first | show gz2 | show gz3 | show gz4 | show gz5 | show gz6 | show gz7 | show gz8 | show gz9 | show gz10 | show gz11 | show gz12 | show gz13 | show gz14 | show gz15 | show gz16))); (first | ((with_reducible show TurnEnd _ _ _ _ _ _); dsimp only [TurnEnd]) | (k_unfold; (try dsimp only)) | (k_end; wrow_close) | walk1 | (dsimp only; walk1) | (leave1; try dsimp only))))
      rename Fr _ _ _ _ => F11
      rename News _ _ _ _ => N11
      obtain ⟨e, heG, hek⟩ := fix_in hfx8 (hin (k, tk0) (List.mem_of_getElem? hk0))
      dsimp only at hek
      subst hek
      have henp : e.np = -1 := by
        have := hout (view G') (rl'.map (·.1)) i e.key hv8 (by rw [List.getElem?_map, hk0]; rfl)
        rw [npOf_nd hG' heG] at this
        exact this
      refine kdg_method (knd := intKind prog w) (kvs := gKvs G') N11 (.tail _ (.tail _ (.tail _ (.tail _ (.head _))))) (hkv8 ▸ hdict) ?_
      (repeat' ((fail_if_success (with_reducible (first | show gz2 | show gz3 | show gz4 | show gz5 | show gz6 | show gz7 | show gz8 | show gz9 | show gz10 | show gz11 | show gz12 | show gz13 | show gz14 | show gz15 | show gz16))); (first | ((with_reducible show TurnEnd _ _ _ _ _ _); dsimp only [TurnEnd]) | (k_unfold; (try dsimp only)) | (k_end; wrow_close) | walk1 | (dsimp only; walk1) | (leave1; try dsimp only))))
      refine kdg_get1 (knd := intKind _ _) (k := e.key) (d := S.d) (o := o) N11 (.tail _ (.tail _ (.tail _ (.tail _ (.head _))))) (hkv8 ▸ hdict) hsys (intKind_is _ _ _ _) (some (.ref e.ia)) (gKvs_some hG' heG) ?_
      dsimp only [Option.getD]
      obtain ⟨G1, G2, rfl⟩ := List.append_of_mem heG
      have fp := focus_perm ((it, oi2) :: (R, lstObj (valsOf rl') n') :: S.led w (.ref R) np (.int (b + i) tb') o []) Y [] G1 G2 e
      have N13 := news_perm N11 fp
      have ha13 := apart_perm (show Apart ((it, oi2) :: (R, lstObj (valsOf rl') n') :: S.led w (.ref R) np (.int (b + i) tb') o (gLed (G1 ++ e :: G2) ++ Y)) from ha8) fp
      have ha13' := ha13
      (try clear N11); (try clear N10)
      dsimp only [Nd.led, List.cons_append, List.nil_append] at N13 ha13
      have b1 := apart_ne ha13
      rw [henp] at N13
      (repeat' ((fail_if_success (with_reducible (first | show gz2 | show gz3 | show gz4 | show gz5 | show gz6 | show gz7 | show gz8 | show gz9 | show gz10 | show gz11 | show gz12 | show gz13 | show gz14 | show gz15 | show gz16))); (first | ((with_reducible show TurnEnd _ _ _ _ _ _); dsimp only [TurnEnd]) | (k_unfold; (try dsimp only)) | (k_end; wrow_close) | walk1 | (dsimp only; walk1) | (leave1; try dsimp only))))
      refine my_for ?_
      (repeat' ((fail_if_success (with_reducible (first | show gz2 | show gz3 | show gz4 | show gz5 | show gz6 | show gz7 | show gz8 | show gz9 | show gz10 | show gz11 | show gz12 | show gz13 | show gz14 | show gz15 | show gz16))); (first | ((with_reducible show TurnEnd _ _ _ _ _ _); dsimp only [TurnEnd]) | (k_unfold; (try dsimp only)) | (k_end; wrow_close) | walk1 | (dsimp only; walk1) | (leave1; try dsimp only))))
      rename Fr _ _ _ _ => F15
      rename News _ _ _ _ => N15
      refine lit_make (l := e.sa) (vs := valsOf e.sc) (n := e.se) F15 N15 (.tail _ (.tail _ (.head _))) ?_
      intro lt ol h16 hlt16 F16 N16 l16
      have F17 := frB [(Str.ofString "self", .ref S.x), (Str.ofString "nodes", .ref D), (Str.ofString "n2i", .ref S.d)] F16 ⟨rfl, rfl, rfl, trivial⟩
      obtain ⟨tq, N17, l17⟩ : ∃ tq, News g L1 h16 ((lt, ol) :: ((⟨e.key, e.kt, e.ia, e.da, e.sa, -2, tq, e.sc, e.se⟩ : Nd).led ++ ((it, oi2) :: (R, lstObj (valsOf rl') n') :: S.led w (.ref R) np (.int (b + i) tb') o [] ++ (gLed (G1 ++ G2) ++ Y)))) ∧ (∀ p ∈ ((⟨e.key, e.kt, e.ia, e.da, e.sa, -2, tq, e.sc, e.se⟩ : Nd).led ++ ((it, oi2) :: (R, lstObj (valsOf rl') n') :: S.led w (.ref R) np (.int (b + i) tb') o [] ++ (gLed (G1 ++ G2) ++ Y))), @LT.lt Nat _ p.1 lt) := ⟨_, N16, l16⟩
      have fp2 := focus_perm ((it, oi2) :: (R, lstObj (valsOf rl') n') :: S.led w (.ref R) np (.int (b + i) tb') o []) Y [] G1 G2 ⟨e.key, e.kt, e.ia, e.da, e.sa, -2, tq, e.sc, e.se⟩
      have N18 := news_perm N17 (fp2.symm.cons _)
      have ha18 := apart_perm (apart_lt (p := (lt, ol)) l17 (show Apart ((⟨e.key, e.kt, e.ia, e.da, e.sa, -2, tq, e.sc, e.se⟩ : Nd).led ++ ((it, oi2) :: (R, lstObj (valsOf rl') n') :: S.led w (.ref R) np (.int (b + i) tb') o [] ++ (gLed (G1 ++ G2) ++ Y))) from ha13')) (fp2.symm.cons _)
      have hsp := nd_split hG' rfl
      have hv18 : view (G1 ++ (⟨e.key, e.kt, e.ia, e.da, e.sa, -2, tq, e.sc, e.se⟩ : Nd) :: G2) = atKey e.key (fun v => (v.1, -2, v.2.2)) (view (G1 ++ e :: G2)) := view_at hsp.1 hsp.2 _ rfl
      have hfx18 : (G1 ++ (⟨e.key, e.kt, e.ia, e.da, e.sa, -2, tq, e.sc, e.se⟩ : Nd) :: G2).map fixN = G.map fixN := by rw [← hfx8]; simp [fixN]
      have hsc : scOf (view (G1 ++ e :: G2)) e.key = e.sc.map (·.1) := scOf_nd hG' heG
      have hbn : e.sc.length < 100 := by
        obtain ⟨e0, he0, h0⟩ := fix_mem hfx8 heG
        have := bnd_nd hB he0
        rw [(fix_eq h0).2.1] at this
        exact this
      (try clear N16); (try clear N17); (try clear N15); (try clear F16); (try clear F15); (try clear N13); (try clear l16); (try clear l17); (try clear ha13); (try clear ha13')
      refine Stop.mk (my_forLoop (fun k s' => ∃ (j : Nat) (ol' : Obj) (G3 : List Nd) (rl3 : List (Int × Tok)) (n3 : Nat) (h : Heap) (tk : Nat) (u : Str → Option Value), k = e.sc.length + 1 - j ∧ j ≤ e.sc.length ∧ s' = { s with heap := h, toks := tk } ∧ IsLIt ol' e.sa j ∧
        Fr g L1 h (kB u [(Str.ofString "self", .ref S.x), (Str.ofString "nodes", .ref D), (Str.ofString "n2i", .ref S.d)]) ∧ News g L1 h ((lt, ol') :: (it, oi2) :: (R, lstObj (valsOf rl3) n3) :: S.led w (.ref R) np (.int (b + i) tb') o (gLed G3 ++ Y)) ∧ Apart ((lt, ol') :: (it, oi2) :: (R, lstObj (valsOf rl3) n3) :: S.led w (.ref R) np (.int (b + i) tb') o (gLed G3 ++ Y)) ∧
        G3.map fixN = G.map fixN ∧ rl3.length ≤ 50 + 100 * i + j ∧ (view G3, rl3.map (·.1)) = ((e.sc.take j).map (·.1)).foldl decV (atKey e.key (fun v => (v.1, -2, v.2.2)) (view (G1 ++ e :: G2)), rl'.map (·.1)))
        (fun s' => ∃ (G3 : List Nd) (rl3 : List (Int × Tok)) (n3 : Nat) (h : Heap) (tk : Nat) (u : Str → Option Value), s' = { s with heap := h, toks := tk } ∧ Fr g L1 h (kB u [(Str.ofString "self", .ref S.x), (Str.ofString "nodes", .ref D), (Str.ofString "n2i", .ref S.d)]) ∧
        News g L1 h ((it, oi2) :: (R, lstObj (valsOf rl3) n3) :: S.led w (.ref R) np (.int (b + i) tb') o (gLed G3 ++ Y)) ∧ Apart ((it, oi2) :: (R, lstObj (valsOf rl3) n3) :: S.led w (.ref R) np (.int (b + i) tb') o (gLed G3 ++ Y)) ∧ G3.map fixN = G.map fixN ∧ rl3.length ≤ 150 + 100 * i ∧
        (view G3, rl3.map (·.1)) = doneV (view (G1 ++ e :: G2), rl'.map (·.1)) e.key) ?_ (e.sc.length + 1)
        (ex8_i 0 ol _ rl' n' _ _ _ (an10_i rfl (Nat.zero_le _) rfl hlt16 F17 N18 ha18 hfx18 (by (first | lia | omega)) (by rw [hv18]; rfl))) ?_)
      · (try clear N18); (try clear F17); (try clear ha18)
        intro I2z R2z Q2z hI2z hR2z hQ2z k' s' hzz
        refine ex8_e hzz ?_
        clear hzz
        intro j ol' G3 rl3 n3 h tk u hzz
        refine an10_e hzz ?_
        clear hzz
        rintro rfl hj rfl hlt' F20 N20 ha20 hfx20 hrl20 hv20
        have hG3 : (G3.map (·.key)).Nodup := by rw [fix_keys hfx20]; exact hG
        have hkv20 := fix_kvs hfx20
        have hmsa : (e.sa, lstObj (valsOf e.sc) e.se) ∈ S.led w (.ref R) np (.int (b + i) tb') o (gLed G3 ++ Y) := by
          obtain ⟨e3, he3, h3⟩ := fix_mem (hfx8.trans hfx20.symm) heG
          have := sa_mem (w := w) (S := S) (rd := .ref R) (np := np) (nf := .int (b + i) tb') (o := o) (rest := Y) (kl := []) he3
          rw [(fix_eq h3).1, (fix_eq h3).2.1, (fix_eq h3).2.2] at this
          exact this
        by_cases hjl : j < e.sc.length
        · obtain ⟨c, tc, hc⟩ : ∃ c t, e.sc[j]? = some (c, t) := ⟨_, _, List.getElem?_eq_getElem hjl⟩
          have hcm : c ∈ e.sc.map (·.1) := List.mem_map.mpr ⟨_, List.mem_of_getElem? hc, rfl⟩
          refine lit_next (l := e.sa) (vs := valsOf e.sc) (n := e.se) (v := .int c tc) F20 N20 hlt' (apart_ne ha20) (.tail _ (.tail _ hmsa)) (by rw [List.getElem?_map, hc]; rfl) ?_
          intro ol2 h21 hlt21 F21 N21
          dsimp only [NextIs]
          refine wpAny_assign_Name ?_
          (repeat' ((fail_if_success (with_reducible (first | show gz2 | show gz3 | show gz4 | show gz5 | show gz6 | show gz7 | show gz8 | show gz9 | show gz10 | show gz11 | show gz12 | show gz13 | show gz14 | show gz15 | show gz16))); (first | ((with_reducible show TurnEnd _ _ _ _ _ _); dsimp only [TurnEnd]) | (k_unfold; (try dsimp only)) | (k_end; wrow_close) | walk1 | (dsimp only; walk1) | (leave1; try dsimp only))))
          rename Fr _ _ _ _ => F22
          rename News _ _ _ _ => N22
          obtain ⟨e4, he4, hek4⟩ : ∃ e4 ∈ G3, e4.key = c := by
            obtain ⟨e0, he0, h0⟩ := fix_mem hfx8 heG
            exact fix_in hfx20 (hcl e0 he0 c (by rw [(fix_eq h0).2.1]; exact hcm))
          subst hek4
          refine kda_item (knd := intKind _ _) (k := e4.key) (v := .ref e4.ia) (d := S.d) (o := o) N22 (.tail _ (.tail _ (.tail _ (.tail _ (.tail _ (.head _)))))) (hkv20 ▸ hdict) (intKind_is _ _ _ _) (gKvs_some hG3 he4) ?_
          obtain ⟨G4, G5, rfl⟩ := List.append_of_mem he4
          have fp3 := focus_perm ((lt, ol2) :: (it, oi2) :: (R, lstObj (valsOf rl3) n3) :: S.led w (.ref R) np (.int (b + i) tb') o []) Y [] G4 G5 e4
          have N23 := news_perm N22 fp3
          have ha23 := apart_perm (show Apart ((lt, ol2) :: (it, oi2) :: (R, lstObj (valsOf rl3) n3) :: S.led w (.ref R) np (.int (b + i) tb') o (gLed (G4 ++ e4 :: G5) ++ Y)) from ha20) fp3
          have ha23' := ha23
          (try clear N22); (try clear N21)
          dsimp only [Nd.led, List.cons_append, List.nil_append] at N23 ha23
          have b2 := apart_ne ha23
          have hnp4 : npOf (view (G4 ++ e4 :: G5)) e4.key = e4.np := npOf_nd hG3 he4
          have hsp4 := nd_split hG3 rfl
          have hv24 : ∀ tq, view (G4 ++ (⟨e4.key, e4.kt, e4.ia, e4.da, e4.sa, e4.np - 1, tq, e4.sc, e4.se⟩ : Nd) :: G5) = atKey e4.key (fun v => (v.1, v.2.1 - 1, v.2.2)) (view (G4 ++ e4 :: G5)) := fun tq => view_at hsp4.1 hsp4.2 _ rfl
          have hfd : ∀ (st : View × List Int), st = decV (view (G4 ++ e4 :: G5), rl3.map (·.1)) e4.key → st = ((e.sc.take (j + 1)).map (·.1)).foldl decV (atKey e.key (fun v => (v.1, -2, v.2.2)) (view (G1 ++ e :: G2)), rl'.map (·.1)) := fun st hst => by
            rw [List.take_add_one, hc, Option.toList, List.map_append, List.map_cons, List.map_nil, List.foldl_append, ← hv20]
            exact hst
          (repeat' ((fail_if_success (with_reducible (first | show gz2 | show gz3 | show gz4 | show gz5 | show gz6 | show gz7 | show gz8 | show gz9 | show gz10 | show gz11 | show gz12 | show gz13 | show gz14 | show gz15 | show gz16))); (first | ((with_reducible show TurnEnd _ _ _ _ _ _); dsimp only [TurnEnd]) | (k_unfold; (try dsimp only)) | (k_end; wrow_close) | walk1 | (dsimp only; walk1) | (leave1; try dsimp only))))
          · rename (_ : Int) = 0 => hz
            rename Fr _ _ _ _ => F24
            rename News _ _ _ _ => N24
            obtain ⟨tq, N25⟩ : ∃ tq, News g L1 _ ((⟨e4.key, e4.kt, e4.ia, e4.da, e4.sa, e4.np - 1, tq, e4.sc, e4.se⟩ : Nd).led ++ ((lt, ol2) :: (it, oi2) :: (R, lstObj (valsOf rl3) n3) :: S.led w (.ref R) np (.int (b + i) tb') o [] ++ (gLed (G4 ++ G5) ++ Y))) := ⟨_, N24⟩
            have ha25 : Apart ((⟨e4.key, e4.kt, e4.ia, e4.da, e4.sa, e4.np - 1, tq, e4.sc, e4.se⟩ : Nd).led ++ ((lt, ol2) :: (it, oi2) :: (R, lstObj (valsOf rl3) n3) :: S.led w (.ref R) np (.int (b + i) tb') o [] ++ (gLed (G4 ++ G5) ++ Y))) := ha23'
            refine lst_append (D := R) (vs := valsOf rl3) (x := .int e4.key tc) F24 N25 (upd_at (l₁ := [_, _, _, _, _]) ha25) (by simp; (first | lia | omega)) ?_
            intro h26 F26 N26
            dsimp only [List.cons_append, List.nil_append] at N26
            rw [show valsOf rl3 ++ [Value.int e4.key tc] = valsOf (rl3 ++ [(e4.key, tc)]) by simp] at N26
            (try clear N25); (try clear N24); (try clear F24)
            (repeat' ((fail_if_success (with_reducible (first | show gz2 | show gz3 | show gz4 | show gz5 | show gz6 | show gz7 | show gz8 | show gz9 | show gz10 | show gz11 | show gz12 | show gz13 | show gz14 | show gz15 | show gz16))); (first | ((with_reducible show TurnEnd _ _ _ _ _ _); dsimp only [TurnEnd]) | (k_unfold; (try dsimp only)) | (k_end; wrow_close) | walk1 | (dsimp only; walk1) | (leave1; try dsimp only))))
            rename Fr _ _ _ _ => F27
            rename News _ _ _ _ => N27
            have fp4 := focus_perm ((lt, ol2) :: (it, oi2) :: (R, lstObj (valsOf (rl3 ++ [(e4.key, tc)])) (n3 + 1)) :: S.led w (.ref R) np (.int (b + i) tb') o []) Y [] G4 G5 ⟨e4.key, e4.kt, e4.ia, e4.da, e4.sa, e4.np - 1, tq, e4.sc, e4.se⟩
            refine StopN hI2z (e.sc.length - j) (sb2 (by assumption)) (ex8_i (j + 1) ol2 _ (rl3 ++ [(e4.key, tc)]) (n3 + 1) _ _ _ (an10_i (sb1 _ _) (by assumption) rfl hlt21 (frB _ F27 ⟨rfl, rfl, rfl, trivial⟩) (news_perm N27 fp4.symm) (apart_perm (show Apart ((⟨e4.key, e4.kt, e4.ia, e4.da, e4.sa, e4.np - 1, tq, e4.sc, e4.se⟩ : Nd).led ++ ((lt, ol2) :: (it, oi2) :: (R, lstObj (valsOf (rl3 ++ [(e4.key, tc)])) (n3 + 1)) :: S.led w (.ref R) np (.int (b + i) tb') o [] ++ (gLed (G4 ++ G5) ++ Y))) from ha25) fp4.symm) ?_ (by simp; (first | lia | omega)) (hfd _ ?_)))
            · rw [← hfx20]; simp [fixN]
            · unfold decV
              dsimp only
              rw [hv24, hnp4, if_pos (by (first | lia | omega)), List.map_append]
              rfl
          · rename ¬ _ => hz
            rename Fr _ _ _ _ => F24
            rename News _ _ _ _ => N24
            obtain ⟨tq, N25⟩ : ∃ tq, News g L1 _ ((⟨e4.key, e4.kt, e4.ia, e4.da, e4.sa, e4.np - 1, tq, e4.sc, e4.se⟩ : Nd).led ++ ((lt, ol2) :: (it, oi2) :: (R, lstObj (valsOf rl3) n3) :: S.led w (.ref R) np (.int (b + i) tb') o [] ++ (gLed (G4 ++ G5) ++ Y))) := ⟨_, N24⟩
            have fp4 := focus_perm ((lt, ol2) :: (it, oi2) :: (R, lstObj (valsOf rl3) n3) :: S.led w (.ref R) np (.int (b + i) tb') o []) Y [] G4 G5 ⟨e4.key, e4.kt, e4.ia, e4.da, e4.sa, e4.np - 1, tq, e4.sc, e4.se⟩
            refine StopN hI2z (e.sc.length - j) (sb2 (by assumption)) (ex8_i (j + 1) ol2 _ rl3 n3 _ _ _ (an10_i (sb1 _ _) (by assumption) rfl hlt21 (frB _ F24 ⟨rfl, rfl, rfl, trivial⟩) (news_perm N25 fp4.symm) (apart_perm (show Apart ((⟨e4.key, e4.kt, e4.ia, e4.da, e4.sa, e4.np - 1, tq, e4.sc, e4.se⟩ : Nd).led ++ ((lt, ol2) :: (it, oi2) :: (R, lstObj (valsOf rl3) n3) :: S.led w (.ref R) np (.int (b + i) tb') o [] ++ (gLed (G4 ++ G5) ++ Y))) from ha23') fp4.symm) ?_ (by (first | lia | omega)) (hfd _ ?_)))
            · rw [← hfx20]; simp [fixN]
            · unfold decV
              dsimp only
              rw [hv24, hnp4, if_neg (by (first | lia | omega))]
        · have hje : j = e.sc.length := by (first | lia | omega)
          subst hje
          refine lit_end (l := e.sa) (vs := valsOf e.sc) (n := e.se) rfl F20 N20 hlt' (apart_ne ha20) (.tail _ (.tail _ hmsa)) (by simp) ?_
          intro h21 F21 N21
          refine StopP (hR2z _) (ex6_i G3 rl3 n3 _ _ _ (an7_i rfl F21 N21 (apart_tail ha20) hfx20 (by (first | lia | omega)) ?_))
          rw [List.take_length] at hv20
          rw [hv20]
          unfold doneV
          dsimp only
          rw [hsc]
      · intro s' hzz
        refine ex6_e hzz ?_
        clear hzz
        intro G3 rl3 n3 h tk u hzz
        refine an7_e hzz ?_
        clear hzz
        rintro rfl F20 N20 ha20 hfx20 hrl20 hv20
        (try clear N18); (try clear F17); (try clear ha18)
        dsimp only [Srt.led] at N20
        (repeat' ((fail_if_success (with_reducible (first | show gz2 | show gz3 | show gz4 | show gz5 | show gz6 | show gz7 | show gz8 | show gz9 | show gz10 | show gz11 | show gz12 | show gz13 | show gz14 | show gz15 | show gz16))); (first | ((with_reducible show TurnEnd _ _ _ _ _ _); dsimp only [TurnEnd]) | (k_unfold; (try dsimp only)) | (k_end; wrow_close) | walk1 | (dsimp only; walk1) | (leave1; try dsimp only))))
        k_dflt (refine' set_dict ?k1 ?k2 ?k3 ?k4 ?k5 ?k6 ?k7 ?k8 ?k9 ?k10 ?k11 ?k12 ?k13 ?_; (case k1 => k_asm); (case k2 => k_asm); (case k3 => k_asm); (case k4 => k_inst); (case k5 => exact rfl); (case k6 => k_is); (case k7 => k_is); (case k8 => k_is); (case k9 => k_is); (case k10 => k_get); (case k11 => exact put_nf); (case k12 => exact upd_at (l₁ := [_, _, _]) ha20); (case k13 => exact Nat.le_of_ble_eq_true rfl); k_whole)
        intro h22 F22 N22
        (repeat' ((fail_if_success (with_reducible (first | show gz2 | show gz3 | show gz4 | show gz5 | show gz6 | show gz7 | show gz8 | show gz9 | show gz10 | show gz11 | show gz12 | show gz13 | show gz14 | show gz15 | show gz16))); (first | ((with_reducible show TurnEnd _ _ _ _ _ _); dsimp only [TurnEnd]) | (k_unfold; (try dsimp only)) | (k_end; wrow_close) | walk1 | (dsimp only; walk1) | (leave1; try dsimp only))))
        rename Fr _ _ _ _ => F23
        rename News _ _ _ _ => N23
        have hb1 : b + ((i + 1 : Nat) : Int) = b + i + 1 := by (first | lia | omega)
        obtain ⟨tq', N24⟩ : ∃ tq', News g L1 h22 ((it, oi2) :: (R, lstObj (valsOf rl3) n3) :: S.led w (.ref R) np (.int (b + ((i + 1 : Nat) : Int)) tq') o (gLed G3 ++ Y)) := ⟨_, by rw [hb1]; exact N23⟩
        refine StopN hI1z (ks.length - i) (sb2 (by assumption)) (ex9_i (i + 1) oi2 G3 rl3 n3 tq' _ _ _ (an10_i (sb1 _ _) (by assumption) rfl hit2 (frB _ F23 ⟨rfl, rfl, rfl, trivial⟩) N24 ha20 hfx20 (by (first | lia | omega)) ?_))
        rw [hv20, List.take_add_one, hk0, Option.toList, List.map_append, List.map_cons, List.map_nil, List.foldl_append, ← hv8]
        rfl
    · have hie : i = ks.length := by (first | lia | omega)
      subst hie
      refine tit_end (vs := valsOf ks) (n := 0) rfl F8 N8 hit' (apart_ne ha8) (.tail _ (.tail _ (.tail _ (.tail _ (List.mem_append_right _ hDY))))) (by simp) ?_
      intro h10 F10 N10
      rw [List.take_length] at hv8
      exact StopP (hR1z _) (ex7_i G' rl' n' tb' _ _ _ (an6_i rfl F10 N10 (apart_tail ha8) hfx8 hv8))
  · intro s' hzz
    refine ex7_e hzz ?_
    clear hzz
    intro G' rl' n' tb' h tk u hzz
    refine an6_e hzz ?_
    clear hzz
    rintro rfl F8 N8 ha8 hfx8 hv8
    (try clear N6); (try clear F6); (try clear haI)
    (repeat' ((fail_if_success (with_reducible (first | show gz2 | show gz3 | show gz4 | show gz5 | show gz6 | show gz7 | show gz8 | show gz9 | show gz10 | show gz11 | show gz12 | show gz13 | show gz14 | show gz15 | show gz16))); (first | ((with_reducible show TurnEnd _ _ _ _ _ _); dsimp only [TurnEnd]) | (k_unfold; (try dsimp only)) | (k_end; wrow_close) | walk1 | (dsimp only; walk1) | (leave1; try dsimp only))))
    subst hY
    rename News _ _ _ _ => N9
    have fpQ := perm_RD (D, tupObj (valsOf ks) 0) (R, lstObj (valsOf rl') n') (S.led w (.ref R) np (.int (b + ks.length) tb') o []) (gLed G') rest
    exact ret _ _ G' rl' tb' n' hv8 (fix_kvs hfx8) (by k_asm) (fun q hq => news_perm N9 fpQ.symm q (.tail _ hq)) (apart_tail (apart_perm ha8 fpQ.symm))
end
section
theorem rot3 {α : Type} (a b c : α) (r : List α) : (a :: b :: c :: r).Perm (b :: c :: a :: r) := (List.Perm.swap b a _).trans ((List.Perm.swap c a r).cons b)
theorem mkA {rest : List (Addr × Obj)} {x d1 d : Addr} {o1 o2 o3 : Obj} (ha : Apart rest) (l0 : ∀ p ∈ rest, @LT.lt Nat _ p.1 d1) (l1 : @LT.lt Nat _ d1 x) (l2 : @LT.lt Nat _ x d ∧ @LT.lt Nat _ d1 d ∧ AllLt d rest) : Apart ((x, o1) :: (d1, o2) :: (d, o3) :: rest) := by
  have b1 := apart_lt (p := (x, o1)) (l := (d1, o2) :: rest) (List.forall_mem_cons.mpr ⟨l1, fun q hq => Nat.lt_trans (l0 q hq) l1⟩) (apart_lt (p := (d1, o2)) l0 ha)
  have b2 := apart_lt (p := (d, o3)) (l := (x, o1) :: (d1, o2) :: rest) (List.forall_mem_cons.mpr ⟨l2.1, List.forall_mem_cons.mpr ⟨l2.2.1, fun q hq => kst_ltOf l2.2.2 q hq⟩⟩) b1
  exact apart_perm b2 (rot3 _ _ _ _)
theorem mk_srt {prog : Program} {w : World} (dp un : Nat) (gd : Option (List Code)) (env : Env) (outer : List Env) (h₀ : Heap) (L : Addr) (m : Str → Option Value) (s : Shared)
    (Q E : Value → Shared → Prop) (C : Cx w env outer h₀ L) (F : Fr h₀ L s.heap m) (rest : List (Addr × Obj)) (N : News h₀ L s.heap rest) (ha : Apart rest)
    (hd : dp + 8 < recursionLimit) (hu : un + 64 < cLine)
    (ret : ∀ h' tk' (S : Srt) o ta tb, o.IsDictOf (intKind prog w) [] → (S.d == sysModules) = false → Fr h₀ L h' m → News h₀ L h' (S.led w .none (.int 0 ta) (.int 0 tb) o rest) → Apart (S.led w .none (.int 0 ta) (.int 0 tb) o rest) → Q (.ref S.x) { s with heap := h', toks := tk' }) :
    wpAny (model prog w) (arn none dp un gd env outer) (call (.ref 137) []) Q E s := by
  refine cx_e C ?_
  intro p loose mean mg mb A₀ base B X T hf hk
  k_dflt (refine' call_cls ?k1 ?k2 ?k3 ?k4 ?k5 ?k6 ?_; (case k1 => k_asm); (case k2 => k_asm); (case k3 => k_asm); (case k4 => k_is); (case k5 => k_is); (case k6 => k_is); k_whole; intro x' d' h' F' N' l1 l2; (try k_lt l1); (try k_lt2 l2); (try k_sweep); (refine' code_def ?k1 ?k2 ?k3 ?k4 ?k5 ?kA ?kF ?kK ?k6 ?k7 ?k8 ?k9 ?kB ?_ ?c2 ?c3 ?c4 ?c5; (case kA => exact rfl); (case kF => first | assumption | exact rfl); (case kK => first | assumption | exact rfl); (case k1 => k_asm); (case k2 => k_asm); (case k3 => k_asm); (case k4 => k_asm); (case k5 => k_asm); (case k6 => k_is); (case k7 => k_is); (case k8 => k_room); (case k9 => first | exact BindsTo.of_eq rfl | exact binds_K (by k_in) rfl (by k_is) rfl rfl rfl); (case c5 => decide); (case kB => exact locs rfl); (case c2 => exact rfl); (case c3 => exact rfl); (case c4 => exact rfl)); k_whole; intro g1 L1 h1 FG1 F1 N1 B1 X1 T1; (try dsimp only); (try k_fold))
  (repeat' ((fail_if_success (with_reducible (first | show gz2 | show gz3 | show gz4 | show gz5 | show gz6 | show gz7 | show gz8 | show gz9 | show gz10 | show gz11 | show gz12 | show gz13 | show gz14 | show gz15))); (first | ((with_reducible show wpAny _ _ (execs _ _) _ _ _); k_gentoks) | with_reducible (first | refine execs_one ?_ | (refine execs_cut ?_; intro _ _) | (refine if_cut ?_; intro _ _)) | ((fail_if_success (with_reducible show gz1)); (first | (refine Kh.go ‹_› _ _ ?_; try dsimp only [KnP]) | ((with_reducible show TurnEnd _ _ _ _ _ _); dsimp only [TurnEnd]))) | (k_unfold; (try dsimp only)) | (k_end; wrow_close) | walk1 | (dsimp only; walk1) | (leave1; try dsimp only))))
  rename Obj.IsDictOf (intKind _ _) _ _ => hdi
  rename (_ == sysModules) = false => hsy
  rename Fr _ _ _ _ => F2
  rename News _ _ _ _ => N2
  rename _ ∧ _ ∧ AllLt _ _ => l2
  rename (_ : Nat) < _ => l1

  rename ∀ (p : Addr × Obj), p ∈ rest → _ => l0
  exact ret _ _ ⟨_, _, _, _, _, _, _, _⟩ _ _ _ hdi hsy F2 (news_perm N2 (rot3 _ _ _ _)) (mkA ha l0 l1 l2)
end
section
/-! views, without the program -/
noncomputable def bldE (xs : List X3) : View := xs.foldl (fun V x => add1 x.2.2.2 x.2.2.1 V) []
noncomputable def bldV (xs : List X3) : View := ([0, 1, 2, 3] : List Int).foldl (fun V k => add0 k V) (bldE xs)
noncomputable def BndN (i : Nat) (V : View) : Prop := ∀ v ∈ V, v.2.2.length ≤ i
theorem bndN_touch {i : Nat} {k : Int} {V : View} (h : BndN i V) : BndN i (touch k V) := by
  unfold touch
  split
  · exact h
  · intro v hv
    rcases List.mem_append.mp hv with hv | hv
    · exact h v hv
    · rw [List.mem_singleton.mp hv]; simp
theorem bndN_add1 {i : Nat} {l f : Int} {V : View} (h : BndN i V) : BndN (i + 1) (add1 l f V) := by
  have h1 : BndN i (touch f (atKey l (fun v => (v.1, v.2.1 + 1, v.2.2)) (touch l V))) := bndN_touch (fun v hv => by
    obtain ⟨q, hq, rfl⟩ := List.mem_map.mp hv
    dsimp only
    split <;> exact bndN_touch h q hq)
  intro v hv
  obtain ⟨q, hq, rfl⟩ := List.mem_map.mp hv
  dsimp only
  have := h1 q hq
  split
  · simp; (first | lia | omega)
  · (first | lia | omega)
theorem touch_len (k : Int) (V : View) : (touch k V).length ≤ V.length + 1 := by
  unfold touch
  split <;> simp
theorem atKey_len (k : Int) (f : Int × Int × List Int → Int × Int × List Int) (V : View) : (atKey k f V).length = V.length := by unfold atKey; rw [List.length_map]
theorem add1_len (l f : Int) (V : View) : (add1 l f V).length ≤ V.length + 2 := by
  unfold add1
  rw [atKey_len]
  refine Nat.le_trans (touch_len _ _) ?_
  rw [atKey_len]
  have := touch_len l V
  (first | lia | omega)
theorem view_len (G : List Nd) : (view G).length = G.length := by unfold view; simp
theorem bndN_bnd {i : Nat} {V : View} (h : BndN i V) (hi : i < 100) : Bnd V := fun v hv => Nat.lt_of_le_of_lt (h v hv) hi
noncomputable abbrev keysV (V : View) : List Int := V.map (·.1)
theorem keys_touch (k : Int) (V : View) : keysV (touch k V) = if k ∈ keysV V then keysV V else keysV V ++ [k] := by
  unfold touch keysV
  by_cases h : ∃ v ∈ V, v.1 = k
  · rw [if_pos h, if_pos (by obtain ⟨v, h1, h2⟩ := h; exact List.mem_map.mpr ⟨v, h1, h2⟩)]
  · rw [if_neg h, if_neg (by intro q; obtain ⟨v, h1, h2⟩ := List.mem_map.mp q; exact h ⟨v, h1, h2⟩)]
    simp
theorem keys_at (k : Int) (f : Int × Int × List Int → Int × Int × List Int) (V : View) (hf : ∀ v, (f v).1 = v.1) : keysV (atKey k f V) = keysV V := by
  unfold keysV atKey
  rw [List.map_map]
  refine List.map_congr_left fun v _ => ?_
  show (if v.1 = k then f v else v).1 = v.1
  split
  · exact hf v
  · rfl
theorem mem_touch {k j : Int} {V : View} : j ∈ keysV (touch k V) ↔ j ∈ keysV V ∨ j = k := by
  rw [keys_touch]
  split
  · rename_i h
    exact ⟨.inl, fun q => q.elim id fun e => e ▸ h⟩
  · rw [List.mem_append, List.mem_singleton]
theorem nodup_touch {k : Int} {V : View} (h : (keysV V).Nodup) : (keysV (touch k V)).Nodup := by
  rw [keys_touch]
  split
  · exact h
  · rename_i hk
    rw [List.nodup_append]
    refine ⟨h, by simp, fun a ha b hb => ?_⟩
    rw [List.mem_singleton.mp hb]
    exact fun e => hk (e ▸ ha)
theorem keys_add1 (l f : Int) (V : View) : keysV (add1 l f V) = keysV (touch f (atKey l (fun v => (v.1, v.2.1 + 1, v.2.2)) (touch l V))) := by
  unfold add1
  rw [keys_at _ _ _ (by intro v; rfl)]
theorem mem_add1 {l f j : Int} {V : View} : j ∈ keysV (add1 l f V) ↔ j ∈ keysV V ∨ j = l ∨ j = f := by
  rw [keys_add1, mem_touch, keys_at _ _ _ (by intro v; rfl), mem_touch, or_assoc]
theorem nodup_add1 {l f : Int} {V : View} (h : (keysV V).Nodup) : (keysV (add1 l f V)).Nodup := by
  rw [keys_add1]
  refine nodup_touch ?_
  rw [keys_at _ _ _ (by intro v; rfl)]
  exact nodup_touch h
/-- one entry, looked up -/
noncomputable def lkV (V : View) (k : Int) : Option (Int × Int × List Int) := V.find? (fun v => decide (v.1 = k))
theorem lkV_some {V : View} {k : Int} (h : k ∈ keysV V) : ∃ n l, lkV V k = some (k, n, l) := by
  unfold lkV
  cases hf : V.find? (fun v => decide (v.1 = k)) with
  | none =>
    obtain ⟨v, h1, h2⟩ := List.mem_map.mp h
    have := List.find?_eq_none.mp hf v h1
    simp [h2] at this
  | some v =>
    obtain ⟨a, b, c⟩ := v
    have := List.find?_some hf
    simp at this
    exact ⟨b, c, by rw [this]⟩
theorem lkV_none {V : View} {k : Int} (h : k ∉ keysV V) : lkV V k = none := by
  unfold lkV
  rw [List.find?_eq_none]
  intro v hv
  simp
  exact fun e => h (List.mem_map.mpr ⟨v, hv, e⟩)
theorem lkV_touch (k j : Int) (V : View) : lkV (touch k V) j = if j = k ∧ k ∉ keysV V then some (k, 0, []) else lkV V j := by
  unfold touch
  by_cases h : ∃ v ∈ V, v.1 = k
  · rw [if_pos h, if_neg (fun q => q.2 (by obtain ⟨v, h1, h2⟩ := h; exact List.mem_map.mpr ⟨v, h1, h2⟩))]
  · have hk : k ∉ keysV V := fun q => by obtain ⟨v, h1, h2⟩ := List.mem_map.mp q; exact h ⟨v, h1, h2⟩
    rw [if_neg h]
    unfold lkV
    rw [List.find?_append]
    by_cases e : j = k
    · subst e
      rw [show V.find? (fun v => decide (v.1 = j)) = none from lkV_none hk, if_pos ⟨rfl, hk⟩]
      simp
    · rw [if_neg (fun q => e q.1)]
      cases V.find? (fun v => decide (v.1 = j)) with
      | some v => rfl
      | none => simp [Ne.symm e]
theorem lkV_at (k j : Int) (f : Int × Int × List Int → Int × Int × List Int) (V : View) (hf : ∀ v, (f v).1 = v.1) : lkV (atKey k f V) j = if j = k then (lkV V j).map f else lkV V j := by
  unfold lkV atKey
  induction V with
  | nil => simp
  | cons v r ih =>
    rw [List.map_cons, List.find?_cons, List.find?_cons]
    have hk : (if v.1 = k then f v else v).1 = v.1 := by split; exact hf v; rfl
    rw [hk]
    by_cases e : v.1 = j
    · simp only [e, decide_true]
      by_cases e2 : j = k
      · simp [e2, e ▸ e2]
      · simp [e2]
    · simp only [e, decide_false]
      exact ih
theorem scOf_lk (V : View) (k : Int) : scOf V k = ((lkV V k).map (·.2.2)).getD [] := rfl
theorem ring_succ {V : View} {r : List Int} (h : IsRing V r) {x : Int} (hx : x ∈ r) : ∃ y ∈ r, y ∈ scOf V x := by
  have hl := h.len
  obtain ⟨i, hi⟩ := List.mem_iff_getElem?.mp hx
  have hil := (List.getElem?_eq_some_iff.mp hi).1
  by_cases hlt : i + 1 < r.length
  · have hy : r[i + 1]? = some r[i + 1] := List.getElem?_eq_getElem hlt
    exact ⟨r[i + 1], List.getElem_mem hlt, h.edge i _ _ hi hy⟩
  · have hlast : r.getLast? = some x := by
      rw [List.getLast?_eq_getElem?, show r.length - 1 = i by (first | lia | omega)]; exact hi
    have hhead : r[0]? = some x := by
      rw [← List.head?_eq_getElem?, h.ends]; exact hlast
    have h1 : 1 < r.length := by (first | lia | omega)
    exact ⟨r[1], List.getElem_mem h1, h.edge 0 _ _ hhead (List.getElem?_eq_getElem h1)⟩
theorem ring_no_fin {V : View} {r : List Int} (h : IsRing V r) : ∀ {done : List Int}, FinO V done → ∀ x ∈ r, x ∉ done
  | [], _, _, _ => by simp
  | k :: d, hf, x, hx => by
    intro hm
    have ih := ring_no_fin h hf.2
    rcases List.mem_cons.mp hm with rfl | hm
    · obtain ⟨y, hy, hs⟩ := ring_succ h hx
      exact ih y hy (hf.1 y hs)
    · exact ih x hx hm
/-- every successor stands -/
noncomputable def ClosedV (V : View) : Prop := ∀ v ∈ V, ∀ c ∈ v.2.2, c ∈ keysV V
theorem closed_touch {k : Int} {V : View} (h : ClosedV V) : ClosedV (touch k V) := by
  intro v hv c hc
  rw [mem_touch]
  unfold touch at hv
  split at hv
  · exact .inl (h v hv c hc)
  · rcases List.mem_append.mp hv with q | q
    · exact .inl (h v q c hc)
    · rw [List.mem_singleton.mp q] at hc; simp at hc
theorem closed_add1 {l f : Int} {V : View} (h : ClosedV V) : ClosedV (add1 l f V) := by
  have h1 : ClosedV (atKey l (fun v => (v.1, v.2.1 + 1, v.2.2)) (touch l V)) := by
    intro v hv c hc
    rw [keys_at _ _ _ (by intro v; rfl)]
    obtain ⟨q, hq, rfl⟩ := List.mem_map.mp hv
    dsimp only at hc
    split at hc <;> exact closed_touch h q hq c hc
  intro v hv c hc
  obtain ⟨q, hq, rfl⟩ := List.mem_map.mp hv
  rw [mem_add1]
  have h2 := closed_touch (k := f) h1 q hq
  have h3 : ∀ j, j ∈ keysV (touch f (atKey l (fun v => (v.1, v.2.1 + 1, v.2.2)) (touch l V))) → j ∈ keysV V ∨ j = l ∨ j = f := fun j hj => by
    rw [← keys_add1] at hj; exact mem_add1.mp hj
  dsimp only at hc
  split at hc
  · rcases List.mem_append.mp hc with z | z
    · exact h3 c (h2 c z)
    · exact .inr (.inl (List.mem_singleton.mp z))
  · exact h3 c (h2 c hc)
theorem closed_bldE (xs : List X3) : ClosedV (bldE xs) := by
  unfold bldE
  suffices H : ∀ (V : View), ClosedV V → ClosedV (xs.foldl (fun V x => add1 x.2.2.2 x.2.2.1 V) V) from H [] (fun v hv => by cases hv)
  induction xs with
  | nil => exact fun V h => h
  | cons x r ih => exact fun V h => ih _ (closed_add1 h)
theorem closed_bldV (xs : List X3) : ClosedV (bldV xs) := by
  unfold bldV add0
  exact closed_touch (closed_touch (closed_touch (closed_touch (closed_bldE xs))))
theorem hcl_of {G : List Nd} {V : View} (hv : view G = V) (h : ClosedV V) : ∀ e ∈ G, ∀ c ∈ e.sc.map (·.1), ∃ e' ∈ G, e'.key = c := by
  subst hv
  intro e he c hc
  have := h _ (List.mem_map_of_mem (f := fun e : Nd => (e.key, e.np, e.sc.map (·.1))) he) c hc
  obtain ⟨v, hv, rfl⟩ := List.mem_map.mp this
  obtain ⟨e', he', rfl⟩ := List.mem_map.mp hv
  exact ⟨e', he', rfl⟩
end
section
/-! Kahn's walk, without the program -/
noncomputable def npOf' (V : View) (k : Int) : Int := ((lkV V k).map (·.2.1)).getD 0
theorem npOf_lk (V : View) (k : Int) : npOf V k = ((lkV V k).map (·.2.1)).getD 0 := rfl
noncomputable def succE (ed : List (Int × Int)) (p : Int) : List Int := (ed.filter (fun e => decide (e.1 = p))).map (·.2)
noncomputable def inE (ed : List (Int × Int)) (gone : List Int) (k : Int) : Int := ((ed.filter (fun e => decide (e.2 = k ∧ e.1 ∉ gone))).length : Int)
structure Good (ed : List (Int × Int)) (V : View) : Prop where
  kn : (keysV V).Nodup
  cl : ∀ e ∈ ed, e.1 ∈ keysV V ∧ e.2 ∈ keysV V
  lk : ∀ k ∈ keysV V, lkV V k = some (k, inE ed [] k, succE ed k)
theorem good_nil : Good [] [] := ⟨by simp, by simp, by simp⟩
theorem inE_none {ed : List (Int × Int)} {gone : List Int} {k : Int} (h : ∀ e ∈ ed, e.2 ≠ k) : inE ed gone k = 0 := by
  unfold inE
  rw [List.filter_eq_nil_iff.mpr (fun e he => by simp; intro q; exact absurd q (h e he))]
  rfl
theorem succE_none {ed : List (Int × Int)} {k : Int} (h : ∀ e ∈ ed, e.1 ≠ k) : succE ed k = [] := by
  unfold succE
  rw [List.filter_eq_nil_iff.mpr (fun e he => by simp; exact h e he)]
  rfl
theorem good_touch {ed : List (Int × Int)} {V : View} (h : Good ed V) (k : Int) : Good ed (touch k V) := by
  refine ⟨nodup_touch h.kn, fun e he => ⟨mem_touch.mpr (.inl (h.cl e he).1), mem_touch.mpr (.inl (h.cl e he).2)⟩, fun j hj => ?_⟩
  rw [lkV_touch]
  by_cases c : j = k ∧ k ∉ keysV V
  · obtain ⟨rfl, c2⟩ := c
    rw [if_pos ⟨rfl, c2⟩, inE_none (k := j) (fun e he q => c2 (by rw [← q]; exact (h.cl e he).2)), succE_none (k := j) (fun e he q => c2 (by rw [← q]; exact (h.cl e he).1))]
  · rw [if_neg c]
    rcases mem_touch.mp hj with q | q
    · exact h.lk j q
    · subst q
      by_cases hk : j ∈ keysV V
      · exact h.lk j hk
      · exact absurd ⟨rfl, hk⟩ c
theorem good_add1 {ed : List (Int × Int)} {V : View} (h : Good ed V) (l f : Int) : Good (ed ++ [(f, l)]) (add1 l f V) := by
  have h1 := good_touch h l
  refine ⟨nodup_add1 h.kn, fun e he => ?_, fun j hj => ?_⟩
  · rcases List.mem_append.mp he with q | q
    · exact ⟨mem_add1.mpr (.inl (h.cl e q).1), mem_add1.mpr (.inl (h.cl e q).2)⟩
    · rw [List.mem_singleton.mp q]
      exact ⟨mem_add1.mpr (.inr (.inr rfl)), mem_add1.mpr (.inr (.inl rfl))⟩
  · have hin : inE (ed ++ [(f, l)]) [] j = if j = l then inE ed [] j + 1 else inE ed [] j := by
      unfold inE
      rw [List.filter_append, List.length_append]
      by_cases e : j = l
      · subst e; simp
      · simp [e, Ne.symm e]
    have hsc : succE (ed ++ [(f, l)]) j = if j = f then succE ed j ++ [l] else succE ed j := by
      unfold succE
      rw [List.filter_append, List.map_append]
      by_cases e : j = f
      · subst e; simp
      · simp [e, Ne.symm e]
    have hkl : l ∈ keysV (touch l V) := mem_touch.mpr (.inr rfl)
    have h2 := good_touch h l
    rw [mem_add1] at hj
    -- the entry step by step
    have hk2 : ∀ i, i ∈ keysV (atKey l (fun v => (v.1, v.2.1 + 1, v.2.2)) (touch l V)) ↔ i ∈ keysV V ∨ i = l := fun i => by
      rw [keys_at _ _ _ (by intro v; rfl), mem_touch]
    unfold add1
    rw [lkV_at _ _ _ _ (by intro v; rfl), lkV_touch, lkV_at _ _ _ _ (by intro v; rfl), hin, hsc]
    by_cases c : j = f ∧ f ∉ keysV (atKey l (fun v => (v.1, v.2.1 + 1, v.2.2)) (touch l V))
    · obtain ⟨rfl, c2⟩ := c
      rw [if_pos (show j = j ∧ _ from ⟨rfl, c2⟩)]
      have c3 : ¬ (j ∈ keysV V ∨ j = l) := fun q => c2 ((hk2 j).mpr q)
      rw [not_or] at c3
      rw [if_pos rfl, if_neg c3.2, if_pos rfl, inE_none (k := j) (fun e he q => c3.1 (by rw [← q]; exact (h.cl e he).2)), succE_none (k := j) (fun e he q => c3.1 (by rw [← q]; exact (h.cl e he).1))]
      rfl
    · rw [if_neg c]
      have hj2 : j ∈ keysV (touch l V) := by
        rw [mem_touch]
        rcases hj with q | q | q
        · exact .inl q
        · exact .inr q
        · subst q
          by_cases hc2 : j ∈ keysV (atKey l (fun v => (v.1, v.2.1 + 1, v.2.2)) (touch l V))
          · exact (hk2 j).mp hc2
          · exact absurd ⟨rfl, hc2⟩ c
      rw [h2.lk j hj2]
      by_cases e1 : j = l <;> by_cases e2 : j = f
      · subst e1; subst e2; simp
      · subst e1; simp [e2]
      · subst e2; simp [e1]
      · simp [e1, e2]
noncomputable abbrev edX (xs : List X3) : List (Int × Int) := xs.map fun x => (x.2.2.1, x.2.2.2)
theorem good_bldE (xs : List X3) : Good (edX xs) (bldE xs) := by
  suffices H : ∀ (ed : List (Int × Int)) (V : View), Good ed V → Good (ed ++ edX xs) (xs.foldl (fun V x => add1 x.2.2.2 x.2.2.1 V) V) from H [] [] good_nil
  induction xs with
  | nil => intro ed V h; simpa using h
  | cons x r ih =>
    intro ed V h
    have := ih _ _ (good_add1 h x.2.2.2 x.2.2.1)
    rw [List.append_assoc] at this
    exact this
theorem good_bldV (xs : List X3) : Good (edX xs) (bldV xs) := good_touch (good_touch (good_touch (good_touch (good_bldE xs) 0) 1) 2) 3
theorem keys_bldE {xs : List X3} {k : Int} : k ∈ keysV (bldE xs) ↔ ∃ x ∈ xs, k = x.2.2.1 ∨ k = x.2.2.2 := by
  suffices H : ∀ (V : View), k ∈ keysV (xs.foldl (fun V x => add1 x.2.2.2 x.2.2.1 V) V) ↔ k ∈ keysV V ∨ ∃ x ∈ xs, k = x.2.2.1 ∨ k = x.2.2.2 by
    rw [show bldE xs = xs.foldl (fun V x => add1 x.2.2.2 x.2.2.1 V) [] from rfl, H []]
    simp
  induction xs with
  | nil => intro V; simp
  | cons x r ih =>
    intro V
    rw [List.foldl_cons, ih, mem_add1]
    constructor
    · rintro ((q | q | q) | ⟨y, hy, q⟩)
      · exact .inl q
      · exact .inr ⟨x, .head _, .inr q⟩
      · exact .inr ⟨x, .head _, .inl q⟩
      · exact .inr ⟨y, .tail _ hy, q⟩
    · rintro (q | ⟨y, hy, q⟩)
      · exact .inl (.inl q)
      · rcases List.mem_cons.mp hy with rfl | hy
        · exact .inl (.inr (q.elim .inr .inl))
        · exact .inr ⟨y, hy, q⟩
theorem keys_bldV {xs : List X3} (h : ∀ x ∈ xs, (0 ≤ x.2.2.1 ∧ x.2.2.1 < 4) ∧ (0 ≤ x.2.2.2 ∧ x.2.2.2 < 4)) {k : Int} : k ∈ keysV (bldV xs) ↔ 0 ≤ k ∧ k < 4 := by
  have e : bldV xs = touch 3 (touch 2 (touch 1 (touch 0 (bldE xs)))) := rfl
  rw [e, mem_touch, mem_touch, mem_touch, mem_touch, keys_bldE]
  constructor
  · rintro ((((⟨x, hx, q | q⟩ | q) | q) | q) | q)
    · have := h x hx; (first | lia | omega)
    · have := h x hx; (first | lia | omega)
    all_goals (first | lia | omega)
  · intro q
    have h4 : k = 0 ∨ k = 1 ∨ k = 2 ∨ k = 3 := by (first | lia | omega)
    rcases h4 with h | h | h | h
    · exact .inl (.inl (.inl (.inr h)))
    · exact .inl (.inl (.inr h))
    · exact .inl (.inr h)
    · exact .inr h

/-- between the turns -/
structure KInv (ed : List (Int × Int)) (V : View) (rl gone : List Int) : Prop where
  kn : (keysV V).Nodup
  cl : ∀ e ∈ ed, e.1 ∈ keysV V ∧ e.2 ∈ keysV V
  sc : ∀ p ∈ keysV V, scOf V p = succE ed p
  nd : (gone ++ rl).Nodup
  sub : ∀ k ∈ gone ++ rl, k ∈ keysV V
  np : ∀ k ∈ keysV V, k ∉ gone → npOf V k = inE ed gone k
  rdy : ∀ k ∈ keysV V, k ∉ gone → (k ∈ rl ↔ npOf V k = 0)
  topo : ∀ (i : Nat) (k : Int), gone[i]? = some k → ∀ e ∈ ed, e.2 = k → e.1 ∈ gone.take i
/-- within a turn -/
structure MInv (ed : List (Int × Int)) (K : List Int) (off : List Int) (Wt : Int → Int) (live : List Int) (st : View × List Int) : Prop where
  ks : keysV st.1 = K
  sc : ∀ p ∈ K, scOf st.1 p = succE ed p
  np : ∀ k ∈ K, k ∉ off → npOf st.1 k = Wt k
  lv : ∀ k ∈ live, npOf st.1 k = -1
  nd : st.2.Nodup
  sub : ∀ k ∈ st.2, k ∈ K ∧ k ∉ off
  rd : ∀ k ∈ K, k ∉ off → (k ∈ st.2 ↔ Wt k = 0)
theorem sc_at {V : View} {c j : Int} {f : Int × Int × List Int → Int × Int × List Int} (h1 : ∀ v, (f v).1 = v.1) (h2 : ∀ v, (f v).2.2 = v.2.2) : scOf (atKey c f V) j = scOf V j := by
  rw [scOf_lk, scOf_lk, lkV_at _ _ _ _ h1]
  split
  · cases lkV V j with
    | none => rfl
    | some v => simp [h2]
  · rfl
theorem np_at {V : View} {c j : Int} {f : Int × Int × List Int → Int × Int × List Int} {g : Int → Int} (h1 : ∀ v, (f v).1 = v.1) (h2 : ∀ v, (f v).2.1 = g v.2.1) (hc : c ∈ keysV V) : npOf (atKey c f V) j = if j = c then g (npOf V j) else npOf V j := by
  rw [npOf_lk, npOf_lk, lkV_at _ _ _ _ h1]
  by_cases e : j = c
  · subst e
    obtain ⟨n, l, hl⟩ := lkV_some hc
    rw [if_pos rfl, if_pos rfl, hl]
    simp [h2]
  · rw [if_neg e, if_neg e]
theorem dec_step {ed : List (Int × Int)} {K off live : List Int} {Wt : Int → Int} {st : View × List Int} {c : Int} (h : MInv ed K off Wt live st) (hc : c ∈ K) (ho : c ∉ off) (hl : c ∉ live) (hp : 1 ≤ Wt c) :
    MInv ed K off (fun k => if k = c then Wt k - 1 else Wt k) live (decV st c) := by
  have hck : c ∈ keysV st.1 := by rw [h.ks]; exact hc
  have e1 : ∀ k, npOf (decV st c).1 k = if k = c then npOf st.1 k - 1 else npOf st.1 k := fun k => np_at (g := fun n => n - 1) (fun _ => rfl) (fun _ => rfl) hck
  have hnc : npOf st.1 c = Wt c := h.np c hc ho
  have e2 : ∀ k, k ∈ (decV st c).2 ↔ k ∈ st.2 ∨ (k = c ∧ Wt c = 1) := fun k => by
    show k ∈ (if npOf st.1 c = 1 then st.2 ++ [c] else st.2) ↔ _
    rw [hnc]
    by_cases q : Wt c = 1
    · rw [if_pos q, List.mem_append, List.mem_singleton]
      simp [q]
    · rw [if_neg q]
      simp [q]
  refine ⟨(keys_at _ _ _ (by intro v; rfl)).trans h.ks, fun p hp' => (sc_at (by intro v; rfl) (by intro v; rfl)).trans (h.sc p hp'), fun k hk hko => ?_, fun k hk => ?_, ?_, fun k hk => ?_, fun k hk hko => ?_⟩
  · rw [e1, h.np k hk hko]
  · rw [e1, if_neg (show ¬ k = c from fun q => hl (q ▸ hk))]
    exact h.lv k hk
  · show (if npOf st.1 c = 1 then st.2 ++ [c] else st.2).Nodup
    rw [hnc]
    by_cases q : Wt c = 1
    · rw [if_pos q, List.nodup_append]
      refine ⟨h.nd, by simp, fun a ha b hb => ?_⟩
      rw [List.mem_singleton.mp hb]
      intro e
      subst e
      have := (h.rd a hc ho).mp ha
      (first | lia | omega)
    · rw [if_neg q]; exact h.nd
  · rcases (e2 k).mp hk with q | ⟨rfl, _⟩
    · exact h.sub k q
    · exact ⟨hc, ho⟩
  · rw [e2, h.rd k hk hko]
    by_cases e : k = c
    · subst e
      rw [if_pos rfl]
      constructor
      · rintro (q | ⟨_, q⟩) <;> (first | lia | omega)
      · intro q; exact .inr ⟨rfl, by (first | lia | omega)⟩
    · simp [e]
theorem dec_fold {ed : List (Int × Int)} {K off live : List Int} : ∀ (cs : List Int) {W' : Int → Int} {st : View × List Int}, (∀ k, 0 ≤ W' k) → (∀ c ∈ cs, c ∈ K ∧ c ∉ off ∧ c ∉ live) → MInv ed K off (fun k => W' k + (cs.count k : Int)) live st → MInv ed K off W' live (cs.foldl decV st)
  | [], W', st, _, _, h => by simpa using h
  | c :: cs, W', st, hw, hc, h => by
    have h0 := hc c (.head _)
    have hp : (1 : Int) ≤ W' c + ((c :: cs).count c : Int) := by have := hw c; simp; (first | lia | omega)
    have h1 := dec_step h h0.1 h0.2.1 h0.2.2 hp
    have e : (fun k => if k = c then W' k + ((c :: cs).count k : Int) - 1 else W' k + ((c :: cs).count k : Int)) = fun k => W' k + (cs.count k : Int) := by
      funext k
      by_cases q : k = c
      · subst q; rw [if_pos rfl, List.count_cons_self]; (first | lia | omega)
      · rw [if_neg q, List.count_cons_of_ne (Ne.symm q)]
    rw [e] at h1
    exact dec_fold cs hw (fun x hx => hc x (.tail _ hx)) h1
theorem inE_nonneg (ed : List (Int × Int)) (g : List Int) (k : Int) : 0 ≤ inE ed g k := Int.natCast_nonneg _
theorem inE_step {ed : List (Int × Int)} {g : List Int} {p : Int} (hp : p ∉ g) (k : Int) : inE ed g k = inE ed (g ++ [p]) k + ((succE ed p).count k : Int) := by
  unfold inE succE
  induction ed with
  | nil => simp
  | cons e r ih =>
    obtain ⟨a, b⟩ := e
    simp only [List.filter_cons]
    by_cases h1 : a = p
    · subst h1
      by_cases h2 : b = k
      · subst h2
        have q1 : decide (True ∧ a ∉ g) = true := by simp [hp]
        have q2 : decide (True ∧ a ∉ g ++ [a]) = false := by simp
        simp only [q1, q2, if_true, decide_true, List.length_cons, List.map_cons, List.count_cons_self, Bool.false_eq_true, if_false]
        (first | lia | omega)
      · simp only [h2, false_and, decide_false, Bool.false_eq_true, if_false, decide_true, if_true, List.map_cons, List.count_cons_of_ne h2]
        exact ih
    · have h3 : (b = k ∧ a ∉ g ++ [p]) ↔ (b = k ∧ a ∉ g) := by simp [h1]
      simp only [h3, h1, decide_false, Bool.false_eq_true, if_false]
      by_cases h2 : b = k ∧ a ∉ g
      · simp only [h2, not_false_eq_true, and_self, decide_true, if_true, List.length_cons]
        (first | lia | omega)
      · simp only [h2, decide_false, Bool.false_eq_true, if_false]
        exact ih
theorem inE_zero {ed : List (Int × Int)} {g : List Int} {k : Int} : inE ed g k = 0 ↔ ∀ e ∈ ed, e.2 = k → e.1 ∈ g := by
  unfold inE
  constructor
  · intro h e he hk
    have h0 : (ed.filter (fun e => decide (e.2 = k ∧ e.1 ∉ g))) = [] := List.length_eq_zero_iff.mp (by (first | lia | omega))
    have := List.filter_eq_nil_iff.mp h0 e he
    simp [hk] at this
    exact this
  · intro h
    rw [List.filter_eq_nil_iff.mpr (fun e he => by simp; exact h e he)]
    rfl
theorem done_step {ed : List (Int × Int)} {K off live : List Int} {Wt W' : Int → Int} {st : View × List Int} {p : Int} (h : MInv ed K off Wt (p :: live) st) (hp : p ∈ K) (ho : p ∈ off) (hl : p ∉ live) (hw : ∀ k, 0 ≤ W' k)
    (he : ∀ k, Wt k = W' k + ((succE ed p).count k : Int)) (hc : ∀ c ∈ succE ed p, c ∈ K ∧ c ∉ off ∧ c ∉ live) : MInv ed K off W' live (doneV st p) := by
  unfold doneV
  rw [h.sc p hp]
  refine dec_fold (succE ed p) hw hc ?_
  have hpk : p ∈ keysV st.1 := by rw [h.ks]; exact hp
  have e1 : ∀ k, npOf (atKey p (fun v => (v.1, -2, v.2.2)) st.1) k = if k = p then -2 else npOf st.1 k := fun k => np_at (g := fun _ => -2) (fun _ => rfl) (fun _ => rfl) hpk
  refine ⟨(keys_at _ _ _ (by intro v; rfl)).trans h.ks, fun q hq => (sc_at (by intro v; rfl) (by intro v; rfl)).trans (h.sc q hq), fun k hk hko => ?_, fun k hk => ?_, h.nd, h.sub, fun k hk hko => ?_⟩
  · rw [e1, if_neg (show ¬ k = p from fun q => hko (q ▸ ho)), h.np k hk hko, he]
  · rw [e1, if_neg (show ¬ k = p from fun q => hl (q ▸ hk))]
    exact h.lv k (.tail _ hk)
  · rw [h.rd k hk hko, he]
theorem done_fold {ed : List (Int × Int)} {K off : List Int} : ∀ (ps g : List Int) {st : View × List Int}, (g ++ ps).Nodup → (∀ p ∈ ps, p ∈ K ∧ p ∈ off ∧ ∀ c ∈ succE ed p, c ∈ K ∧ c ∉ off) → MInv ed K off (inE ed g) ps st →
    MInv ed K off (inE ed (g ++ ps)) [] (ps.foldl doneV st) ∧ ∀ (i : Nat) (k : Int), ps[i]? = some k → npOf ((ps.take i).foldl doneV st).1 k = -1
  | [], g, st, _, _, h => ⟨by simpa using h, fun i k hk => by simp at hk⟩
  | p :: ps, g, st, hn, hp, h => by
    have h0 := hp p (.head _)
    have hn2 := List.nodup_append.mp hn
    have hpg : p ∉ g := fun q => hn2.2.2 p q p (.head _) rfl
    have hpl : p ∉ ps := (List.nodup_cons.mp hn2.2.1).1
    have h1 := done_step (W' := inE ed (g ++ [p])) h h0.1 h0.2.1 hpl (inE_nonneg _ _) (inE_step hpg) fun c hc => ⟨(h0.2.2 c hc).1, (h0.2.2 c hc).2, fun q => (h0.2.2 c hc).2 (hp c (.tail _ q)).2.1⟩
    have h2 := done_fold ps (g ++ [p]) (by simpa using hn) (fun q hq => hp q (.tail _ hq)) h1
    refine ⟨by simpa using h2.1, fun i k hk => ?_⟩
    cases i with
    | zero => simp at hk; subst hk; exact h.lv p (.head _)
    | succ i => exact h2.2 i k (by simpa using hk)
theorem out_facts : ∀ (ks : List Int) {V : View}, (∀ k ∈ ks, k ∈ keysV V) → keysV (outV V ks) = keysV V ∧ (∀ p, scOf (outV V ks) p = scOf V p) ∧ ∀ k, npOf (outV V ks) k = if k ∈ ks then -1 else npOf V k
  | [], V, _ => ⟨rfl, fun _ => rfl, fun _ => by simp [outV]⟩
  | c :: ks, V, h => by
    have hk1 : keysV (atKey c (fun v => (v.1, -1, v.2.2)) V) = keysV V := keys_at _ _ _ (by intro v; rfl)
    obtain ⟨a1, a2, a3⟩ := out_facts ks (V := atKey c (fun v => (v.1, -1, v.2.2)) V) (fun k hk => by rw [hk1]; exact h k (.tail _ hk))
    have e1 : ∀ k, npOf (atKey c (fun v => (v.1, -1, v.2.2)) V) k = if k = c then -1 else npOf V k := fun k => np_at (g := fun _ => -1) (fun _ => rfl) (fun _ => rfl) (h c (.head _))
    refine ⟨a1.trans hk1, fun p => (a2 p).trans (sc_at (by intro v; rfl) (by intro v; rfl)), fun k => ?_⟩
    refine (a3 k).trans ?_
    rw [e1]
    by_cases q1 : k ∈ ks
    · rw [if_pos q1, if_pos (.tail _ q1)]
    · rw [if_neg q1]
      by_cases q2 : k = c
      · rw [if_pos q2, if_pos (by rw [q2]; exact .head _)]
      · rw [if_neg q2, if_neg (fun z => (List.mem_cons.mp z).elim q2 q1)]
theorem mem_succE {ed : List (Int × Int)} {p c : Int} : c ∈ succE ed p ↔ (p, c) ∈ ed := by
  unfold succE
  simp only [List.mem_map, List.mem_filter, decide_eq_true_eq]
  constructor
  · rintro ⟨⟨a, b⟩, ⟨h1, rfl⟩, rfl⟩; exact h1
  · intro h; exact ⟨(p, c), ⟨h, rfl⟩, rfl⟩
theorem kahn_step {ed : List (Int × Int)} {V : View} {rl gone : List Int} (h : KInv ed V rl gone) :
    KInv ed (rl.foldl doneV (outV V rl, [])).1 (rl.foldl doneV (outV V rl, [])).2 (gone ++ rl) ∧ keysV (rl.foldl doneV (outV V rl, [])).1 = keysV V ∧ ∀ (i : Nat) (k : Int), rl[i]? = some k → npOf ((rl.take i).foldl doneV (outV V rl, [])).1 k = -1 := by
  have hn2 := List.nodup_append.mp h.nd
  have hrg : ∀ k ∈ rl, k ∉ gone := fun k hk q => hn2.2.2 k q k hk rfl
  obtain ⟨o1, o2, o3⟩ := out_facts rl (V := V) (fun k hk => h.sub k (List.mem_append_right _ hk))
  have hz : ∀ k ∈ rl, inE ed gone k = 0 := fun k hk => by
    have hk' := h.sub k (List.mem_append_right _ hk)
    rw [← h.np k hk' (hrg k hk)]
    exact (h.rdy k hk' (hrg k hk)).mp hk
  have hs : ∀ p ∈ rl, p ∈ keysV V ∧ p ∈ gone ++ rl ∧ ∀ c ∈ succE ed p, c ∈ keysV V ∧ c ∉ gone ++ rl := fun p hp => by
    refine ⟨h.sub p (List.mem_append_right _ hp), List.mem_append_right _ hp, fun c hc => ?_⟩
    rw [mem_succE] at hc
    refine ⟨(h.cl _ hc).2, fun q => ?_⟩
    rcases List.mem_append.mp q with q | q
    · obtain ⟨i, hi⟩ := List.mem_iff_getElem?.mp q
      exact hrg p hp (List.mem_of_mem_take (h.topo i c hi (p, c) hc rfl))
    · exact hrg p hp (inE_zero.mp (hz c q) (p, c) hc rfl)
  have hM : MInv ed (keysV V) (gone ++ rl) (inE ed gone) rl (outV V rl, []) := by
    refine ⟨o1, fun p hp => (o2 p).trans (h.sc p hp), fun k hk hko => ?_, fun k hk => ?_, List.nodup_nil, fun k hk => by simp at hk, fun k hk hko => ?_⟩
    · rw [List.mem_append, not_or] at hko
      rw [o3, if_neg hko.2, h.np k hk hko.1]
    · rw [o3, if_pos hk]
    · rw [List.mem_append, not_or] at hko
      constructor
      · intro q; simp at q
      · intro q
        exact absurd ((h.rdy k hk hko.1).mpr (by rw [h.np k hk hko.1]; exact q)) hko.2
  obtain ⟨hF, hout⟩ := done_fold rl gone h.nd hs hM
  refine ⟨⟨by rw [hF.ks]; exact h.kn, by rw [hF.ks]; exact h.cl, by rw [hF.ks]; exact hF.sc, ?_, ?_, by rw [hF.ks]; exact hF.np, ?_, ?_⟩, hF.ks, hout⟩
  · rw [List.nodup_append]
    exact ⟨h.nd, hF.nd, fun a ha b hb e => (hF.sub b hb).2 (e ▸ ha)⟩
  · intro k hk
    rw [hF.ks]
    rcases List.mem_append.mp hk with q | q
    · exact h.sub k q
    · exact (hF.sub k q).1
  · rw [hF.ks]
    intro k hk hko
    rw [hF.rd k hk hko, hF.np k hk hko]
  · intro i k hi e he hk
    by_cases hlt : i < gone.length
    · rw [List.getElem?_append_left hlt] at hi
      rw [List.take_append_of_le_length (by (first | lia | omega))]
      exact h.topo i k hi e he hk
    · rw [List.getElem?_append_right (by (first | lia | omega))] at hi
      have := inE_zero.mp (hz k (List.mem_of_getElem? hi)) e he hk
      rw [List.take_append, List.take_of_length_le (by (first | lia | omega))]
      exact List.mem_append_left _ this
theorem kahn_start {ed : List (Int × Int)} {V : View} (h : Good ed V) {rl : List Int} (hn : rl.Nodup) (hr : ∀ k, k ∈ rl ↔ k ∈ keysV V ∧ npOf V k = 0) : KInv ed V rl [] := by
  have hnp : ∀ k ∈ keysV V, npOf V k = inE ed [] k := fun k hk => by rw [npOf_lk, h.lk k hk]; rfl
  refine ⟨h.kn, h.cl, fun p hp => by rw [scOf_lk, h.lk p hp]; rfl, by simpa using hn, fun k hk => ((hr k).mp (by simpa using hk)).1, fun k hk _ => hnp k hk, fun k hk _ => ?_, fun i k hi => by simp at hi⟩
  rw [hr k]
  exact ⟨fun q => q.2, fun q => ⟨hk, q⟩⟩
theorem kahn_end {ed : List (Int × Int)} {V : View} {gone : List Int} (h : KInv ed V [] gone) {k : Int} (hk : k ∈ keysV V) (hg : k ∉ gone) : ∃ p, (p, k) ∈ ed ∧ p ∈ keysV V ∧ p ∉ gone := by
  have h0 : ¬ inE ed gone k = 0 := fun q => by
    have := (h.rdy k hk hg).mpr (by rw [h.np k hk hg]; exact q)
    simp at this
  by_cases hp : ∃ p, (p, k) ∈ ed ∧ p ∉ gone
  · obtain ⟨p, h1, h2⟩ := hp
    exact ⟨p, h1, (h.cl _ h1).1, h2⟩
  · exact absurd (inE_zero.mpr fun e he hk' => by
      by_cases q : e.1 ∈ gone
      · exact q
      · exact absurd ⟨e.1, by rw [← hk']; exact he, q⟩ hp) h0
theorem rdy_mem {G : List Nd} (hG : (G.map (·.key)).Nodup) (k : Int) : k ∈ (rdy G).map (·.1) ↔ k ∈ keysV (view G) ∧ npOf (view G) k = 0 := by
  unfold rdy
  rw [List.map_map]
  constructor
  · intro h
    obtain ⟨e, he, rfl⟩ := List.mem_map.mp h
    obtain ⟨h1, h2⟩ := List.mem_filter.mp he
    refine ⟨List.mem_map.mpr ⟨_, List.mem_map_of_mem (f := fun e : Nd => (e.key, e.np, e.sc.map (·.1))) h1, rfl⟩, ?_⟩
    show npOf (view G) e.key = 0
    rw [npOf_nd hG h1]
    simpa using h2
  · rintro ⟨h1, h2⟩
    obtain ⟨v, hv, rfl⟩ := List.mem_map.mp h1
    obtain ⟨e, he, rfl⟩ := List.mem_map.mp hv
    rw [npOf_nd hG he] at h2
    exact List.mem_map.mpr ⟨e, List.mem_filter.mpr ⟨he, by simpa using h2⟩, rfl⟩
theorem rdy_nodup {G : List Nd} (hG : (G.map (·.key)).Nodup) : ((rdy G).map (·.1)).Nodup := by
  unfold rdy
  rw [List.map_map]
  exact List.Nodup.sublist (List.Sublist.map _ List.filter_sublist) hG
theorem kinv_len {ed : List (Int × Int)} {V : View} {rl gone : List Int} (h : KInv ed V rl gone) : gone.length + rl.length ≤ V.length := by
  have := nodup_le (m := keysV V) h.nd h.sub
  rw [List.length_append, List.length_map] at this
  exact this
/-- keys and successors alone -/
noncomputable def kc (v : Int × Int × List Int) : Int × List Int := (v.1, v.2.2)
theorem kc_at {V : View} {c : Int} {f : Int × Int × List Int → Int × Int × List Int} (h : ∀ v, kc (f v) = kc v) : (atKey c f V).map kc = V.map kc := by
  unfold atKey
  rw [List.map_map]
  refine List.map_congr_left fun v _ => ?_
  show kc (if v.1 = c then f v else v) = kc v
  split
  · exact h v
  · rfl
theorem kc_out : ∀ (ks : List Int) {V : View}, (outV V ks).map kc = V.map kc
  | [], V => rfl
  | c :: ks, V => (kc_out ks (V := atKey c (fun v => (v.1, -1, v.2.2)) V)).trans (kc_at (by intro v; rfl))
theorem kc_dec : ∀ (cs : List Int) {st : View × List Int}, (cs.foldl decV st).1.map kc = st.1.map kc
  | [], st => rfl
  | c :: cs, st => (kc_dec cs (st := decV st c)).trans (kc_at (V := st.1) (by intro v; rfl))
theorem kc_done : ∀ (ks : List Int) {st : View × List Int}, (ks.foldl doneV st).1.map kc = st.1.map kc
  | [], st => rfl
  | k :: ks, st => (kc_done ks (st := doneV st k)).trans ((kc_dec _).trans (kc_at (V := st.1) (by intro v; rfl)))
theorem kc_keys {V V' : View} (h : V.map kc = V'.map kc) : keysV V = keysV V' := by
  have := congrArg (List.map (·.1)) h
  rw [List.map_map, List.map_map] at this
  exact this
theorem kc_sc {v v' : Int × Int × List Int} (h : kc v' = kc v) : v'.2.2 = v.2.2 := by
  have := congrArg Prod.snd h
  exact this
theorem kc_bnd {V V' : View} (h : V.map kc = V'.map kc) (hb : Bnd V') : Bnd V := fun v hv => by
  have : kc v ∈ V'.map kc := by rw [← h]; exact List.mem_map_of_mem hv
  obtain ⟨v', h1, h2⟩ := List.mem_map.mp this
  have := hb v' h1
  rw [kc_sc h2] at this
  exact this
theorem kc_closed {V V' : View} (h : V.map kc = V'.map kc) (hb : ClosedV V') : ClosedV V := fun v hv c hc => by
  have : kc v ∈ V'.map kc := by rw [← h]; exact List.mem_map_of_mem hv
  obtain ⟨v', h1, h2⟩ := List.mem_map.mp this
  rw [kc_keys h]
  exact hb v' h1 c (by rw [kc_sc h2]; exact hc)
theorem perm_g3 {α : Type} (A B : List α) (r t g : α) (rest : List α) : (A ++ (B ++ r :: t :: g :: rest)).Perm (g :: (A ++ (B ++ r :: t :: rest))) := by
  have h1 : A ++ (B ++ r :: t :: g :: rest) = (A ++ B ++ [r, t]) ++ g :: rest := by simp
  have h2 : g :: (A ++ (B ++ r :: t :: rest)) = g :: ((A ++ B ++ [r, t]) ++ rest) := by simp
  rw [h1, h2]
  exact List.perm_middle
theorem perm_g2 {α : Type} (A B : List α) (r t : α) (rest : List α) : (A ++ (B ++ r :: t :: rest)).Perm (t :: (A ++ (B ++ r :: rest))) := (perm_in t r A B rest).symm
end
section
noncomputable def cellsL : List Int := [64, 129, 199, 262, 328, 386, 459]
noncomputable def stepOf (c n : Int) : T3 := (((c + n).fdiv 64).fmod 9, (c + n).fmod 4, if ((c + n).fdiv 4).fmod 16 = 15 then (c + n).fmod 4 else (c + n + 1 + (((c + n).fdiv 4).fmod 16).fmod 3).fmod 4)
noncomputable def allSteps (ns : List Int) : List T3 := (cellsL.zip (ns ++ List.replicate 7 0)).map fun p => stepOf p.1 p.2
noncomputable def stepsL (ns : List Int) : List T3 := (allSteps ns).take (7 - (ns.sum.fmod 2).toNat)
theorem ints_vals : ∀ (l : List (Int × Tok)), IntsAre (valsOf l) (l.map (·.1))
  | [] => .nil
  | (a, t) :: l => .cons a t (ints_vals l)
theorem pick_upto (xs : List X3) (s : Int) (h : s.fmod 2 = 0 ∨ s.fmod 2 = 1) (hl : xs.length = 7) : kms_pick (refsOf xs).toArray.toList none (some (7 - s.fmod 2)) = refsOf (xs.take (7 - (s.fmod 2).toNat)) := by
  have e1 : (refsOf xs).length = 7 := by simp [hl]
  have e2 : kms_hi (some (7 - s.fmod 2)) (refsOf xs).length = 7 - (s.fmod 2).toNat := by
    unfold kms_hi
    dsimp only
    rw [e1]
    rcases h with h | h <;> rw [h] <;> rfl
  show ((refsOf xs).drop (kms_lo none (refsOf xs).length)).take (kms_hi (some (7 - s.fmod 2)) (refsOf xs).length - kms_lo none (refsOf xs).length) = _
  rw [e2]
  show ((refsOf xs).drop 0).take (7 - (s.fmod 2).toNat - 0) = _
  rw [List.drop_zero, Nat.sub_zero]
  unfold refsOf
  rw [List.map_take]
theorem apart_sub' {l l' : List (Addr × Obj)} (a : Apart l) (h : l'.Sublist l) : Apart l' := List.Nodup.sublist (h.map _) a
theorem refs_snoc' (ys : List X3) (x : X3) : refsOf (ys ++ [x]) = refsOf ys ++ [.ref x.1] := by simp [refsOf]
theorem apart_drop2 {p q : Addr × Obj} {l : List (Addr × Obj)} (a : Apart (p :: q :: l)) : Apart (p :: l) := apart_cons (fun z hz => apart_ne a z (.tail _ hz)) (apart_tail (apart_tail a))
theorem steps_spec {prog : Program} {w : World} (dp un : Nat) (gd : Option (List Code)) (env : Env) (outer : List Env) (h₀ : Heap) (L : Addr) (m : Str → Option Value) (s : Shared)
    (Q E : Value → Shared → Prop) (C : Cx w env outer h₀ L) (F : Fr h₀ L s.heap m) (nl : Addr) (vs : List (Int × Tok)) (n : Nat) (rest : List (Addr × Obj)) (N : News h₀ L s.heap ((nl, lstObj (valsOf vs) n) :: rest)) (ha : Apart ((nl, lstObj (valsOf vs) n) :: rest))
    (hl : vs.length ≤ 7)
    (hd : dp + 8 < recursionLimit) (hu : un + 64 < cLine)
    (ret : ∀ h' tk' (r : Addr) (xs : List X3) (tr : List (Addr × Obj)) n', xs.map (·.2) = stepsL (vs.map (·.1)) → (∀ x ∈ xs, TriIn tr x) → Fr h₀ L h' m → News h₀ L h' ((r, lstObj (refsOf xs) n') :: (tr ++ (nl, lstObj (valsOf vs) n) :: rest)) → Apart ((r, lstObj (refsOf xs) n') :: (tr ++ (nl, lstObj (valsOf vs) n) :: rest)) → Q (.ref r) { s with heap := h', toks := tk' }) :
    wpAny (model prog w) (arn none dp un gd env outer) (call (.ref 176) [.ref nl]) Q E s := by
  refine cx_e C ?_
  intro p loose mean mg mb A₀ base B X T hf hk
  refine wpAny_call ?_
  k_dflt (refine' code_def ?k1 ?k2 ?k3 ?k4 ?k5 ?kA ?kF ?kK ?k6 ?k7 ?k8 ?k9 ?kB ?_ ?c2 ?c3 ?c4 ?c5; (case kA => exact rfl); (case kF => first | assumption | exact rfl); (case kK => first | assumption | exact rfl); (case k1 => k_asm); (case k2 => k_asm); (case k3 => k_asm); (case k4 => k_asm); (case k5 => k_asm); (case k6 => k_is); (case k7 => k_is); (case k8 => k_room); (case k9 => first | exact BindsTo.of_eq rfl | exact binds_K (by k_in) rfl (by k_is) rfl rfl rfl); (case c5 => decide); (case kB => exact locs rfl); (case c2 => exact rfl); (case c3 => exact rfl); (case c4 => exact rfl))
  intro g L1 h1 FG F1 N1 B1 X1 T1
  (try dsimp only)
  (try k_fold)
  have F1' := frB [(Str.ofString "numbers", .ref nl)] F1 ⟨rfl, trivial⟩
  clear F1
  (repeat' ((fail_if_success (with_reducible (first | show gz2 | show gz3 | show gz4 | show gz5 | show gz6 | show gz7 | show gz8 | show gz9 | show gz10 | show gz11 | show gz12 | show gz13 | show gz14 | show gz15 | show gz17 | show gz18 | show gz19 | show gz16))); (first | ((with_reducible show wpAny _ _ (execs _ _) _ _ _); k_gentoks) | with_reducible (first | refine execs_one ?_ | (refine execs_cut ?_; intro _ _) | (refine if_cut ?_; intro _ _)) | ((fail_if_success (with_reducible show gz1)); (first | (refine Kh.go ‹_› _ _ ?_; try dsimp only [KnP]) | ((with_reducible show TurnEnd _ _ _ _ _ _); dsimp only [TurnEnd]))) | (k_unfold; (try dsimp only)) | (k_end; wrow_close) | walk1 | (dsimp only; walk1) | (leave1; try dsimp only))))
  refine my_for ?_
  (repeat' ((fail_if_success (with_reducible (first | show gz2 | show gz3 | show gz4 | show gz5 | show gz6 | show gz7 | show gz8 | show gz9 | show gz10 | show gz11 | show gz12 | show gz13 | show gz14 | show gz15 | show gz17 | show gz18 | show gz19 | show gz16))); (first | ((with_reducible show wpAny _ _ (execs _ _) _ _ _); k_gentoks) | with_reducible (first | refine execs_one ?_ | (refine execs_cut ?_; intro _ _) | (refine if_cut ?_; intro _ _)) | ((fail_if_success (with_reducible show gz1)); (first | (refine Kh.go ‹_› _ _ ?_; try dsimp only [KnP]) | ((with_reducible show TurnEnd _ _ _ _ _ _); dsimp only [TurnEnd]))) | (k_unfold; (try dsimp only)) | (k_end; wrow_close) | walk1 | (dsimp only; walk1) | (leave1; try dsimp only))))
  rename_i stA h4 l3 h3 _ _ cA h2 l2 zz h1x F1x N1x l1 D hx F2 N2 i1 n1 s1 e1 e2 e3 l0
  (try clear F1x); (try clear N1x); (try clear i1); (try clear n1); (try clear s1); (try clear e1); (try clear e2); (try clear e3)
  obtain ⟨cs, tz, hcs, N3⟩ : ∃ (cs : List (Int × Tok)) (tz : Tok), cs.map (·.1) = cellsL ∧ News g L1 hx ((D, lstObj (valsOf (List.replicate 7 (0, tz))) 0) :: (zz, lstObj [.int 0 tz] 0) :: (cA, lstObj (valsOf cs) 0) :: (stA, lstObj [] 0) :: (nl, lstObj (valsOf vs) n) :: rest) :=
    ⟨[(64, _), (129, _), (199, _), (262, _), (328, _), (386, _), (459, _)], _, rfl, N2⟩
  clear N2
  refine kmk_add_lit (its := (valsOf vs).toArray) (its2 := (valsOf (List.replicate 7 (0, tz))).toArray) (zs := valsOf (vs ++ List.replicate 7 (0, tz))) F2 N3 ⟨_, (N3 _ (.tail _ (.tail _ (.tail _ (.tail _ (.head _)))))).1, rfl, n, rfl⟩ ⟨_, (N3 _ (.head _)).1, rfl, 0, rfl⟩ (by simp) ?_ (by rw [sizeLine_eq]; simp; (first | lia | omega))
  intro D5 h5 F5 N5 l5
  have F6 := frB [(Str.ofString "numbers", .ref nl), (Str.ofString "steps", .ref stA)] F5 ⟨rfl, rfl, trivial⟩
  clear F5 F2
  have ha0 : Apart ((D5, lstObj (valsOf (vs ++ List.replicate 7 (0, tz))) 0) :: (cA, lstObj (valsOf cs) 0) :: (stA, lstObj [] 0) :: (nl, lstObj (valsOf vs) n) :: rest) := by
    have a1 := apart_lt (p := (stA, lstObj [] 0)) (List.forall_mem_cons.mpr ⟨l3.1, fun q hq => kst_ltOf l3.2 q hq⟩) ha
    have a2 := apart_lt (p := (cA, lstObj (valsOf cs) 0)) (List.forall_mem_cons.mpr ⟨l2.1, List.forall_mem_cons.mpr ⟨l2.2.1, fun q hq => kst_ltOf l2.2.2 q hq⟩⟩) a1
    exact apart_lt (fun q hq => l5 q (.tail _ (.tail _ hq))) a2
  have N6 : News g L1 h5 ((D5, lstObj (valsOf (vs ++ List.replicate 7 (0, tz))) 0) :: (cA, lstObj (valsOf cs) 0) :: (stA, lstObj [] 0) :: (nl, lstObj (valsOf vs) n) :: rest) := fun q hq => N5 q ((List.mem_cons.mp hq).elim (fun z => z ▸ .head _) fun z => .tail _ (.tail _ (.tail _ z)))
  clear N5 N3
  (repeat' ((fail_if_success (with_reducible (first | show gz2 | show gz3 | show gz4 | show gz5 | show gz6 | show gz7 | show gz8 | show gz9 | show gz10 | show gz11 | show gz12 | show gz13 | show gz14 | show gz15 | show gz17 | show gz18 | show gz19 | show gz16))); (first | ((with_reducible show wpAny _ _ (execs _ _) _ _ _); k_gentoks) | with_reducible (first | refine execs_one ?_ | (refine execs_cut ?_; intro _ _) | (refine if_cut ?_; intro _ _)) | ((fail_if_success (with_reducible show gz1)); (first | (refine Kh.go ‹_› _ _ ?_; try dsimp only [KnP]) | ((with_reducible show TurnEnd _ _ _ _ _ _); dsimp only [TurnEnd]))) | (k_unfold; (try dsimp only)) | (k_end; wrow_close) | walk1 | (dsimp only; walk1) | (leave1; try dsimp only))))
  refine zip_make (l1 := cA) (l2 := D5) (xs := valsOf cs) (ys := valsOf (vs ++ List.replicate 7 (0, tz))) (n1 := 0) (n2 := 0) F6 N6 ha0 (.tail _ (.head _)) (.head _) ?_
  intro Z o1 o2 h7 hi1 hi2 F7 N7 ha7
  (try clear N6); (try clear F6)
  (repeat' ((fail_if_success (with_reducible (first | show gz2 | show gz3 | show gz4 | show gz5 | show gz6 | show gz7 | show gz8 | show gz9 | show gz10 | show gz11 | show gz12 | show gz13 | show gz14 | show gz15 | show gz17 | show gz18 | show gz19 | show gz16))); (first | ((with_reducible show wpAny _ _ (execs _ _) _ _ _); k_gentoks) | with_reducible (first | refine execs_one ?_ | (refine execs_cut ?_; intro _ _) | (refine if_cut ?_; intro _ _)) | ((fail_if_success (with_reducible show gz1)); (first | (refine Kh.go ‹_› _ _ ?_; try dsimp only [KnP]) | ((with_reducible show TurnEnd _ _ _ _ _ _); dsimp only [TurnEnd]))) | (k_unfold; (try dsimp only)) | (k_end; wrow_close) | walk1 | (dsimp only; walk1) | (leave1; try dsimp only))))
  refine wpAny_pyIter_zip (N7 _ (.head _)).1 ?_
  have pz : (Z.led .none .none .none o1 o2 ((D5, lstObj (valsOf (vs ++ List.replicate 7 (0, tz))) 0) :: (cA, lstObj (valsOf cs) 0) :: (stA, lstObj [] 0) :: (nl, lstObj (valsOf vs) n) :: rest)).Perm (Z.led .none .none .none o1 o2 ((stA, lstObj [] 0) :: (D5, lstObj (valsOf (vs ++ List.replicate 7 (0, tz))) 0) :: (cA, lstObj (valsOf cs) 0) :: (nl, lstObj (valsOf vs) n) :: rest)) :=
    (List.perm_middle (l₁ := [(D5, lstObj (valsOf (vs ++ List.replicate 7 (0, tz))) 0), (cA, lstObj (valsOf cs) 0)])).append_left [_, _, _, _, _]
  have N8 := news_perm N7 pz
  have ha8 := apart_perm ha7 pz
  clear N7 ha7 pz
  have m1 : (cA, lstObj (valsOf cs) 0) ∈ (D5, lstObj (valsOf (vs ++ List.replicate 7 (0, tz))) 0) :: (cA, lstObj (valsOf cs) 0) :: (nl, lstObj (valsOf vs) n) :: rest := .tail _ (.head _)
  have m2 : (D5, lstObj (valsOf (vs ++ List.replicate 7 (0, tz))) 0) ∈ (D5, lstObj (valsOf (vs ++ List.replicate 7 (0, tz))) 0) :: (cA, lstObj (valsOf cs) 0) :: (nl, lstObj (valsOf vs) n) :: rest := .head _
  generalize hrst : (D5, lstObj (valsOf (vs ++ List.replicate 7 (0, tz))) 0) :: (cA, lstObj (valsOf cs) 0) :: (nl, lstObj (valsOf vs) n) :: rest = rst at N8 ha8 m1 m2
  have hcl : cs.length = 7 := by have := congrArg List.length hcs; simpa [cellsL] using this
  have F8 := frB [(Str.ofString "numbers", .ref nl), (Str.ofString "steps", .ref stA)] F7 ⟨rfl, rfl, trivial⟩
  refine Stop.mk (my_forLoopT (fun k s' => ∃ (i : Nat) (a b : Value) (o1 o2 : Obj) (xs : List X3) (tr : List (Addr × Obj)) (n' : Nat) (h : Heap) (tk : Nat) (u : Str → Option Value), k = 8 - i ∧ i ≤ 7 ∧ s' = { s with heap := h, toks := tk } ∧ IsLIt o1 cA i ∧ IsLIt o2 D5 i ∧
      Fr g L1 h (kB u [(Str.ofString "numbers", .ref nl), (Str.ofString "steps", .ref stA)]) ∧ News g L1 h (Z.led .none a b o1 o2 ((stA, lstObj (refsOf xs) n') :: (tr ++ rst))) ∧ Apart (Z.led .none a b o1 o2 ((stA, lstObj (refsOf xs) n') :: (tr ++ rst))) ∧
      (∀ x ∈ xs, TriIn tr x) ∧ xs.length = i ∧ xs.map (·.2) = (allSteps (vs.map (·.1))).take i)
    (fun s' => ∃ (xs : List X3) (tr : List (Addr × Obj)) (n' : Nat) (h : Heap) (tk : Nat) (u : Str → Option Value), s' = { s with heap := h, toks := tk } ∧ Fr g L1 h (kB u [(Str.ofString "numbers", .ref nl), (Str.ofString "steps", .ref stA)]) ∧
      News g L1 h ((stA, lstObj (refsOf xs) n') :: (tr ++ rst)) ∧ Apart ((stA, lstObj (refsOf xs) n') :: (tr ++ rst)) ∧ (∀ x ∈ xs, TriIn tr x) ∧ xs.length = 7 ∧ xs.map (·.2) = allSteps (vs.map (·.1))) ?_ 8
    (ex11_i 0 _ _ o1 o2 [] [] 0 _ _ _ (an11_i rfl (Nat.zero_le _) rfl hi1 hi2 F8 N8 ha8 (by simp) rfl rfl)) ?_)
  · (try clear N8); (try clear ha8); (try clear F8); (try clear F7); (try clear hi1); (try clear hi2)
    intro I1z R1z Q1z hI1z hR1z hQ1z k s' hzz
    refine ex11_e hzz ?_
    clear hzz
    intro i a b o1 o2 xs tr n' h tk u hzz
    refine an11_e hzz ?_
    clear hzz
    rintro rfl hi rfl hi1 hi2 F9 N9 ha9 htr hxl hxs
    by_cases hlt : i < 7
    · obtain ⟨c, tc, hc⟩ : ∃ c t, cs[i]? = some (c, t) := ⟨_, _, List.getElem?_eq_getElem (by (first | lia | omega))⟩
      obtain ⟨nn, tn, hnn⟩ : ∃ c t, (vs ++ List.replicate 7 (0, tz))[i]? = some (c, t) := ⟨_, _, List.getElem?_eq_getElem (by simp; (first | lia | omega))⟩
      have hstep : (allSteps (vs.map (·.1)))[i]? = some (stepOf c nn) := by
        unfold allSteps
        have e1 : vs.map (·.1) ++ List.replicate 7 (0 : Int) = (vs ++ List.replicate 7 ((0 : Int), tz)).map (fun q : Int × Tok => q.1) := by simp
        rw [List.getElem?_map, ← hcs, e1, List.getElem?_zip_eq_some (z := (c, nn)) |>.mpr ⟨by rw [List.getElem?_map, hc]; rfl, by rw [List.getElem?_map, hnn]; rfl⟩]
        rfl
      refine zip_next (x := .int c tc) (y := .int nn tn) F9 N9 ha9 hi1 hi2 (.tail _ (List.mem_append_right _ m1)) (.tail _ (List.mem_append_right _ m2)) (by rw [List.getElem?_map, hc]; rfl) (by rw [List.getElem?_map, hnn]; rfl) ?_
      intro T o1' o2' h10 hi1' hi2' F10 N10 l10
      dsimp only [NextIsT]
      have haT := apart_lt (p := (T, pairO (.int c tc) (.int nn tn))) l10 ha9
      refine zip_own F10 N10 (show Apart ((T, pairO (.int c tc) (.int nn tn)) :: Z.led (rawInt T) (.int c tc) (.int nn tn) o1' o2' ((stA, lstObj (refsOf xs) n') :: (tr ++ rst))) from haT) ?_
      intro h11 F11 N11
      (try clear N10); (try clear F10); (try clear N9); (try clear F9)
      dsimp only [ZA.led] at N11
      (repeat' ((fail_if_success (with_reducible (first | show gz2 | show gz3 | show gz4 | show gz5 | show gz6 | show gz7 | show gz8 | show gz9 | show gz10 | show gz11 | show gz12 | show gz13 | show gz14 | show gz15 | show gz17 | show gz18 | show gz19 | show gz16))); (first | ((with_reducible show wpAny _ _ (execs _ _) _ _ _); k_gentoks) | with_reducible (first | refine execs_one ?_ | (refine execs_cut ?_; intro _ _) | (refine if_cut ?_; intro _ _)) | ((fail_if_success (with_reducible show gz1)); (first | (refine Kh.go ‹_› _ _ ?_; try dsimp only [KnP]) | ((with_reducible show TurnEnd _ _ _ _ _ _); dsimp only [TurnEnd]))) | (k_unfold; (try dsimp only)) | (k_end; wrow_close) | walk1 | (dsimp only; walk1) | (leave1; try dsimp only))))
      · rename Fr _ _ _ _ => F12
        rename News _ _ _ _ => N12
        rename _ ∧ _ ∧ _ ∧ _ ∧ _ ∧ _ ∧ _ ∧ AllLt _ _ => l12
        rename_i cnd hq1 tp hq2
        have hsv : stepOf c nn = (((c + nn).fdiv 64).fmod 9, (c + nn).fmod 4, (c + nn).fmod 4) := by unfold stepOf; rw [if_pos cnd]
        obtain ⟨t1, t2, t3, N13⟩ : ∃ t1 t2 t3, News g L1 hq2 ((tp, triObj (stepOf c nn) t1 t2 t3 0) :: (T, pairO (.int c tc) (.int nn tn)) :: Z.led .none (.int c tc) (.int nn tn) o1' o2' ((stA, lstObj (refsOf xs) n') :: (tr ++ rst))) := ⟨_, _, _, by rw [hsv]; exact N12⟩
        have ha13 : Apart ((tp, triObj (stepOf c nn) t1 t2 t3 0) :: (T, pairO (.int c tc) (.int nn tn)) :: Z.led .none (.int c tc) (.int nn tn) o1' o2' ((stA, lstObj (refsOf xs) n') :: (tr ++ rst))) := apart_lt (by
          refine an8_e (l12) ?_
          clear l12
          rintro k1 k2 k3 k4 k5 k6 k7 k8
          exact List.forall_mem_cons.mpr ⟨k1, List.forall_mem_cons.mpr ⟨k2, List.forall_mem_cons.mpr ⟨k3, List.forall_mem_cons.mpr ⟨k4, List.forall_mem_cons.mpr ⟨k5, List.forall_mem_cons.mpr ⟨k6, List.forall_mem_cons.mpr ⟨k7, fun q hq => kst_ltOf k8 q hq⟩⟩⟩⟩⟩⟩⟩) haT
        refine lst_append (D := stA) (vs := refsOf xs) (x := .ref tp) F12 N13 (upd_at (l₁ := [_, _, _, _, _, _, _]) ha13) (by simp; (first | lia | omega)) ?_
        intro h14 F14 N14
        dsimp only [List.cons_append, List.nil_append] at N14
        rw [show refsOf xs ++ [Value.ref tp] = refsOf (xs ++ [(tp, stepOf c nn)]) from (refs_snoc' xs (tp, stepOf c nn)).symm] at N14
        (try clear N12); (try clear N13); (try clear F12)
        (repeat' ((fail_if_success (with_reducible (first | show gz2 | show gz3 | show gz4 | show gz5 | show gz6 | show gz7 | show gz8 | show gz9 | show gz10 | show gz11 | show gz12 | show gz13 | show gz14 | show gz15 | show gz17 | show gz18 | show gz19 | show gz16))); (first | ((with_reducible show wpAny _ _ (execs _ _) _ _ _); k_gentoks) | with_reducible (first | refine execs_one ?_ | (refine execs_cut ?_; intro _ _) | (refine if_cut ?_; intro _ _)) | ((fail_if_success (with_reducible show gz1)); (first | (refine Kh.go ‹_› _ _ ?_; try dsimp only [KnP]) | ((with_reducible show TurnEnd _ _ _ _ _ _); dsimp only [TurnEnd]))) | (k_unfold; (try dsimp only)) | (k_end; wrow_close) | walk1 | (dsimp only; walk1) | (leave1; try dsimp only))))
        rename Fr _ _ _ _ => F15
        rename News _ _ _ _ => N15
        have pm : ((tp, triObj (stepOf c nn) t1 t2 t3 0) :: Z.led .none (.int c tc) (.int nn tn) o1' o2' ((stA, lstObj (refsOf (xs ++ [(tp, stepOf c nn)])) (n' + 1)) :: (tr ++ rst))).Perm (Z.led .none (.int c tc) (.int nn tn) o1' o2' ((stA, lstObj (refsOf (xs ++ [(tp, stepOf c nn)])) (n' + 1)) :: ((tp, triObj (stepOf c nn) t1 t2 t3 0) :: tr ++ rst))) := (List.perm_middle (l₁ := [_, _, _, _, _, _])).symm
        refine StopN hI1z (7 - i) (sb2 (by assumption)) (ex11_i (i + 1) _ _ o1' o2' (xs ++ [(tp, stepOf c nn)]) ((tp, triObj (stepOf c nn) t1 t2 t3 0) :: tr) (n' + 1) _ _ _ (an11_i (sb1 _ _) (by assumption) rfl hi1' hi2' (frB _ F15 ⟨rfl, rfl, trivial⟩) (news_perm (fun q hq => N15 q ((List.mem_cons.mp hq).elim (fun z => z ▸ .head _) fun z => .tail _ (.tail _ z))) pm) (apart_perm (apart_drop2 (show Apart ((tp, triObj (stepOf c nn) t1 t2 t3 0) :: (T, pairO (.int c tc) (.int nn tn)) :: Z.led .none (.int c tc) (.int nn tn) o1' o2' ((stA, lstObj (refsOf (xs ++ [(tp, stepOf c nn)])) (n' + 1)) :: (tr ++ rst))) from ha13)) pm) (fun x hx => ?_) (by simp [hxl]) ?_))
        · rcases List.mem_append.mp hx with q | q
          · obtain ⟨q1, q2, q3, q4, q5⟩ := htr x q
            exact ⟨q1, q2, q3, q4, .tail _ q5⟩
          · rw [List.mem_singleton.mp q]
            exact ⟨t1, t2, t3, 0, .head _⟩
        · rw [List.map_append, hxs, List.take_add_one, hstep]
          rfl
      · rename Fr _ _ _ _ => F12
        rename News _ _ _ _ => N12
        rename _ ∧ _ ∧ _ ∧ _ ∧ _ ∧ _ ∧ _ ∧ AllLt _ _ => l12
        rename_i cnd hq1 tp hq2
        have hsv : stepOf c nn = (((c + nn).fdiv 64).fmod 9, (c + nn).fmod 4, (c + nn + 1 + (((c + nn).fdiv 4).fmod 16).fmod 3).fmod 4) := by unfold stepOf; rw [if_neg cnd]
        obtain ⟨t1, t2, t3, N13⟩ : ∃ t1 t2 t3, News g L1 hq2 ((tp, triObj (stepOf c nn) t1 t2 t3 0) :: (T, pairO (.int c tc) (.int nn tn)) :: Z.led .none (.int c tc) (.int nn tn) o1' o2' ((stA, lstObj (refsOf xs) n') :: (tr ++ rst))) := ⟨_, _, _, by rw [hsv]; exact N12⟩
        have ha13 : Apart ((tp, triObj (stepOf c nn) t1 t2 t3 0) :: (T, pairO (.int c tc) (.int nn tn)) :: Z.led .none (.int c tc) (.int nn tn) o1' o2' ((stA, lstObj (refsOf xs) n') :: (tr ++ rst))) := apart_lt (by
          refine an8_e (l12) ?_
          clear l12
          rintro k1 k2 k3 k4 k5 k6 k7 k8
          exact List.forall_mem_cons.mpr ⟨k1, List.forall_mem_cons.mpr ⟨k2, List.forall_mem_cons.mpr ⟨k3, List.forall_mem_cons.mpr ⟨k4, List.forall_mem_cons.mpr ⟨k5, List.forall_mem_cons.mpr ⟨k6, List.forall_mem_cons.mpr ⟨k7, fun q hq => kst_ltOf k8 q hq⟩⟩⟩⟩⟩⟩⟩) haT
        refine lst_append (D := stA) (vs := refsOf xs) (x := .ref tp) F12 N13 (upd_at (l₁ := [_, _, _, _, _, _, _]) ha13) (by simp; (first | lia | omega)) ?_
        intro h14 F14 N14
        dsimp only [List.cons_append, List.nil_append] at N14
        rw [show refsOf xs ++ [Value.ref tp] = refsOf (xs ++ [(tp, stepOf c nn)]) from (refs_snoc' xs (tp, stepOf c nn)).symm] at N14
        (try clear N12); (try clear N13); (try clear F12)
        (repeat' ((fail_if_success (with_reducible (first | show gz2 | show gz3 | show gz4 | show gz5 | show gz6 | show gz7 | show gz8 | show gz9 | show gz10 | show gz11 | show gz12 | show gz13 | show gz14 | show gz15 | show gz17 | show gz18 | show gz19 | show gz16))); (first | ((with_reducible show wpAny _ _ (execs _ _) _ _ _); k_gentoks) | with_reducible (first | refine execs_one ?_ | (refine execs_cut ?_; intro _ _) | (refine if_cut ?_; intro _ _)) | ((fail_if_success (with_reducible show gz1)); (first | (refine Kh.go ‹_› _ _ ?_; try dsimp only [KnP]) | ((with_reducible show TurnEnd _ _ _ _ _ _); dsimp only [TurnEnd]))) | (k_unfold; (try dsimp only)) | (k_end; wrow_close) | walk1 | (dsimp only; walk1) | (leave1; try dsimp only))))
        rename Fr _ _ _ _ => F15
        rename News _ _ _ _ => N15
        have pm : ((tp, triObj (stepOf c nn) t1 t2 t3 0) :: Z.led .none (.int c tc) (.int nn tn) o1' o2' ((stA, lstObj (refsOf (xs ++ [(tp, stepOf c nn)])) (n' + 1)) :: (tr ++ rst))).Perm (Z.led .none (.int c tc) (.int nn tn) o1' o2' ((stA, lstObj (refsOf (xs ++ [(tp, stepOf c nn)])) (n' + 1)) :: ((tp, triObj (stepOf c nn) t1 t2 t3 0) :: tr ++ rst))) := (List.perm_middle (l₁ := [_, _, _, _, _, _])).symm
        refine StopN hI1z (7 - i) (sb2 (by assumption)) (ex11_i (i + 1) _ _ o1' o2' (xs ++ [(tp, stepOf c nn)]) ((tp, triObj (stepOf c nn) t1 t2 t3 0) :: tr) (n' + 1) _ _ _ (an11_i (sb1 _ _) (by assumption) rfl hi1' hi2' (frB _ F15 ⟨rfl, rfl, trivial⟩) (news_perm (fun q hq => N15 q ((List.mem_cons.mp hq).elim (fun z => z ▸ .head _) fun z => .tail _ (.tail _ z))) pm) (apart_perm (apart_drop2 (show Apart ((tp, triObj (stepOf c nn) t1 t2 t3 0) :: (T, pairO (.int c tc) (.int nn tn)) :: Z.led .none (.int c tc) (.int nn tn) o1' o2' ((stA, lstObj (refsOf (xs ++ [(tp, stepOf c nn)])) (n' + 1)) :: (tr ++ rst))) from ha13)) pm) (fun x hx => ?_) (by simp [hxl]) ?_))
        · rcases List.mem_append.mp hx with q | q
          · obtain ⟨q1, q2, q3, q4, q5⟩ := htr x q
            exact ⟨q1, q2, q3, q4, .tail _ q5⟩
          · rw [List.mem_singleton.mp q]
            exact ⟨t1, t2, t3, 0, .head _⟩
        · rw [List.map_append, hxs, List.take_add_one, hstep]
          rfl
    · have hie : i = 7 := by (first | lia | omega)
      subst hie
      refine zip_end rfl F9 N9 ha9 hi1 hi2 (.tail _ (List.mem_append_right _ m1)) (.tail _ (List.mem_append_right _ m2)) (by simp; (first | lia | omega)) ?_
      intro h10 F10 N10
      have hall : (allSteps (vs.map (·.1))).length = 7 := by unfold allSteps; simp [cellsL]
      rw [List.take_of_length_le (by (first | lia | omega))] at hxs
      exact StopP (hR1z _) (ex6_i xs tr n' _ _ _ (an7_i rfl F10 N10 (apart_tail (apart_tail (apart_tail (apart_tail (apart_tail ha9))))) htr hxl hxs))
  · (try clear N8); (try clear ha8); (try clear F8); (try clear F7); (try clear hi1); (try clear hi2)
    intro s' hzz
    refine ex6_e hzz ?_
    clear hzz
    intro xs tr n' h tk u hzz
    refine an7_e hzz ?_
    clear hzz
    rintro rfl F9 N9 ha9 htr hxl hxs
    (repeat' ((fail_if_success (with_reducible (first | show gz2 | show gz3 | show gz4 | show gz5 | show gz6 | show gz7 | show gz8 | show gz9 | show gz10 | show gz11 | show gz12 | show gz13 | show gz14 | show gz15 | show gz17 | show gz18 | show gz19 | show gz16))); (first | ((with_reducible show wpAny _ _ (execs _ _) _ _ _); k_gentoks) | with_reducible (first | refine execs_one ?_ | (refine execs_cut ?_; intro _ _) | (refine if_cut ?_; intro _ _)) | ((fail_if_success (with_reducible show gz1)); (first | (refine Kh.go ‹_› _ _ ?_; try dsimp only [KnP]) | ((with_reducible show TurnEnd _ _ _ _ _ _); dsimp only [TurnEnd]))) | (k_unfold; (try dsimp only)) | (k_end; wrow_close) | walk1 | (dsimp only; walk1) | (leave1; try dsimp only))))
    rename Fr _ _ _ _ => F10
    rename News _ _ _ _ => N10
    have hnl : (nl, lstObj (valsOf vs) n) ∈ rst := by rw [← hrst]; exact .tail _ (.tail _ (.head _))
    refine sumK rfl F10 N10 (lst_is N10 (.tail _ (List.mem_append_right _ hnl))) (ints_vals vs) ?_
    intro h11 tk11 t11 F11 N11
    (try clear N10); (try clear F10)
    (repeat' ((fail_if_success (with_reducible (first | show gz2 | show gz3 | show gz4 | show gz5 | show gz6 | show gz7 | show gz8 | show gz9 | show gz10 | show gz11 | show gz12 | show gz13 | show gz14 | show gz15 | show gz17 | show gz18 | show gz19 | show gz16))); (first | ((with_reducible show wpAny _ _ (execs _ _) _ _ _); k_gentoks) | with_reducible (first | refine execs_one ?_ | (refine execs_cut ?_; intro _ _) | (refine if_cut ?_; intro _ _)) | ((fail_if_success (with_reducible show gz1)); (first | (refine Kh.go ‹_› _ _ ?_; try dsimp only [KnP]) | ((with_reducible show TurnEnd _ _ _ _ _ _); dsimp only [TurnEnd]))) | (k_unfold; (try dsimp only)) | (k_end; wrow_close) | walk1 | (dsimp only; walk1) | (leave1; try dsimp only))))
    rename Fr _ _ _ _ => F12
    rename News _ _ _ _ => N12
    have hm2 : (vs.map (fun q : Int × Tok => q.1)).sum.fmod 2 = 0 ∨ (vs.map (fun q : Int × Tok => q.1)).sum.fmod 2 = 1 := by
      have h1 := Int.fmod_nonneg_of_pos (vs.map (fun q : Int × Tok => q.1)).sum (b := 2) (by decide)
      have h2 := Int.fmod_lt_of_pos (vs.map (fun q : Int × Tok => q.1)).sum (b := 2) (by decide)
      (first | lia | omega)
    k_dflt (refine' kms_slice_lit (lo := none) (hi := some (7 - (vs.map (fun q : Int × Tok => q.1)).sum.fmod 2)) (its := (refsOf xs).toArray) (zs := refsOf (xs.take (7 - ((vs.map (fun q : Int × Tok => q.1)).sum.fmod 2).toNat))) F12 N12 (lst_is N12 (.head _)) ?kp ?kq ?ke ?_ ?ks ?kt ?kz; (case kp => kmk_part); (case kq => kmk_part); (case ks => with_unfolding_all rfl); (case kt => kmk_pure); (case kz => rw [sizeLine_eq]; simp; (first | lia | omega)); (case ke => exact pick_upto xs _ hm2 hxl))
    intro D' h13 F13 N13 l13
    (try clear N12); (try clear F12)
    (repeat' ((fail_if_success (with_reducible (first | show gz2 | show gz3 | show gz4 | show gz5 | show gz6 | show gz7 | show gz8 | show gz9 | show gz10 | show gz11 | show gz12 | show gz13 | show gz14 | show gz15 | show gz17 | show gz18 | show gz19 | show gz16))); (first | ((with_reducible show wpAny _ _ (execs _ _) _ _ _); k_gentoks) | with_reducible (first | refine execs_one ?_ | (refine execs_cut ?_; intro _ _) | (refine if_cut ?_; intro _ _)) | ((fail_if_success (with_reducible show gz1)); (first | (refine Kh.go ‹_› _ _ ?_; try dsimp only [KnP]) | ((with_reducible show TurnEnd _ _ _ _ _ _); dsimp only [TurnEnd]))) | (k_unfold; (try dsimp only)) | (k_end; wrow_close) | walk1 | (dsimp only; walk1) | (leave1; try dsimp only))))
    rename News _ _ _ _ => N14
    subst hrst
    have hsl : (tr ++ (nl, lstObj (valsOf vs) n) :: rest).Sublist ((stA, lstObj (refsOf xs) n') :: (tr ++ (D5, lstObj (valsOf (vs ++ List.replicate 7 (0, tz))) 0) :: (cA, lstObj (valsOf cs) 0) :: (nl, lstObj (valsOf vs) n) :: rest)) :=
      (List.Sublist.append_left ((List.sublist_cons_self _ _).trans (List.sublist_cons_self _ _)) tr).trans (List.sublist_cons_self _ _)
    refine ret _ _ D' (xs.take (7 - ((vs.map (fun q : Int × Tok => q.1)).sum.fmod 2).toNat)) tr 0 ?_ (fun x hx => htr x (List.mem_of_mem_take hx)) (by k_asm) (fun q hq => N14 q ((List.mem_cons.mp hq).elim (fun z => z ▸ .head _) fun z => .tail _ (hsl.subset z))) (apart_lt (fun q hq => l13 q (hsl.subset hq)) (apart_sub' ha9 hsl))
    unfold stepsL
    rw [List.map_take, hxs]
end
section
theorem apart_sub {l l' : List (Addr × Obj)} (a : Apart l) (h : l'.Sublist l) : Apart l' := List.Nodup.sublist (h.map _) a
theorem short_list {b : Bool} {n : Nat} (h : n < 1000) : ¬ (b && Builtin.List.listTooLong n) = true := by
  unfold Builtin.List.listTooLong
  rw [sizeLine_eq]
  simp
  intro _
  (first | lia | omega)
theorem vals_ints {vs : List Value} {ns : List Int} (h : IntsAre vs ns) : ∃ sl : List (Int × Tok), vs = valsOf sl ∧ sl.map (·.1) = ns := by
  induction h with
  | nil => exact ⟨[], rfl, rfl⟩
  | cons n t _ ih =>
    obtain ⟨sl, rfl, rfl⟩ := ih
    exact ⟨(n, t) :: sl, rfl, rfl⟩
noncomputable def RvIs (V : View) (rv : Value) (rest1 : List (Addr × Obj)) : Prop :=
  (rv = .none ∧ ∃ done, FinO V done ∧ ∀ k ∈ keysV V, k ∈ done) ∨ ∃ (r : Addr) (ring : List (Int × Tok)) (n : Nat), rv = .ref r ∧ IsRing V (ring.map (·.1)) ∧ (r, lstObj (valsOf ring) n) ∈ rest1
theorem stage_spec {prog : Program} {w : World} (dp un : Nat) (gd : Option (List Code)) (env : Env) (outer : List Env) (h₀ : Heap) (L : Addr) (m : Str → Option Value) (s : Shared) (A₀ : Around) (base : Heap) (p : Program) (loose : List Str) (mean : ExcName → Option Value) (mg mb : Str → Option Value)
    (Q E : Value → Shared → Prop) (GD : Gd w A₀ base outer p loose mean mg mb h₀) (hf : env.frame = some L) (hk : env.scope.kind = .function) (F : Fr h₀ L s.heap m) (rest : List (Addr × Obj)) (tl : Addr) (xs : List X3) (n : Nat)
    (N : News h₀ L s.heap ((tl, lstObj (refsOf xs) n) :: rest)) (ha : Apart ((tl, lstObj (refsOf xs) n) :: rest)) (hx : ∀ x ∈ xs, TriIn rest x) (hxr : ∀ x ∈ xs, (0 ≤ x.2.2.1 ∧ x.2.2.1 < 4) ∧ (0 ≤ x.2.2.2 ∧ x.2.2.2 < 4)) (hlen : xs.length ≤ 7)
    (hd : dp + 30 < recursionLimit) (hu : un + 240 < cLine)
    (ret : ∀ (rv : Value) (sl : List (Int × Tok)) (V : View) (gone : List Int) (ex : List (Addr × Obj)) (h₀' h' : Heap) (tk' : Nat) (Tp sA : Addr) (nT nS : Nat), RvIs (bldV xs) rv (ex ++ (tl, lstObj (refsOf xs) n) :: rest) → KInv (edX xs) V [] gone → keysV V = keysV (bldV xs) → (sl.map (·.1)).Perm gone → (sl.map (·.1)).Pairwise (· ≤ ·) →
      KtsTurn (frs outer) h₀ h₀' → Gd w A₀ base outer p loose mean mg mb h₀' → Fr h₀' L h' m → News h₀' L h' ((Tp, tupObj [rv, .bool true, .ref sA] nT) :: (sA, lstObj (valsOf sl) nS) :: (ex ++ (tl, lstObj (refsOf xs) n) :: rest)) → Apart ((Tp, tupObj [rv, .bool true, .ref sA] nT) :: (sA, lstObj (valsOf sl) nS) :: (ex ++ (tl, lstObj (refsOf xs) n) :: rest)) →
      Q (.ref Tp) { s with heap := h', toks := tk' }) :
    wpAny (model prog w) (arn none dp un gd env outer) (call (.ref 183) [.ref tl]) Q E s := by
  have X := GD.In
  have T := GD.tp
  obtain ⟨B, XB, TB, D⟩ := GD
  refine wpAny_call ?_
  k_dflt (refine' code_defT ?k1 ?k2 ?k3 ?k4 ?k5 ?kD ?kA ?kF ?kK ?k6 ?k7 ?k8 ?k9 ?kB ?_ ?c2 ?c3 ?c4 ?c5; (case kA => exact rfl); (case kF => first | assumption | exact rfl); (case kK => first | assumption | exact rfl); (case k1 => k_asm); (case k2 => k_asm); (case k3 => k_asm); (case k4 => k_asm); (case k5 => k_asm); (case kD => k_asm); (case k6 => k_is); (case k7 => k_is); (case k8 => k_room); (case k9 => first | exact BindsTo.of_eq rfl | exact binds_K (by k_in) rfl (by k_is) rfl rfl rfl); (case c5 => decide); (case kB => exact locs rfl); (case c2 => exact rfl); (case c3 => exact rfl); (case c4 => exact rfl))
  intro g L1 h1 FG F1 N1 B1 X1 T1 D1
  (try dsimp only)
  (try k_fold)
  have F1' := frB [(Str.ofString "taken", .ref tl)] F1 ⟨rfl, trivial⟩
  clear F1
  (repeat' ((fail_if_success (with_reducible (first | show gz2 | show gz3 | show gz4 | show gz5 | show gz6 | show gz7 | show gz8 | show gz9 | show gz10 | show gz11 | show gz12 | show gz13 | show gz14 | show gz15 | show gz20 | show gz21 | show gz22 | show gz23 | show gz24 | show gz25 | show gz26 | show gz27 | show gz28))); (first | ((with_reducible show wpAny _ _ (execs _ _) _ _ _); k_gentoks) | with_reducible (first | refine execs_one ?_ | (refine execs_cut ?_; intro _ _) | (refine if_cut ?_; intro _ _)) | ((fail_if_success (with_reducible show gz1)); (first | (refine Kh.go ‹_› _ _ ?_; try dsimp only [KnP]) | ((with_reducible show TurnEnd _ _ _ _ _ _); dsimp only [TurnEnd]))) | (k_unfold; (try dsimp only)) | (k_end; wrow_close) | walk1 | (dsimp only; walk1) | (leave1; try dsimp only))))
  rename Fr _ _ _ _ => F2
  rename News _ _ _ _ => N2
  generalize hr0 : (tl, lstObj (refsOf xs) n) :: rest = rest0 at N2 ha
  have htl : (tl, lstObj (refsOf xs) n) ∈ rest0 := by rw [← hr0]; exact .head _
  have hx0 : ∀ x ∈ xs, TriIn rest0 x := fun x hx' => by
    obtain ⟨a, b, c, d, e⟩ := hx x hx'
    exact ⟨a, b, c, d, by rw [← hr0]; exact .tail _ e⟩
  refine mk_srt _ _ _ _ _ _ _ _ _ _ _ ⟨⟨_, _, _, _, _, _, _, by k_asm, by k_asm, by k_asm⟩, rfl, rfl⟩ F2 rest0 N2 ha (by dsimp only [arn, Around.deeper]; (first | lia | omega)) (by dsimp only [arn, Around.deeper]; (first | lia | omega)) ?_
  intro h3 tk3 S o3 ta tb hd3 hsys F3 N3 ha3
  (try clear N2); (try clear F2); (try clear N1)
  (repeat' ((fail_if_success (with_reducible (first | show gz2 | show gz3 | show gz4 | show gz5 | show gz6 | show gz7 | show gz8 | show gz9 | show gz10 | show gz11 | show gz12 | show gz13 | show gz14 | show gz15 | show gz20 | show gz21 | show gz22 | show gz23 | show gz24 | show gz25 | show gz26 | show gz27 | show gz28))); (first | ((with_reducible show wpAny _ _ (execs _ _) _ _ _); k_gentoks) | with_reducible (first | refine execs_one ?_ | (refine execs_cut ?_; intro _ _) | (refine if_cut ?_; intro _ _)) | ((fail_if_success (with_reducible show gz1)); (first | (refine Kh.go ‹_› _ _ ?_; try dsimp only [KnP]) | ((with_reducible show TurnEnd _ _ _ _ _ _); dsimp only [TurnEnd]))) | (k_unfold; (try dsimp only)) | (k_end; wrow_close) | walk1 | (dsimp only; walk1) | (leave1; try dsimp only))))
  refine my_for ?_
  (repeat' ((fail_if_success (with_reducible (first | show gz2 | show gz3 | show gz4 | show gz5 | show gz6 | show gz7 | show gz8 | show gz9 | show gz10 | show gz11 | show gz12 | show gz13 | show gz14 | show gz15 | show gz20 | show gz21 | show gz22 | show gz23 | show gz24 | show gz25 | show gz26 | show gz27 | show gz28))); (first | ((with_reducible show wpAny _ _ (execs _ _) _ _ _); k_gentoks) | with_reducible (first | refine execs_one ?_ | (refine execs_cut ?_; intro _ _) | (refine if_cut ?_; intro _ _)) | ((fail_if_success (with_reducible show gz1)); (first | (refine Kh.go ‹_› _ _ ?_; try dsimp only [KnP]) | ((with_reducible show TurnEnd _ _ _ _ _ _); dsimp only [TurnEnd]))) | (k_unfold; (try dsimp only)) | (k_end; wrow_close) | walk1 | (dsimp only; walk1) | (leave1; try dsimp only))))
  rename Fr _ _ _ _ => F4
  rename News _ _ _ _ => N4
  refine lit_make (l := tl) (vs := refsOf xs) (n := n) F4 N4 (.tail _ (.tail _ (.tail _ htl))) ?_
  intro it oi h5 hit F5 N5 l5
  have ip : ∀ (o' : Obj) (G' : List Nd) (oi : Obj), ((it, oi) :: S.led w .none (.int 0 ta) (.int 0 tb) o' (gLed G' ++ rest0)).Perm (S.led w .none (.int 0 ta) (.int 0 tb) o' (gLed G' ++ (it, oi) :: rest0)) := fun o' G' oi => (perm_mid3 (S.led w .none (.int 0 ta) (.int 0 tb) o' []) (gLed G') (it, oi) rest0).symm
  have F6 := frB [(Str.ofString "taken", .ref tl), (Str.ofString "sorter", .ref S.x)] F5 ⟨rfl, rfl, trivial⟩
  have ha6 := apart_perm (apart_lt (p := (it, oi)) l5 ha3) (ip o3 [] oi)
  have N6 := news_perm N5 (ip o3 [] oi)
  (try clear N5); (try clear N4); (try clear N3); (try clear F5); (try clear F4); (try clear F3)
  refine Stop.mk (my_forLoopT (fun k s' => ∃ (i : Nat) (o' oi' : Obj) (G' : List Nd) (h : Heap) (tk : Nat) (u : Str → Option Value), k = xs.length + 1 - i ∧ i ≤ xs.length ∧ s' = { s with heap := h, toks := tk } ∧ IsLIt oi' tl i ∧
    Fr g L1 h (kB u [(Str.ofString "taken", .ref tl), (Str.ofString "sorter", .ref S.x)]) ∧ News g L1 h (S.led w .none (.int 0 ta) (.int 0 tb) o' (gLed G' ++ (it, oi') :: rest0)) ∧ Apart (S.led w .none (.int 0 ta) (.int 0 tb) o' (gLed G' ++ (it, oi') :: rest0)) ∧
    o'.IsDictOf (intKind prog w) (gKvs G') ∧ (G'.map (·.key)).Nodup ∧ G'.length ≤ 2 * i ∧ BndN i (view G') ∧ view G' = bldE (xs.take i))
    (fun s' => ∃ (o' : Obj) (G' : List Nd) (h : Heap) (tk : Nat) (u : Str → Option Value), s' = { s with heap := h, toks := tk } ∧ Fr g L1 h (kB u [(Str.ofString "sorter", .ref S.x)]) ∧ News g L1 h (S.led w .none (.int 0 ta) (.int 0 tb) o' (gLed G' ++ rest0)) ∧ Apart (S.led w .none (.int 0 ta) (.int 0 tb) o' (gLed G' ++ rest0)) ∧
    o'.IsDictOf (intKind prog w) (gKvs G') ∧ (G'.map (·.key)).Nodup ∧ G'.length ≤ 14 ∧ BndN 7 (view G') ∧ view G' = bldE xs) ?_ (xs.length + 1)
    (ex7_i 0 o3 oi [] _ _ _ (an12_i rfl (Nat.zero_le _) rfl hit F6 N6 ha6 hd3 (by simp) (by simp) (fun v hv => (by cases hv)) rfl)) ?_)
  · (try clear N6); (try clear F6); (try clear ha6)
    intro I1z R1z Q1z hI1z hR1z hQ1z k s' hzz
    refine ex7_e hzz ?_
    clear hzz
    intro i o' oi' G' h tk u hzz
    refine an12_e hzz ?_
    clear hzz
    rintro rfl hi rfl hit' F8 N8 ha8 hd8 hG8 hl8 hb8 hv8
    have N9 := news_perm N8 (ip o' G' oi').symm
    have ha9 := apart_perm ha8 (ip o' G' oi').symm
    by_cases hlt : i < xs.length
    · obtain ⟨x, hxi⟩ : ∃ x, xs[i]? = some x := ⟨_, List.getElem?_eq_getElem hlt⟩
      refine ex4_e (hx0 x (List.mem_of_getElem? hxi)) ?_
      rintro xa xb xc xn hxm
      refine lit_next (l := tl) (vs := refsOf xs) (n := n) (v := .ref x.1) F8 N9 hit' (apart_ne ha9) (.tail _ (.tail _ (.tail _ (List.mem_append_right _ htl)))) (by rw [List.getElem?_map, hxi]; rfl) ?_
      intro oi2 h10 hit2 F10 N10
      dsimp only [NextIsT]
      refine own_list (N10 _ (.head _)).1 hit2 ?_
      have N11 : News g L1 h10 ((x.1, triObj x.2 xa xb xc xn) :: (it, oi2) :: S.led w .none (.int 0 ta) (.int 0 tb) o' (gLed G' ++ rest0)) := fun q hq => (List.mem_cons.mp hq).elim (fun z => z ▸ N10 _ (.tail _ (.tail _ (.tail _ (.tail _ (List.mem_append_right _ hxm)))))) (N10 q)
      (try clear N10); (try clear N9); (try clear N8); (try clear F8)
      (repeat' ((fail_if_success (with_reducible (first | show gz2 | show gz3 | show gz4 | show gz5 | show gz6 | show gz7 | show gz8 | show gz9 | show gz10 | show gz11 | show gz12 | show gz13 | show gz14 | show gz15 | show gz20 | show gz21 | show gz22 | show gz23 | show gz24 | show gz25 | show gz26 | show gz27 | show gz28))); (first | ((with_reducible show wpAny _ _ (execs _ _) _ _ _); k_gentoks) | with_reducible (first | refine execs_one ?_ | (refine execs_cut ?_; intro _ _) | (refine if_cut ?_; intro _ _)) | ((fail_if_success (with_reducible show gz1)); (first | (refine Kh.go ‹_› _ _ ?_; try dsimp only [KnP]) | ((with_reducible show TurnEnd _ _ _ _ _ _); dsimp only [TurnEnd]))) | (k_unfold; (try dsimp only)) | (k_end; wrow_close) | walk1 | (dsimp only; walk1) | (leave1; try dsimp only))))
      rename Fr _ _ _ _ => F12
      rename News _ _ _ _ => N12
      refine add1_spec _ _ _ _ _ _ _ _ _ _ _ ⟨⟨_, _, _, _, _, _, _, by k_asm, by k_asm, by k_asm⟩, rfl, rfl⟩ F12 S (.int 0 ta) (.int 0 tb) o' ((it, oi2) :: rest0) G' x.2.2.2 x.2.2.1 xc xb (news_perm (fun q hq => N12 q (.tail _ hq)) (ip o' G' oi2)) (apart_perm (show Apart ((it, oi2) :: S.led w .none (.int 0 ta) (.int 0 tb) o' (gLed G' ++ rest0)) from ha9) (ip o' G' oi2)) hd8 hsys hG8 (by (first | lia | omega)) (bndN_bnd hb8 (by (first | lia | omega))) (by dsimp only [arn, Around.deeper]; (first | lia | omega)) (by dsimp only [arn, Around.deeper]; (first | lia | omega)) ?_
      intro h13 tk13 o13 G13 hv13 hG13 hd13 F13 N13 ha13
      (try clear N12); (try clear F12)
      (repeat' ((fail_if_success (with_reducible (first | show gz2 | show gz3 | show gz4 | show gz5 | show gz6 | show gz7 | show gz8 | show gz9 | show gz10 | show gz11 | show gz12 | show gz13 | show gz14 | show gz15 | show gz20 | show gz21 | show gz22 | show gz23 | show gz24 | show gz25 | show gz26 | show gz27 | show gz28))); (first | ((with_reducible show wpAny _ _ (execs _ _) _ _ _); k_gentoks) | with_reducible (first | refine execs_one ?_ | (refine execs_cut ?_; intro _ _) | (refine if_cut ?_; intro _ _)) | ((fail_if_success (with_reducible show gz1)); (first | (refine Kh.go ‹_› _ _ ?_; try dsimp only [KnP]) | ((with_reducible show TurnEnd _ _ _ _ _ _); dsimp only [TurnEnd]))) | (k_unfold; (try dsimp only)) | (k_end; wrow_close) | walk1 | (dsimp only; walk1) | (leave1; try dsimp only))))
      rename Fr _ _ _ _ => F14
      have hl13 : G13.length ≤ 2 * (i + 1) := by
        have h1 := add1_len x.2.2.2 x.2.2.1 (view G')
        rw [← hv13, view_len, view_len] at h1
        (first | lia | omega)
      refine StopN hI1z (xs.length - i) (sb2 (by assumption)) (ex7_i (i + 1) o13 oi2 G13 _ _ _ (an12_i (sb1 _ _) (by assumption) rfl hit2 (frB _ F14 ⟨rfl, rfl, trivial⟩) (by k_asm) ha13 hd13 hG13 hl13 (by rw [hv13]; exact bndN_add1 hb8) ?_))
      rw [hv13, hv8, List.take_add_one, hxi, Option.toList]
      unfold bldE
      rw [List.foldl_append]
      rfl
    · have hie : i = xs.length := by (first | lia | omega)
      subst hie
      refine lit_end (l := tl) (vs := refsOf xs) (n := n) rfl F8 N9 hit' (apart_ne ha9) (.tail _ (.tail _ (.tail _ (List.mem_append_right _ htl)))) (by simp) ?_
      intro h10 F10 N10
      rw [List.take_length] at hv8
      exact StopP (hR1z _) (ex5_i o' G' _ _ _ (an9_i rfl (frB _ F10 ⟨rfl, trivial⟩) N10 (apart_tail ha9) hd8 hG8 (by (first | lia | omega)) (fun v hv => Nat.le_trans (hb8 v hv) hlen) hv8))
  · intro s' hzz
    refine ex5_e hzz ?_
    clear hzz
    intro o' G' h tk u hzz
    refine an9_e hzz ?_
    clear hzz
    rintro rfl F8 N8 ha8 hd8 hG8 hl8 hb8 hv8
    (try clear N6); (try clear F6); (try clear ha6)
    (repeat' ((fail_if_success (with_reducible (first | show gz2 | show gz3 | show gz4 | show gz5 | show gz6 | show gz7 | show gz8 | show gz9 | show gz10 | show gz11 | show gz12 | show gz13 | show gz14 | show gz15 | show gz20 | show gz21 | show gz22 | show gz23 | show gz24 | show gz25 | show gz26 | show gz27 | show gz28))); (first | ((with_reducible show wpAny _ _ (execs _ _) _ _ _); k_gentoks) | with_reducible (first | refine execs_one ?_ | (refine execs_cut ?_; intro _ _) | (refine if_cut ?_; intro _ _)) | ((fail_if_success (with_reducible show gz1)); (first | (refine Kh.go ‹_› _ _ ?_; try dsimp only [KnP]) | ((with_reducible show TurnEnd _ _ _ _ _ _); dsimp only [TurnEnd]))) | (k_unfold; (try dsimp only)) | (k_end; wrow_close) | walk1 | (dsimp only; walk1) | (leave1; try dsimp only))))
    refine my_for ?_
    (repeat' ((fail_if_success (with_reducible (first | show gz2 | show gz3 | show gz4 | show gz5 | show gz6 | show gz7 | show gz8 | show gz9 | show gz10 | show gz11 | show gz12 | show gz13 | show gz14 | show gz15 | show gz20 | show gz21 | show gz22 | show gz23 | show gz24 | show gz25 | show gz26 | show gz27 | show gz28))); (first | ((with_reducible show wpAny _ _ (execs _ _) _ _ _); k_gentoks) | with_reducible (first | refine execs_one ?_ | (refine execs_cut ?_; intro _ _) | (refine if_cut ?_; intro _ _)) | ((fail_if_success (with_reducible show gz1)); (first | (refine Kh.go ‹_› _ _ ?_; try dsimp only [KnP]) | ((with_reducible show TurnEnd _ _ _ _ _ _); dsimp only [TurnEnd]))) | (k_unfold; (try dsimp only)) | (k_end; wrow_close) | walk1 | (dsimp only; walk1) | (leave1; try dsimp only))))
    rename IsRange _ _ _ _ _ _ _ _ => hR
    rename Fr _ _ _ _ => F9
    rename News _ _ _ _ => N9
    refine rit_make (k := 4) hR (by decide) (by decide) F9 N9 ?_
    intro it2 h10 F10 N10 l10
    have ip2 : ∀ (o' : Obj) (G' : List Nd) (oi : Obj), ((it2, oi) :: S.led w .none (.int 0 ta) (.int 0 tb) o' (gLed G' ++ rest0)).Perm (S.led w .none (.int 0 ta) (.int 0 tb) o' (gLed G' ++ (it2, oi) :: rest0)) := fun o' G' oi => (perm_mid3 (S.led w .none (.int 0 ta) (.int 0 tb) o' []) (gLed G') (it2, oi) rest0).symm
    have F11 := frB [(Str.ofString "sorter", .ref S.x)] F10 ⟨rfl, trivial⟩
    have ha11 := apart_perm (apart_lt (p := (it2, rngIt 0 4 1)) l10 ha8) (ip2 o' G' _)
    have N11 := news_perm N10 (ip2 o' G' _)
    (try clear N10); (try clear N9); (try clear F10); (try clear F9); (try clear hR)
    refine Stop.mk (my_forLoop (fun k s' => ∃ (i : Nat) (o' : Obj) (G' : List Nd) (h : Heap) (tk : Nat) (u : Str → Option Value), k = 5 - i ∧ i ≤ 4 ∧ s' = { s with heap := h, toks := tk } ∧
      Fr g L1 h (kB u [(Str.ofString "sorter", .ref S.x)]) ∧ News g L1 h (S.led w .none (.int 0 ta) (.int 0 tb) o' (gLed G' ++ (it2, rngIt i (4 - i) 1) :: rest0)) ∧ Apart (S.led w .none (.int 0 ta) (.int 0 tb) o' (gLed G' ++ (it2, rngIt i (4 - i) 1) :: rest0)) ∧
      o'.IsDictOf (intKind prog w) (gKvs G') ∧ (G'.map (·.key)).Nodup ∧ G'.length ≤ 14 + i ∧ BndN 7 (view G') ∧ view G' = (([0, 1, 2, 3] : List Int).take i).foldl (fun V k => add0 k V) (bldE xs))
      (fun s' => ∃ (o' : Obj) (G' : List Nd) (h : Heap) (tk : Nat) (u : Str → Option Value), s' = { s with heap := h, toks := tk } ∧ Fr g L1 h (kB u [(Str.ofString "sorter", .ref S.x)]) ∧ News g L1 h (S.led w .none (.int 0 ta) (.int 0 tb) o' (gLed G' ++ rest0)) ∧ Apart (S.led w .none (.int 0 ta) (.int 0 tb) o' (gLed G' ++ rest0)) ∧
      o'.IsDictOf (intKind prog w) (gKvs G') ∧ (G'.map (·.key)).Nodup ∧ G'.length ≤ 18 ∧ BndN 7 (view G') ∧ view G' = bldV xs) ?_ 5
      (ex6_i 0 o' G' _ _ _ (an11_i rfl (Nat.zero_le _) rfl F11 N11 ha11 hd8 hG8 (by (first | lia | omega)) hb8 hv8)) ?_)
    · (try clear N11); (try clear F11); (try clear ha11)
      clear hd8 hG8 hl8 hb8 hv8 ha8
      intro I1z R1z Q1z hI1z hR1z hQ1z k s' hzz
      refine ex6_e hzz ?_
      clear hzz
      intro i o' G' h tk u hzz
      refine an11_e hzz ?_
      clear hzz
      rintro rfl hi rfl F12 N12 ha12 hd12 hG12 hl12 hb12 hv12
      have N13 := news_perm N12 (ip2 o' G' _).symm
      have ha13 := apart_perm ha12 (ip2 o' G' _).symm
      by_cases hlt : i < 4
      · refine rng_next F12 N13 (Upd.head (apart_ne ha13)) (by (first | lia | omega)) ?_
        intro h14 F14 N14
        dsimp only [NextIs]
        refine wpAny_assign_Name ?_
        (repeat' ((fail_if_success (with_reducible (first | show gz2 | show gz3 | show gz4 | show gz5 | show gz6 | show gz7 | show gz8 | show gz9 | show gz10 | show gz11 | show gz12 | show gz13 | show gz14 | show gz15 | show gz20 | show gz21 | show gz22 | show gz23 | show gz24 | show gz25 | show gz26 | show gz27 | show gz28))); (first | ((with_reducible show wpAny _ _ (execs _ _) _ _ _); k_gentoks) | with_reducible (first | refine execs_one ?_ | (refine execs_cut ?_; intro _ _) | (refine if_cut ?_; intro _ _)) | ((fail_if_success (with_reducible show gz1)); (first | (refine Kh.go ‹_› _ _ ?_; try dsimp only [KnP]) | ((with_reducible show TurnEnd _ _ _ _ _ _); dsimp only [TurnEnd]))) | (k_unfold; (try dsimp only)) | (k_end; wrow_close) | walk1 | (dsimp only; walk1) | (leave1; try dsimp only))))
        rename Fr _ _ _ _ => F15
        rename News _ _ _ _ => N15
        have eI : rngIt ((i : Int) + 1) (4 - (i : Int) - 1) 1 = rngIt ((i + 1 : Nat) : Int) (4 - ((i + 1 : Nat) : Int)) 1 := by
          rw [show ((i + 1 : Nat) : Int) = (i : Int) + 1 by (first | lia | omega), show (4 : Int) - (i + 1) = 4 - i - 1 by (first | lia | omega)]
        rw [eI] at N15
        refine add0_spec _ _ _ _ _ _ _ _ _ _ _ ⟨⟨_, _, _, _, _, _, _, by k_asm, by k_asm, by k_asm⟩, rfl, rfl⟩ F15 S (.int 0 ta) (.int 0 tb) o' ((it2, rngIt ((i + 1 : Nat) : Int) (4 - ((i + 1 : Nat) : Int)) 1) :: rest0) G' i _ (news_perm N15 (ip2 o' G' _)) (apart_perm (show Apart ((it2, rngIt ((i + 1 : Nat) : Int) (4 - ((i + 1 : Nat) : Int)) 1) :: S.led w .none (.int 0 ta) (.int 0 tb) o' (gLed G' ++ rest0)) from ha13) (ip2 o' G' _)) hd12 hsys hG12 (by (first | lia | omega)) (bndN_bnd hb12 (by (first | lia | omega))) (by dsimp only [arn, Around.deeper]; (first | lia | omega)) (by dsimp only [arn, Around.deeper]; (first | lia | omega)) ?_
        intro h16 tk16 o16 G16 hv16 hG16 hd16 F16 N16 ha16
        (try clear N15); (try clear F15)
        (repeat' ((fail_if_success (with_reducible (first | show gz2 | show gz3 | show gz4 | show gz5 | show gz6 | show gz7 | show gz8 | show gz9 | show gz10 | show gz11 | show gz12 | show gz13 | show gz14 | show gz15 | show gz20 | show gz21 | show gz22 | show gz23 | show gz24 | show gz25 | show gz26 | show gz27 | show gz28))); (first | ((with_reducible show wpAny _ _ (execs _ _) _ _ _); k_gentoks) | with_reducible (first | refine execs_one ?_ | (refine execs_cut ?_; intro _ _) | (refine if_cut ?_; intro _ _)) | ((fail_if_success (with_reducible show gz1)); (first | (refine Kh.go ‹_› _ _ ?_; try dsimp only [KnP]) | ((with_reducible show TurnEnd _ _ _ _ _ _); dsimp only [TurnEnd]))) | (k_unfold; (try dsimp only)) | (k_end; wrow_close) | walk1 | (dsimp only; walk1) | (leave1; try dsimp only))))
        rename Fr _ _ _ _ => F17
        have hl16 : G16.length ≤ 14 + (i + 1) := by
          have h1 := touch_len (i : Int) (view G')
          rw [show touch (i : Int) (view G') = view G16 from hv16.symm, view_len, view_len] at h1
          (first | lia | omega)
        refine StopN hI1z (4 - i) (sb2 (by assumption)) (ex6_i (i + 1) o16 G16 _ _ _ (an11_i (sb1 _ _) (by assumption) rfl (frB _ F17 ⟨rfl, trivial⟩) (by k_asm) ha16 hd16 hG16 hl16 (by rw [hv16]; exact bndN_touch hb12) ?_))
        rw [hv16, hv12]
        have h4 : i = 0 ∨ i = 1 ∨ i = 2 ∨ i = 3 := by (first | lia | omega)
        rcases h4 with rfl | rfl | rfl | rfl <;> rfl
      · have hie : i = 4 := by (first | lia | omega)
        subst hie
        refine rng_end rfl F12 N13 (apart_ne ha13) (by (first | lia | omega)) ?_
        intro h14 F14 N14
        exact StopP (hR1z _) (ex5_i o' G' _ _ _ (an9_i rfl F14 N14 (apart_tail ha13) hd12 hG12 (by (first | lia | omega)) hb12 hv12))
    · clear hd8 hG8 hl8 hb8 hv8 ha8
      intro s' hzz
      refine ex5_e hzz ?_
      clear hzz
      intro o' G' h tk u hzz
      refine an9_e hzz ?_
      clear hzz
      rintro rfl F8 N8 ha8 hd8 hG8 hl8 hb8 hv8
      (try clear N11); (try clear F11); (try clear ha11)
      (repeat' ((fail_if_success (with_reducible (first | show gz2 | show gz3 | show gz4 | show gz5 | show gz6 | show gz7 | show gz8 | show gz9 | show gz10 | show gz11 | show gz12 | show gz13 | show gz14 | show gz15 | show gz20 | show gz21 | show gz22 | show gz23 | show gz24 | show gz25 | show gz26 | show gz27 | show gz28))); (first | ((with_reducible show wpAny _ _ (execs _ _) _ _ _); k_gentoks) | with_reducible (first | refine execs_one ?_ | (refine execs_cut ?_; intro _ _) | (refine if_cut ?_; intro _ _)) | ((fail_if_success (with_reducible show gz1)); (first | (refine Kh.go ‹_› _ _ ?_; try dsimp only [KnP]) | ((with_reducible show TurnEnd _ _ _ _ _ _); dsimp only [TurnEnd]))) | (k_unfold; (try dsimp only)) | (k_end; wrow_close) | walk1 | (dsimp only; walk1) | (leave1; try dsimp only))))
      have hcl := hcl_of hv8 (closed_bldV xs)
      have hBv := bndN_bnd hb8 (by (first | lia | omega))
      rename Fr _ _ _ _ => F9
      rename News _ _ _ _ => N9
      refine cut (fun f s' => f = .next ∧ ∃ (rv : Value) (S' : Srt) (R : Addr) (nR : Nat) (g' h : Heap) (tk : Nat) (u : Str → Option Value) (rest1 : List (Addr × Obj)), S'.d = S.d ∧ s' = { s with heap := h, toks := tk } ∧ KtsTurn (frs (env :: outer)) g g' ∧ Below (arn none dp un gd env outer) base (env :: outer) g' ∧ KtsDicts (frs (env :: outer)) g' ∧
          Fr g' L1 h (kB u [(Str.ofString "sorter", .ref S'.x), (Str.ofString "ring", rv)]) ∧ News g' L1 h (S'.led w (.ref R) (.int 0 ta) (.int 0 tb) o' (gLed G' ++ (R, lstObj (valsOf (rdy G')) nR) :: rest1)) ∧ Apart (S'.led w (.ref R) (.int 0 ta) (.int 0 tb) o' (gLed G' ++ (R, lstObj (valsOf (rdy G')) nR) :: rest1)) ∧
          (∃ ex, rest1 = ex ++ rest0) ∧ RvIs (bldV xs) rv rest1) ?_ ?_
      · intro C1z hC1z
        refine wpAny_Try_except ?_
        (repeat' ((fail_if_success (with_reducible (first | show gz2 | show gz3 | show gz4 | show gz5 | show gz6 | show gz7 | show gz8 | show gz9 | show gz10 | show gz11 | show gz12 | show gz13 | show gz14 | show gz15 | show gz20 | show gz21 | show gz22 | show gz23 | show gz24 | show gz25 | show gz26 | show gz27 | show gz28))); (first | ((with_reducible show wpAny _ _ (execs _ _) _ _ _); k_gentoks) | with_reducible (first | refine execs_one ?_ | (refine execs_cut ?_; intro _ _) | (refine if_cut ?_; intro _ _)) | ((fail_if_success (with_reducible show gz1)); (first | (refine Kh.go ‹_› _ _ ?_; try dsimp only [KnP]) | ((with_reducible show TurnEnd _ _ _ _ _ _); dsimp only [TurnEnd]))) | (k_unfold; (try dsimp only)) | (k_end; wrow_close) | walk1 | (dsimp only; walk1) | (leave1; try dsimp only))))
        refine prep_spec _ _ _ _ _ _ _ _ _ (arn none dp un gd env outer) base p loose mean mg mb _ _ ⟨B1, XB, TB, D1⟩ rfl rfl F9 S (.int 0 ta) (.int 0 tb) o' rest0 G' N9 ha8 hd8 hsys hG8 (by (first | lia | omega)) hBv hcl (by dsimp only [arn, Around.deeper]; (first | lia | omega)) (by dsimp only [arn, Around.deeper]; (first | lia | omega)) ?_ ?_
        · intro done hfin hall g10 h10 tk10 S' R nR hSx hSd KT10 GD10 F10 N10 ha10
          obtain ⟨B10, _, _, D10⟩ := GD10
          (try clear N9); (try clear F9)
          (repeat' ((fail_if_success (with_reducible (first | show gz2 | show gz3 | show gz4 | show gz5 | show gz6 | show gz7 | show gz8 | show gz9 | show gz10 | show gz11 | show gz12 | show gz13 | show gz14 | show gz15 | show gz20 | show gz21 | show gz22 | show gz23 | show gz24 | show gz25 | show gz26 | show gz27 | show gz28))); (first | ((with_reducible show wpAny _ _ (execs _ _) _ _ _); k_gentoks) | with_reducible (first | refine execs_one ?_ | (refine execs_cut ?_; intro _ _) | (refine if_cut ?_; intro _ _)) | ((fail_if_success (with_reducible show gz1)); (first | (refine Kh.go ‹_› _ _ ?_; try dsimp only [KnP]) | ((with_reducible show TurnEnd _ _ _ _ _ _); dsimp only [TurnEnd]))) | (k_unfold; (try dsimp only)) | (k_end; wrow_close) | walk1 | (dsimp only; walk1) | (leave1; try dsimp only))))
          rename Fr _ _ _ _ => F11
          rename News _ _ _ _ => N11
          refine StopP (hC1z _ _) (an2_i rfl (ex9_i .none S' R nR g10 _ _ _ rest0 (an10_i hSd rfl KT10 B10 D10 (frB _ F11 ⟨by rw [hSx]; rfl, rfl, trivial⟩) N11 ha10 ⟨[], rfl⟩ (.inl ⟨rfl, done, hv8 ▸ hfin, fun k hk => ?_⟩))))
          rw [← hv8] at hk
          obtain ⟨v, hv, rfl⟩ := List.mem_map.mp hk
          obtain ⟨e', he', rfl⟩ := List.mem_map.mp hv
          exact hall e' he'
        · intro ring hring g10 gx h10 tk10 S' R nR ee hSx hSd KT10 GD10 FG10 RX ha10
          obtain ⟨B10, _, _, D10⟩ := GD10
          (try clear N9); (try clear F9)
          dsimp only
          refine caughtX_own (x := Str.ofString "CycleError") (C := 55) RX FG10 B10 XB TB D10 (by k_is) (by rfl) ?_
          rintro h11 g11 oe cs ⟨KT11, F11, N11, hoed, hc2, hne11, B11, X11, T11, D11⟩
          have F12 := frB [(Str.ofString "sorter", .ref S'.x)] F11 ⟨by rw [hSx]; rfl, trivial⟩
          clear F11
          have hnofin : ∀ done, FinO (view G') done → ¬ ∀ e ∈ G', e.key ∈ done := fun done hfin hall => by
            have hl := hring.len
            obtain ⟨a, ha⟩ : ∃ a, a ∈ ring := ⟨ring[0]'(by (first | lia | omega)), List.getElem_mem _⟩
            obtain ⟨y, hy, hs⟩ := ring_succ hring ha
            obtain ⟨e, he, rfl, _⟩ := scOf_mem hs
            exact ring_no_fin hring hfin _ ha (hall e he)
          (repeat' ((fail_if_success (with_reducible (first | show gz2 | show gz3 | show gz4 | show gz5 | show gz6 | show gz7 | show gz8 | show gz9 | show gz10 | show gz11 | show gz12 | show gz13 | show gz14 | show gz15 | show gz20 | show gz21 | show gz22 | show gz23 | show gz24 | show gz25 | show gz26 | show gz27 | show gz28))); (first | ((with_reducible show wpAny _ _ (execs _ _) _ _ _); k_gentoks) | with_reducible (first | refine execs_one ?_ | (refine execs_cut ?_; intro _ _) | (refine if_cut ?_; intro _ _)) | ((fail_if_success (with_reducible show gz1)); (first | (refine Kh.go ‹_› _ _ ?_; try dsimp only [KnP]) | ((with_reducible show TurnEnd _ _ _ _ _ _); dsimp only [TurnEnd]))) | (k_unfold; (try dsimp only)) | (k_end; wrow_close) | walk1 | (dsimp only; walk1) | (leave1; try dsimp only))))
          have pe := perm_in (ee, oe) (R, lstObj (valsOf (rdy G')) nR) (S'.led w (.ref R) (.int 0 ta) (.int 0 tb) o' []) (gLed G') rest0
          have N13 := news_perm N11 pe
          have ha13 := apart_perm (apart_cons (p := (ee, oe)) hne11 ha10) pe
          clear N11
          rename Fr _ _ _ _ => F13
          refine fcyc_spec _ _ _ _ _ _ _ _ _ _ (arn none dp un gd env outer) base p loose mean mg mb _ _ ⟨B11, XB, TB, D11⟩ rfl rfl F13 S' (.ref R) (.int 0 ta) (.int 0 tb) o' ((R, lstObj (valsOf (rdy G')) nR) :: (ee, oe) :: rest0) G' N13 ha13 hd8 (by rw [hSd]; exact hsys) hG8 (by (first | lia | omega)) hBv hcl (by dsimp only [arn, Around.deeper, Around.mark]; (first | lia | omega)) (by dsimp only [arn, Around.deeper, Around.mark]; (first | lia | omega)) (.inr ⟨hnofin, ee, oe, cs, rfl, .tail _ (.head _), hoed, hc2⟩) ?_ ?_
          · intro done hfin hall
            exact absurd hall (hnofin done hfin)
          · intro ring2 hring2 g14 h14 tk14 rr nr KT14 GD14 F14 N14 ha14
            obtain ⟨B14, _, _, D14⟩ := GD14
            (try clear N13); (try clear F13)
            (repeat' ((fail_if_success (with_reducible (first | show gz2 | show gz3 | show gz4 | show gz5 | show gz6 | show gz7 | show gz8 | show gz9 | show gz10 | show gz11 | show gz12 | show gz13 | show gz14 | show gz15 | show gz20 | show gz21 | show gz22 | show gz23 | show gz24 | show gz25 | show gz26 | show gz27 | show gz28))); (first | ((with_reducible show wpAny _ _ (execs _ _) _ _ _); k_gentoks) | with_reducible (first | refine execs_one ?_ | (refine execs_cut ?_; intro _ _) | (refine if_cut ?_; intro _ _)) | ((fail_if_success (with_reducible show gz1)); (first | (refine Kh.go ‹_› _ _ ?_; try dsimp only [KnP]) | ((with_reducible show TurnEnd _ _ _ _ _ _); dsimp only [TurnEnd]))) | (k_unfold; (try dsimp only)) | (k_end; wrow_close) | walk1 | (dsimp only; walk1) | (leave1; try dsimp only))))
            rename Fr _ _ _ _ => F15
            rename News _ _ _ _ => N15
            have pr := perm_in (rr, lstObj (valsOf ring2) nr) (R, lstObj (valsOf (rdy G')) nR) (S'.led w (.ref R) (.int 0 ta) (.int 0 tb) o' []) (gLed G') ((ee, oe) :: rest0)
            exact StopP (hC1z _ _) (an2_i rfl (ex9_i (.ref rr) S' R nR g14 _ _ _ ((rr, lstObj (valsOf ring2) nr) :: (ee, oe) :: rest0) (an10_i hSd rfl (KT10.trans (KT11.trans KT14)) B14 D14 (frB _ F15 ⟨rfl, rfl, trivial⟩) (news_perm N15 pr) (apart_perm ha14 pr) ⟨[(rr, lstObj (valsOf ring2) nr), (ee, oe)], rfl⟩ (.inr ⟨rr, ring2, nr, rfl, hv8 ▸ hring2, .head _⟩))))
      · rintro f s' ⟨rfl, rv, S', R, nR, g', h, tk, u, rest1, hSd, rfl, KT, B2, D2, F2, N2, ha2, ⟨ex, hex⟩, hrv⟩
        (try clear N9); (try clear F9)
        have X2 := XB.keeps B2.stays
        have T2 := TB.keeps B2.stays
        (repeat' ((fail_if_success (with_reducible (first | show gz2 | show gz3 | show gz4 | show gz5 | show gz6 | show gz7 | show gz8 | show gz9 | show gz10 | show gz11 | show gz12 | show gz13 | show gz14 | show gz15 | show gz20 | show gz21 | show gz22 | show gz23 | show gz24 | show gz25 | show gz26 | show gz27 | show gz28))); (first | ((with_reducible show wpAny _ _ (execs _ _) _ _ _); k_gentoks) | with_reducible (first | refine execs_one ?_ | (refine execs_cut ?_; intro _ _) | (refine if_cut ?_; intro _ _)) | ((fail_if_success (with_reducible show gz1)); (first | (refine Kh.go ‹_› _ _ ?_; try dsimp only [KnP]) | ((with_reducible show TurnEnd _ _ _ _ _ _); dsimp only [TurnEnd]))) | (k_unfold; (try dsimp only)) | (k_end; wrow_close) | walk1 | (dsimp only; walk1) | (leave1; try dsimp only))))
        rename Fr _ _ _ _ => F3
        rename News _ _ _ _ => N3
        refine cut (fun f s' => f = .next ∧ ∃ (g' h : Heap) (tk : Nat) (u : Str → Option Value), s' = { s with heap := h, toks := tk } ∧ KtsTurn (frs (env :: outer)) g g' ∧ Below (arn none dp un gd env outer) base (env :: outer) g' ∧ KtsDicts (frs (env :: outer)) g' ∧
          Fr g' L1 h (kB u [(Str.ofString "sorter", .ref S'.x), (Str.ofString "ring", rv), (Str.ofString "refused", .bool true)]) ∧ News g' L1 h (S'.led w (.ref R) (.int 0 ta) (.int 0 tb) o' (gLed G' ++ (R, lstObj (valsOf (rdy G')) nR) :: rest1))) ?_ ?_
        · intro C2z hC2z
          refine wpAny_Try_except ?_
          (repeat' ((fail_if_success (with_reducible (first | show gz2 | show gz3 | show gz4 | show gz5 | show gz6 | show gz7 | show gz8 | show gz9 | show gz10 | show gz11 | show gz12 | show gz13 | show gz14 | show gz15 | show gz20 | show gz21 | show gz22 | show gz23 | show gz24 | show gz25 | show gz26 | show gz27 | show gz28))); (first | ((with_reducible show wpAny _ _ (execs _ _) _ _ _); k_gentoks) | with_reducible (first | refine execs_one ?_ | (refine execs_cut ?_; intro _ _) | (refine if_cut ?_; intro _ _)) | ((fail_if_success (with_reducible show gz1)); (first | (refine Kh.go ‹_› _ _ ?_; try dsimp only [KnP]) | ((with_reducible show TurnEnd _ _ _ _ _ _); dsimp only [TurnEnd]))) | (k_unfold; (try dsimp only)) | (k_end; wrow_close) | walk1 | (dsimp only; walk1) | (leave1; try dsimp only))))
          refine prep_again none _ _ _ _ _ _ _ _ _ (arn none dp un gd env outer) base p loose mean mg mb _ _ ⟨B2, XB, TB, D2⟩ rfl rfl F3 S' R (.int 0 ta) (.int 0 tb) o' (gLed G' ++ (R, lstObj (valsOf (rdy G')) nR) :: rest1) N3 ha2 (by dsimp only [arn, Around.deeper]; (first | lia | omega)) (by dsimp only [arn, Around.deeper]; (first | lia | omega)) ?_
          intro gx ee h4 tk4 FG4 RX
          (try clear N3)
          dsimp only
          refine caughtX_type (x := Str.ofString "ValueError") (X := "ValueError") (T' := "ValueError") RX FG4 B2 XB TB D2 (by k_is) PyProof.Rows.Boot.«ValueError» (by decide) PySem.F.isExc_ValueError PySem.F.notTuple_ValueError (by rw [isSubtype_type]; kernel_rfl) ?_
          rintro h5 g5 oe cs ⟨KT5, F5, N5, hoed, hc2, hne5, B5, X5, T5, D5⟩
          clear F3
          (repeat' ((fail_if_success (with_reducible (first | show gz2 | show gz3 | show gz4 | show gz5 | show gz6 | show gz7 | show gz8 | show gz9 | show gz10 | show gz11 | show gz12 | show gz13 | show gz14 | show gz15 | show gz20 | show gz21 | show gz22 | show gz23 | show gz24 | show gz25 | show gz26 | show gz27 | show gz28))); (first | ((with_reducible show wpAny _ _ (execs _ _) _ _ _); k_gentoks) | with_reducible (first | refine execs_one ?_ | (refine execs_cut ?_; intro _ _) | (refine if_cut ?_; intro _ _)) | ((fail_if_success (with_reducible show gz1)); (first | (refine Kh.go ‹_› _ _ ?_; try dsimp only [KnP]) | ((with_reducible show TurnEnd _ _ _ _ _ _); dsimp only [TurnEnd]))) | (k_unfold; (try dsimp only)) | (k_end; wrow_close) | walk1 | (dsimp only; walk1) | (leave1; try dsimp only))))
          rename Fr _ _ _ _ => F6
          rename News _ _ _ _ => N6
          exact StopP (hC2z _ _) (an2_i rfl (ex4_i g5 _ _ _ (an6_i rfl (KT.trans KT5) B5 D5 (frB _ F6 ⟨rfl, rfl, rfl, trivial⟩) (fun q hq => N6 q (.tail _ hq)))))
        · rintro f s' ⟨rfl, g4, h4, tk4, u4, rfl, KT4, B4, D4, F4, N4⟩
          (try clear N3); (try clear F3)
          clear X2 T2 B2 D2 KT
          have X4 := XB.keeps B4.stays
          have T4 := TB.keeps B4.stays
          (repeat' ((fail_if_success (with_reducible (first | show gz2 | show gz3 | show gz4 | show gz5 | show gz6 | show gz7 | show gz8 | show gz9 | show gz10 | show gz11 | show gz12 | show gz13 | show gz14 | show gz15 | show gz20 | show gz21 | show gz22 | show gz23 | show gz24 | show gz25 | show gz26 | show gz27 | show gz28))); (first | ((with_reducible show wpAny _ _ (execs _ _) _ _ _); k_gentoks) | with_reducible (first | refine execs_one ?_ | (refine execs_cut ?_; intro _ _) | (refine if_cut ?_; intro _ _)) | ((fail_if_success (with_reducible show gz1)); (first | (refine Kh.go ‹_› _ _ ?_; try dsimp only [KnP]) | ((with_reducible show TurnEnd _ _ _ _ _ _); dsimp only [TurnEnd]))) | (k_unfold; (try dsimp only)) | (k_end; wrow_close) | walk1 | (dsimp only; walk1) | (leave1; try dsimp only))))
          rename Fr _ _ _ _ => F5
          rename News _ _ _ _ => N5
          rename _ ∧ _ ∧ _ ∧ AllLt _ _ => l5
          rename_i gA h5x _ _ _
          have hKs := kahn_start (hv8 ▸ good_bldV xs) (rdy_nodup hG8) (rdy_mem hG8)
          have pg5 := perm_in (gA, lstObj [] 0) (R, lstObj (valsOf (rdy G')) nR) (S'.led w (.ref R) (.int 0 ta) (.int 0 tb) o' []) (gLed G') rest1
          have ha5 := apart_perm (apart_lt (p := (gA, lstObj [] 0)) (List.forall_mem_cons.mpr ⟨l5.1, List.forall_mem_cons.mpr ⟨l5.2.1, List.forall_mem_cons.mpr ⟨l5.2.2.1, fun q hq => kst_ltOf l5.2.2.2 q hq⟩⟩⟩) ha2) pg5
          refine my_while (fun nn s' => ∃ (G2 : List Nd) (rl gone : List (Int × Tok)) (a : Int) (t1 t2 : Tok) (nR2 nG : Nat) (h : Heap) (tk : Nat) (u : Str → Option Value), nn = G'.length - gone.length ∧ s' = { s with heap := h, toks := tk } ∧
              Fr g4 L1 h (kB u [(Str.ofString "sorter", .ref S'.x), (Str.ofString "ring", rv), (Str.ofString "refused", .bool true), (Str.ofString "gone", .ref gA)]) ∧
              News g4 L1 h (S'.led w (.ref R) (.int a t1) (.int a t2) o' (gLed G2 ++ (R, lstObj (valsOf rl) nR2) :: (gA, lstObj (valsOf gone) nG) :: rest1)) ∧ Apart (S'.led w (.ref R) (.int a t1) (.int a t2) o' (gLed G2 ++ (R, lstObj (valsOf rl) nR2) :: (gA, lstObj (valsOf gone) nG) :: rest1)) ∧
              gKvs G2 = gKvs G' ∧ KInv (edX xs) (view G2) (rl.map (·.1)) (gone.map (·.1)) ∧ (view G2).map kc = (view G').map kc)
            (fun s' => ∃ (V : View) (gone : List (Int × Tok)) (nG : Nat) (h : Heap) (tk : Nat) (u : Str → Option Value), s' = { s with heap := h, toks := tk } ∧
              Fr g4 L1 h (kB u [(Str.ofString "ring", rv), (Str.ofString "refused", .bool true), (Str.ofString "gone", .ref gA)]) ∧ News g4 L1 h ((gA, lstObj (valsOf gone) nG) :: rest1) ∧ Apart ((gA, lstObj (valsOf gone) nG) :: rest1) ∧ KInv (edX xs) V [] (gone.map (·.1)) ∧ keysV V = keysV (bldV xs)) ?_ _
            (ex11_i G' (rdy G') [] 0 ta tb nR 0 _ _ _ (an8_i rfl rfl (frB _ F5 ⟨rfl, rfl, rfl, rfl, trivial⟩) (news_perm N5 pg5) ha5 rfl hKs rfl)) ?_
          · intro I3z R3z Q3z hI3z hR3z hQ3z nn s' hzz
            refine ex11_e hzz ?_
            clear hzz
            intro G2 rl gone a t1 t2 nR2 nG h tk u hzz
            refine an8_e hzz ?_
            clear hzz
            rintro rfl rfl F6 N6 ha6 hkv6 hK6 hkk6
            (try clear N5); (try clear F5); (try clear l5)
            clear ha5
            have hlen2 : G2.length = G'.length := by have := congrArg List.length hkk6; simpa [view] using this
            have hkeys2 : keysV (view G2) = keysV (view G') := kc_keys hkk6
            have hG2 : (G2.map (·.key)).Nodup := by rw [← view_keys]; exact hK6.kn
            have hkl := kinv_len hK6
            rw [List.length_map, List.length_map, view_len] at hkl
            (repeat' ((fail_if_success (with_reducible (first | show gz2 | show gz3 | show gz4 | show gz5 | show gz6 | show gz7 | show gz8 | show gz9 | show gz10 | show gz11 | show gz12 | show gz13 | show gz14 | show gz15 | show gz20 | show gz21 | show gz22 | show gz23 | show gz24 | show gz25 | show gz26 | show gz27 | show gz28))); (first | ((with_reducible show wpAny _ _ (execs _ _) _ _ _); k_gentoks) | with_reducible (first | refine execs_one ?_ | (refine execs_cut ?_; intro _ _) | (refine if_cut ?_; intro _ _)) | ((fail_if_success (with_reducible show gz1)); (first | (refine Kh.go ‹_› _ _ ?_; try dsimp only [KnP]) | ((with_reducible show TurnEnd _ _ _ _ _ _); dsimp only [TurnEnd]))) | (k_unfold; (try dsimp only)) | (k_end; wrow_close) | walk1 | (dsimp only; walk1) | (leave1; try dsimp only))))
            rename Fr _ _ _ _ => F7
            rename News _ _ _ _ => N7
            have pR := perm_mid3 (S'.led w (.ref R) (.int a t1) (.int a t2) o' []) (gLed G2) (R, lstObj (valsOf rl) nR2) ((gA, lstObj (valsOf gone) nG) :: rest1)
            refine active_spec _ _ _ _ _ _ _ _ _ _ _ ⟨⟨_, _, _, _, _, _, _, by k_asm, by k_asm, by k_asm⟩, rfl, rfl⟩ F7 S' R a a t1 t2 o' (gLed G2 ++ (gA, lstObj (valsOf gone) nG) :: rest1) rl nR2 (news_perm N7 pR) (by (first | lia | omega)) (by dsimp only [arn, Around.deeper]; (first | lia | omega)) (by dsimp only [arn, Around.deeper]; (first | lia | omega)) ?_
            intro h9 tk9 F9 N9
            (try clear N7); (try clear F7)
            rw [decide_eq_false (Int.lt_irrefl a), Bool.false_or]
            have N10 := news_perm N9 pR.symm
            clear N9
            by_cases hre : rl = []
            · subst hre
              (repeat' ((fail_if_success (with_reducible (first | show gz2 | show gz3 | show gz4 | show gz5 | show gz6 | show gz7 | show gz8 | show gz9 | show gz10 | show gz11 | show gz12 | show gz13 | show gz14 | show gz15 | show gz20 | show gz21 | show gz22 | show gz23 | show gz24 | show gz25 | show gz26 | show gz27 | show gz28))); (first | ((with_reducible show wpAny _ _ (execs _ _) _ _ _); k_gentoks) | with_reducible (first | refine execs_one ?_ | (refine execs_cut ?_; intro _ _) | (refine if_cut ?_; intro _ _)) | ((fail_if_success (with_reducible show gz1)); (first | (refine Kh.go ‹_› _ _ ?_; try dsimp only [KnP]) | ((with_reducible show TurnEnd _ _ _ _ _ _); dsimp only [TurnEnd]))) | (k_unfold; (try dsimp only)) | (k_end; wrow_close) | walk1 | (dsimp only; walk1) | (leave1; try dsimp only))))
              have pg9 := perm_g2 (S'.led w (.ref R) (.int a t1) (.int a t2) o' []) (gLed G2) (R, lstObj (valsOf []) nR2) (gA, lstObj (valsOf gone) nG) rest1
              have N11 := news_perm N10 pg9
              have ha11 := apart_perm ha6 pg9
              have hsubA : ∀ q ∈ (gA, lstObj (valsOf gone) nG) :: rest1, q ∈ (gA, lstObj (valsOf gone) nG) :: (S'.led w (.ref R) (.int a t1) (.int a t2) o' [] ++ (gLed G2 ++ (R, lstObj (valsOf []) nR2) :: rest1)) := fun q hq => (List.mem_cons.mp hq).elim (fun z => z ▸ .head _) fun z => .tail _ (List.mem_append_right _ (List.mem_append_right _ (.tail _ z)))
              have ha12 : Apart ((gA, lstObj (valsOf gone) nG) :: rest1) := apart_sub ha11 (List.Sublist.cons_cons _ ((List.sublist_cons_self _ _).trans ((List.sublist_append_right _ _).trans (List.sublist_append_right _ _))))
              exact StopP (hR3z _) (ex6_i (view G2) gone nG _ _ _ (an6_i rfl (frB _ F9 ⟨rfl, rfl, rfl, trivial⟩) (fun q hq => N11 q (hsubA q hq)) ha12 hK6 (hkeys2.trans (by rw [hv8]))))
            · have hre' : (!rl.isEmpty) = true := by cases rl with
                | nil => exact absurd rfl hre
                | cons _ _ => rfl
              rw [hre']
              obtain ⟨hK7, hkk7, hout7⟩ := kahn_step hK6
              have hin7 : ∀ k ∈ rl, ∃ e ∈ G2, e.key = k.1 := fun k hk => by
                have h1 := hK6.sub k.1 (List.mem_append_right _ (List.mem_map_of_mem hk))
                rw [show keysV (view G2) = G2.map (·.key) from view_keys G2] at h1
                obtain ⟨e, h2, h3⟩ := List.mem_map.mp h1
                exact ⟨e, h2, h3⟩
              have hrl4 : rl.length ≤ 4 := by
                have h1 := nodup_le (m := [0, 1, 2, 3]) (List.nodup_append.mp hK6.nd).2.1 (fun x hx' => by
                  have h2 := hK6.sub x (List.mem_append_right _ hx')
                  rw [hkeys2, hv8, keys_bldV hxr] at h2
                  have h4 : x = 0 ∨ x = 1 ∨ x = 2 ∨ x = 3 := by (first | lia | omega)
                  simp [h4])
                simpa using h1
              (repeat' ((fail_if_success (with_reducible (first | show gz2 | show gz3 | show gz4 | show gz5 | show gz6 | show gz7 | show gz8 | show gz9 | show gz10 | show gz11 | show gz12 | show gz13 | show gz14 | show gz15 | show gz20 | show gz21 | show gz22 | show gz23 | show gz24 | show gz25 | show gz26 | show gz27 | show gz28))); (first | ((with_reducible show wpAny _ _ (execs _ _) _ _ _); k_gentoks) | with_reducible (first | refine execs_one ?_ | (refine execs_cut ?_; intro _ _) | (refine if_cut ?_; intro _ _)) | ((fail_if_success (with_reducible show gz1)); (first | (refine Kh.go ‹_› _ _ ?_; try dsimp only [KnP]) | ((with_reducible show TurnEnd _ _ _ _ _ _); dsimp only [TurnEnd]))) | (k_unfold; (try dsimp only)) | (k_end; wrow_close) | walk1 | (dsimp only; walk1) | (leave1; try dsimp only))))
              rename Fr _ _ _ _ => F11
              rename News _ _ _ _ => N11
              refine ready_spec _ _ _ _ _ _ _ _ _ _ _ ⟨⟨_, _, _, _, _, _, _, by k_asm, by k_asm, by k_asm⟩, rfl, rfl⟩ F11 S' R a t1 (.int a t2) o' ((gA, lstObj (valsOf gone) nG) :: rest1) G2 rl nR2 N11 ha6 (hkv6 ▸ hd8) (by rw [hSd]; exact hsys) hG2 (by (first | lia | omega)) (by (first | lia | omega)) hre hin7 (by dsimp only [arn, Around.deeper]; (first | lia | omega)) (by dsimp only [arn, Around.deeper]; (first | lia | omega)) ?_
              intro h12 tk12 G12 Tp ta12 nR12 hv12 hkv12 F12 N12 ha12
              (try clear N11); (try clear F11)
              have pg12 := perm_g3 (S'.led w (.ref R) (.int (a + rl.length) ta12) (.int a t2) o' []) (gLed G12) (R, lstObj [] nR12) (Tp, tupObj (valsOf rl) 0) (gA, lstObj (valsOf gone) nG) rest1
              have N13 := news_perm N12 pg12
              have ha13 := apart_perm ha12 pg12
              clear N12
              dsimp only [List.cons_append, List.nil_append] at N13
              (repeat' ((fail_if_success (with_reducible (first | show gz2 | show gz3 | show gz4 | show gz5 | show gz6 | show gz7 | show gz8 | show gz9 | show gz10 | show gz11 | show gz12 | show gz13 | show gz14 | show gz15 | show gz20 | show gz21 | show gz22 | show gz23 | show gz24 | show gz25 | show gz26 | show gz27 | show gz28))); (first | ((with_reducible show wpAny _ _ (execs _ _) _ _ _); k_gentoks) | with_reducible (first | refine execs_one ?_ | (refine execs_cut ?_; intro _ _) | (refine if_cut ?_; intro _ _)) | ((fail_if_success (with_reducible show gz1)); (first | (refine Kh.go ‹_› _ _ ?_; try dsimp only [KnP]) | ((with_reducible show TurnEnd _ _ _ _ _ _); dsimp only [TurnEnd]))) | (k_unfold; (try dsimp only)) | (k_end; wrow_close) | walk1 | (dsimp only; walk1) | (leave1; try dsimp only))))
              rename Fr _ _ _ _ => F14
              rename News _ _ _ _ => N14
              have hT14 : (Tp, tupObj (valsOf rl) 0) ∈ gLed G12 ++ (R, lstObj [] nR12) :: (Tp, tupObj (valsOf rl) 0) :: rest1 := List.mem_append_right _ (.tail _ (.head _))
              refine kup_extend (its := (valsOf gone).toArray) (its2 := (valsOf rl).toArray) (n := nG) (n2 := 0) (l := valsOf (gone ++ rl)) F14 N14 (.tail _ (.tail _ (.tail _ (.tail _ hT14)))) (by simp) (by simpa using hre) (upd_at (l₁ := []) ha13) (short_list (by simp; (first | lia | omega))) (by rw [sizeLine_eq]; simp; (first | lia | omega)) (by rw [sizeLine_eq]; simp; (first | lia | omega)) ?_
              intro h15 F15 N15
              (try clear N14); (try clear F14)
              dsimp only [List.nil_append] at N15
              (repeat' ((fail_if_success (with_reducible (first | show gz2 | show gz3 | show gz4 | show gz5 | show gz6 | show gz7 | show gz8 | show gz9 | show gz10 | show gz11 | show gz12 | show gz13 | show gz14 | show gz15 | show gz20 | show gz21 | show gz22 | show gz23 | show gz24 | show gz25 | show gz26 | show gz27 | show gz28))); (first | ((with_reducible show wpAny _ _ (execs _ _) _ _ _); k_gentoks) | with_reducible (first | refine execs_one ?_ | (refine execs_cut ?_; intro _ _) | (refine if_cut ?_; intro _ _)) | ((fail_if_success (with_reducible show gz1)); (first | (refine Kh.go ‹_› _ _ ?_; try dsimp only [KnP]) | ((with_reducible show TurnEnd _ _ _ _ _ _); dsimp only [TurnEnd]))) | (k_unfold; (try dsimp only)) | (k_end; wrow_close) | walk1 | (dsimp only; walk1) | (leave1; try dsimp only))))
              refine MethodStar ?_
              (repeat' ((fail_if_success (with_reducible (first | show gz2 | show gz3 | show gz4 | show gz5 | show gz6 | show gz7 | show gz8 | show gz9 | show gz10 | show gz11 | show gz12 | show gz13 | show gz14 | show gz15 | show gz20 | show gz21 | show gz22 | show gz23 | show gz24 | show gz25 | show gz26 | show gz27 | show gz28))); (first | ((with_reducible show wpAny _ _ (execs _ _) _ _ _); k_gentoks) | with_reducible (first | refine execs_one ?_ | (refine execs_cut ?_; intro _ _) | (refine if_cut ?_; intro _ _)) | ((fail_if_success (with_reducible show gz1)); (first | (refine Kh.go ‹_› _ _ ?_; try dsimp only [KnP]) | ((with_reducible show TurnEnd _ _ _ _ _ _); dsimp only [TurnEnd]))) | (k_unfold; (try dsimp only)) | (k_end; wrow_close) | walk1 | (dsimp only; walk1) | (leave1; try dsimp only))))
              refine callWith_MS (K := Mine.hd.heap_39 w.params) (g := 120) (self := .ref S'.x) (by k_is) ?_
              (repeat' ((fail_if_success (with_reducible (first | show gz2 | show gz3 | show gz4 | show gz5 | show gz6 | show gz7 | show gz8 | show gz9 | show gz10 | show gz11 | show gz12 | show gz13 | show gz14 | show gz15 | show gz20 | show gz21 | show gz22 | show gz23 | show gz24 | show gz25 | show gz26 | show gz27 | show gz28))); (first | ((with_reducible show wpAny _ _ (execs _ _) _ _ _); k_gentoks) | with_reducible (first | refine execs_one ?_ | (refine execs_cut ?_; intro _ _) | (refine if_cut ?_; intro _ _)) | ((fail_if_success (with_reducible show gz1)); (first | (refine Kh.go ‹_› _ _ ?_; try dsimp only [KnP]) | ((with_reducible show TurnEnd _ _ _ _ _ _); dsimp only [TurnEnd]))) | (k_unfold; (try dsimp only)) | (k_end; wrow_close) | walk1 | (dsimp only; walk1) | (leave1; try dsimp only))))
              rename Fr _ _ _ _ => F16
              rename News _ _ _ _ => N16
              refine star_seq (o := tupObj (valsOf rl) 0) (T := "tuple") (its := (valsOf rl).toArray) (n := 0) (ws := valsOf rl) F16 N16 (.tail _ (.tail _ (.tail _ (.tail _ (.tail _ hT14))))) rfl rfl (.inr rfl) rfl (by rw [sizeLine_eq]; simp; (first | lia | omega)) ?_
              intro h17 F17 N17
              (try clear N16); (try clear F16); (try clear N15); (try clear F15)
              refine ⟨methP N17 (.head _) (X4.keeps F17.keep), ?_⟩
              refine call_meth N17 (.head _) ?_
              have pg17 := perm_g3 (S'.led w (.ref R) (.int (a + rl.length) ta12) (.int a t2) o' []) (gLed G12) (R, lstObj [] nR12) (Tp, tupObj (valsOf rl) 0) (gA, lstObj (valsOf (gone ++ rl)) (nG + 1)) rest1
              have N18 := news_perm (fun q hq => N17 q (.tail _ hq)) pg17.symm
              have ha18 := apart_perm (show Apart ((gA, lstObj (valsOf (gone ++ rl)) (nG + 1)) :: (S'.led w (.ref R) (.int (a + rl.length) ta12) (.int a t2) o' [] ++ (gLed G12 ++ (R, lstObj [] nR12) :: (Tp, tupObj (valsOf rl) 0) :: rest1))) from ha13) pg17.symm
              have hkc12 : (view G12).map kc = (view G').map kc := by rw [hv12, kc_out]; exact hkk6
              have hlen12 : G12.length = G'.length := by have := congrArg List.length hkc12; simpa [view] using this
              have hkeys12 := kc_keys hkc12
              have hG12 : (G12.map (·.key)).Nodup := by
                rw [← view_keys]
                show (keysV (view G12)).Nodup
                rw [hkeys12, ← hkeys2]; exact hK6.kn
              refine done_code _ _ _ _ _ _ _ _ _ _ _ ⟨⟨_, _, _, _, _, _, _, by k_asm, by k_asm, by k_asm⟩, rfl, rfl⟩ F17 S' R (.int (a + rl.length) ta12) a t2 o' ((Tp, tupObj (valsOf rl) 0) :: (gA, lstObj (valsOf (gone ++ rl)) (nG + 1)) :: rest1) G12 [] nR12 rl N18 ha18 (by rw [hkv12, hkv6]; exact hd8) (by rw [hSd]; exact hsys) hG12 (by (first | lia | omega)) (by simp) hrl4 (kc_bnd hkc12 hBv) (hcl_of rfl (kc_closed hkc12 (hv8 ▸ closed_bldV xs))) ?_ (List.nodup_append.mp hK6.nd).2.1 ?_ (by dsimp only [arn, Around.deeper]; (first | lia | omega)) (by dsimp only [arn, Around.deeper]; (first | lia | omega)) ?_
              · intro k hk
                have h1 := hK6.sub k.1 (List.mem_append_right _ (List.mem_map_of_mem hk))
                rw [hkeys2, ← hkeys12, show keysV (view G12) = G12.map (·.key) from view_keys G12] at h1
                obtain ⟨e, h2, h3⟩ := List.mem_map.mp h1
                exact ⟨e, h2, h3⟩
              · intro V r i k hVr hki
                have h1 := hout7 i k hki
                rw [← hv12, ← List.map_take] at h1
                rw [show V = (V, r).1 from rfl, hVr]
                exact h1
              · intro h19 tk19 G19 rl19 tb19 n19 hv19 hkv19 F19 N19 ha19
                (try clear N18); (try clear N17); (try clear F17)
                dsimp only
                (repeat' ((fail_if_success (with_reducible (first | show gz2 | show gz3 | show gz4 | show gz5 | show gz6 | show gz7 | show gz8 | show gz9 | show gz10 | show gz11 | show gz12 | show gz13 | show gz14 | show gz15 | show gz20 | show gz21 | show gz22 | show gz23 | show gz24 | show gz25 | show gz26 | show gz27 | show gz28))); (first | ((with_reducible show wpAny _ _ (execs _ _) _ _ _); k_gentoks) | with_reducible (first | refine execs_one ?_ | (refine execs_cut ?_; intro _ _) | (refine if_cut ?_; intro _ _)) | ((fail_if_success (with_reducible show gz1)); (first | (refine Kh.go ‹_› _ _ ?_; try dsimp only [KnP]) | ((with_reducible show TurnEnd _ _ _ _ _ _); dsimp only [TurnEnd]))) | (k_unfold; (try dsimp only)) | (k_end; wrow_close) | walk1 | (dsimp only; walk1) | (leave1; try dsimp only))))
                rename Fr _ _ _ _ => F20
                rename News _ _ _ _ => N20
                have hv20 : (rl.map (·.1)).foldl doneV (outV (view G2) (rl.map (·.1)), []) = (view G19, rl19.map (·.1)) := by rw [← hv12]; exact hv19.symm
                rw [hv20] at hK7 hkk7
                have pt := perm_g2 (S'.led w (.ref R) (.int (a + rl.length) ta12) (.int (a + rl.length) tb19) o' []) (gLed G19) (R, lstObj (valsOf rl19) n19) (Tp, tupObj (valsOf rl) 0) ((gA, lstObj (valsOf (gone ++ rl)) (nG + 1)) :: rest1)
                have hpos : 0 < rl.length := List.length_pos_iff.mpr hre
                have hkc19 : (view G19).map kc = (view G').map kc := by
                  have h1 := kc_done (rl.map (·.1)) (st := (view G12, []))
                  rw [show (rl.map (·.1)).foldl doneV (view G12, []) = (view G19, rl19.map (·.1)) from hv19.symm] at h1
                  exact h1.trans hkc12
                exact StopN hI3z (G'.length - (gone ++ rl).length) (by rw [List.length_append]; (first | lia | omega)) (ex11_i G19 rl19 (gone ++ rl) (a + rl.length) ta12 tb19 n19 (nG + 1) _ _ _ (an8_i rfl rfl (frB _ F20 ⟨rfl, rfl, rfl, rfl, trivial⟩) (fun q hq => news_perm N20 pt q (.tail _ hq)) (apart_tail (apart_perm ha19 pt)) (hkv19.trans (hkv12.trans hkv6)) (by rw [List.map_append]; exact hK7) hkc19))
          · intro s' hzz
            refine ex6_e hzz ?_
            clear hzz
            intro V gone nG h tk u hzz
            refine an6_e hzz ?_
            clear hzz
            rintro rfl F6 N6 ha6 hK6 hkk6
            (try clear N5); (try clear F5); (try clear l5)
            clear ha5
            (repeat' ((fail_if_success (with_reducible (first | show gz2 | show gz3 | show gz4 | show gz5 | show gz6 | show gz7 | show gz8 | show gz9 | show gz10 | show gz11 | show gz12 | show gz13 | show gz14 | show gz15 | show gz20 | show gz21 | show gz22 | show gz23 | show gz24 | show gz25 | show gz26 | show gz27 | show gz28))); (first | ((with_reducible show wpAny _ _ (execs _ _) _ _ _); k_gentoks) | with_reducible (first | refine execs_one ?_ | (refine execs_cut ?_; intro _ _) | (refine if_cut ?_; intro _ _)) | ((fail_if_success (with_reducible show gz1)); (first | (refine Kh.go ‹_› _ _ ?_; try dsimp only [KnP]) | ((with_reducible show TurnEnd _ _ _ _ _ _); dsimp only [TurnEnd]))) | (k_unfold; (try dsimp only)) | (k_end; wrow_close) | walk1 | (dsimp only; walk1) | (leave1; try dsimp only))))
            rename Fr _ _ _ _ => F7
            rename News _ _ _ _ => N7
            have hgl : gone.length < 64 := by
              have h1 := kinv_len hK6
              have h2 := congrArg List.length hkk6
              have h3 := view_len G'
              rw [hv8] at h3
              simp at h1 h2
              (first | lia | omega)
            refine kso_sorted (ns := gone.map (·.1)) F7 N7 (lst_is N7 (.head _)) (ints_vals gone) (by simpa using hgl) ?_
            intro sA vs' ns' c h8 F8 N8 l8 hi8 _ hp8 hs8 _
            obtain ⟨sl, rfl, rfl⟩ := vals_ints hi8
            (try clear N7); (try clear F7)
            (repeat' ((fail_if_success (with_reducible (first | show gz2 | show gz3 | show gz4 | show gz5 | show gz6 | show gz7 | show gz8 | show gz9 | show gz10 | show gz11 | show gz12 | show gz13 | show gz14 | show gz15 | show gz20 | show gz21 | show gz22 | show gz23 | show gz24 | show gz25 | show gz26 | show gz27 | show gz28))); (first | ((with_reducible show wpAny _ _ (execs _ _) _ _ _); k_gentoks) | with_reducible (first | refine execs_one ?_ | (refine execs_cut ?_; intro _ _) | (refine if_cut ?_; intro _ _)) | ((fail_if_success (with_reducible show gz1)); (first | (refine Kh.go ‹_› _ _ ?_; try dsimp only [KnP]) | ((with_reducible show TurnEnd _ _ _ _ _ _); dsimp only [TurnEnd]))) | (k_unfold; (try dsimp only)) | (k_end; wrow_close) | walk1 | (dsimp only; walk1) | (leave1; try dsimp only))))
            rename Fr _ _ _ _ => F9
            rename News _ _ _ _ => N9
            rename _ ∧ _ ∧ AllLt _ _ => l9
            (try k_unfold)
            (try dsimp only)
            subst hex
            subst hr0
            have haS : Apart ((sA, lstObj (valsOf sl) c) :: (ex ++ (tl, lstObj (refsOf xs) n) :: rest)) := apart_lt (fun q hq => l8 q (.tail _ hq)) (apart_tail ha6)
            have haT := fun (oT : Obj) => apart_lt (p := (_, oT)) (l := (sA, lstObj (valsOf sl) c) :: (ex ++ (tl, lstObj (refsOf xs) n) :: rest)) (List.forall_mem_cons.mpr ⟨l9.1, fun q hq => kst_ltOf l9.2.2 q hq⟩) haS
            refine ⟨g4, _, _, _, KT4, F9, fun q hq => N9 q ?_, fun h₀' KT' F' N' B' D' => ret rv sl V (gone.map (·.1)) ex h₀' _ _ _ sA 0 c hrv hK6 hkk6 hp8 hs8 KT' ⟨B', XB, TB, D'⟩ F' N' (haT _)⟩
            rcases List.mem_cons.mp hq with z | hq
            · exact z ▸ .head _
            · rcases List.mem_cons.mp hq with z | hq
              · exact z ▸ .tail _ (.head _)
              · exact .tail _ (.tail _ (.tail _ hq))
end
section
structure Rw where
  a : Addr
  v : List (Int × Tok)
  e : Nat
noncomputable def rLed (rows : List Rw) : List (Addr × Obj) := rows.map fun r => (r.a, lstObj (valsOf r.v) r.e)
noncomputable def rowRefs (rows : List Rw) : List Value := rows.map fun r => .ref r.a
theorem set_getElem_self' {α : Type} : ∀ {xs : List α} {i : Nat} {a : α}, xs[i]? = some a → xs.set i a = xs
  | [], _, _, h => by cases h
  | x :: l, 0, a, h => by cases h; rfl
  | x :: l, i + 1, a, h => by
    show x :: l.set i a = x :: l
    rw [set_getElem_self' (by simpa using h)]
noncomputable def tv (rows : List Rw) : List (List Int) := rows.map fun r => r.v.map (·.1)
noncomputable def Sq (T : List (List Int)) : Prop := T.length = 4 ∧ ∀ t ∈ T, t.length = 4
noncomputable def getT (T : List (List Int)) (a b : Nat) : Int := (T.getD a []).getD b 0
noncomputable def updT (T : List (List Int)) (a b : Nat) (v : Int) : List (List Int) := T.set a ((T.getD a []).set b v)
noncomputable def initG (T : List (List Int)) : Nat → List T3 → List (List Int)
  | _, [] => T
  | k, x :: r => initG (updT T x.2.1.toNat x.2.2.toNat (min (getT T x.2.1.toNat x.2.2.toNat) (k + 1))) (k + 1) r
noncomputable def initT (l : List T3) : List (List Int) := initG (List.replicate 4 [99, 99, 99, 99]) 0 l
theorem rng_small : ∀ k : Nat, k ≤ 7 → Builtin.Range.small 0 (k : Int) 1 = true ∧ Builtin.Range.rangeSize 0 (k : Int) 1 = (k : Int)
  | 0, _ => by decide
  | 1, _ => by decide
  | 2, _ => by decide
  | 3, _ => by decide
  | 4, _ => by decide
  | 5, _ => by decide
  | 6, _ => by decide
  | 7, _ => by decide
  | n + 8, h => absurd h (by (first | lia | omega))
theorem initG_snoc : ∀ (l : List T3) (T : List (List Int)) (k : Nat) (x : T3), initG T k (l ++ [x]) = updT (initG T k l) x.2.1.toNat x.2.2.toNat (min (getT (initG T k l) x.2.1.toNat x.2.2.toNat) (((k + l.length : Nat) : Int) + 1))
  | [], T, k, x => by simp [initG]
  | y :: l, T, k, x => by
    rw [List.cons_append, initG, initG_snoc l]
    rw [show k + 1 + l.length = k + (y :: l).length by simp; (first | lia | omega)]
    rfl
theorem initT_step (l : List T3) (i : Nat) (x : T3) (h : l[i]? = some x) : updT (initT (l.take i)) x.2.1.toNat x.2.2.toNat (min (getT (initT (l.take i)) x.2.1.toNat x.2.2.toNat) ((i : Int) + 1)) = initT (l.take (i + 1)) := by
  have hl := (List.getElem?_eq_some_iff.mp h).1
  unfold initT
  rw [List.take_add_one, h, Option.toList, initG_snoc, List.length_take, show 0 + min i l.length = i by (first | lia | omega)]
noncomputable def relax (T : List (List Int)) (m a b : Nat) : List (List Int) := updT T a b (min (getT T a b) (max (getT T a m) (getT T m b)))
noncomputable def fwB (T : List (List Int)) (m a k : Nat) : List (List Int) := (List.range k).foldl (fun T b => relax T m a b) T
noncomputable def fwA (T : List (List Int)) (m k : Nat) : List (List Int) := (List.range k).foldl (fun T a => fwB T m a 4) T
noncomputable def fwM (T : List (List Int)) (k : Nat) : List (List Int) := (List.range k).foldl (fun T m => fwA T m 4) T
theorem fwB_succ (T : List (List Int)) (m a k : Nat) : fwB T m a (k + 1) = relax (fwB T m a k) m a k := by unfold fwB; rw [List.range_succ, List.foldl_append]; rfl
theorem fwA_succ (T : List (List Int)) (m k : Nat) : fwA T m (k + 1) = fwB (fwA T m k) m k 4 := by unfold fwA; rw [List.range_succ, List.foldl_append]; rfl
theorem fwM_succ (T : List (List Int)) (k : Nat) : fwM T (k + 1) = fwA (fwM T k) k 4 := by unfold fwM; rw [List.range_succ, List.foldl_append]; rfl
theorem if_maxI (p q : Int) : (if p < q then q else p) = max p q := by split <;> (first | lia | omega)
theorem if_minI (p q : Int) : (if p < q then p else q) = min p q := by split <;> (first | lia | omega)
theorem tv_cell {rows : List Rw} (hs : Sq (tv rows)) {a b : Nat} (ha : a < 4) (hb : b < 4) : ∃ (r : Rw) (t : Tok), (rowRefs rows)[a]? = some (.ref r.a) ∧ (r.a, lstObj (valsOf r.v) r.e) ∈ rLed rows ∧ (valsOf r.v)[b]? = some (.int (getT (tv rows) a b) t) := by
  have hl : rows.length = 4 := by have := hs.1; simpa [tv] using this
  obtain ⟨r, hr⟩ : ∃ r, rows[a]? = some r := ⟨rows[a]'(by (first | lia | omega)), List.getElem?_eq_getElem _⟩
  have hrm := List.mem_of_getElem? hr
  have hrl : r.v.length = 4 := by
    have := hs.2 (r.v.map (·.1)) (List.mem_map_of_mem (f := fun r : Rw => r.v.map (·.1)) hrm)
    simpa using this
  obtain ⟨q, hq⟩ : ∃ q, r.v[b]? = some q := ⟨r.v[b]'(by (first | lia | omega)), List.getElem?_eq_getElem _⟩
  refine ⟨r, q.2, by unfold rowRefs; rw [List.getElem?_map, hr]; rfl, List.mem_map_of_mem (f := fun r : Rw => (r.a, lstObj (valsOf r.v) r.e)) hrm, ?_⟩
  have e1 : (tv rows).getD a [] = r.v.map (·.1) := by unfold tv; rw [List.getD_eq_getElem?_getD, List.getElem?_map, hr]; rfl
  have e2 : (r.v.map (·.1)).getD b 0 = q.1 := by rw [List.getD_eq_getElem?_getD, List.getElem?_map, hq]; rfl
  unfold getT
  rw [e1, e2, List.getElem?_map, hq]
  rfl
theorem tv_set {rows : List Rw} (hs : Sq (tv rows)) {a b : Nat} (ha : a < 4) (hb : b < 4) : ∃ (R1 : List Rw) (r : Rw) (R2 : List Rw), rows = R1 ++ r :: R2 ∧ (rowRefs rows)[a]? = some (.ref r.a) ∧ r.v.length = 4 ∧
    ∀ (v : Int) (t : Tok), tv (R1 ++ ⟨r.a, r.v.set b (v, t), r.e⟩ :: R2) = updT (tv rows) a b v ∧ rowRefs (R1 ++ ⟨r.a, r.v.set b (v, t), r.e⟩ :: R2) = rowRefs rows ∧ Sq (tv (R1 ++ ⟨r.a, r.v.set b (v, t), r.e⟩ :: R2)) := by
  have hl : rows.length = 4 := by have := hs.1; simpa [tv] using this
  have hal : a < rows.length := by (first | lia | omega)
  have hsplit : rows = rows.take a ++ rows[a] :: rows.drop (a + 1) := by rw [List.getElem_cons_drop]; exact (List.take_append_drop a rows).symm
  have htl : (rows.take a).length = a := by rw [List.length_take]; (first | lia | omega)
  have hrl : rows[a].v.length = 4 := by
    have := hs.2 (rows[a].v.map (·.1)) (List.mem_map_of_mem (f := fun r : Rw => r.v.map (·.1)) (List.getElem_mem hal))
    simpa using this
  refine ⟨rows.take a, rows[a], rows.drop (a + 1), hsplit, by unfold rowRefs; rw [List.getElem?_map, List.getElem?_eq_getElem hal]; rfl, hrl, fun v t => ?_⟩
  have e0 : ∀ r' : Rw, rows.take a ++ r' :: rows.drop (a + 1) = rows.set a r' := fun r' => by
    rw [List.set_eq_take_append_cons_drop, if_pos hal]
  rw [e0]
  have e1 : tv (rows.set a ⟨rows[a].a, rows[a].v.set b (v, t), rows[a].e⟩) = updT (tv rows) a b v := by
    unfold tv updT
    rw [List.map_set, List.getD_eq_getElem?_getD, List.getElem?_map, List.getElem?_eq_getElem hal]
    simp [List.map_set]
  refine ⟨e1, ?_, ?_⟩
  · unfold rowRefs
    rw [List.map_set]
    refine set_getElem_self' ?_
    rw [List.getElem?_map, List.getElem?_eq_getElem hal]
    rfl
  · rw [e1]
    unfold updT
    refine ⟨by rw [List.length_set]; exact hs.1, fun t' ht' => ?_⟩
    rcases List.mem_or_eq_of_mem_set ht' with q | q
    · exact hs.2 t' q
    · rw [q, List.length_set]
      have e2 : (tv rows).getD a [] = rows[a].v.map (·.1) := by unfold tv; rw [List.getD_eq_getElem?_getD, List.getElem?_map, List.getElem?_eq_getElem hal]; rfl
      rw [e2, List.length_map]
      exact hrl
theorem table_spec {prog : Program} {w : World} (dp un : Nat) (gd : Option (List Code)) (env : Env) (outer : List Env) (h₀ : Heap) (L : Addr) (m : Str → Option Value) (s : Shared)
    (Q E : Value → Shared → Prop) (C : Cx w env outer h₀ L) (F : Fr h₀ L s.heap m) (ol : Addr) (xs : List X3) (n : Nat) (rest : List (Addr × Obj)) (N : News h₀ L s.heap ((ol, lstObj (refsOf xs) n) :: rest)) (ha : Apart ((ol, lstObj (refsOf xs) n) :: rest))
    (hx : ∀ x ∈ xs, TriIn rest x) (hxr : ∀ x ∈ xs, (0 ≤ x.2.2.1 ∧ x.2.2.1 < 4) ∧ (0 ≤ x.2.2.2 ∧ x.2.2.2 < 4)) (hlen : xs.length ≤ 7)
    (hd : dp + 8 < recursionLimit) (hu : un + 64 < cLine)
    (ret : ∀ h' tk' (tb : Addr) (rows : List Rw) (nt : Nat), Sq (tv rows) → tv rows = fwM (initT (xs.map (·.2))) 4 → Fr h₀ L h' m → News h₀ L h' ((tb, lstObj (rowRefs rows) nt) :: (rLed rows ++ (ol, lstObj (refsOf xs) n) :: rest)) → Apart ((tb, lstObj (rowRefs rows) nt) :: (rLed rows ++ (ol, lstObj (refsOf xs) n) :: rest)) → Q (.ref tb) { s with heap := h', toks := tk' }) :
    wpAny (model prog w) (arn none dp un gd env outer) (call (.ref 188) [.ref ol]) Q E s := by
  refine cx_e C ?_
  intro p loose mean mg mb A₀ base B X T hf hk
  refine wpAny_call ?_
  k_dflt (refine' code_def ?k1 ?k2 ?k3 ?k4 ?k5 ?kA ?kF ?kK ?k6 ?k7 ?k8 ?k9 ?kB ?_ ?c2 ?c3 ?c4 ?c5; (case kA => exact rfl); (case kF => first | assumption | exact rfl); (case kK => first | assumption | exact rfl); (case k1 => k_asm); (case k2 => k_asm); (case k3 => k_asm); (case k4 => k_asm); (case k5 => k_asm); (case k6 => k_is); (case k7 => k_is); (case k8 => k_room); (case k9 => first | exact BindsTo.of_eq rfl | exact binds_K (by k_in) rfl (by k_is) rfl rfl rfl); (case c5 => decide); (case kB => exact locs rfl); (case c2 => exact rfl); (case c3 => exact rfl); (case c4 => exact rfl))
  intro g L1 h1 FG F1 N1 B1 X1 T1
  (try dsimp only)
  (try k_fold)
  have F1' := frB [(Str.ofString "order", .ref ol)] F1 ⟨rfl, trivial⟩
  clear F1
  (repeat' ((fail_if_success (with_reducible (first | show gz2 | show gz3 | show gz4 | show gz5 | show gz6 | show gz7 | show gz8 | show gz9 | show gz10 | show gz11 | show gz12 | show gz13 | show gz14 | show gz15 | show gz29 | show gz30))); (first | ((with_reducible show wpAny _ _ (execs _ _) _ _ _); k_gentoks) | with_reducible (first | refine execs_one ?_ | (refine execs_cut ?_; intro _ _) | (refine if_cut ?_; intro _ _)) | ((fail_if_success (with_reducible show gz1)); (first | (refine Kh.go ‹_› _ _ ?_; try dsimp only [KnP]) | ((with_reducible show TurnEnd _ _ _ _ _ _); dsimp only [TurnEnd]))) | (k_unfold; (try dsimp only)) | (k_end; wrow_close) | walk1 | (dsimp only; walk1) | (leave1; try dsimp only))))
  rename Fr _ _ _ _ => F2
  rename News _ _ _ _ => N2
  refine LCg.Assign_ListComp_U F2 (by rfl) (by with_unfolding_all rfl) (by with_unfolding_all rfl) (by decide) (by rfl) (by decide) (by rfl) (by rfl) (by rfl) ?_
  (repeat' ((fail_if_success (with_reducible (first | show gz2 | show gz3 | show gz4 | show gz5 | show gz6 | show gz7 | show gz8 | show gz9 | show gz10 | show gz11 | show gz12 | show gz13 | show gz14 | show gz15 | show gz29 | show gz30))); (first | ((with_reducible show wpAny _ _ (execs _ _) _ _ _); k_gentoks) | with_reducible (first | refine execs_one ?_ | (refine execs_cut ?_; intro _ _) | (refine if_cut ?_; intro _ _)) | ((fail_if_success (with_reducible show gz1)); (first | (refine Kh.go ‹_› _ _ ?_; try dsimp only [KnP]) | ((with_reducible show TurnEnd _ _ _ _ _ _); dsimp only [TurnEnd]))) | (k_unfold; (try dsimp only)) | (k_end; wrow_close) | walk1 | (dsimp only; walk1) | (leave1; try dsimp only))))
  rename IsRange _ _ _ _ _ _ _ _ => hR
  rename Fr _ _ _ _ => F3
  rename News _ _ _ _ => N3
  refine LCg.CompSrc.range (n := 4) rfl F3 N3 hR (by decide) (by decide) (by rw [sizeLine_eq]; decide) ?_
  intro g4
  refine comp_indU (fun i ys nw => ∃ rows : List Rw, rows.length = i ∧ ys = rowRefs rows ∧ nw.Perm (rLed rows ++ (ol, lstObj (refsOf xs) n) :: rest) ∧ Apart nw ∧ ∀ r ∈ rows, r.v.map (·.1) = [99, 99, 99, 99]) ⟨[], rfl, rfl, .refl _, ha, by simp⟩ ?_ ?_
  · rintro ys nw ⟨rows, hrl, rfl, hpm, han, hrv⟩
    intro tb h5 tk5 F5 N5 off5
    have haT : Apart ((tb, lstObj (rowRefs rows) (rowRefs rows).length) :: nw) := apart_cons (off1_ne' off5) han
    have pm5 : ((tb, lstObj (rowRefs rows) (rowRefs rows).length) :: nw).Perm ((tb, lstObj (rowRefs rows) (rowRefs rows).length) :: (rLed rows ++ (ol, lstObj (refsOf xs) n) :: rest)) := hpm.cons _
    have N6 := news_perm N5 pm5
    have ha6 := apart_perm haT pm5
    (try clear N5); (try clear N3); (try clear F3); (try clear hR)
    have hT0 : tv rows = List.replicate 4 [99, 99, 99, 99] := by
      have h1 : ∀ t ∈ tv rows, t = [99, 99, 99, 99] := fun t ht => by
        obtain ⟨r, hr, rfl⟩ := List.mem_map.mp ht
        exact hrv r hr
      have h2 : (tv rows).length = 4 := by simp [tv, hrl]
      rw [← h2]
      exact List.eq_replicate_iff.mpr ⟨rfl, h1⟩
    (repeat' ((fail_if_success (with_reducible (first | show gz2 | show gz3 | show gz4 | show gz5 | show gz6 | show gz7 | show gz8 | show gz9 | show gz10 | show gz11 | show gz12 | show gz13 | show gz14 | show gz15 | show gz29 | show gz30))); (first | ((with_reducible show wpAny _ _ (execs _ _) _ _ _); k_gentoks) | with_reducible (first | refine execs_one ?_ | (refine execs_cut ?_; intro _ _) | (refine if_cut ?_; intro _ _)) | ((fail_if_success (with_reducible show gz1)); (first | (refine Kh.go ‹_› _ _ ?_; try dsimp only [KnP]) | ((with_reducible show TurnEnd _ _ _ _ _ _); dsimp only [TurnEnd]))) | (k_unfold; (try dsimp only)) | (k_end; wrow_close) | walk1 | (dsimp only; walk1) | (leave1; try dsimp only))))
    refine my_for ?_
    (repeat' ((fail_if_success (with_reducible (first | show gz2 | show gz3 | show gz4 | show gz5 | show gz6 | show gz7 | show gz8 | show gz9 | show gz10 | show gz11 | show gz12 | show gz13 | show gz14 | show gz15 | show gz29 | show gz30))); (first | ((with_reducible show wpAny _ _ (execs _ _) _ _ _); k_gentoks) | with_reducible (first | refine execs_one ?_ | (refine execs_cut ?_; intro _ _) | (refine if_cut ?_; intro _ _)) | ((fail_if_success (with_reducible show gz1)); (first | (refine Kh.go ‹_› _ _ ?_; try dsimp only [KnP]) | ((with_reducible show TurnEnd _ _ _ _ _ _); dsimp only [TurnEnd]))) | (k_unfold; (try dsimp only)) | (k_end; wrow_close) | walk1 | (dsimp only; walk1) | (leave1; try dsimp only))))
    rename Fr _ _ _ _ => F7
    rename News _ _ _ _ => N7
    refine kst_len (l := ol) (us := refsOf xs) (k := xs.length) (c := n) N7 (.tail _ (List.mem_append_right _ (.head _))) (by simp) (by (first | lia | omega)) ?_
    (repeat' ((fail_if_success (with_reducible (first | show gz2 | show gz3 | show gz4 | show gz5 | show gz6 | show gz7 | show gz8 | show gz9 | show gz10 | show gz11 | show gz12 | show gz13 | show gz14 | show gz15 | show gz29 | show gz30))); (first | ((with_reducible show wpAny _ _ (execs _ _) _ _ _); k_gentoks) | with_reducible (first | refine execs_one ?_ | (refine execs_cut ?_; intro _ _) | (refine if_cut ?_; intro _ _)) | ((fail_if_success (with_reducible show gz1)); (first | (refine Kh.go ‹_› _ _ ?_; try dsimp only [KnP]) | ((with_reducible show TurnEnd _ _ _ _ _ _); dsimp only [TurnEnd]))) | (k_unfold; (try dsimp only)) | (k_end; wrow_close) | walk1 | (dsimp only; walk1) | (leave1; try dsimp only))))
    rename IsRange _ _ _ _ _ _ _ _ => hR7
    rename Fr _ _ _ _ => F8
    rename News _ _ _ _ => N8
    have hrs := rng_small xs.length hlen
    refine rit_make (k := xs.length) hR7 hrs.1 hrs.2 F8 N8 ?_
    intro it h9 F9 N9 l9
    have ha9 := apart_lt (p := (it, rngIt 0 xs.length 1)) l9 ha6
    have F10 := frB [(Str.ofString "order", .ref ol), (Str.ofString "table", .ref tb)] F9 ⟨rfl, rfl, trivial⟩
    (try clear F9); (try clear N8); (try clear N7); (try clear F8); (try clear F7); (try clear N6); (try clear F5); (try clear hR7)
    generalize hbase : (ol, lstObj (refsOf xs) n) :: rest = base0 at N9 ha9
    have holm : (ol, lstObj (refsOf xs) n) ∈ base0 := by rw [← hbase]; exact .head _
    have hx0 : ∀ x ∈ xs, TriIn base0 x := fun x hx' => by
      obtain ⟨a, b, c, d, e⟩ := hx x hx'
      exact ⟨a, b, c, d, by rw [← hbase]; exact .tail _ e⟩
    refine Stop.mk (my_forLoop (fun kk s' => ∃ (i : Nat) (rows : List Rw) (nt : Nat) (h : Heap) (tk : Nat) (u : Str → Option Value), kk = xs.length + 1 - i ∧ i ≤ xs.length ∧ s' = { s with heap := h, toks := tk } ∧
        Fr g L1 h (kB u [(Str.ofString "order", .ref ol), (Str.ofString "table", .ref tb)]) ∧ News g L1 h ((it, rngIt i (xs.length - i) 1) :: (tb, lstObj (rowRefs rows) nt) :: (rLed rows ++ base0)) ∧ Apart ((it, rngIt i (xs.length - i) 1) :: (tb, lstObj (rowRefs rows) nt) :: (rLed rows ++ base0)) ∧
        Sq (tv rows) ∧ tv rows = initT ((xs.map (·.2)).take i))
      (fun s' => ∃ (rows : List Rw) (nt : Nat) (h : Heap) (tk : Nat) (u : Str → Option Value), s' = { s with heap := h, toks := tk } ∧
        Fr g L1 h (kB u [(Str.ofString "table", .ref tb)]) ∧ News g L1 h ((tb, lstObj (rowRefs rows) nt) :: (rLed rows ++ base0)) ∧ Apart ((tb, lstObj (rowRefs rows) nt) :: (rLed rows ++ base0)) ∧
        Sq (tv rows) ∧ tv rows = initT (xs.map (·.2))) ?_ (xs.length + 1)
      (ex6_i 0 rows _ _ _ _ (an8_i rfl (Nat.zero_le _) rfl F10 N9 ha9 (by rw [hT0]; exact ⟨by simp, by simp⟩) hT0)) ?_)
    · (try clear N9); (try clear F10); (try clear ha9)
      clear ha6 hT0 hrv
      intro I1z R1z Q1z hI1z hR1z hQ1z kk s' hzz
      refine ex6_e hzz ?_
      clear hzz
      intro i rows nt h tk u hzz
      refine an8_e hzz ?_
      clear hzz
      rintro rfl hi rfl F11 N11 ha11 hsq hT
      by_cases hlt : i < xs.length
      · obtain ⟨x, hxi⟩ : ∃ x, xs[i]? = some x := ⟨_, List.getElem?_eq_getElem hlt⟩
        refine ex4_e (hx0 x (List.mem_of_getElem? hxi)) ?_
        rintro xa xb xc xn hxm
        obtain ⟨⟨hf0, hf4⟩, ⟨hl0, hl4⟩⟩ := hxr x (List.mem_of_getElem? hxi)
        refine rng_next F11 N11 (Upd.head (apart_ne ha11)) (by (first | lia | omega)) ?_
        intro h12 F12 N12
        dsimp only [NextIs]
        refine wpAny_assign_Name ?_
        (repeat' ((fail_if_success (with_reducible (first | show gz2 | show gz3 | show gz4 | show gz5 | show gz6 | show gz7 | show gz8 | show gz9 | show gz10 | show gz11 | show gz12 | show gz13 | show gz14 | show gz15 | show gz29 | show gz30))); (first | ((with_reducible show wpAny _ _ (execs _ _) _ _ _); k_gentoks) | with_reducible (first | refine execs_one ?_ | (refine execs_cut ?_; intro _ _) | (refine if_cut ?_; intro _ _)) | ((fail_if_success (with_reducible show gz1)); (first | (refine Kh.go ‹_› _ _ ?_; try dsimp only [KnP]) | ((with_reducible show TurnEnd _ _ _ _ _ _); dsimp only [TurnEnd]))) | (k_unfold; (try dsimp only)) | (k_end; wrow_close) | walk1 | (dsimp only; walk1) | (leave1; try dsimp only))))
        rename Fr _ _ _ _ => F13
        rename News _ _ _ _ => N13
        refine lst_item (l := ol) (vs := refsOf xs) (n := n) (v := .ref x.1) N13 (.tail _ (.tail _ (List.mem_append_right _ holm))) (by (first | lia | omega)) (by (first | lia | omega)) (by rw [Int.toNat_natCast, List.getElem?_map, hxi]; rfl) ?_
        have N14 : News g L1 _ ((x.1, triObj x.2 xa xb xc xn) :: (it, rngIt ((i : Int) + 1) ((xs.length : Int) - i - 1) 1) :: (tb, lstObj (rowRefs rows) nt) :: (rLed rows ++ base0)) := fun q hq => (List.mem_cons.mp hq).elim (fun z => z ▸ N13 _ (.tail _ (.tail _ (List.mem_append_right _ hxm)))) (N13 q)
        (try clear N13); (try clear N12); (try clear F12)
        (repeat' ((fail_if_success (with_reducible (first | show gz2 | show gz3 | show gz4 | show gz5 | show gz6 | show gz7 | show gz8 | show gz9 | show gz10 | show gz11 | show gz12 | show gz13 | show gz14 | show gz15 | show gz29 | show gz30))); (first | ((with_reducible show wpAny _ _ (execs _ _) _ _ _); k_gentoks) | with_reducible (first | refine execs_one ?_ | (refine execs_cut ?_; intro _ _) | (refine if_cut ?_; intro _ _)) | ((fail_if_success (with_reducible show gz1)); (first | (refine Kh.go ‹_› _ _ ?_; try dsimp only [KnP]) | ((with_reducible show TurnEnd _ _ _ _ _ _); dsimp only [TurnEnd]))) | (k_unfold; (try dsimp only)) | (k_end; wrow_close) | walk1 | (dsimp only; walk1) | (leave1; try dsimp only))))
        rename Fr _ _ _ _ => F15
        rename News _ _ _ _ => N15
        have hfa : x.2.2.1.toNat < 4 := by (first | lia | omega)
        have hla : x.2.2.2.toNat < 4 := by (first | lia | omega)
        refine ex2_e (tv_cell hsq hfa hla) ?_
        intro r tr0 hzz
        refine an3_e hzz ?_
        clear hzz
        rintro hr1 hr2 hr3
        refine lst_item (l := tb) (vs := rowRefs rows) (n := nt) (v := .ref r.a) N15 (.tail _ (.tail _ (.head _))) hf0 (by (first | lia | omega)) hr1 ?_
        (repeat' ((fail_if_success (with_reducible (first | show gz2 | show gz3 | show gz4 | show gz5 | show gz6 | show gz7 | show gz8 | show gz9 | show gz10 | show gz11 | show gz12 | show gz13 | show gz14 | show gz15 | show gz29 | show gz30))); (first | ((with_reducible show wpAny _ _ (execs _ _) _ _ _); k_gentoks) | with_reducible (first | refine execs_one ?_ | (refine execs_cut ?_; intro _ _) | (refine if_cut ?_; intro _ _)) | ((fail_if_success (with_reducible show gz1)); (first | (refine Kh.go ‹_› _ _ ?_; try dsimp only [KnP]) | ((with_reducible show TurnEnd _ _ _ _ _ _); dsimp only [TurnEnd]))) | (k_unfold; (try dsimp only)) | (k_end; wrow_close) | walk1 | (dsimp only; walk1) | (leave1; try dsimp only))))
        refine lst_item (l := r.a) (vs := valsOf r.v) (n := r.e) N15 (.tail _ (.tail _ (.tail _ (List.mem_append_left _ hr2)))) hl0 (by (first | lia | omega)) hr3 ?_
        (repeat' ((fail_if_success (with_reducible (first | show gz2 | show gz3 | show gz4 | show gz5 | show gz6 | show gz7 | show gz8 | show gz9 | show gz10 | show gz11 | show gz12 | show gz13 | show gz14 | show gz15 | show gz29 | show gz30))); (first | ((with_reducible show wpAny _ _ (execs _ _) _ _ _); k_gentoks) | with_reducible (first | refine execs_one ?_ | (refine execs_cut ?_; intro _ _) | (refine if_cut ?_; intro _ _)) | ((fail_if_success (with_reducible show gz1)); (first | (refine Kh.go ‹_› _ _ ?_; try dsimp only [KnP]) | ((with_reducible show TurnEnd _ _ _ _ _ _); dsimp only [TurnEnd]))) | (k_unfold; (try dsimp only)) | (k_end; wrow_close) | walk1 | (dsimp only; walk1) | (leave1; try dsimp only))))
        refine ex3_e (tv_set hsq hfa hla) ?_
        intro R1 r' R2 hzz
        refine an4_e hzz ?_
        clear hzz
        rintro hR hr1' hr4' hnew
        refine lst_item (l := tb) (vs := rowRefs rows) (n := nt) (v := .ref r'.a) (by k_asm) (.tail _ (.tail _ (.head _))) hf0 (by (first | lia | omega)) hr1' ?_
        rename Fr _ _ _ _ => F16
        rename News _ _ _ _ => N16
        have hled : rLed rows = rLed R1 ++ (r'.a, lstObj (valsOf r'.v) r'.e) :: rLed R2 := by rw [hR]; simp [rLed]
        have ha15 : Apart ((it, rngIt ((i : Int) + 1) ((xs.length : Int) - i - 1) 1) :: (tb, lstObj (rowRefs rows) nt) :: (rLed rows ++ base0)) := ha11
        have N17 : News g L1 _ ([(it, rngIt ((i : Int) + 1) ((xs.length : Int) - i - 1) 1), (tb, lstObj (rowRefs rows) nt)] ++ rLed R1 ++ (r'.a, lstObj (valsOf r'.v) r'.e) :: (rLed R2 ++ base0)) := fun q hq => N16 q (List.mem_cons_of_mem _ (by rw [hled]; simpa using hq))
        have ha17 : Apart ([(it, rngIt ((i : Int) + 1) ((xs.length : Int) - i - 1) 1), (tb, lstObj (rowRefs rows) nt)] ++ rLed R1 ++ (r'.a, lstObj (valsOf r'.v) r'.e) :: (rLed R2 ++ base0)) := by rw [hled] at ha15; simpa using ha15
        (try clear N15); (try clear F15); (try clear N16)
        (repeat' ((fail_if_success (with_reducible (first | show gz2 | show gz3 | show gz4 | show gz5 | show gz6 | show gz7 | show gz8 | show gz9 | show gz10 | show gz11 | show gz12 | show gz13 | show gz14 | show gz15 | show gz29 | show gz30))); (first | ((with_reducible show wpAny _ _ (execs _ _) _ _ _); k_gentoks) | with_reducible (first | refine execs_one ?_ | (refine execs_cut ?_; intro _ _) | (refine if_cut ?_; intro _ _)) | ((fail_if_success (with_reducible show gz1)); (first | (refine Kh.go ‹_› _ _ ?_; try dsimp only [KnP]) | ((with_reducible show TurnEnd _ _ _ _ _ _); dsimp only [TurnEnd]))) | (k_unfold; (try dsimp only)) | (k_end; wrow_close) | walk1 | (dsimp only; walk1) | (leave1; try dsimp only))))
        rename Fr _ _ _ _ => F18
        rename News _ _ _ _ => N18
        refine lst_set (D := r'.a) (vs := valsOf r'.v) (n := r'.e) F18 N18 (upd_at ha17) hl0 (by simp; (first | lia | omega)) (by (first | lia | omega)) ?_
        intro h19 F19 N19
        (try clear N18); (try clear F18); (try clear N17)
        (repeat' ((fail_if_success (with_reducible (first | show gz2 | show gz3 | show gz4 | show gz5 | show gz6 | show gz7 | show gz8 | show gz9 | show gz10 | show gz11 | show gz12 | show gz13 | show gz14 | show gz15 | show gz29 | show gz30))); (first | ((with_reducible show wpAny _ _ (execs _ _) _ _ _); k_gentoks) | with_reducible (first | refine execs_one ?_ | (refine execs_cut ?_; intro _ _) | (refine if_cut ?_; intro _ _)) | ((fail_if_success (with_reducible show gz1)); (first | (refine Kh.go ‹_› _ _ ?_; try dsimp only [KnP]) | ((with_reducible show TurnEnd _ _ _ _ _ _); dsimp only [TurnEnd]))) | (k_unfold; (try dsimp only)) | (k_end; wrow_close) | walk1 | (dsimp only; walk1) | (leave1; try dsimp only))))
        rename Fr _ _ _ _ => F20
        rename News _ _ _ _ => N20
        generalize hvv : (if (i : Int) + 1 < getT (tv rows) x.2.2.1.toNat x.2.2.2.toNat then (i : Int) + 1 else getT (tv rows) x.2.2.1.toNat x.2.2.2.toNat) = vv at N20
        have hvv' : vv = min (getT (tv rows) x.2.2.1.toNat x.2.2.2.toNat) ((i : Int) + 1) := by rw [← hvv]; split <;> (first | lia | omega)
        obtain ⟨tq, N21⟩ : ∃ tq, News g L1 h19 ([(it, rngIt ((i : Int) + 1) ((xs.length : Int) - i - 1) 1), (tb, lstObj (rowRefs rows) nt)] ++ rLed R1 ++ (r'.a, lstObj (valsOf (r'.v.set x.2.2.2.toNat (vv, tq))) r'.e) :: (rLed R2 ++ base0)) := ⟨_, by rw [show valsOf (r'.v.set x.2.2.2.toNat (vv, _)) = (valsOf r'.v).set x.2.2.2.toNat (.int vv _) from List.map_set ..]; exact N20⟩
        obtain ⟨hn1, hn2, hn3⟩ := hnew vv tq
        have eI : rngIt ((i : Int) + 1) ((xs.length : Int) - i - 1) 1 = rngIt ((i + 1 : Nat) : Int) ((xs.length : Int) - ((i + 1 : Nat) : Int)) 1 := by
          rw [show ((i + 1 : Nat) : Int) = (i : Int) + 1 by (first | lia | omega), show (xs.length : Int) - (i + 1) = xs.length - i - 1 by (first | lia | omega)]
        have hled2 : rLed (R1 ++ (⟨r'.a, r'.v.set x.2.2.2.toNat (vv, tq), r'.e⟩ : Rw) :: R2) = rLed R1 ++ (r'.a, lstObj (valsOf (r'.v.set x.2.2.2.toNat (vv, tq))) r'.e) :: rLed R2 := by simp [rLed]
        refine StopN hI1z (xs.length - i) (sb2 (by assumption)) (ex6_i (i + 1) (R1 ++ (⟨r'.a, r'.v.set x.2.2.2.toNat (vv, tq), r'.e⟩ : Rw) :: R2) nt _ _ _ (an8_i (sb1 _ _) (by assumption) rfl (frB _ F20 ⟨rfl, rfl, trivial⟩) ?_ ?_ hn3 ?_))
        · rw [hled2, hn2, ← eI]
          intro q hq
          refine N21 q ?_
          simpa using hq
        · rw [hled2, hn2, ← eI]
          have : Apart ([(it, rngIt ((i : Int) + 1) ((xs.length : Int) - i - 1) 1), (tb, lstObj (rowRefs rows) nt)] ++ rLed R1 ++ (r'.a, lstObj (valsOf (r'.v.set x.2.2.2.toNat (vv, tq))) r'.e) :: (rLed R2 ++ base0)) := by
            unfold Apart at ha17 ⊢
            simpa using ha17
          simpa using this
        · rw [hn1, hvv', hT]
          exact initT_step (xs.map (·.2)) i x.2 (by rw [List.getElem?_map, hxi]; rfl)
      · have hie : i = xs.length := by (first | lia | omega)
        subst hie
        refine rng_end rfl F11 N11 (apart_ne ha11) (by (first | lia | omega)) ?_
        intro h12 F12 N12
        rw [List.take_of_length_le (by simp)] at hT
        exact StopP (hR1z _) (ex5_i rows nt _ _ _ (an6_i rfl (frB _ F12 ⟨rfl, trivial⟩) N12 (apart_tail ha11) hsq hT))
    · (try clear N9); (try clear F10); (try clear ha9)
      clear ha6 hT0 hrv
      intro s' hzz
      refine ex5_e hzz ?_
      clear hzz
      intro rows nt h tk u hzz
      refine an6_e hzz ?_
      clear hzz
      rintro rfl F11 N11 ha11 hsq hT
      (repeat' ((fail_if_success (with_reducible (first | show gz2 | show gz3 | show gz4 | show gz5 | show gz6 | show gz7 | show gz8 | show gz9 | show gz10 | show gz11 | show gz12 | show gz13 | show gz14 | show gz15 | show gz29 | show gz30))); (first | ((with_reducible show wpAny _ _ (execs _ _) _ _ _); k_gentoks) | with_reducible (first | refine execs_one ?_ | (refine execs_cut ?_; intro _ _) | (refine if_cut ?_; intro _ _)) | ((fail_if_success (with_reducible show gz1)); (first | (refine Kh.go ‹_› _ _ ?_; try dsimp only [KnP]) | ((with_reducible show TurnEnd _ _ _ _ _ _); dsimp only [TurnEnd]))) | (k_unfold; (try dsimp only)) | (k_end; wrow_close) | walk1 | (dsimp only; walk1) | (leave1; try dsimp only))))
      refine my_for ?_
      (repeat' ((fail_if_success (with_reducible (first | show gz2 | show gz3 | show gz4 | show gz5 | show gz6 | show gz7 | show gz8 | show gz9 | show gz10 | show gz11 | show gz12 | show gz13 | show gz14 | show gz15 | show gz29 | show gz30))); (first | ((with_reducible show wpAny _ _ (execs _ _) _ _ _); k_gentoks) | with_reducible (first | refine execs_one ?_ | (refine execs_cut ?_; intro _ _) | (refine if_cut ?_; intro _ _)) | ((fail_if_success (with_reducible show gz1)); (first | (refine Kh.go ‹_› _ _ ?_; try dsimp only [KnP]) | ((with_reducible show TurnEnd _ _ _ _ _ _); dsimp only [TurnEnd]))) | (k_unfold; (try dsimp only)) | (k_end; wrow_close) | walk1 | (dsimp only; walk1) | (leave1; try dsimp only))))
      rename IsRange _ _ _ _ _ _ _ _ => hR7
      rename Fr _ _ _ _ => F12
      rename News _ _ _ _ => N12
      refine rit_make (k := 4) hR7 (by decide) (by decide) F12 N12 ?_
      intro itM h13 F13 N13 l13
      have ha13 := apart_lt (p := (itM, rngIt 0 4 1)) l13 ha11
      have F14 := frB [(Str.ofString "table", .ref tb)] F13 ⟨rfl, trivial⟩
      (try clear F13); (try clear N12); (try clear F12); (try clear N11); (try clear F11); (try clear hR7)
      refine Stop.mk (my_forLoop (fun kk s' => ∃ (i : Nat) (rows : List Rw) (h : Heap) (tk : Nat) (u : Str → Option Value), kk = 5 - i ∧ i ≤ 4 ∧ s' = { s with heap := h, toks := tk } ∧
          Fr g L1 h (kB u [(Str.ofString "table", .ref tb)]) ∧ News g L1 h ((itM, rngIt i (4 - i) 1) :: (tb, lstObj (rowRefs rows) nt) :: (rLed rows ++ base0)) ∧ Apart ((itM, rngIt i (4 - i) 1) :: (tb, lstObj (rowRefs rows) nt) :: (rLed rows ++ base0)) ∧
          Sq (tv rows) ∧ tv rows = fwM (initT (xs.map (·.2))) i)
        (fun s' => ∃ (rows : List Rw) (h : Heap) (tk : Nat) (u : Str → Option Value), s' = { s with heap := h, toks := tk } ∧
          Fr g L1 h (kB u [(Str.ofString "table", .ref tb)]) ∧ News g L1 h ((tb, lstObj (rowRefs rows) nt) :: (rLed rows ++ base0)) ∧ Apart ((tb, lstObj (rowRefs rows) nt) :: (rLed rows ++ base0)) ∧
          Sq (tv rows) ∧ tv rows = fwM (initT (xs.map (·.2))) 4) ?_ 5
        (ex5_i 0 rows _ _ _ (an8_i rfl (Nat.zero_le _) rfl F14 N13 ha13 hsq hT)) ?_)
      · (try clear N13); (try clear F14); (try clear ha13)
        clear hT hsq ha11
        intro I1z R1z Q1z hI1z hR1z hQ1z kk s' hzz
        refine ex5_e hzz ?_
        clear hzz
        intro mi rows h tk u hzz
        refine an8_e hzz ?_
        clear hzz
        rintro rfl hmi rfl F15 N15 ha15 hsq hT
        by_cases hmlt : mi < 4
        · refine rng_next F15 N15 (Upd.head (apart_ne ha15)) (by (first | lia | omega)) ?_
          intro h16 F16 N16
          dsimp only [NextIs]
          have eM : rngIt ((mi : Int) + 1) (4 - (mi : Int) - 1) 1 = rngIt ((mi + 1 : Nat) : Int) (4 - ((mi + 1 : Nat) : Int)) 1 := by
            rw [show ((mi + 1 : Nat) : Int) = (mi : Int) + 1 by (first | lia | omega), show (4 : Int) - (mi + 1) = 4 - mi - 1 by (first | lia | omega)]
          rw [eM] at N16
          refine wpAny_assign_Name ?_
          (repeat' ((fail_if_success (with_reducible (first | show gz2 | show gz3 | show gz4 | show gz5 | show gz6 | show gz7 | show gz8 | show gz9 | show gz10 | show gz11 | show gz12 | show gz13 | show gz14 | show gz15 | show gz29 | show gz30))); (first | ((with_reducible show wpAny _ _ (execs _ _) _ _ _); k_gentoks) | with_reducible (first | refine execs_one ?_ | (refine execs_cut ?_; intro _ _) | (refine if_cut ?_; intro _ _)) | ((fail_if_success (with_reducible show gz1)); (first | (refine Kh.go ‹_› _ _ ?_; try dsimp only [KnP]) | ((with_reducible show TurnEnd _ _ _ _ _ _); dsimp only [TurnEnd]))) | (k_unfold; (try dsimp only)) | (k_end; wrow_close) | walk1 | (dsimp only; walk1) | (leave1; try dsimp only))))
          refine my_for ?_
          (repeat' ((fail_if_success (with_reducible (first | show gz2 | show gz3 | show gz4 | show gz5 | show gz6 | show gz7 | show gz8 | show gz9 | show gz10 | show gz11 | show gz12 | show gz13 | show gz14 | show gz15 | show gz29 | show gz30))); (first | ((with_reducible show wpAny _ _ (execs _ _) _ _ _); k_gentoks) | with_reducible (first | refine execs_one ?_ | (refine execs_cut ?_; intro _ _) | (refine if_cut ?_; intro _ _)) | ((fail_if_success (with_reducible show gz1)); (first | (refine Kh.go ‹_› _ _ ?_; try dsimp only [KnP]) | ((with_reducible show TurnEnd _ _ _ _ _ _); dsimp only [TurnEnd]))) | (k_unfold; (try dsimp only)) | (k_end; wrow_close) | walk1 | (dsimp only; walk1) | (leave1; try dsimp only))))
          rename IsRange _ _ _ _ _ _ _ _ => hR7
          rename Fr _ _ _ _ => F17
          rename News _ _ _ _ => N17
          refine rit_make (k := 4) hR7 (by decide) (by decide) F17 N17 ?_
          intro itA h18 F18 N18 l18
          obtain ⟨tm, F19⟩ : ∃ tm, Fr g L1 h18 (kB _ [(Str.ofString "table", .ref tb), (Str.ofString "middle", .int mi tm)]) := ⟨_, frB _ F18 ⟨rfl, rfl, trivial⟩⟩
          generalize hitM : (itM, rngIt ((mi + 1 : Nat) : Int) (4 - ((mi + 1 : Nat) : Int)) 1) = pM at N18 l18
          have haM : Apart (pM :: (tb, lstObj (rowRefs rows) nt) :: (rLed rows ++ base0)) := by rw [← hitM]; exact ha15
          have ha18 := apart_lt (p := (itA, rngIt 0 4 1)) l18 haM
          (try clear F18); (try clear N17); (try clear F17); (try clear N16); (try clear F16); (try clear N15); (try clear F15); (try clear hR7)
          refine Stop.mk (my_forLoop (fun kk s' => ∃ (i : Nat) (rows : List Rw) (h : Heap) (tk : Nat) (u : Str → Option Value), kk = 5 - i ∧ i ≤ 4 ∧ s' = { s with heap := h, toks := tk } ∧
              Fr g L1 h (kB u [(Str.ofString "table", .ref tb), (Str.ofString "middle", .int mi tm)]) ∧ News g L1 h ((itA, rngIt i (4 - i) 1) :: pM :: (tb, lstObj (rowRefs rows) nt) :: (rLed rows ++ base0)) ∧ Apart ((itA, rngIt i (4 - i) 1) :: pM :: (tb, lstObj (rowRefs rows) nt) :: (rLed rows ++ base0)) ∧
              Sq (tv rows) ∧ tv rows = fwA (fwM (initT (xs.map (·.2))) mi) mi i)
            (fun s' => ∃ (rows : List Rw) (h : Heap) (tk : Nat) (u : Str → Option Value), s' = { s with heap := h, toks := tk } ∧
              Fr g L1 h (kB u [(Str.ofString "table", .ref tb)]) ∧ News g L1 h (pM :: (tb, lstObj (rowRefs rows) nt) :: (rLed rows ++ base0)) ∧ Apart (pM :: (tb, lstObj (rowRefs rows) nt) :: (rLed rows ++ base0)) ∧
              Sq (tv rows) ∧ tv rows = fwA (fwM (initT (xs.map (·.2))) mi) mi 4) ?_ 5
            (ex5_i 0 rows _ _ _ (an8_i rfl (Nat.zero_le _) rfl F19 N18 ha18 hsq hT)) ?_)
          · (try clear N18); (try clear F19); (try clear ha18)
            clear hT hsq haM ha15
            intro I2z R2z Q2z hI2z hR2z hQ2z kk s' hzz
            refine ex5_e hzz ?_
            clear hzz
            intro ai rows h tk u hzz
            refine an8_e hzz ?_
            clear hzz
            rintro rfl hai rfl F20 N20 ha20 hsq hT
            by_cases halt : ai < 4
            · refine rng_next F20 N20 (Upd.head (apart_ne ha20)) (by (first | lia | omega)) ?_
              intro h21 F21 N21
              dsimp only [NextIs]
              have eA : rngIt ((ai : Int) + 1) (4 - (ai : Int) - 1) 1 = rngIt ((ai + 1 : Nat) : Int) (4 - ((ai + 1 : Nat) : Int)) 1 := by
                rw [show ((ai + 1 : Nat) : Int) = (ai : Int) + 1 by (first | lia | omega), show (4 : Int) - (ai + 1) = 4 - ai - 1 by (first | lia | omega)]
              rw [eA] at N21
              refine wpAny_assign_Name ?_
              (repeat' ((fail_if_success (with_reducible (first | show gz2 | show gz3 | show gz4 | show gz5 | show gz6 | show gz7 | show gz8 | show gz9 | show gz10 | show gz11 | show gz12 | show gz13 | show gz14 | show gz15 | show gz29 | show gz30))); (first | ((with_reducible show wpAny _ _ (execs _ _) _ _ _); k_gentoks) | with_reducible (first | refine execs_one ?_ | (refine execs_cut ?_; intro _ _) | (refine if_cut ?_; intro _ _)) | ((fail_if_success (with_reducible show gz1)); (first | (refine Kh.go ‹_› _ _ ?_; try dsimp only [KnP]) | ((with_reducible show TurnEnd _ _ _ _ _ _); dsimp only [TurnEnd]))) | (k_unfold; (try dsimp only)) | (k_end; wrow_close) | walk1 | (dsimp only; walk1) | (leave1; try dsimp only))))
              refine my_for ?_
              (repeat' ((fail_if_success (with_reducible (first | show gz2 | show gz3 | show gz4 | show gz5 | show gz6 | show gz7 | show gz8 | show gz9 | show gz10 | show gz11 | show gz12 | show gz13 | show gz14 | show gz15 | show gz29 | show gz30))); (first | ((with_reducible show wpAny _ _ (execs _ _) _ _ _); k_gentoks) | with_reducible (first | refine execs_one ?_ | (refine execs_cut ?_; intro _ _) | (refine if_cut ?_; intro _ _)) | ((fail_if_success (with_reducible show gz1)); (first | (refine Kh.go ‹_› _ _ ?_; try dsimp only [KnP]) | ((with_reducible show TurnEnd _ _ _ _ _ _); dsimp only [TurnEnd]))) | (k_unfold; (try dsimp only)) | (k_end; wrow_close) | walk1 | (dsimp only; walk1) | (leave1; try dsimp only))))
              rename IsRange _ _ _ _ _ _ _ _ => hR7
              rename Fr _ _ _ _ => F22
              rename News _ _ _ _ => N22
              refine rit_make (k := 4) hR7 (by decide) (by decide) F22 N22 ?_
              intro itB h23 F23 N23 l23
              obtain ⟨t_a, F24⟩ : ∃ t_a, Fr g L1 h23 (kB _ [(Str.ofString "table", .ref tb), (Str.ofString "middle", .int mi tm), (Str.ofString "a", .int ai t_a)]) := ⟨_, frB _ F23 ⟨rfl, rfl, rfl, trivial⟩⟩
              generalize hitA : (itA, rngIt ((ai + 1 : Nat) : Int) (4 - ((ai + 1 : Nat) : Int)) 1) = pA at N23 l23
              have haA : Apart (pA :: pM :: (tb, lstObj (rowRefs rows) nt) :: (rLed rows ++ base0)) := by rw [← hitA]; exact ha20
              have ha23 := apart_lt (p := (itB, rngIt 0 4 1)) l23 haA
              (try clear F23); (try clear N22); (try clear F22); (try clear N21); (try clear F21); (try clear N20); (try clear F20); (try clear hR7)
              refine Stop.mk (my_forLoop (fun kk s' => ∃ (i : Nat) (rows : List Rw) (h : Heap) (tk : Nat) (u : Str → Option Value), kk = 5 - i ∧ i ≤ 4 ∧ s' = { s with heap := h, toks := tk } ∧
                  Fr g L1 h (kB u [(Str.ofString "table", .ref tb), (Str.ofString "middle", .int mi tm), (Str.ofString "a", .int ai t_a)]) ∧ News g L1 h ((itB, rngIt i (4 - i) 1) :: pA :: pM :: (tb, lstObj (rowRefs rows) nt) :: (rLed rows ++ base0)) ∧ Apart ((itB, rngIt i (4 - i) 1) :: pA :: pM :: (tb, lstObj (rowRefs rows) nt) :: (rLed rows ++ base0)) ∧
                  Sq (tv rows) ∧ tv rows = fwB (fwA (fwM (initT (xs.map (·.2))) mi) mi ai) mi ai i)
                (fun s' => ∃ (rows : List Rw) (h : Heap) (tk : Nat) (u : Str → Option Value), s' = { s with heap := h, toks := tk } ∧
                  Fr g L1 h (kB u [(Str.ofString "table", .ref tb), (Str.ofString "middle", .int mi tm)]) ∧ News g L1 h (pA :: pM :: (tb, lstObj (rowRefs rows) nt) :: (rLed rows ++ base0)) ∧ Apart (pA :: pM :: (tb, lstObj (rowRefs rows) nt) :: (rLed rows ++ base0)) ∧
                  Sq (tv rows) ∧ tv rows = fwB (fwA (fwM (initT (xs.map (·.2))) mi) mi ai) mi ai 4) ?_ 5
                (ex5_i 0 rows _ _ _ (an8_i rfl (Nat.zero_le _) rfl F24 N23 ha23 hsq hT)) ?_)
              · (try clear N23); (try clear F24); (try clear ha23)
                clear hT hsq haA ha20
                intro I3z R3z Q3z hI3z hR3z hQ3z kk s' hzz
                refine ex5_e hzz ?_
                clear hzz
                intro bi rows h tk u hzz
                refine an8_e hzz ?_
                clear hzz
                rintro rfl hbi rfl F25 N25 ha25 hsq hT
                by_cases hblt : bi < 4
                · refine rng_next F25 N25 (Upd.head (apart_ne ha25)) (by (first | lia | omega)) ?_
                  intro h26 F26 N26
                  dsimp only [NextIs]
                  have eB : rngIt ((bi : Int) + 1) (4 - (bi : Int) - 1) 1 = rngIt ((bi + 1 : Nat) : Int) (4 - ((bi + 1 : Nat) : Int)) 1 := by
                    rw [show ((bi + 1 : Nat) : Int) = (bi : Int) + 1 by (first | lia | omega), show (4 : Int) - (bi + 1) = 4 - bi - 1 by (first | lia | omega)]
                  rw [eB] at N26
                  refine wpAny_assign_Name ?_
                  (repeat' ((fail_if_success (with_reducible (first | show gz2 | show gz3 | show gz4 | show gz5 | show gz6 | show gz7 | show gz8 | show gz9 | show gz10 | show gz11 | show gz12 | show gz13 | show gz14 | show gz15 | show gz29 | show gz30))); (first | ((with_reducible show wpAny _ _ (execs _ _) _ _ _); k_gentoks) | with_reducible (first | refine execs_one ?_ | (refine execs_cut ?_; intro _ _) | (refine if_cut ?_; intro _ _)) | ((fail_if_success (with_reducible show gz1)); (first | (refine Kh.go ‹_› _ _ ?_; try dsimp only [KnP]) | ((with_reducible show TurnEnd _ _ _ _ _ _); dsimp only [TurnEnd]))) | (k_unfold; (try dsimp only)) | (k_end; wrow_close) | walk1 | (dsimp only; walk1) | (leave1; try dsimp only))))
                  rename Fr _ _ _ _ => F27
                  rename News _ _ _ _ => N27
                  have hmemT : (tb, lstObj (rowRefs rows) nt) ∈ (itB, rngIt ((bi + 1 : Nat) : Int) (4 - ((bi + 1 : Nat) : Int)) 1) :: pA :: pM :: (tb, lstObj (rowRefs rows) nt) :: (rLed rows ++ base0) := .tail _ (.tail _ (.tail _ (.head _)))
                  have hmemR : ∀ q ∈ rLed rows, q ∈ (itB, rngIt ((bi + 1 : Nat) : Int) (4 - ((bi + 1 : Nat) : Int)) 1) :: pA :: pM :: (tb, lstObj (rowRefs rows) nt) :: (rLed rows ++ base0) := fun q hq => .tail _ (.tail _ (.tail _ (.tail _ (List.mem_append_left _ hq))))
                  refine ex2_e (tv_cell hsq halt hblt) ?_
                  intro r1 tr1 hzz
                  refine an3_e hzz ?_
                  clear hzz
                  rintro hr1 hr2 hr3
                  refine ex2_e (tv_cell hsq halt hmlt) ?_
                  intro r4 tr4 hzz
                  refine an3_e hzz ?_
                  clear hzz
                  rintro hr4 hr5 hr6
                  refine ex2_e (tv_cell hsq hmlt hblt) ?_
                  intro r7 tr7 hzz
                  refine an3_e hzz ?_
                  clear hzz
                  rintro hr7 hr8 hr9
                  refine lst_item (l := tb) (vs := rowRefs rows) (n := nt) (v := .ref r1.a) N27 hmemT (by (first | lia | omega)) (by (first | lia | omega)) (by rw [Int.toNat_natCast]; exact hr1) ?_
                  (repeat' ((fail_if_success (with_reducible (first | show gz2 | show gz3 | show gz4 | show gz5 | show gz6 | show gz7 | show gz8 | show gz9 | show gz10 | show gz11 | show gz12 | show gz13 | show gz14 | show gz15 | show gz29 | show gz30))); (first | ((with_reducible show wpAny _ _ (execs _ _) _ _ _); k_gentoks) | with_reducible (first | refine execs_one ?_ | (refine execs_cut ?_; intro _ _) | (refine if_cut ?_; intro _ _)) | ((fail_if_success (with_reducible show gz1)); (first | (refine Kh.go ‹_› _ _ ?_; try dsimp only [KnP]) | ((with_reducible show TurnEnd _ _ _ _ _ _); dsimp only [TurnEnd]))) | (k_unfold; (try dsimp only)) | (k_end; wrow_close) | walk1 | (dsimp only; walk1) | (leave1; try dsimp only))))
                  refine lst_item (l := r1.a) (vs := valsOf r1.v) (n := r1.e) N27 (hmemR _ hr2) (by (first | lia | omega)) (by (first | lia | omega)) (by rw [Int.toNat_natCast]; exact hr3) ?_
                  (repeat' ((fail_if_success (with_reducible (first | show gz2 | show gz3 | show gz4 | show gz5 | show gz6 | show gz7 | show gz8 | show gz9 | show gz10 | show gz11 | show gz12 | show gz13 | show gz14 | show gz15 | show gz29 | show gz30))); (first | ((with_reducible show wpAny _ _ (execs _ _) _ _ _); k_gentoks) | with_reducible (first | refine execs_one ?_ | (refine execs_cut ?_; intro _ _) | (refine if_cut ?_; intro _ _)) | ((fail_if_success (with_reducible show gz1)); (first | (refine Kh.go ‹_› _ _ ?_; try dsimp only [KnP]) | ((with_reducible show TurnEnd _ _ _ _ _ _); dsimp only [TurnEnd]))) | (k_unfold; (try dsimp only)) | (k_end; wrow_close) | walk1 | (dsimp only; walk1) | (leave1; try dsimp only))))
                  refine lst_item (l := tb) (vs := rowRefs rows) (n := nt) (v := .ref r4.a) N27 hmemT (by (first | lia | omega)) (by (first | lia | omega)) (by rw [Int.toNat_natCast]; exact hr4) ?_
                  (repeat' ((fail_if_success (with_reducible (first | show gz2 | show gz3 | show gz4 | show gz5 | show gz6 | show gz7 | show gz8 | show gz9 | show gz10 | show gz11 | show gz12 | show gz13 | show gz14 | show gz15 | show gz29 | show gz30))); (first | ((with_reducible show wpAny _ _ (execs _ _) _ _ _); k_gentoks) | with_reducible (first | refine execs_one ?_ | (refine execs_cut ?_; intro _ _) | (refine if_cut ?_; intro _ _)) | ((fail_if_success (with_reducible show gz1)); (first | (refine Kh.go ‹_› _ _ ?_; try dsimp only [KnP]) | ((with_reducible show TurnEnd _ _ _ _ _ _); dsimp only [TurnEnd]))) | (k_unfold; (try dsimp only)) | (k_end; wrow_close) | walk1 | (dsimp only; walk1) | (leave1; try dsimp only))))
                  refine lst_item (l := r4.a) (vs := valsOf r4.v) (n := r4.e) N27 (hmemR _ hr5) (by (first | lia | omega)) (by (first | lia | omega)) (by rw [Int.toNat_natCast]; exact hr6) ?_
                  (repeat' ((fail_if_success (with_reducible (first | show gz2 | show gz3 | show gz4 | show gz5 | show gz6 | show gz7 | show gz8 | show gz9 | show gz10 | show gz11 | show gz12 | show gz13 | show gz14 | show gz15 | show gz29 | show gz30))); (first | ((with_reducible show wpAny _ _ (execs _ _) _ _ _); k_gentoks) | with_reducible (first | refine execs_one ?_ | (refine execs_cut ?_; intro _ _) | (refine if_cut ?_; intro _ _)) | ((fail_if_success (with_reducible show gz1)); (first | (refine Kh.go ‹_› _ _ ?_; try dsimp only [KnP]) | ((with_reducible show TurnEnd _ _ _ _ _ _); dsimp only [TurnEnd]))) | (k_unfold; (try dsimp only)) | (k_end; wrow_close) | walk1 | (dsimp only; walk1) | (leave1; try dsimp only))))
                  refine lst_item (l := tb) (vs := rowRefs rows) (n := nt) (v := .ref r7.a) N27 hmemT (by (first | lia | omega)) (by (first | lia | omega)) (by rw [Int.toNat_natCast]; exact hr7) ?_
                  (repeat' ((fail_if_success (with_reducible (first | show gz2 | show gz3 | show gz4 | show gz5 | show gz6 | show gz7 | show gz8 | show gz9 | show gz10 | show gz11 | show gz12 | show gz13 | show gz14 | show gz15 | show gz29 | show gz30))); (first | ((with_reducible show wpAny _ _ (execs _ _) _ _ _); k_gentoks) | with_reducible (first | refine execs_one ?_ | (refine execs_cut ?_; intro _ _) | (refine if_cut ?_; intro _ _)) | ((fail_if_success (with_reducible show gz1)); (first | (refine Kh.go ‹_› _ _ ?_; try dsimp only [KnP]) | ((with_reducible show TurnEnd _ _ _ _ _ _); dsimp only [TurnEnd]))) | (k_unfold; (try dsimp only)) | (k_end; wrow_close) | walk1 | (dsimp only; walk1) | (leave1; try dsimp only))))
                  refine lst_item (l := r7.a) (vs := valsOf r7.v) (n := r7.e) N27 (hmemR _ hr8) (by (first | lia | omega)) (by (first | lia | omega)) (by rw [Int.toNat_natCast]; exact hr9) ?_
                  (repeat' ((fail_if_success (with_reducible (first | show gz2 | show gz3 | show gz4 | show gz5 | show gz6 | show gz7 | show gz8 | show gz9 | show gz10 | show gz11 | show gz12 | show gz13 | show gz14 | show gz15 | show gz29 | show gz30))); (first | ((with_reducible show wpAny _ _ (execs _ _) _ _ _); k_gentoks) | with_reducible (first | refine execs_one ?_ | (refine execs_cut ?_; intro _ _) | (refine if_cut ?_; intro _ _)) | ((fail_if_success (with_reducible show gz1)); (first | (refine Kh.go ‹_› _ _ ?_; try dsimp only [KnP]) | ((with_reducible show TurnEnd _ _ _ _ _ _); dsimp only [TurnEnd]))) | (k_unfold; (try dsimp only)) | (k_end; wrow_close) | walk1 | (dsimp only; walk1) | (leave1; try dsimp only))))
                  refine ex3_e (tv_set hsq halt hblt) ?_
                  intro R1 r' R2 hzz
                  refine an4_e hzz ?_
                  clear hzz
                  rintro hR hr1' hr4' hnew
                  refine lst_item (l := tb) (vs := rowRefs rows) (n := nt) (v := .ref r'.a) (by k_asm) hmemT (by (first | lia | omega)) (by (first | lia | omega)) (by rw [Int.toNat_natCast]; exact hr1') ?_
                  rename Fr _ _ _ _ => F28
                  rename News _ _ _ _ => N28
                  have hled : rLed rows = rLed R1 ++ (r'.a, lstObj (valsOf r'.v) r'.e) :: rLed R2 := by rw [hR]; simp [rLed]
                  have ha28 : Apart ((itB, rngIt ((bi + 1 : Nat) : Int) (4 - ((bi + 1 : Nat) : Int)) 1) :: pA :: pM :: (tb, lstObj (rowRefs rows) nt) :: (rLed rows ++ base0)) := ha25
                  have N29 : News g L1 _ ([(itB, rngIt ((bi + 1 : Nat) : Int) (4 - ((bi + 1 : Nat) : Int)) 1), pA, pM, (tb, lstObj (rowRefs rows) nt)] ++ rLed R1 ++ (r'.a, lstObj (valsOf r'.v) r'.e) :: (rLed R2 ++ base0)) := fun q hq => N28 q (by rw [hled]; simpa using hq)
                  have ha29 : Apart ([(itB, rngIt ((bi + 1 : Nat) : Int) (4 - ((bi + 1 : Nat) : Int)) 1), pA, pM, (tb, lstObj (rowRefs rows) nt)] ++ rLed R1 ++ (r'.a, lstObj (valsOf r'.v) r'.e) :: (rLed R2 ++ base0)) := by rw [hled] at ha28; simpa using ha28
                  (try clear N28); (try clear N27); (try clear N26); (try clear F26); (try clear F27)
                  (repeat' ((fail_if_success (with_reducible (first | show gz2 | show gz3 | show gz4 | show gz5 | show gz6 | show gz7 | show gz8 | show gz9 | show gz10 | show gz11 | show gz12 | show gz13 | show gz14 | show gz15 | show gz29 | show gz30))); (first | ((with_reducible show wpAny _ _ (execs _ _) _ _ _); k_gentoks) | with_reducible (first | refine execs_one ?_ | (refine execs_cut ?_; intro _ _) | (refine if_cut ?_; intro _ _)) | ((fail_if_success (with_reducible show gz1)); (first | (refine Kh.go ‹_› _ _ ?_; try dsimp only [KnP]) | ((with_reducible show TurnEnd _ _ _ _ _ _); dsimp only [TurnEnd]))) | (k_unfold; (try dsimp only)) | (k_end; wrow_close) | walk1 | (dsimp only; walk1) | (leave1; try dsimp only))))
                  rename Fr _ _ _ _ => F30
                  rename News _ _ _ _ => N30
                  refine lst_set (D := r'.a) (vs := valsOf r'.v) (n := r'.e) F30 N30 (upd_at ha29) (by (first | lia | omega)) (by simp; (first | lia | omega)) (by (first | lia | omega)) ?_
                  intro h31 F31 N31
                  (try clear N30); (try clear F30); (try clear N29)
                  (repeat' ((fail_if_success (with_reducible (first | show gz2 | show gz3 | show gz4 | show gz5 | show gz6 | show gz7 | show gz8 | show gz9 | show gz10 | show gz11 | show gz12 | show gz13 | show gz14 | show gz15 | show gz29 | show gz30))); (first | ((with_reducible show wpAny _ _ (execs _ _) _ _ _); k_gentoks) | with_reducible (first | refine execs_one ?_ | (refine execs_cut ?_; intro _ _) | (refine if_cut ?_; intro _ _)) | ((fail_if_success (with_reducible show gz1)); (first | (refine Kh.go ‹_› _ _ ?_; try dsimp only [KnP]) | ((with_reducible show TurnEnd _ _ _ _ _ _); dsimp only [TurnEnd]))) | (k_unfold; (try dsimp only)) | (k_end; wrow_close) | walk1 | (dsimp only; walk1) | (leave1; try dsimp only))))
                  rename Fr _ _ _ _ => F32
                  rename News _ _ _ _ => N32
                  rw [Int.toNat_natCast] at N32
                  generalize hM : (if getT (tv rows) mi bi > getT (tv rows) ai mi then getT (tv rows) mi bi else getT (tv rows) ai mi) = M at N32
                  have hM' : M = max (getT (tv rows) ai mi) (getT (tv rows) mi bi) := by rw [← hM]; split <;> (first | lia | omega)
                  generalize hvv0 : (if M < getT (tv rows) ai bi then M else getT (tv rows) ai bi) = vv at N32
                  have hvv : vv = min (getT (tv rows) ai bi) (max (getT (tv rows) ai mi) (getT (tv rows) mi bi)) := by rw [← hvv0, hM']; split <;> (first | lia | omega)
                  obtain ⟨tq, N33⟩ : ∃ tq, News g L1 h31 ([(itB, rngIt ((bi + 1 : Nat) : Int) (4 - ((bi + 1 : Nat) : Int)) 1), pA, pM, (tb, lstObj (rowRefs rows) nt)] ++ rLed R1 ++ (r'.a, lstObj (valsOf (r'.v.set bi (vv, tq))) r'.e) :: (rLed R2 ++ base0)) := ⟨_, by rw [show valsOf (r'.v.set bi (vv, _)) = (valsOf r'.v).set bi (.int vv _) from List.map_set ..]; exact N32⟩
                  obtain ⟨hn1, hn2, hn3⟩ := hnew vv tq
                  have hled2 : rLed (R1 ++ (⟨r'.a, r'.v.set bi (vv, tq), r'.e⟩ : Rw) :: R2) = rLed R1 ++ (r'.a, lstObj (valsOf (r'.v.set bi (vv, tq))) r'.e) :: rLed R2 := by simp [rLed]
                  refine StopN hI3z (4 - bi) (sb2 (by assumption)) (ex5_i (bi + 1) (R1 ++ (⟨r'.a, r'.v.set bi (vv, tq), r'.e⟩ : Rw) :: R2) _ _ _ (an8_i (sb1 _ _) (by assumption) rfl (frB _ F32 ⟨rfl, rfl, rfl, trivial⟩) ?_ ?_ hn3 ?_))
                  · rw [hled2, hn2]
                    intro q hq
                    refine N33 q ?_
                    simpa using hq
                  · rw [hled2, hn2]
                    have : Apart ([(itB, rngIt ((bi + 1 : Nat) : Int) (4 - ((bi + 1 : Nat) : Int)) 1), pA, pM, (tb, lstObj (rowRefs rows) nt)] ++ rLed R1 ++ (r'.a, lstObj (valsOf (r'.v.set bi (vv, tq))) r'.e) :: (rLed R2 ++ base0)) := by
                      unfold Apart at ha29 ⊢
                      simpa using ha29
                    simpa using this
                  · rw [hn1, hvv, fwB_succ, ← hT]
                    rfl
                · have hie : bi = 4 := by (first | lia | omega)
                  subst hie
                  refine rng_end rfl F25 N25 (apart_ne ha25) (by (first | lia | omega)) ?_
                  intro h26 F26 N26
                  exact StopP (hR3z _) (ex4_i rows _ _ _ (an6_i rfl (frB _ F26 ⟨rfl, rfl, trivial⟩) N26 (apart_tail ha25) hsq hT))
              · (try clear N23); (try clear F24); (try clear ha23)
                clear hT hsq haA ha20
                intro s' hzz
                refine ex4_e hzz ?_
                clear hzz
                intro rows h tk u hzz
                refine an6_e hzz ?_
                clear hzz
                rintro rfl F25 N25 ha25 hsq hT
                (repeat' ((fail_if_success (with_reducible (first | show gz2 | show gz3 | show gz4 | show gz5 | show gz6 | show gz7 | show gz8 | show gz9 | show gz10 | show gz11 | show gz12 | show gz13 | show gz14 | show gz15 | show gz29 | show gz30))); (first | ((with_reducible show wpAny _ _ (execs _ _) _ _ _); k_gentoks) | with_reducible (first | refine execs_one ?_ | (refine execs_cut ?_; intro _ _) | (refine if_cut ?_; intro _ _)) | ((fail_if_success (with_reducible show gz1)); (first | (refine Kh.go ‹_› _ _ ?_; try dsimp only [KnP]) | ((with_reducible show TurnEnd _ _ _ _ _ _); dsimp only [TurnEnd]))) | (k_unfold; (try dsimp only)) | (k_end; wrow_close) | walk1 | (dsimp only; walk1) | (leave1; try dsimp only))))
                subst hitA
                refine StopN hI2z (4 - ai) (sb2 (by assumption)) (ex5_i (ai + 1) rows _ _ _ (an8_i (sb1 _ _) (by assumption) rfl F25 N25 ha25 hsq ?_))
                rw [fwA_succ]
                exact hT
            · have hie : ai = 4 := by (first | lia | omega)
              subst hie
              refine rng_end rfl F20 N20 (apart_ne ha20) (by (first | lia | omega)) ?_
              intro h26 F26 N26
              exact StopP (hR2z _) (ex4_i rows _ _ _ (an6_i rfl (frB _ F26 ⟨rfl, trivial⟩) N26 (apart_tail ha20) hsq hT))
          · (try clear N18); (try clear F19); (try clear ha18)
            clear hT hsq haM ha15
            intro s' hzz
            refine ex4_e hzz ?_
            clear hzz
            intro rows h tk u hzz
            refine an6_e hzz ?_
            clear hzz
            rintro rfl F25 N25 ha25 hsq hT
            (repeat' ((fail_if_success (with_reducible (first | show gz2 | show gz3 | show gz4 | show gz5 | show gz6 | show gz7 | show gz8 | show gz9 | show gz10 | show gz11 | show gz12 | show gz13 | show gz14 | show gz15 | show gz29 | show gz30))); (first | ((with_reducible show wpAny _ _ (execs _ _) _ _ _); k_gentoks) | with_reducible (first | refine execs_one ?_ | (refine execs_cut ?_; intro _ _) | (refine if_cut ?_; intro _ _)) | ((fail_if_success (with_reducible show gz1)); (first | (refine Kh.go ‹_› _ _ ?_; try dsimp only [KnP]) | ((with_reducible show TurnEnd _ _ _ _ _ _); dsimp only [TurnEnd]))) | (k_unfold; (try dsimp only)) | (k_end; wrow_close) | walk1 | (dsimp only; walk1) | (leave1; try dsimp only))))
            subst hitM
            refine StopN hI1z (4 - mi) (sb2 (by assumption)) (ex5_i (mi + 1) rows _ _ _ (an8_i (sb1 _ _) (by assumption) rfl F25 N25 ha25 hsq ?_))
            rw [fwM_succ]
            exact hT
        · have hie : mi = 4 := by (first | lia | omega)
          subst hie
          refine rng_end rfl F15 N15 (apart_ne ha15) (by (first | lia | omega)) ?_
          intro h26 F26 N26
          exact StopP (hR1z _) (ex4_i rows _ _ _ (an6_i rfl (frB _ F26 ⟨rfl, trivial⟩) N26 (apart_tail ha15) hsq hT))
      · (try clear N13); (try clear F14); (try clear ha13)
        clear hT hsq ha11
        intro s' hzz
        refine ex4_e hzz ?_
        clear hzz
        intro rows h tk u hzz
        refine an6_e hzz ?_
        clear hzz
        rintro rfl F15 N15 ha15 hsq hT
        (repeat' ((fail_if_success (with_reducible (first | show gz2 | show gz3 | show gz4 | show gz5 | show gz6 | show gz7 | show gz8 | show gz9 | show gz10 | show gz11 | show gz12 | show gz13 | show gz14 | show gz15 | show gz29 | show gz30))); (first | ((with_reducible show wpAny _ _ (execs _ _) _ _ _); k_gentoks) | with_reducible (first | refine execs_one ?_ | (refine execs_cut ?_; intro _ _) | (refine if_cut ?_; intro _ _)) | ((fail_if_success (with_reducible show gz1)); (first | (refine Kh.go ‹_› _ _ ?_; try dsimp only [KnP]) | ((with_reducible show TurnEnd _ _ _ _ _ _); dsimp only [TurnEnd]))) | (k_unfold; (try dsimp only)) | (k_end; wrow_close) | walk1 | (dsimp only; walk1) | (leave1; try dsimp only))))
        subst hbase
        exact ret _ _ tb rows nt hsq hT (by k_asm) (by k_asm) ha15
  · rintro i ys nw hi ⟨rows, hrl, rfl, hpm, han, hrv⟩ so5 mo5 v I oI C oC D m₂ h5 tk5 E' ⟨t, rfl⟩ hC hx5 F5 N5 off ne T5z h5z
    (try clear N3); (try clear F3); (try clear hR)
    (repeat' ((fail_if_success (with_reducible (first | show gz2 | show gz3 | show gz4 | show gz5 | show gz6 | show gz7 | show gz8 | show gz9 | show gz10 | show gz11 | show gz12 | show gz13 | show gz14 | show gz15 | show gz29 | show gz30))); (first | ((with_reducible show wpAny _ _ (execs _ _) _ _ _); k_gentoks) | with_reducible (first | refine execs_one ?_ | (refine execs_cut ?_; intro _ _) | (refine if_cut ?_; intro _ _)) | ((fail_if_success (with_reducible show gz1)); (first | (refine Kh.go ‹_› _ _ ?_; try dsimp only [KnP]) | ((with_reducible show TurnEnd _ _ _ _ _ _); dsimp only [TurnEnd]))) | (k_unfold; (try dsimp only)) | (k_end; wrow_close) | walk1 | (dsimp only; walk1) | (leave1; try dsimp only))))
    rename Fr _ _ _ _ => F7
    rename News _ _ _ _ => N7
    rename _ ∧ _ ∧ _ ∧ _ ∧ AllLt _ _ => l7
    rename_i D' h7 i1 n1 s1 e1 e2 e3
    refine StopP (h5z _ _) (ex3_i _ _ ((D', lstObj (valsOf (List.replicate 4 (99, tk5))) 0) :: nw) (an6_i rfl F7 (fun q hq => N7 q ?_) (off3_cons l7.2.1 l7.2.2.1 l7.2.2.2.1 off) trivial (ex1_i (rows ++ [⟨D', List.replicate 4 (99, tk5), 0⟩]) (an5_i (by simp [hrl]) (by simp [rowRefs]) ?_ (apart_lt (fun q hq => kst_ltOf l7.2.2.2.2 q hq) han) (fun r hr => ?_)))))
    · rcases List.mem_cons.mp hq with z | hq
      · exact z ▸ .tail _ (.tail _ (.head _))
      · rcases List.mem_cons.mp hq with z | hq
        · exact z ▸ .tail _ (.tail _ (.tail _ (.head _)))
        · rcases List.mem_cons.mp hq with z | hq
          · exact z ▸ .tail _ (.tail _ (.tail _ (.tail _ (.head _))))
          · rcases List.mem_cons.mp hq with z | hq
            · exact z ▸ .head _
            · exact .tail _ (.tail _ (.tail _ (.tail _ (.tail _ hq))))
    · refine (hpm.cons _).trans ?_
      have e : rLed (rows ++ [(⟨D', List.replicate 4 (99, tk5), 0⟩ : Rw)]) ++ (ol, lstObj (refsOf xs) n) :: rest = rLed rows ++ (D', lstObj (valsOf (List.replicate 4 (99, tk5))) 0) :: (ol, lstObj (refsOf xs) n) :: rest := by simp [rLed]
      rw [e]
      exact List.perm_middle.symm
    · rcases List.mem_append.mp hr with q | q
      · exact hrv r q
      · rw [List.mem_singleton.mp q]; rfl
end
section
open PySem.SeqAt
noncomputable abbrev P2 := Addr × Int × Int
noncomputable abbrev pRefs (ps : List P2) : List Value := ps.map fun p => .ref p.1
noncomputable def PairIn (news : List (Addr × Obj)) (p : P2) : Prop := ∃ ta tb n, (p.1, tupObj [.int p.2.1 ta, .int p.2.2 tb] n) ∈ news
theorem all_tt {α : Type} (l : List α) : l.all (fun _ => true) = true := List.all_eq_true.mpr fun _ _ => rfl
theorem int_beq (a b : Int) : (a == b) = decide (a = b) := by rw [Bool.eq_iff_iff]; simp
section
variable {prog : Program} {w : World} {A : Around} {E : Value → Shared → Prop} {s : Shared} {h₀ : Heap} {L : Addr} {news : List (Addr × Obj)}
theorem eq_nil_N {a b : Addr} {vs : List Value} {na nb : Nat} {Q : Value → Shared → Prop} (N : News h₀ L s.heap news) (ma : (a, lstObj vs na) ∈ news) (mb : (b, lstObj [] nb) ∈ news) (hu : A.units < cLine) (h : Q (.bool vs.isEmpty) s) :
    wpAny (model prog w) A (compareOp .Eq (.ref a) (.ref b)) Q E s := by
  cases vs with
  | nil => exact eq_listAt (e := fun _ => true) (lst_is N ma) (lst_is N mb) rfl hu (fun j h1 _ => absurd h1 (by simp)) h
  | cons v r => exact eq_list_lengthsAt (lst_is N ma) (lst_is N mb) (by simp) hu h
theorem ne_nil_N {a b : Addr} {vs : List Value} {na nb : Nat} {Q : Value → Shared → Prop} (N : News h₀ L s.heap news) (ma : (a, lstObj vs na) ∈ news) (mb : (b, lstObj [] nb) ∈ news) (hu : A.units < cLine) (h : Q (.bool (!vs.isEmpty)) s) :
    wpAny (model prog w) A (compareOp .NotEq (.ref a) (.ref b)) Q E s := by
  cases vs with
  | nil => exact RcNeAt.lists (e := fun _ => true) (lst_is N ma) (lst_is N mb) rfl hu (fun j h1 _ => absurd h1 (by simp)) prog w E Q h
  | cons v r => exact RcNeAt.lists_lengths (lst_is N ma) (lst_is N mb) (by simp) hu prog w E Q h
theorem vals_get {l : List (Int × Tok)} {j : Nat} (h : j < (valsOf l).toArray.size) : ∃ (hj : j < l.length), (valsOf l).toArray[j] = .int l[j].1 l[j].2 := by
  have hj : j < l.length := by simpa using h
  exact ⟨hj, by simp⟩
theorem ne_ints_N {a b : Addr} {l1 l2 : List (Int × Tok)} {na nb : Nat} {Q : Value → Shared → Prop} (N : News h₀ L s.heap news) (ma : (a, lstObj (valsOf l1) na) ∈ news) (mb : (b, lstObj (valsOf l2) nb) ∈ news) (hu : A.units < cLine)
    (h : Q (.bool (!decide (l1.map (·.1) = l2.map (·.1)))) s) : wpAny (model prog w) A (compareOp .NotEq (.ref a) (.ref b)) Q E s := by
  by_cases hl : l1.length = l2.length
  · refine RcNeAt.lists (e := fun j => decide ((l1.map (·.1))[j]? = (l2.map (·.1))[j]?)) (lst_is N ma) (lst_is N mb) (by simp [hl]) hu (fun j h1 h2 => ?_) prog w E Q ?_
    · obtain ⟨k1, e1⟩ := vals_get h1
      obtain ⟨k2, e2⟩ := vals_get h2
      rw [e1, e2]
      have : (l1[j].1 == l2[j].1) = decide ((l1.map (·.1))[j]? = (l2.map (·.1))[j]?) := by
        rw [List.getElem?_map, List.getElem?_map, List.getElem?_eq_getElem k1, List.getElem?_eq_getElem k2]
        simp [int_beq]
      rw [← this]
      exact EqAt.int_int _ _ _ _
    · have : (List.range (valsOf l1).toArray.size).all (fun j => decide ((l1.map (·.1))[j]? = (l2.map (·.1))[j]?)) = decide (l1.map (·.1) = l2.map (·.1)) := by
        rw [Bool.eq_iff_iff, List.all_eq_true, decide_eq_true_eq]
        constructor
        · intro q
          apply List.ext_getElem?
          intro j
          by_cases hj : j < l1.length
          · simpa using q j (by simpa using hj)
          · rw [List.getElem?_eq_none (by simp; (first | lia | omega)), List.getElem?_eq_none (by simp; (first | lia | omega))]
        · intro q j _
          rw [q]; simp
      rw [this]
      exact h
  · refine RcNeAt.lists_lengths (lst_is N ma) (lst_is N mb) (by simp [hl]) hu prog w E Q ?_
    have : ¬ l1.map (·.1) = l2.map (·.1) := fun q => hl (by have := congrArg List.length q; simpa using this)
    rw [decide_eq_false this] at h
    exact h
/-- two pairs of ints, by identity or by value -/
theorem pair_eqAt {A : Around} {p q : P2} (N : News h₀ L s.heap news) (hp : PairIn news p) (hq : PairIn news q) (hu : A.units < cLine) : EqAt A s (.ref p.1) (.ref q.1) (decide (p.2 = q.2)) := by
  obtain ⟨ta, tb, n, mp⟩ := hp
  obtain ⟨ua, ub, k, mq⟩ := hq
  by_cases e : p.1 = q.1
  · have h1 := (N _ mp).1
    have h2 := (N _ mq).1
    dsimp only at h1 h2
    rw [e, h2] at h1
    have h3 : p.2 = q.2 := by
      obtain ⟨pa, p1, p2⟩ := p
      obtain ⟨qa, q1, q2⟩ := q
      simp at h1
      obtain ⟨⟨h4, _⟩, ⟨h5, _⟩⟩ := h1.1
      simp [h4, h5]
    rw [e, decide_eq_true h3]
    exact EqAt.same _
  · refine EqAt.of_refs e ?_
    have := RcAt.tuples (A := A) (s := s) (e := fun j => if j = 0 then p.2.1 == q.2.1 else p.2.2 == q.2.2) (tup_is N mp) (tup_is N mq) hu (fun j h1 h2 => by
      have : j = 0 ∨ j = 1 := by simp at h1; (first | lia | omega)
      rcases this with rfl | rfl
      · exact EqAt.int_int _ _ _ _
      · exact EqAt.int_int _ _ _ _)
    have e2 : ((List.range (min ([Value.int p.2.1 ta, Value.int p.2.2 tb].toArray).size ([Value.int q.2.1 ua, Value.int q.2.2 ub].toArray).size)).all (fun j => if j = 0 then p.2.1 == q.2.1 else p.2.2 == q.2.2) && ([Value.int p.2.1 ta, Value.int p.2.2 tb].toArray).size == ([Value.int q.2.1 ua, Value.int q.2.2 ub].toArray).size) = decide (p.2 = q.2) := by
      obtain ⟨pa, p1, p2⟩ := p
      obtain ⟨qa, q1, q2⟩ := q
      simp [List.range_succ, Prod.ext_iff, int_beq, Bool.decide_and]
    rw [e2] at this
    exact this
theorem notIn_pairs {p : P2} {l : Addr} {ps : List P2} {n : Nat} {Q : Value → Shared → Prop} (N : News h₀ L s.heap news) (hp : PairIn news p) (hps : ∀ q ∈ ps, PairIn news q) (ml : (l, lstObj (pRefs ps) n) ∈ news) (hu : A.units + 1 < cLine)
    (h : Q (.bool (!decide (p.2 ∈ ps.map (·.2)))) s) : wpAny (model prog w) A (compareOp .NotIn (.ref p.1) (.ref l)) Q E s := by
  refine notIn_listAt (fun y => ps.any fun q => decide (y = .ref q.1) && decide (q.2 = p.2)) (lst_is N ml) (fun y hy => ?_) ?_
  · have hy' : y ∈ pRefs ps := by simpa using hy
    obtain ⟨q, hq, rfl⟩ := List.mem_map.mp hy'
    have he := pair_eqAt (A := A.in1) N (hps q hq) hp (by rw [units_in1]; (first | lia | omega))
    have e1 : (ps.any fun q' => decide ((Value.ref q.1) = .ref q'.1) && decide (q'.2 = p.2)) = decide (q.2 = p.2) := by
      rw [Bool.eq_iff_iff, List.any_eq_true, decide_eq_true_eq]
      constructor
      · rintro ⟨q', hq', hb⟩
        simp at hb
        have : q'.2 = q.2 := by
          obtain ⟨ta, tb, k, m1⟩ := hps q hq
          obtain ⟨ua, ub, k', m2⟩ := hps q' hq'
          have h1 := (N _ m1).1
          have h2 := (N _ m2).1
          dsimp only at h1 h2
          rw [← hb.1, h1] at h2
          obtain ⟨pa, p1, p2⟩ := q
          obtain ⟨qa, q1, q2⟩ := q'
          simp at h2
          obtain ⟨⟨h4, _⟩, ⟨h5, _⟩⟩ := h2.1
          simp [h4, h5]
        rw [← this]; exact hb.2
      · intro hv
        exact ⟨q, hq, by simp [hv]⟩
    rw [e1]
    exact he
  · have e2 : ((pRefs ps).toArray.any fun y => ps.any fun q => decide (y = .ref q.1) && decide (q.2 = p.2)) = decide (p.2 ∈ ps.map (·.2)) := by
      rw [Bool.eq_iff_iff, decide_eq_true_eq]
      simp only [List.any_toArray, List.any_eq_true, List.mem_map]
      constructor
      · rintro ⟨y, _, q, hq, hb⟩
        simp at hb
        exact ⟨q, hq, hb.2⟩
      · rintro ⟨q, hq, hv⟩
        exact ⟨.ref q.1, ⟨q, hq, rfl⟩, q, hq, by simp [hv]⟩
    rw [e2]
    exact h
theorem tri_eqAt {A : Around} {p q : X3} (N : News h₀ L s.heap news) (hp : TriIn news p) (hq : TriIn news q) (hv : p.2 = q.2) (hu : A.units < cLine) : EqAt A s (.ref p.1) (.ref q.1) true := by
  obtain ⟨ta, tb, tc, n, mp⟩ := hp
  obtain ⟨ua, ub, uc, k, mq⟩ := hq
  by_cases e : p.1 = q.1
  · rw [e]; exact EqAt.same _
  · refine EqAt.of_refs e ?_
    obtain ⟨pa, p1, p2, p3⟩ := p
    obtain ⟨qa, q1, q2, q3⟩ := q
    simp only [Prod.mk.injEq] at hv
    obtain ⟨rfl, rfl, rfl⟩ := hv
    have h1 : s.heap.IsTuple pa #[.int p1 ta, .int p2 tb, .int p3 tc] := ⟨_, (N _ mp).1, rfl, n, rfl⟩
    have h2 : s.heap.IsTuple qa #[.int p1 ua, .int p2 ub, .int p3 uc] := ⟨_, (N _ mq).1, rfl, k, rfl⟩
    have := RcAt.tuples (A := A) (s := s) (e := fun _ => true) h1 h2 hu (fun j h1 h2 => by
      have : j = 0 ∨ j = 1 ∨ j = 2 := by simp at h1; (first | lia | omega)
      rcases this with rfl | rfl | rfl
      · have := EqAt.int_int (A := A.in1) (s := s) p1 ta p1 ua; simpa using this
      · have := EqAt.int_int (A := A.in1) (s := s) p2 tb p2 ub; simpa using this
      · have := EqAt.int_int (A := A.in1) (s := s) p3 tc p3 uc; simpa using this)
    rw [all_tt] at this
    exact this
theorem ne_tris_N {a b : Addr} {xs ys : List X3} {na nb : Nat} {Q : Value → Shared → Prop} (N : News h₀ L s.heap news) (ma : (a, lstObj (refsOf xs) na) ∈ news) (mb : (b, lstObj (refsOf ys) nb) ∈ news) (hx : ∀ x ∈ xs, TriIn news x) (hy : ∀ y ∈ ys, TriIn news y) (hv : xs.map (·.2) = ys.map (·.2)) (hu : A.units + 1 < cLine)
    (h : Q (.bool false) s) : wpAny (model prog w) A (compareOp .NotEq (.ref a) (.ref b)) Q E s := by
  have hl : xs.length = ys.length := by have := congrArg List.length hv; simpa using this
  refine RcNeAt.lists (e := fun _ => true) (lst_is N ma) (lst_is N mb) (by simp [hl]) (by (first | lia | omega)) (fun j h1 h2 => ?_) prog w E Q (by rw [all_tt]; exact h)
  have k1 : j < xs.length := by simpa using h1
  have k2 : j < ys.length := by simpa using h2
  have e1 : (refsOf xs).toArray[j] = .ref xs[j].1 := by simp
  have e2 : (refsOf ys).toArray[j] = .ref ys[j].1 := by simp
  rw [e1, e2]
  have hvj : xs[j].2 = ys[j].2 := by
    have := congrArg (fun l => l[j]?) hv
    simp only [List.getElem?_map, List.getElem?_eq_getElem k1, List.getElem?_eq_getElem k2, Option.map_some, Option.some.injEq] at this
    exact this
  exact tri_eqAt N (hx _ (List.getElem_mem k1)) (hy _ (List.getElem_mem k2)) hvj (by rw [units_in1]; (first | lia | omega))
end
end
section
theorem rng_small16 (n : Nat) (h : n ≤ 16) : Builtin.Range.small 0 (n : Int) 1 = true ∧ Builtin.Range.rangeSize 0 (n : Int) 1 = ((n : Nat) : Int) := by
  have : ∀ n : Fin 17, Builtin.Range.small 0 ((n.val : Nat) : Int) 1 = true ∧ Builtin.Range.rangeSize 0 ((n.val : Nat) : Int) 1 = ((n.val : Nat) : Int) := by decide
  exact this ⟨n, by (first | lia | omega)⟩
theorem pick_tail (r : List (Int × Tok)) : kms_pick (valsOf r).toArray.toList (some 1) none = valsOf r.tail := by
  cases r with
  | nil => rfl
  | cons a l =>
    show (((valsOf (a :: l)).drop (kms_lo (some 1) (valsOf (a :: l)).length)).take (kms_hi none (valsOf (a :: l)).length - kms_lo (some 1) (valsOf (a :: l)).length)) = _
    have e1 : kms_lo (some 1) (valsOf (a :: l)).length = 1 := by
      simp [kms_lo]
    rw [e1]
    have e2 : kms_hi none (valsOf (a :: l)).length = l.length + 1 := by
      simp [kms_hi]
    rw [e2]
    show List.take (l.length + 1 - 1) (List.map _ l) = _
    exact List.take_of_length_le (by simp)
theorem count_one {a : Int} : ∀ {l : List Int}, l.Nodup → a ∈ l → l.count a = 1
  | b :: l, h, m => by
    obtain ⟨h1, h2⟩ := List.nodup_cons.mp h
    by_cases e : b = a
    · subst e
      rw [List.count_cons_self, List.count_eq_zero.mpr h1]
    · rw [List.count_cons_of_ne e]
      exact count_one h2 ((List.mem_cons.mp m).resolve_left (Ne.symm e))
theorem last_pair {ps : List P2} {l : List (Int × Int)} {p : Int × Int} (h : ps.map (·.2) = l) (hl : l.getLast? = some p) : ∃ pl, ps[ps.length - 1]? = some pl ∧ pl.2 = p ∧ 0 < ps.length := by
  subst h
  rw [List.getLast?_map, List.getLast?_eq_getElem?] at hl
  cases e : ps[ps.length - 1]? with
  | none => rw [e] at hl; cases hl
  | some pl =>
    rw [e] at hl
    have := (List.getElem?_eq_some_iff.mp e).1
    exact ⟨pl, rfl, Option.some.inj hl, by (first | lia | omega)⟩
theorem nameN {h₀ h : Heap} {L : Addr} {B : List (Addr × Obj)} (N : News h₀ L h B) : ∃ B', B = B' ∧ News h₀ L h B' := ⟨B, rfl, N⟩
noncomputable def aroundL (r : List Int) : List (Int × Int) := r.zip r.tail
theorem around_get {r : List Int} {i : Nat} {a b : Int} (h1 : r[i]? = some a) (h2 : r[i + 1]? = some b) : (aroundL r)[i]? = some (a, b) := by
  unfold aroundL
  rw [List.getElem?_zip_eq_some]
  exact ⟨h1, by rw [List.getElem?_tail]; exact h2⟩
theorem isring_spec {prog : Program} {w : World} (dp un : Nat) (gd : Option (List Code)) (env : Env) (outer : List Env) (h₀ : Heap) (L : Addr) (m : Str → Option Value) (s : Shared)
    (Q E : Value → Shared → Prop) (C : Cx w env outer h₀ L) (F : Fr h₀ L s.heap m) (rr tl : Addr) (ring : List (Int × Tok)) (nr : Nat) (xs : List X3) (n : Nat) (newest : Bool) (rest : List (Addr × Obj)) (N : News h₀ L s.heap ((rr, lstObj (valsOf ring) nr) :: (tl, lstObj (refsOf xs) n) :: rest)) (ha : Apart ((rr, lstObj (valsOf ring) nr) :: (tl, lstObj (refsOf xs) n) :: rest))
    (hx : ∀ x ∈ xs, TriIn rest x) (hlen : xs.length ≤ 7) (hr1 : 2 ≤ ring.length) (hr2 : ring.length ≤ 16) (hnd : (ring.tail.map (fun q : Int × Tok => q.1)).Nodup) (hin : ∀ p ∈ aroundL (ring.map (·.1)), p ∈ xs.map (·.2.2)) (hnew : newest = true → ∃ p, (xs.map (·.2.2)).getLast? = some p ∧ p ∈ aroundL (ring.map (·.1))) (hhl : ∃ c t1 t2, ring[0]? = some (c, t1) ∧ ring[ring.length - 1]? = some (c, t2))
    (hd : dp + 8 < recursionLimit) (hu : un + 64 < cLine)
    (ret : ∀ h' tk', Fr h₀ L h' m → News h₀ L h' ((rr, lstObj (valsOf ring) nr) :: (tl, lstObj (refsOf xs) n) :: rest) → Q (.bool true) { s with heap := h', toks := tk' }) :
    wpAny (model prog w) (arn none dp un gd env outer) (call (.ref 193) [.ref rr, .ref tl, .bool newest]) Q E s := by
  refine cx_e C ?_
  intro p loose mean mg mb A₀ base B X T hf hk
  refine wpAny_call ?_
  k_dflt (refine' code_defC ?k1 ?k2 ?k3 ?k4 ?k5 ?kA ?kF ?kK ?k6 ?k7 ?k8 ?k9 ?kB ?kD ?_ ?c2 ?c3 ?c4; (case kA => exact rfl); (case kF => first | assumption | exact rfl); (case kK => first | assumption | exact rfl); (case k1 => k_asm); (case k2 => k_asm); (case k3 => k_asm); (case k4 => k_asm); (case k5 => k_asm); (case k6 => k_is); (case k7 => k_is); (case k8 => k_room); (case k9 => first | exact BindsTo.of_eq rfl | exact binds_K (by k_in) rfl (by k_is) rfl rfl rfl); (case kB => exact rfl); (case kD => decide +kernel); (case c2 => exact rfl); (case c3 => exact rfl); (case c4 => exact rfl))
  intro g L1 h1 tk1 cells FG F1 N1 Y1 B1 X1 T1 lc
  (try k_lt lc)
  k_cells Y1
  (try simp only [List.cons_append, List.nil_append] at N1)
  (try dsimp only)
  (try k_fold)
  rename_i oP oR dP dR
  have dR' : oR.data = .cell (some (.ref rr)) := by rw [dR]; rfl
  have dP' : oP.data = .cell none := by rw [dP]; rfl
  clear dR dP
  have F1' := frB [(Str.ofString "taken", .ref tl), (Str.ofString "newest", .bool newest)] F1 ⟨rfl, rfl, trivial⟩
  clear F1
  (repeat' ((fail_if_success (with_reducible (first | show gz2 | show gz3 | show gz4 | show gz5 | show gz6 | show gz7 | show gz8 | show gz9 | show gz10 | show gz11 | show gz12 | show gz13 | show gz14 | show gz15 | show gz31 | show gz32 | show gz33 | show gz34 | show gz29 | show gz30 | show gz35 | show gz36 | show gz37 | show gz38))); (first | ((with_reducible show wpAny _ _ (execs _ _) _ _ _); k_gentoks) | with_reducible (first | refine execs_one ?_ | (refine execs_cut ?_; intro _ _) | (refine if_cut ?_; intro _ _)) | ((fail_if_success (with_reducible show gz1)); (first | (refine Kh.go ‹_› _ _ ?_; try dsimp only [KnP]) | ((with_reducible show TurnEnd _ _ _ _ _ _); dsimp only [TurnEnd]))) | (k_unfold; (try dsimp only)) | (k_end; wrow_close) | walk1 | (dsimp only; walk1) | (leave1; try dsimp only))))
  rename Fr _ _ _ _ => F2
  rename News _ _ _ _ => N2
  refine wpAny_Assign_Name ?_ (by with_unfolding_all rfl)
  refine ListComp_3 F2 (by with_unfolding_all rfl) (by decide) (by rfl) (by decide) (by rfl) (by rfl) (by rfl) (by decide) (by decide) (by decide) ?_
  (repeat' ((fail_if_success (with_reducible (first | show gz2 | show gz3 | show gz4 | show gz5 | show gz6 | show gz7 | show gz8 | show gz9 | show gz10 | show gz11 | show gz12 | show gz13 | show gz14 | show gz15 | show gz31 | show gz32 | show gz33 | show gz34 | show gz29 | show gz30 | show gz35 | show gz36 | show gz37 | show gz38))); (first | ((with_reducible show wpAny _ _ (execs _ _) _ _ _); k_gentoks) | with_reducible (first | refine execs_one ?_ | (refine execs_cut ?_; intro _ _) | (refine if_cut ?_; intro _ _)) | ((fail_if_success (with_reducible show gz1)); (first | (refine Kh.go ‹_› _ _ ?_; try dsimp only [KnP]) | ((with_reducible show TurnEnd _ _ _ _ _ _); dsimp only [TurnEnd]))) | (k_unfold; (try dsimp only)) | (k_end; wrow_close) | walk1 | (dsimp only; walk1) | (leave1; try dsimp only))))
  rename Fr _ _ _ _ => F3
  rename News _ _ _ _ => N3
  have hab : Apart ((L1 + 1 + 1, oP) :: (L1 + 1, oR) :: (rr, lstObj (valsOf ring) nr) :: (tl, lstObj (refsOf xs) n) :: rest) := by
    have q1 : ∀ q ∈ (rr, lstObj (valsOf ring) nr) :: (tl, lstObj (refsOf xs) n) :: rest, @LT.lt Nat _ q.1 L1 := List.forall_mem_cons.mpr ⟨lc.1, List.forall_mem_cons.mpr ⟨lc.2.1, fun q hq => kst_ltOf lc.2.2 q hq⟩⟩
    have q2 := apart_lt (p := (L1 + 1, oR)) (fun q hq => Nat.lt_succ_of_lt (q1 q hq)) ha
    exact apart_lt (p := (L1 + 1 + 1, oP)) (List.forall_mem_cons.mpr ⟨Nat.lt_succ_self _, fun q hq => Nat.lt_succ_of_lt (Nat.lt_succ_of_lt (q1 q hq))⟩) q2
  generalize hb0 : (L1 + 1 + 1, oP) :: (L1 + 1, oR) :: (rr, lstObj (valsOf ring) nr) :: (tl, lstObj (refsOf xs) n) :: rest = b0 at N3 hab
  have htl : (tl, lstObj (refsOf xs) n) ∈ b0 := by rw [← hb0]; exact .tail _ (.tail _ (.tail _ (.head _)))
  have hx0 : ∀ x ∈ xs, TriIn b0 x := fun x hx' => by
    obtain ⟨a, b, c, d, e⟩ := hx x hx'
    exact ⟨a, b, c, d, by rw [← hb0]; exact .tail _ (.tail _ (.tail _ (.tail _ e)))⟩
  refine Stop.mk ⟨tl, refsOf xs, n, b0, fun i ys nw => ∃ (ps : List P2) (ex : List (Addr × Obj)), ys = pRefs ps ∧ ps.map (·.2) = (xs.take i).map (·.2.2) ∧ nw = ex ++ b0 ∧ Apart nw ∧ ∀ p ∈ ps, PairIn ex p, rfl, rfl, by simp; (first | lia | omega), F3, N3, htl, ⟨[], [], rfl, rfl, rfl, hab, by simp⟩, ?_, ?_⟩
  · intro ys nw hzz
    refine ex2_e hzz ?_
    clear hzz
    intro ps ex hzz
    refine an5_e hzz ?_
    clear hzz
    rintro rfl hps rfl han hpi D h4 tk4 F4 N4 off4
    rw [List.take_of_length_le (by simp)] at hps
    have ha4 : Apart ((D, lstObj (pRefs ps) (pRefs ps).length) :: (ex ++ b0)) := apart_cons (off1_ne' off4) han
    (try clear N3); (try clear F3)
    have e4 : (D, lstObj (pRefs ps) (pRefs ps).length) :: (ex ++ b0) = ((D, lstObj (pRefs ps) (pRefs ps).length) :: ex) ++ (L1 + 1 + 1, oP) :: (L1 + 1, oR) :: (rr, lstObj (valsOf ring) nr) :: (tl, lstObj (refsOf xs) n) :: rest := by rw [← hb0]; rfl
    rw [e4] at N4 ha4
    refine storeX_C F4 N4 rfl (updF_at ha4) dP' ?_
    intro h5 oP' F5 N5 dP5
    have ha5 : Apart (((D, lstObj (pRefs ps) (pRefs ps).length) :: ex) ++ (L1 + 1 + 1, oP') :: (L1 + 1, oR) :: (rr, lstObj (valsOf ring) nr) :: (tl, lstObj (refsOf xs) n) :: rest) := by
      unfold Apart at ha4 ⊢
      simpa using ha4
    (try clear N4); (try clear F4)
    generalize hc5 : ((D, lstObj (pRefs ps) (pRefs ps).length) :: ex) ++ (L1 + 1 + 1, oP') :: (L1 + 1, oR) :: (rr, lstObj (valsOf ring) nr) :: (tl, lstObj (refsOf xs) n) :: rest = b5 at N5 ha5
    have m5D : (D, lstObj (pRefs ps) (pRefs ps).length) ∈ b5 := by rw [← hc5]; exact .head _
    have m5P : (L1 + 1 + 1, oP') ∈ b5 := by rw [← hc5]; exact List.mem_append_right _ (.head _)
    have m5R : (L1 + 1, oR) ∈ b5 := by rw [← hc5]; exact List.mem_append_right _ (.tail _ (.head _))
    have m5r : (rr, lstObj (valsOf ring) nr) ∈ b5 := by rw [← hc5]; exact List.mem_append_right _ (.tail _ (.tail _ (.head _)))
    (repeat' ((fail_if_success (with_reducible (first | show gz2 | show gz3 | show gz4 | show gz5 | show gz6 | show gz7 | show gz8 | show gz9 | show gz10 | show gz11 | show gz12 | show gz13 | show gz14 | show gz15 | show gz31 | show gz32 | show gz33 | show gz34 | show gz29 | show gz30 | show gz35 | show gz36 | show gz37 | show gz38))); (first | ((with_reducible show wpAny _ _ (execs _ _) _ _ _); k_gentoks) | with_reducible (first | refine execs_one ?_ | (refine execs_cut ?_; intro _ _) | (refine if_cut ?_; intro _ _)) | ((fail_if_success (with_reducible show gz1)); (first | (refine Kh.go ‹_› _ _ ?_; try dsimp only [KnP]) | ((with_reducible show TurnEnd _ _ _ _ _ _); dsimp only [TurnEnd]))) | (k_unfold; (try dsimp only)) | (k_end; wrow_close) | walk1 | (dsimp only; walk1) | (leave1; try dsimp only))))
    rename Fr _ _ _ _ => F6
    rename News _ _ _ _ => N6
    refine LCg.Assign_ListComp_U F6 (by rfl) (by with_unfolding_all rfl) (by with_unfolding_all rfl) (by decide) (by rfl) (by decide) (by rfl) (by rfl) (by rfl) ?_
    (repeat' ((fail_if_success (with_reducible (first | show gz2 | show gz3 | show gz4 | show gz5 | show gz6 | show gz7 | show gz8 | show gz9 | show gz10 | show gz11 | show gz12 | show gz13 | show gz14 | show gz15 | show gz31 | show gz32 | show gz33 | show gz34 | show gz29 | show gz30 | show gz35 | show gz36 | show gz37 | show gz38))); (first | ((with_reducible show wpAny _ _ (execs _ _) _ _ _); k_gentoks) | with_reducible (first | refine execs_one ?_ | (refine execs_cut ?_; intro _ _) | (refine if_cut ?_; intro _ _)) | ((fail_if_success (with_reducible show gz1)); (first | (refine Kh.go ‹_› _ _ ?_; try dsimp only [KnP]) | ((with_reducible show TurnEnd _ _ _ _ _ _); dsimp only [TurnEnd]))) | (k_unfold; (try dsimp only)) | (k_end; wrow_close) | walk1 | (dsimp only; walk1) | (leave1; try dsimp only))))
    refine nameX_C N6 rfl m5R dR' ?_
    (repeat' ((fail_if_success (with_reducible (first | show gz2 | show gz3 | show gz4 | show gz5 | show gz6 | show gz7 | show gz8 | show gz9 | show gz10 | show gz11 | show gz12 | show gz13 | show gz14 | show gz15 | show gz31 | show gz32 | show gz33 | show gz34 | show gz29 | show gz30 | show gz35 | show gz36 | show gz37 | show gz38))); (first | ((with_reducible show wpAny _ _ (execs _ _) _ _ _); k_gentoks) | with_reducible (first | refine execs_one ?_ | (refine execs_cut ?_; intro _ _) | (refine if_cut ?_; intro _ _)) | ((fail_if_success (with_reducible show gz1)); (first | (refine Kh.go ‹_› _ _ ?_; try dsimp only [KnP]) | ((with_reducible show TurnEnd _ _ _ _ _ _); dsimp only [TurnEnd]))) | (k_unfold; (try dsimp only)) | (k_end; wrow_close) | walk1 | (dsimp only; walk1) | (leave1; try dsimp only))))
    (try clear F5); (try clear N5)
    rename News _ _ _ _ => N7
    obtain ⟨q, hq⟩ : ∃ q, ring.length = q + 1 := ⟨ring.length - 1, by (first | lia | omega)⟩
    refine kst_len (l := rr) (us := valsOf ring) (k := q + 1) (c := nr) N7 m5r (by simp [valsOf, hq]) (by (first | lia | omega)) ?_
    (repeat' ((fail_if_success (with_reducible (first | show gz2 | show gz3 | show gz4 | show gz5 | show gz6 | show gz7 | show gz8 | show gz9 | show gz10 | show gz11 | show gz12 | show gz13 | show gz14 | show gz15 | show gz31 | show gz32 | show gz33 | show gz34 | show gz29 | show gz30 | show gz35 | show gz36 | show gz37 | show gz38))); (first | ((with_reducible show wpAny _ _ (execs _ _) _ _ _); k_gentoks) | with_reducible (first | refine execs_one ?_ | (refine execs_cut ?_; intro _ _) | (refine if_cut ?_; intro _ _)) | ((fail_if_success (with_reducible show gz1)); (first | (refine Kh.go ‹_› _ _ ?_; try dsimp only [KnP]) | ((with_reducible show TurnEnd _ _ _ _ _ _); dsimp only [TurnEnd]))) | (k_unfold; (try dsimp only)) | (k_end; wrow_close) | walk1 | (dsimp only; walk1) | (leave1; try dsimp only))))
    rename IsRange _ _ _ _ _ _ _ _ => hR
    rename Fr _ _ _ _ => F8
    rename News _ _ _ _ => N8
    have eq1 : ((q + 1 : Nat) : Int) - 1 = (q : Int) := by (first | lia | omega)
    rw [eq1] at hR
    have hrs := rng_small16 q (by (first | lia | omega))
    refine LCg.CompSrc.range (n := q) rfl F8 N8 hR hrs.1 hrs.2 (by rw [sizeLine_eq]; (first | lia | omega)) ?_
    intro g9
    refine comp_indU (fun i ys nw => ∃ (p2 : List P2) (e2 : List (Addr × Obj)), ys = pRefs p2 ∧ p2.map (·.2) = (aroundL (ring.map (·.1))).take i ∧ nw = e2 ++ b5 ∧ Apart nw ∧ ∀ p ∈ p2, PairIn e2 p) ⟨[], [], rfl, rfl, rfl, ha5, by simp⟩ ?_ ?_
    · intro ys nw hzz
      refine ex2_e hzz ?_
      clear hzz
      intro p2 e2 hzz
      refine an5_e hzz ?_
      clear hzz
      rintro rfl hp2 rfl ha9 hpi2
      intro D9 h10 tk10 F10 N10 off10
      have haB : Apart ((D9, lstObj (pRefs p2) (pRefs p2).length) :: (e2 ++ b5)) := apart_cons (off1_ne' off10) ha9
      have hal : (aroundL (ring.map (·.1))).length = q := by simp [aroundL, hq]
      rw [List.take_of_length_le (by (first | lia | omega))] at hp2
      (try clear N8); (try clear F8); (try clear hR); (try clear N7); (try clear F6); (try clear N3); (try clear F3)
      have m5B : (D9, lstObj (pRefs p2) (pRefs p2).length) ∈ (D9, lstObj (pRefs p2) (pRefs p2).length) :: (e2 ++ b5) := .head _
      replace m5D := List.mem_cons_of_mem (D9, lstObj (pRefs p2) (pRefs p2).length) (List.mem_append_right e2 m5D)
      replace m5P := List.mem_cons_of_mem (D9, lstObj (pRefs p2) (pRefs p2).length) (List.mem_append_right e2 m5P)
      replace m5R := List.mem_cons_of_mem (D9, lstObj (pRefs p2) (pRefs p2).length) (List.mem_append_right e2 m5R)
      replace m5r := List.mem_cons_of_mem (D9, lstObj (pRefs p2) (pRefs p2).length) (List.mem_append_right e2 m5r)
      have hpiA : ∀ p ∈ p2, PairIn ((D9, lstObj (pRefs p2) (pRefs p2).length) :: (e2 ++ b5)) p := fun p hp => by
        obtain ⟨q1, q2, q3, q4⟩ := hpi2 p hp
        exact ⟨q1, q2, q3, .tail _ (List.mem_append_left _ q4)⟩
      have hpiP : ∀ p ∈ ps, PairIn ((D9, lstObj (pRefs p2) (pRefs p2).length) :: (e2 ++ b5)) p := fun p hp => by
        obtain ⟨q1, q2, q3, q4⟩ := hpi p hp
        exact ⟨q1, q2, q3, .tail _ (List.mem_append_right _ (by rw [← hc5]; exact List.mem_append_left _ (.tail _ q4)))⟩
      generalize hB : (D9, lstObj (pRefs p2) (pRefs p2).length) :: (e2 ++ b5) = bB at *
      have hsub : ∀ q ∈ (rr, lstObj (valsOf ring) nr) :: (tl, lstObj (refsOf xs) n) :: rest, q ∈ bB := fun q hq => by
        rw [← hB]
        exact .tail _ (List.mem_append_right _ (by rw [← hc5]; exact List.mem_append_right _ (.tail _ (.tail _ hq))))
      clear hc5
      dsimp only
      (repeat' ((fail_if_success (with_reducible (first | show gz2 | show gz3 | show gz4 | show gz5 | show gz6 | show gz7 | show gz8 | show gz9 | show gz10 | show gz11 | show gz12 | show gz13 | show gz14 | show gz15 | show gz31 | show gz32 | show gz33 | show gz34 | show gz29 | show gz30 | show gz35 | show gz36 | show gz37 | show gz38))); (first | ((with_reducible show wpAny _ _ (execs _ _) _ _ _); k_gentoks) | with_reducible (first | refine execs_one ?_ | (refine execs_cut ?_; intro _ _) | (refine if_cut ?_; intro _ _)) | ((fail_if_success (with_reducible show gz1)); (first | (refine Kh.go ‹_› _ _ ?_; try dsimp only [KnP]) | ((with_reducible show TurnEnd _ _ _ _ _ _); dsimp only [TurnEnd]))) | (k_unfold; (try dsimp only)) | (k_end; wrow_close) | walk1 | (dsimp only; walk1) | (leave1; try dsimp only))))
      rename News _ _ _ _ => N15
      have hp20 : (pRefs p2).isEmpty = false := by
        have : p2.length = q := by have := congrArg List.length hp2; simpa [hal] using this
        cases p2 with
        | nil => simp at this; (first | lia | omega)
        | cons a b => rfl
      refine eq_nil_N N15 (.tail _ m5B) (.head _) (by rw [units_deeper]; dsimp only [arn]; (first | lia | omega)) ?_
      rw [hp20]
      (repeat' ((fail_if_success (with_reducible (first | show gz2 | show gz3 | show gz4 | show gz5 | show gz6 | show gz7 | show gz8 | show gz9 | show gz10 | show gz11 | show gz12 | show gz13 | show gz14 | show gz15 | show gz31 | show gz32 | show gz33 | show gz34 | show gz29 | show gz30 | show gz35 | show gz36 | show gz37 | show gz38))); (first | ((with_reducible show wpAny _ _ (execs _ _) _ _ _); k_gentoks) | with_reducible (first | refine execs_one ?_ | (refine execs_cut ?_; intro _ _) | (refine if_cut ?_; intro _ _)) | ((fail_if_success (with_reducible show gz1)); (first | (refine Kh.go ‹_› _ _ ?_; try dsimp only [KnP]) | ((with_reducible show TurnEnd _ _ _ _ _ _); dsimp only [TurnEnd]))) | (k_unfold; (try dsimp only)) | (k_end; wrow_close) | walk1 | (dsimp only; walk1) | (leave1; try dsimp only))))
      rename News _ _ _ _ => N16
      refine nameX_C N16 rfl (.tail _ m5R) dR' ?_
      (repeat' ((fail_if_success (with_reducible (first | show gz2 | show gz3 | show gz4 | show gz5 | show gz6 | show gz7 | show gz8 | show gz9 | show gz10 | show gz11 | show gz12 | show gz13 | show gz14 | show gz15 | show gz31 | show gz32 | show gz33 | show gz34 | show gz29 | show gz30 | show gz35 | show gz36 | show gz37 | show gz38))); (first | ((with_reducible show wpAny _ _ (execs _ _) _ _ _); k_gentoks) | with_reducible (first | refine execs_one ?_ | (refine execs_cut ?_; intro _ _) | (refine if_cut ?_; intro _ _)) | ((fail_if_success (with_reducible show gz1)); (first | (refine Kh.go ‹_› _ _ ?_; try dsimp only [KnP]) | ((with_reducible show TurnEnd _ _ _ _ _ _); dsimp only [TurnEnd]))) | (k_unfold; (try dsimp only)) | (k_end; wrow_close) | walk1 | (dsimp only; walk1) | (leave1; try dsimp only))))
      rename News _ _ _ _ => N17
      refine nameX_C N17 rfl (.tail _ m5R) dR' ?_
      (repeat' ((fail_if_success (with_reducible (first | show gz2 | show gz3 | show gz4 | show gz5 | show gz6 | show gz7 | show gz8 | show gz9 | show gz10 | show gz11 | show gz12 | show gz13 | show gz14 | show gz15 | show gz31 | show gz32 | show gz33 | show gz34 | show gz29 | show gz30 | show gz35 | show gz36 | show gz37 | show gz38))); (first | ((with_reducible show wpAny _ _ (execs _ _) _ _ _); k_gentoks) | with_reducible (first | refine execs_one ?_ | (refine execs_cut ?_; intro _ _) | (refine if_cut ?_; intro _ _)) | ((fail_if_success (with_reducible show gz1)); (first | (refine Kh.go ‹_› _ _ ?_; try dsimp only [KnP]) | ((with_reducible show TurnEnd _ _ _ _ _ _); dsimp only [TurnEnd]))) | (k_unfold; (try dsimp only)) | (k_end; wrow_close) | walk1 | (dsimp only; walk1) | (leave1; try dsimp only))))
      rename News _ _ _ _ => N18
      rename Fr _ _ _ _ => F18
      refine list_copyK F18 N18 (lst_is N18 (.tail _ m5r)) ?_ (by rw [sizeLine_eq]; simp; (first | lia | omega))
      intro D19 c19 h19 F19 N19 l19
      (repeat' ((fail_if_success (with_reducible (first | show gz2 | show gz3 | show gz4 | show gz5 | show gz6 | show gz7 | show gz8 | show gz9 | show gz10 | show gz11 | show gz12 | show gz13 | show gz14 | show gz15 | show gz31 | show gz32 | show gz33 | show gz34 | show gz29 | show gz30 | show gz35 | show gz36 | show gz37 | show gz38))); (first | ((with_reducible show wpAny _ _ (execs _ _) _ _ _); k_gentoks) | with_reducible (first | refine execs_one ?_ | (refine execs_cut ?_; intro _ _) | (refine if_cut ?_; intro _ _)) | ((fail_if_success (with_reducible show gz1)); (first | (refine Kh.go ‹_› _ _ ?_; try dsimp only [KnP]) | ((with_reducible show TurnEnd _ _ _ _ _ _); dsimp only [TurnEnd]))) | (k_unfold; (try dsimp only)) | (k_end; wrow_close) | walk1 | (dsimp only; walk1) | (leave1; try dsimp only))))
      rename News _ _ _ _ => N20
      refine ne_ints_N N20 (.tail _ (.tail _ m5r)) (l2 := ring) (.head _) (by rw [units_deeper]; dsimp only [arn]; (first | lia | omega)) ?_
      rw [decide_eq_true rfl]
      (repeat' ((fail_if_success (with_reducible (first | show gz2 | show gz3 | show gz4 | show gz5 | show gz6 | show gz7 | show gz8 | show gz9 | show gz10 | show gz11 | show gz12 | show gz13 | show gz14 | show gz15 | show gz31 | show gz32 | show gz33 | show gz34 | show gz29 | show gz30 | show gz35 | show gz36 | show gz37 | show gz38))); (first | ((with_reducible show wpAny _ _ (execs _ _) _ _ _); k_gentoks) | with_reducible (first | refine execs_one ?_ | (refine execs_cut ?_; intro _ _) | (refine if_cut ?_; intro _ _)) | ((fail_if_success (with_reducible show gz1)); (first | (refine Kh.go ‹_› _ _ ?_; try dsimp only [KnP]) | ((with_reducible show TurnEnd _ _ _ _ _ _); dsimp only [TurnEnd]))) | (k_unfold; (try dsimp only)) | (k_end; wrow_close) | walk1 | (dsimp only; walk1) | (leave1; try dsimp only))))
      refine ex3_e (hhl) ?_
      clear hhl
      intro rc rt1 rt2 hzz
      refine an2_e hzz ?_
      clear hzz
      rintro hr0 hrl
      (try clear N15); (try clear N16); (try clear N17); (try clear N18); (try clear N19); (try clear F18)
      rename News _ _ _ _ => N21
      refine nameX_C N21 rfl (.tail _ (.tail _ m5R)) dR' ?_
      (repeat' ((fail_if_success (with_reducible (first | show gz2 | show gz3 | show gz4 | show gz5 | show gz6 | show gz7 | show gz8 | show gz9 | show gz10 | show gz11 | show gz12 | show gz13 | show gz14 | show gz15 | show gz31 | show gz32 | show gz33 | show gz34 | show gz29 | show gz30 | show gz35 | show gz36 | show gz37 | show gz38))); (first | ((with_reducible show wpAny _ _ (execs _ _) _ _ _); k_gentoks) | with_reducible (first | refine execs_one ?_ | (refine execs_cut ?_; intro _ _) | (refine if_cut ?_; intro _ _)) | ((fail_if_success (with_reducible show gz1)); (first | (refine Kh.go ‹_› _ _ ?_; try dsimp only [KnP]) | ((with_reducible show TurnEnd _ _ _ _ _ _); dsimp only [TurnEnd]))) | (k_unfold; (try dsimp only)) | (k_end; wrow_close) | walk1 | (dsimp only; walk1) | (leave1; try dsimp only))))
      rename News _ _ _ _ => N22
      refine lst_item N22 (.tail _ (.tail _ m5r)) (by (first | lia | omega)) (by (first | lia | omega)) (v := .int rc rt1) (by simp only [valsOf, List.getElem?_map]; rw [show (0 : Int).toNat = 0 by rfl, hr0]; rfl) ?_
      (repeat' ((fail_if_success (with_reducible (first | show gz2 | show gz3 | show gz4 | show gz5 | show gz6 | show gz7 | show gz8 | show gz9 | show gz10 | show gz11 | show gz12 | show gz13 | show gz14 | show gz15 | show gz31 | show gz32 | show gz33 | show gz34 | show gz29 | show gz30 | show gz35 | show gz36 | show gz37 | show gz38))); (first | ((with_reducible show wpAny _ _ (execs _ _) _ _ _); k_gentoks) | with_reducible (first | refine execs_one ?_ | (refine execs_cut ?_; intro _ _) | (refine if_cut ?_; intro _ _)) | ((fail_if_success (with_reducible show gz1)); (first | (refine Kh.go ‹_› _ _ ?_; try dsimp only [KnP]) | ((with_reducible show TurnEnd _ _ _ _ _ _); dsimp only [TurnEnd]))) | (k_unfold; (try dsimp only)) | (k_end; wrow_close) | walk1 | (dsimp only; walk1) | (leave1; try dsimp only))))
      rename News _ _ _ _ => N23
      refine nameX_C N23 rfl (.tail _ (.tail _ m5R)) dR' ?_
      (repeat' ((fail_if_success (with_reducible (first | show gz2 | show gz3 | show gz4 | show gz5 | show gz6 | show gz7 | show gz8 | show gz9 | show gz10 | show gz11 | show gz12 | show gz13 | show gz14 | show gz15 | show gz31 | show gz32 | show gz33 | show gz34 | show gz29 | show gz30 | show gz35 | show gz36 | show gz37 | show gz38))); (first | ((with_reducible show wpAny _ _ (execs _ _) _ _ _); k_gentoks) | with_reducible (first | refine execs_one ?_ | (refine execs_cut ?_; intro _ _) | (refine if_cut ?_; intro _ _)) | ((fail_if_success (with_reducible show gz1)); (first | (refine Kh.go ‹_› _ _ ?_; try dsimp only [KnP]) | ((with_reducible show TurnEnd _ _ _ _ _ _); dsimp only [TurnEnd]))) | (k_unfold; (try dsimp only)) | (k_end; wrow_close) | walk1 | (dsimp only; walk1) | (leave1; try dsimp only))))
      rename News _ _ _ _ => N24
      refine kde_neg (l := rr) (vs := valsOf ring) (j := ring.length - 1) (v := .int rc rt2) (lst_is (n := nr) N24 (.tail _ (.tail _ m5r))) (by decide) (by decide) (by simp [seqIndex?]; (first | lia | omega)) (by simp only [valsOf, List.getElem?_map]; rw [hrl]; rfl) ?_
      (repeat' ((fail_if_success (with_reducible (first | show gz2 | show gz3 | show gz4 | show gz5 | show gz6 | show gz7 | show gz8 | show gz9 | show gz10 | show gz11 | show gz12 | show gz13 | show gz14 | show gz15 | show gz31 | show gz32 | show gz33 | show gz34 | show gz29 | show gz30 | show gz35 | show gz36 | show gz37 | show gz38))); (first | ((with_reducible show wpAny _ _ (execs _ _) _ _ _); k_gentoks) | with_reducible (first | refine execs_one ?_ | (refine execs_cut ?_; intro _ _) | (refine if_cut ?_; intro _ _)) | ((fail_if_success (with_reducible show gz1)); (first | (refine Kh.go ‹_› _ _ ?_; try dsimp only [KnP]) | ((with_reducible show TurnEnd _ _ _ _ _ _); dsimp only [TurnEnd]))) | (k_unfold; (try dsimp only)) | (k_end; wrow_close) | walk1 | (dsimp only; walk1) | (leave1; try dsimp only))))
      · exact absurd rfl ‹rc ≠ rc›
      rename Fr _ _ _ _ => F25
      rename News _ _ _ _ => N25
      refine LCt.ListComp_T F25 (by with_unfolding_all rfl) (by decide) (by rfl) (by decide) (by rfl) ?_
      (repeat' ((fail_if_success (with_reducible (first | show gz2 | show gz3 | show gz4 | show gz5 | show gz6 | show gz7 | show gz8 | show gz9 | show gz10 | show gz11 | show gz12 | show gz13 | show gz14 | show gz15 | show gz31 | show gz32 | show gz33 | show gz34 | show gz29 | show gz30 | show gz35 | show gz36 | show gz37 | show gz38))); (first | ((with_reducible show wpAny _ _ (execs _ _) _ _ _); k_gentoks) | with_reducible (first | refine execs_one ?_ | (refine execs_cut ?_; intro _ _) | (refine if_cut ?_; intro _ _)) | ((fail_if_success (with_reducible show gz1)); (first | (refine Kh.go ‹_› _ _ ?_; try dsimp only [KnP]) | ((with_reducible show TurnEnd _ _ _ _ _ _); dsimp only [TurnEnd]))) | (k_unfold; (try dsimp only)) | (k_end; wrow_close) | walk1 | (dsimp only; walk1) | (leave1; try dsimp only))))
      refine nameX_C N25 rfl (.tail _ (.tail _ m5R)) dR' ?_
      (repeat' ((fail_if_success (with_reducible (first | show gz2 | show gz3 | show gz4 | show gz5 | show gz6 | show gz7 | show gz8 | show gz9 | show gz10 | show gz11 | show gz12 | show gz13 | show gz14 | show gz15 | show gz31 | show gz32 | show gz33 | show gz34 | show gz29 | show gz30 | show gz35 | show gz36 | show gz37 | show gz38))); (first | ((with_reducible show wpAny _ _ (execs _ _) _ _ _); k_gentoks) | with_reducible (first | refine execs_one ?_ | (refine execs_cut ?_; intro _ _) | (refine if_cut ?_; intro _ _)) | ((fail_if_success (with_reducible show gz1)); (first | (refine Kh.go ‹_› _ _ ?_; try dsimp only [KnP]) | ((with_reducible show TurnEnd _ _ _ _ _ _); dsimp only [TurnEnd]))) | (k_unfold; (try dsimp only)) | (k_end; wrow_close) | walk1 | (dsimp only; walk1) | (leave1; try dsimp only))))
      rename Fr _ _ _ _ => F26
      rename News _ _ _ _ => N26
      k_dflt (refine' kms_slice_lit (lo := some 1) (hi := none) (its := (valsOf ring).toArray) (zs := valsOf ring.tail) F26 N26 (lst_is N26 (.tail _ (.tail _ m5r))) ?kp ?kq ?ke ?_ ?ks ?kt ?kz; (case kp => kmk_part); (case kq => kmk_part); (case ks => with_unfolding_all rfl); (case kt => kmk_pure); (case kz => rw [sizeLine_eq]; simp; (first | lia | omega)); (case ke => exact pick_tail ring))
      intro D27 h27 F27 N27 l27
      (repeat' ((fail_if_success (with_reducible (first | show gz2 | show gz3 | show gz4 | show gz5 | show gz6 | show gz7 | show gz8 | show gz9 | show gz10 | show gz11 | show gz12 | show gz13 | show gz14 | show gz15 | show gz31 | show gz32 | show gz33 | show gz34 | show gz29 | show gz30 | show gz35 | show gz36 | show gz37 | show gz38))); (first | ((with_reducible show wpAny _ _ (execs _ _) _ _ _); k_gentoks) | with_reducible (first | refine execs_one ?_ | (refine execs_cut ?_; intro _ _) | (refine if_cut ?_; intro _ _)) | ((fail_if_success (with_reducible show gz1)); (first | (refine Kh.go ‹_› _ _ ?_; try dsimp only [KnP]) | ((with_reducible show TurnEnd _ _ _ _ _ _); dsimp only [TurnEnd]))) | (k_unfold; (try dsimp only)) | (k_end; wrow_close) | walk1 | (dsimp only; walk1) | (leave1; try dsimp only))))
      rename Fr _ _ _ _ => F28
      rename News _ _ _ _ => N28
      obtain ⟨B28, eB, N28'⟩ := nameN N28
      have m28S : (D27, lstObj (valsOf ring.tail) 0) ∈ B28 := eB ▸ .head _
      have m28P : (L1 + 1 + 1, oP') ∈ B28 := eB ▸ .tail _ (.tail _ (.tail _ m5P))
      have m28D : (D, lstObj (pRefs ps) (pRefs ps).length) ∈ B28 := eB ▸ .tail _ (.tail _ (.tail _ m5D))
      have m28B : (D9, lstObj (pRefs p2) (pRefs p2).length) ∈ B28 := eB ▸ .tail _ (.tail _ (.tail _ m5B))
      have hpiA2 : ∀ p ∈ p2, PairIn B28 p := fun p hp => by
        obtain ⟨q1, q2, q3, q4⟩ := hpiA p hp
        exact ⟨q1, q2, q3, eB ▸ .tail _ (.tail _ (.tail _ q4))⟩
      have hpiP2 : ∀ p ∈ ps, PairIn B28 p := fun p hp => by
        obtain ⟨q1, q2, q3, q4⟩ := hpiP p hp
        exact ⟨q1, q2, q3, eB ▸ .tail _ (.tail _ (.tail _ q4))⟩
      have m28R : (L1 + 1, oR) ∈ B28 := eB ▸ .tail _ (.tail _ (.tail _ m5R))
      have m28r : (rr, lstObj (valsOf ring) nr) ∈ B28 := eB ▸ .tail _ (.tail _ (.tail _ m5r))
      refine LCt.CompSrcT.ledger (k := 0) (by rfl) F28 N28' m28S (by rw [sizeLine_eq]; simp; (first | lia | omega)) ?_
      intro g29
      (try clear N28); (try clear N27); (try clear N26); (try clear N25); (try clear N24); (try clear N23); (try clear N22); (try clear N21); (try clear N20); (try clear F27); (try clear F26); (try clear F25); (try clear F19)
      refine comp_indT (fun i ys nw => ys = [] ∧ nw = B28) ⟨rfl, rfl⟩ ?_ ?_
      · rintro ys nw ⟨rfl, rfl⟩
        intro D30 h30 tk30 F30 N30 off30
        (repeat' ((fail_if_success (with_reducible (first | show gz2 | show gz3 | show gz4 | show gz5 | show gz6 | show gz7 | show gz8 | show gz9 | show gz10 | show gz11 | show gz12 | show gz13 | show gz14 | show gz15 | show gz31 | show gz32 | show gz33 | show gz34 | show gz29 | show gz30 | show gz35 | show gz36 | show gz37 | show gz38))); (first | ((with_reducible show wpAny _ _ (execs _ _) _ _ _); k_gentoks) | with_reducible (first | refine execs_one ?_ | (refine execs_cut ?_; intro _ _) | (refine if_cut ?_; intro _ _)) | ((fail_if_success (with_reducible show gz1)); (first | (refine Kh.go ‹_› _ _ ?_; try dsimp only [KnP]) | ((with_reducible show TurnEnd _ _ _ _ _ _); dsimp only [TurnEnd]))) | (k_unfold; (try dsimp only)) | (k_end; wrow_close) | walk1 | (dsimp only; walk1) | (leave1; try dsimp only))))
        rename News _ _ _ _ => N31
        refine ne_nil_N N31 (vs := []) (na := 0) (.tail _ (.head _)) (.head _) (by rw [units_deeper]; dsimp only [arn]; (first | lia | omega)) ?_
        (repeat' ((fail_if_success (with_reducible (first | show gz2 | show gz3 | show gz4 | show gz5 | show gz6 | show gz7 | show gz8 | show gz9 | show gz10 | show gz11 | show gz12 | show gz13 | show gz14 | show gz15 | show gz31 | show gz32 | show gz33 | show gz34 | show gz29 | show gz30 | show gz35 | show gz36 | show gz37 | show gz38))); (first | ((with_reducible show wpAny _ _ (execs _ _) _ _ _); k_gentoks) | with_reducible (first | refine execs_one ?_ | (refine execs_cut ?_; intro _ _) | (refine if_cut ?_; intro _ _)) | ((fail_if_success (with_reducible show gz1)); (first | (refine Kh.go ‹_› _ _ ?_; try dsimp only [KnP]) | ((with_reducible show TurnEnd _ _ _ _ _ _); dsimp only [TurnEnd]))) | (k_unfold; (try dsimp only)) | (k_end; wrow_close) | walk1 | (dsimp only; walk1) | (leave1; try dsimp only))))
        · rename News _ _ _ _ => N32
          refine nameX_C N32 rfl (.tail _ (.tail _ m28P)) dP5 ?_
          (repeat' ((fail_if_success (with_reducible (first | show gz2 | show gz3 | show gz4 | show gz5 | show gz6 | show gz7 | show gz8 | show gz9 | show gz10 | show gz11 | show gz12 | show gz13 | show gz14 | show gz15 | show gz31 | show gz32 | show gz33 | show gz34 | show gz29 | show gz30 | show gz35 | show gz36 | show gz37 | show gz38))); (first | ((with_reducible show wpAny _ _ (execs _ _) _ _ _); k_gentoks) | with_reducible (first | refine execs_one ?_ | (refine execs_cut ?_; intro _ _) | (refine if_cut ?_; intro _ _)) | ((fail_if_success (with_reducible show gz1)); (first | (refine Kh.go ‹_› _ _ ?_; try dsimp only [KnP]) | ((with_reducible show TurnEnd _ _ _ _ _ _); dsimp only [TurnEnd]))) | (k_unfold; (try dsimp only)) | (k_end; wrow_close) | walk1 | (dsimp only; walk1) | (leave1; try dsimp only))))
          rename News _ _ _ _ => N33
          obtain ⟨pw, hpw1, hpw2⟩ := hnew (by assumption)
          obtain ⟨pl, hpl1, hpl2, hpl3⟩ := last_pair hps hpw1
          have hplm : pl ∈ ps := List.mem_of_getElem? hpl1
          refine kde_neg (l := D) (vs := pRefs ps) (j := ps.length - 1) (v := .ref pl.1) (lst_is (n := (pRefs ps).length) N33 (.tail _ (.tail _ m28D))) (by decide) (by decide) (by simp [seqIndex?]; (first | lia | omega)) (by simp [pRefs, hpl1]) ?_
          (repeat' ((fail_if_success (with_reducible (first | show gz2 | show gz3 | show gz4 | show gz5 | show gz6 | show gz7 | show gz8 | show gz9 | show gz10 | show gz11 | show gz12 | show gz13 | show gz14 | show gz15 | show gz31 | show gz32 | show gz33 | show gz34 | show gz29 | show gz30 | show gz35 | show gz36 | show gz37 | show gz38))); (first | ((with_reducible show wpAny _ _ (execs _ _) _ _ _); k_gentoks) | with_reducible (first | refine execs_one ?_ | (refine execs_cut ?_; intro _ _) | (refine if_cut ?_; intro _ _)) | ((fail_if_success (with_reducible show gz1)); (first | (refine Kh.go ‹_› _ _ ?_; try dsimp only [KnP]) | ((with_reducible show TurnEnd _ _ _ _ _ _); dsimp only [TurnEnd]))) | (k_unfold; (try dsimp only)) | (k_end; wrow_close) | walk1 | (dsimp only; walk1) | (leave1; try dsimp only))))
          rename News _ _ _ _ => N34
          refine notIn_pairs N34 (p := pl) (ps := p2) ?_ ?_ (.tail _ (.tail _ m28B)) (by rw [units_deeper]; dsimp only [arn]; (first | lia | omega)) ?_
          · obtain ⟨q1, q2, q3, q4⟩ := hpiP2 pl hplm
            exact ⟨q1, q2, q3, .tail _ (.tail _ q4)⟩
          · intro p hp
            obtain ⟨q1, q2, q3, q4⟩ := hpiA2 p hp
            exact ⟨q1, q2, q3, .tail _ (.tail _ q4)⟩
          rw [hp2, hpl2, decide_eq_true hpw2]
          (repeat' ((fail_if_success (with_reducible (first | show gz2 | show gz3 | show gz4 | show gz5 | show gz6 | show gz7 | show gz8 | show gz9 | show gz10 | show gz11 | show gz12 | show gz13 | show gz14 | show gz15 | show gz31 | show gz32 | show gz33 | show gz34 | show gz29 | show gz30 | show gz35 | show gz36 | show gz37 | show gz38))); (first | ((with_reducible show wpAny _ _ (execs _ _) _ _ _); k_gentoks) | with_reducible (first | refine execs_one ?_ | (refine execs_cut ?_; intro _ _) | (refine if_cut ?_; intro _ _)) | ((fail_if_success (with_reducible show gz1)); (first | (refine Kh.go ‹_› _ _ ?_; try dsimp only [KnP]) | ((with_reducible show TurnEnd _ _ _ _ _ _); dsimp only [TurnEnd]))) | (k_unfold; (try dsimp only)) | (k_end; wrow_close) | walk1 | (dsimp only; walk1) | (leave1; try dsimp only))))
          rename Fr _ _ _ _ => F35
          rename News _ _ _ _ => N35
          refine LCt.ListComp_T F35 (by with_unfolding_all rfl) (by decide) (by rfl) (by decide) (by rfl) ?_
          (repeat' ((fail_if_success (with_reducible (first | show gz2 | show gz3 | show gz4 | show gz5 | show gz6 | show gz7 | show gz8 | show gz9 | show gz10 | show gz11 | show gz12 | show gz13 | show gz14 | show gz15 | show gz31 | show gz32 | show gz33 | show gz34 | show gz29 | show gz30 | show gz35 | show gz36 | show gz37 | show gz38))); (first | ((with_reducible show wpAny _ _ (execs _ _) _ _ _); k_gentoks) | with_reducible (first | refine execs_one ?_ | (refine execs_cut ?_; intro _ _) | (refine if_cut ?_; intro _ _)) | ((fail_if_success (with_reducible show gz1)); (first | (refine Kh.go ‹_› _ _ ?_; try dsimp only [KnP]) | ((with_reducible show TurnEnd _ _ _ _ _ _); dsimp only [TurnEnd]))) | (k_unfold; (try dsimp only)) | (k_end; wrow_close) | walk1 | (dsimp only; walk1) | (leave1; try dsimp only))))
          rename Fr _ _ _ _ => F36
          rename News _ _ _ _ => N36
          obtain ⟨B36, eB6, N36'⟩ := nameN N36
          have m36B : (D9, lstObj (pRefs p2) (pRefs p2).length) ∈ B36 := eB6 ▸ .tail _ (.tail _ m28B)
          have m36P : (L1 + 1 + 1, oP') ∈ B36 := eB6 ▸ .tail _ (.tail _ m28P)
          have m36D : (D, lstObj (pRefs ps) (pRefs ps).length) ∈ B36 := eB6 ▸ .tail _ (.tail _ m28D)
          have hpA6 : ∀ p ∈ p2, PairIn B36 p := fun p hp => by
            obtain ⟨q1, q2, q3, q4⟩ := hpiA2 p hp
            exact ⟨q1, q2, q3, eB6 ▸ .tail _ (.tail _ q4)⟩
          have hpP6 : ∀ p ∈ ps, PairIn B36 p := fun p hp => by
            obtain ⟨q1, q2, q3, q4⟩ := hpiP2 p hp
            exact ⟨q1, q2, q3, eB6 ▸ .tail _ (.tail _ q4)⟩
          have hp2l : p2.length ≤ 16 := by have := congrArg List.length hp2; rw [List.length_map, hal] at this; (first | lia | omega)
          refine LCt.CompSrcT.ledger (k := (pRefs p2).length) (by rfl) F36 N36' m36B (by rw [sizeLine_eq]; simp; (first | lia | omega)) ?_
          intro g37
          (try clear N36); (try clear N35); (try clear N34); (try clear N33); (try clear N32); (try clear N31); (try clear N30); (try clear F35); (try clear F33); (try clear F30)
          refine comp_indT (fun i ys nw => ys = [] ∧ nw = B36) ⟨rfl, rfl⟩ ?_ ?_
          · rintro ys nw ⟨rfl, rfl⟩
            intro D38 h38 tk38 F38 N38 off38
            (repeat' ((fail_if_success (with_reducible (first | show gz2 | show gz3 | show gz4 | show gz5 | show gz6 | show gz7 | show gz8 | show gz9 | show gz10 | show gz11 | show gz12 | show gz13 | show gz14 | show gz15 | show gz31 | show gz32 | show gz33 | show gz34 | show gz29 | show gz30 | show gz35 | show gz36 | show gz37 | show gz38))); (first | ((with_reducible show wpAny _ _ (execs _ _) _ _ _); k_gentoks) | with_reducible (first | refine execs_one ?_ | (refine execs_cut ?_; intro _ _) | (refine if_cut ?_; intro _ _)) | ((fail_if_success (with_reducible show gz1)); (first | (refine Kh.go ‹_› _ _ ?_; try dsimp only [KnP]) | ((with_reducible show TurnEnd _ _ _ _ _ _); dsimp only [TurnEnd]))) | (k_unfold; (try dsimp only)) | (k_end; wrow_close) | walk1 | (dsimp only; walk1) | (leave1; try dsimp only))))
            rename News _ _ _ _ => N39
            refine eq_nil_N N39 (vs := []) (na := 0) (.tail _ (.head _)) (.head _) (by rw [units_deeper]; dsimp only [arn]; (first | lia | omega)) ?_
            (repeat' ((fail_if_success (with_reducible (first | show gz2 | show gz3 | show gz4 | show gz5 | show gz6 | show gz7 | show gz8 | show gz9 | show gz10 | show gz11 | show gz12 | show gz13 | show gz14 | show gz15 | show gz31 | show gz32 | show gz33 | show gz34 | show gz29 | show gz30 | show gz35 | show gz36 | show gz37 | show gz38))); (first | ((with_reducible show wpAny _ _ (execs _ _) _ _ _); k_gentoks) | with_reducible (first | refine execs_one ?_ | (refine execs_cut ?_; intro _ _) | (refine if_cut ?_; intro _ _)) | ((fail_if_success (with_reducible show gz1)); (first | (refine Kh.go ‹_› _ _ ?_; try dsimp only [KnP]) | ((with_reducible show TurnEnd _ _ _ _ _ _); dsimp only [TurnEnd]))) | (k_unfold; (try dsimp only)) | (k_end; wrow_close) | walk1 | (dsimp only; walk1) | (leave1; try dsimp only))))
            rename Fr _ _ _ _ => F41
            rename News _ _ _ _ => N41
            exact ret _ _ F41 fun q hq => N41 q (.tail _ (.tail _ (eB6 ▸ .tail _ (.tail _ (eB ▸ .tail _ (.tail _ (.tail _ (hsub q hq))))))))
          · rintro i ys nw hi ⟨rfl, rfl⟩ so3 mo3 v I oI C oC D38 m38 h38 tk38 E38 hv38 hC38 hm38 F38 N38 off38 ne38 T3z U3z h3z k3z
            (try clear N36'); (try clear F36)
            obtain ⟨pk, hpk⟩ : ∃ y, p2[i]? = some y := ⟨p2[i]'(by simpa using hi), List.getElem?_eq_getElem _⟩
            have hv39 : v = .ref pk.1 := by
              simp only [pRefs, List.getElem?_toArray, List.getElem?_map, hpk] at hv38
              exact (Option.some.inj hv38).symm
            subst hv39
            have hpkm : pk ∈ p2 := List.mem_of_getElem? hpk
            (repeat' ((fail_if_success (with_reducible (first | show gz2 | show gz3 | show gz4 | show gz5 | show gz6 | show gz7 | show gz8 | show gz9 | show gz10 | show gz11 | show gz12 | show gz13 | show gz14 | show gz15 | show gz31 | show gz32 | show gz33 | show gz34 | show gz29 | show gz30 | show gz35 | show gz36 | show gz37 | show gz38))); (first | ((with_reducible show wpAny _ _ (execs _ _) _ _ _); k_gentoks) | with_reducible (first | refine execs_one ?_ | (refine execs_cut ?_; intro _ _) | (refine if_cut ?_; intro _ _)) | ((fail_if_success (with_reducible show gz1)); (first | (refine Kh.go ‹_› _ _ ?_; try dsimp only [KnP]) | ((with_reducible show TurnEnd _ _ _ _ _ _); dsimp only [TurnEnd]))) | (k_unfold; (try dsimp only)) | (k_end; wrow_close) | walk1 | (dsimp only; walk1) | (leave1; try dsimp only))))
            rename News _ _ _ _ => N39
            refine lcf_cell N39 rfl (.tail _ (.tail _ (.tail _ m36P))) dP5 ?_ (by rfl) (by rfl)
            (repeat' ((fail_if_success (with_reducible (first | show gz2 | show gz3 | show gz4 | show gz5 | show gz6 | show gz7 | show gz8 | show gz9 | show gz10 | show gz11 | show gz12 | show gz13 | show gz14 | show gz15 | show gz31 | show gz32 | show gz33 | show gz34 | show gz29 | show gz30 | show gz35 | show gz36 | show gz37 | show gz38))); (first | ((with_reducible show wpAny _ _ (execs _ _) _ _ _); k_gentoks) | with_reducible (first | refine execs_one ?_ | (refine execs_cut ?_; intro _ _) | (refine if_cut ?_; intro _ _)) | ((fail_if_success (with_reducible show gz1)); (first | (refine Kh.go ‹_› _ _ ?_; try dsimp only [KnP]) | ((with_reducible show TurnEnd _ _ _ _ _ _); dsimp only [TurnEnd]))) | (k_unfold; (try dsimp only)) | (k_end; wrow_close) | walk1 | (dsimp only; walk1) | (leave1; try dsimp only))))
            rename Fr _ _ _ _ => F40
            rename News _ _ _ _ => N40
            refine notIn_pairs N40 (p := pk) (ps := ps) ?_ ?_ (.tail _ (.tail _ (.tail _ m36D))) (by (try rw [units_deeper]); dsimp only [arn]; (first | lia | omega)) ?_
            · obtain ⟨q1, q2, q3, q4⟩ := hpA6 pk hpkm
              exact ⟨q1, q2, q3, .tail _ (.tail _ (.tail _ q4))⟩
            · intro p hp
              obtain ⟨q1, q2, q3, q4⟩ := hpP6 p hp
              exact ⟨q1, q2, q3, .tail _ (.tail _ (.tail _ q4))⟩
            rw [hps, decide_eq_true (hin pk.2 (hp2 ▸ List.mem_map.mpr ⟨pk, hpkm, rfl⟩))]
            (repeat' ((fail_if_success (with_reducible (first | show gz2 | show gz3 | show gz4 | show gz5 | show gz6 | show gz7 | show gz8 | show gz9 | show gz10 | show gz11 | show gz12 | show gz13 | show gz14 | show gz15 | show gz31 | show gz32 | show gz33 | show gz34 | show gz29 | show gz30 | show gz35 | show gz36 | show gz37 | show gz38))); (first | ((with_reducible show wpAny _ _ (execs _ _) _ _ _); k_gentoks) | with_reducible (first | refine execs_one ?_ | (refine execs_cut ?_; intro _ _) | (refine if_cut ?_; intro _ _)) | ((fail_if_success (with_reducible show gz1)); (first | (refine Kh.go ‹_› _ _ ?_; try dsimp only [KnP]) | ((with_reducible show TurnEnd _ _ _ _ _ _); dsimp only [TurnEnd]))) | (k_unfold; (try dsimp only)) | (k_end; wrow_close) | walk1 | (dsimp only; walk1) | (leave1; try dsimp only))))
            exact StopP (k3z _) (ex3_i _ _ nw (an7_i rfl F40 (fun q hq => N40 q hq) off38 (.inr ⟨_, m36B, rfl, _, rfl⟩) rfl rfl))
        · rename Fr _ _ _ _ => F35
          rename News _ _ _ _ => N35
          refine LCt.ListComp_T F35 (by with_unfolding_all rfl) (by decide) (by rfl) (by decide) (by rfl) ?_
          (repeat' ((fail_if_success (with_reducible (first | show gz2 | show gz3 | show gz4 | show gz5 | show gz6 | show gz7 | show gz8 | show gz9 | show gz10 | show gz11 | show gz12 | show gz13 | show gz14 | show gz15 | show gz31 | show gz32 | show gz33 | show gz34 | show gz29 | show gz30 | show gz35 | show gz36 | show gz37 | show gz38))); (first | ((with_reducible show wpAny _ _ (execs _ _) _ _ _); k_gentoks) | with_reducible (first | refine execs_one ?_ | (refine execs_cut ?_; intro _ _) | (refine if_cut ?_; intro _ _)) | ((fail_if_success (with_reducible show gz1)); (first | (refine Kh.go ‹_› _ _ ?_; try dsimp only [KnP]) | ((with_reducible show TurnEnd _ _ _ _ _ _); dsimp only [TurnEnd]))) | (k_unfold; (try dsimp only)) | (k_end; wrow_close) | walk1 | (dsimp only; walk1) | (leave1; try dsimp only))))
          rename Fr _ _ _ _ => F36
          rename News _ _ _ _ => N36
          obtain ⟨B36, eB6, N36'⟩ := nameN N36
          have m36B : (D9, lstObj (pRefs p2) (pRefs p2).length) ∈ B36 := eB6 ▸ .tail _ (.tail _ m28B)
          have m36P : (L1 + 1 + 1, oP') ∈ B36 := eB6 ▸ .tail _ (.tail _ m28P)
          have m36D : (D, lstObj (pRefs ps) (pRefs ps).length) ∈ B36 := eB6 ▸ .tail _ (.tail _ m28D)
          have hpA6 : ∀ p ∈ p2, PairIn B36 p := fun p hp => by
            obtain ⟨q1, q2, q3, q4⟩ := hpiA2 p hp
            exact ⟨q1, q2, q3, eB6 ▸ .tail _ (.tail _ q4)⟩
          have hpP6 : ∀ p ∈ ps, PairIn B36 p := fun p hp => by
            obtain ⟨q1, q2, q3, q4⟩ := hpiP2 p hp
            exact ⟨q1, q2, q3, eB6 ▸ .tail _ (.tail _ q4)⟩
          have hp2l : p2.length ≤ 16 := by have := congrArg List.length hp2; rw [List.length_map, hal] at this; (first | lia | omega)
          refine LCt.CompSrcT.ledger (k := (pRefs p2).length) (by rfl) F36 N36' m36B (by rw [sizeLine_eq]; simp; (first | lia | omega)) ?_
          intro g37
          (try clear N36); (try clear N35); (try clear N34); (try clear N33); (try clear N32); (try clear N31); (try clear N30); (try clear F35); (try clear F33); (try clear F30)
          refine comp_indT (fun i ys nw => ys = [] ∧ nw = B36) ⟨rfl, rfl⟩ ?_ ?_
          · rintro ys nw ⟨rfl, rfl⟩
            intro D38 h38 tk38 F38 N38 off38
            (repeat' ((fail_if_success (with_reducible (first | show gz2 | show gz3 | show gz4 | show gz5 | show gz6 | show gz7 | show gz8 | show gz9 | show gz10 | show gz11 | show gz12 | show gz13 | show gz14 | show gz15 | show gz31 | show gz32 | show gz33 | show gz34 | show gz29 | show gz30 | show gz35 | show gz36 | show gz37 | show gz38))); (first | ((with_reducible show wpAny _ _ (execs _ _) _ _ _); k_gentoks) | with_reducible (first | refine execs_one ?_ | (refine execs_cut ?_; intro _ _) | (refine if_cut ?_; intro _ _)) | ((fail_if_success (with_reducible show gz1)); (first | (refine Kh.go ‹_› _ _ ?_; try dsimp only [KnP]) | ((with_reducible show TurnEnd _ _ _ _ _ _); dsimp only [TurnEnd]))) | (k_unfold; (try dsimp only)) | (k_end; wrow_close) | walk1 | (dsimp only; walk1) | (leave1; try dsimp only))))
            rename News _ _ _ _ => N39
            refine eq_nil_N N39 (vs := []) (na := 0) (.tail _ (.head _)) (.head _) (by rw [units_deeper]; dsimp only [arn]; (first | lia | omega)) ?_
            (repeat' ((fail_if_success (with_reducible (first | show gz2 | show gz3 | show gz4 | show gz5 | show gz6 | show gz7 | show gz8 | show gz9 | show gz10 | show gz11 | show gz12 | show gz13 | show gz14 | show gz15 | show gz31 | show gz32 | show gz33 | show gz34 | show gz29 | show gz30 | show gz35 | show gz36 | show gz37 | show gz38))); (first | ((with_reducible show wpAny _ _ (execs _ _) _ _ _); k_gentoks) | with_reducible (first | refine execs_one ?_ | (refine execs_cut ?_; intro _ _) | (refine if_cut ?_; intro _ _)) | ((fail_if_success (with_reducible show gz1)); (first | (refine Kh.go ‹_› _ _ ?_; try dsimp only [KnP]) | ((with_reducible show TurnEnd _ _ _ _ _ _); dsimp only [TurnEnd]))) | (k_unfold; (try dsimp only)) | (k_end; wrow_close) | walk1 | (dsimp only; walk1) | (leave1; try dsimp only))))
            rename Fr _ _ _ _ => F41
            rename News _ _ _ _ => N41
            exact ret _ _ F41 fun q hq => N41 q (.tail _ (.tail _ (eB6 ▸ .tail _ (.tail _ (eB ▸ .tail _ (.tail _ (.tail _ (hsub q hq))))))))
          · rintro i ys nw hi ⟨rfl, rfl⟩ so4 mo4 v I oI C oC D38 m38 h38 tk38 E38 hv38 hC38 hm38 F38 N38 off38 ne38 T4z U4z h4z k4z
            (try clear N36'); (try clear F36)
            obtain ⟨pk, hpk⟩ : ∃ y, p2[i]? = some y := ⟨p2[i]'(by simpa using hi), List.getElem?_eq_getElem _⟩
            have hv39 : v = .ref pk.1 := by
              simp only [pRefs, List.getElem?_toArray, List.getElem?_map, hpk] at hv38
              exact (Option.some.inj hv38).symm
            subst hv39
            have hpkm : pk ∈ p2 := List.mem_of_getElem? hpk
            (repeat' ((fail_if_success (with_reducible (first | show gz2 | show gz3 | show gz4 | show gz5 | show gz6 | show gz7 | show gz8 | show gz9 | show gz10 | show gz11 | show gz12 | show gz13 | show gz14 | show gz15 | show gz31 | show gz32 | show gz33 | show gz34 | show gz29 | show gz30 | show gz35 | show gz36 | show gz37 | show gz38))); (first | ((with_reducible show wpAny _ _ (execs _ _) _ _ _); k_gentoks) | with_reducible (first | refine execs_one ?_ | (refine execs_cut ?_; intro _ _) | (refine if_cut ?_; intro _ _)) | ((fail_if_success (with_reducible show gz1)); (first | (refine Kh.go ‹_› _ _ ?_; try dsimp only [KnP]) | ((with_reducible show TurnEnd _ _ _ _ _ _); dsimp only [TurnEnd]))) | (k_unfold; (try dsimp only)) | (k_end; wrow_close) | walk1 | (dsimp only; walk1) | (leave1; try dsimp only))))
            rename News _ _ _ _ => N39
            refine lcf_cell N39 rfl (.tail _ (.tail _ (.tail _ m36P))) dP5 ?_ (by rfl) (by rfl)
            (repeat' ((fail_if_success (with_reducible (first | show gz2 | show gz3 | show gz4 | show gz5 | show gz6 | show gz7 | show gz8 | show gz9 | show gz10 | show gz11 | show gz12 | show gz13 | show gz14 | show gz15 | show gz31 | show gz32 | show gz33 | show gz34 | show gz29 | show gz30 | show gz35 | show gz36 | show gz37 | show gz38))); (first | ((with_reducible show wpAny _ _ (execs _ _) _ _ _); k_gentoks) | with_reducible (first | refine execs_one ?_ | (refine execs_cut ?_; intro _ _) | (refine if_cut ?_; intro _ _)) | ((fail_if_success (with_reducible show gz1)); (first | (refine Kh.go ‹_› _ _ ?_; try dsimp only [KnP]) | ((with_reducible show TurnEnd _ _ _ _ _ _); dsimp only [TurnEnd]))) | (k_unfold; (try dsimp only)) | (k_end; wrow_close) | walk1 | (dsimp only; walk1) | (leave1; try dsimp only))))
            rename Fr _ _ _ _ => F40
            rename News _ _ _ _ => N40
            refine notIn_pairs N40 (p := pk) (ps := ps) ?_ ?_ (.tail _ (.tail _ (.tail _ m36D))) (by (try rw [units_deeper]); dsimp only [arn]; (first | lia | omega)) ?_
            · obtain ⟨q1, q2, q3, q4⟩ := hpA6 pk hpkm
              exact ⟨q1, q2, q3, .tail _ (.tail _ (.tail _ q4))⟩
            · intro p hp
              obtain ⟨q1, q2, q3, q4⟩ := hpP6 p hp
              exact ⟨q1, q2, q3, .tail _ (.tail _ (.tail _ q4))⟩
            rw [hps, decide_eq_true (hin pk.2 (hp2 ▸ List.mem_map.mpr ⟨pk, hpkm, rfl⟩))]
            (repeat' ((fail_if_success (with_reducible (first | show gz2 | show gz3 | show gz4 | show gz5 | show gz6 | show gz7 | show gz8 | show gz9 | show gz10 | show gz11 | show gz12 | show gz13 | show gz14 | show gz15 | show gz31 | show gz32 | show gz33 | show gz34 | show gz29 | show gz30 | show gz35 | show gz36 | show gz37 | show gz38))); (first | ((with_reducible show wpAny _ _ (execs _ _) _ _ _); k_gentoks) | with_reducible (first | refine execs_one ?_ | (refine execs_cut ?_; intro _ _) | (refine if_cut ?_; intro _ _)) | ((fail_if_success (with_reducible show gz1)); (first | (refine Kh.go ‹_› _ _ ?_; try dsimp only [KnP]) | ((with_reducible show TurnEnd _ _ _ _ _ _); dsimp only [TurnEnd]))) | (k_unfold; (try dsimp only)) | (k_end; wrow_close) | walk1 | (dsimp only; walk1) | (leave1; try dsimp only))))
            exact StopP (k4z _) (ex3_i _ _ nw (an7_i rfl F40 (fun q hq => N40 q hq) off38 (.inr ⟨_, m36B, rfl, _, rfl⟩) rfl rfl))
      · rintro i ys nw hi ⟨rfl, rfl⟩ so5 mo5 v I oI C oC D30 m30 h30 tk30 E30 hv30 hC30 hm30 F30 N30 off30 ne30 T5z U5z h5z k5z
        (try clear N28'); (try clear F28)
        (repeat' ((fail_if_success (with_reducible (first | show gz2 | show gz3 | show gz4 | show gz5 | show gz6 | show gz7 | show gz8 | show gz9 | show gz10 | show gz11 | show gz12 | show gz13 | show gz14 | show gz15 | show gz31 | show gz32 | show gz33 | show gz34 | show gz29 | show gz30 | show gz35 | show gz36 | show gz37 | show gz38))); (first | ((with_reducible show wpAny _ _ (execs _ _) _ _ _); k_gentoks) | with_reducible (first | refine execs_one ?_ | (refine execs_cut ?_; intro _ _) | (refine if_cut ?_; intro _ _)) | ((fail_if_success (with_reducible show gz1)); (first | (refine Kh.go ‹_› _ _ ?_; try dsimp only [KnP]) | ((with_reducible show TurnEnd _ _ _ _ _ _); dsimp only [TurnEnd]))) | (k_unfold; (try dsimp only)) | (k_end; wrow_close) | walk1 | (dsimp only; walk1) | (leave1; try dsimp only))))
        rename News _ _ _ _ => N31
        refine lcf_cell N31 rfl (.tail _ (.tail _ (.tail _ m28R))) dR' ?_ (by rfl) (by rfl)
        (repeat' ((fail_if_success (with_reducible (first | show gz2 | show gz3 | show gz4 | show gz5 | show gz6 | show gz7 | show gz8 | show gz9 | show gz10 | show gz11 | show gz12 | show gz13 | show gz14 | show gz15 | show gz31 | show gz32 | show gz33 | show gz34 | show gz29 | show gz30 | show gz35 | show gz36 | show gz37 | show gz38))); (first | ((with_reducible show wpAny _ _ (execs _ _) _ _ _); k_gentoks) | with_reducible (first | refine execs_one ?_ | (refine execs_cut ?_; intro _ _) | (refine if_cut ?_; intro _ _)) | ((fail_if_success (with_reducible show gz1)); (first | (refine Kh.go ‹_› _ _ ?_; try dsimp only [KnP]) | ((with_reducible show TurnEnd _ _ _ _ _ _); dsimp only [TurnEnd]))) | (k_unfold; (try dsimp only)) | (k_end; wrow_close) | walk1 | (dsimp only; walk1) | (leave1; try dsimp only))))
        rename Fr _ _ _ _ => F32
        rename News _ _ _ _ => N32
        k_dflt (refine' kms_slice_lit (lo := some 1) (hi := none) (its := (valsOf ring).toArray) (zs := valsOf ring.tail) F32 N32 (lst_is N32 (.tail _ (.tail _ (.tail _ m28r)))) ?kp ?kq ?ke ?_ ?ks ?kt ?kz; (case kp => kmk_part); (case kq => kmk_part); (case ks => with_unfolding_all rfl); (case kt => kmk_pure); (case kz => rw [sizeLine_eq]; simp; (first | lia | omega)); (case ke => exact pick_tail ring))
        intro D33 h33 F33 N33 l33
        (repeat' ((fail_if_success (with_reducible (first | show gz2 | show gz3 | show gz4 | show gz5 | show gz6 | show gz7 | show gz8 | show gz9 | show gz10 | show gz11 | show gz12 | show gz13 | show gz14 | show gz15 | show gz31 | show gz32 | show gz33 | show gz34 | show gz29 | show gz30 | show gz35 | show gz36 | show gz37 | show gz38))); (first | ((with_reducible show wpAny _ _ (execs _ _) _ _ _); k_gentoks) | with_reducible (first | refine execs_one ?_ | (refine execs_cut ?_; intro _ _) | (refine if_cut ?_; intro _ _)) | ((fail_if_success (with_reducible show gz1)); (first | (refine Kh.go ‹_› _ _ ?_; try dsimp only [KnP]) | ((with_reducible show TurnEnd _ _ _ _ _ _); dsimp only [TurnEnd]))) | (k_unfold; (try dsimp only)) | (k_end; wrow_close) | walk1 | (dsimp only; walk1) | (leave1; try dsimp only))))
        rename Fr _ _ _ _ => F34
        rename News _ _ _ _ => N34
        obtain ⟨⟨kv, kt⟩, hkv⟩ : ∃ y, ring.tail[i]? = some y := ⟨ring.tail[i]'(by simpa using hi), List.getElem?_eq_getElem _⟩
        have hv31 : v = .int kv kt := by
          simp only [valsOf, List.getElem?_toArray, List.getElem?_map, hkv] at hv30
          exact (Option.some.inj hv30).symm
        subst hv31
        refine count_list_ints (lst_is N34 (.head _)) (ints_vals ring.tail) ?_
        have hc1 : (ring.tail.map (fun q : Int × Tok => q.1)).count kv = 1 := count_one hnd (List.mem_map.mpr ⟨_, List.mem_of_getElem? hkv, rfl⟩)
        rw [hc1]
        (repeat' ((fail_if_success (with_reducible (first | show gz2 | show gz3 | show gz4 | show gz5 | show gz6 | show gz7 | show gz8 | show gz9 | show gz10 | show gz11 | show gz12 | show gz13 | show gz14 | show gz15 | show gz31 | show gz32 | show gz33 | show gz34 | show gz29 | show gz30 | show gz35 | show gz36 | show gz37 | show gz38))); (first | ((with_reducible show wpAny _ _ (execs _ _) _ _ _); k_gentoks) | with_reducible (first | refine execs_one ?_ | (refine execs_cut ?_; intro _ _) | (refine if_cut ?_; intro _ _)) | ((fail_if_success (with_reducible show gz1)); (first | (refine Kh.go ‹_› _ _ ?_; try dsimp only [KnP]) | ((with_reducible show TurnEnd _ _ _ _ _ _); dsimp only [TurnEnd]))) | (k_unfold; (try dsimp only)) | (k_end; wrow_close) | walk1 | (dsimp only; walk1) | (leave1; try dsimp only))))
        exact StopP (k5z _) (ex3_i _ _ nw (an7_i rfl F34 (fun q hq => N34 q (.tail _ hq)) off30 (.inr ⟨_, m28S, rfl, _, rfl⟩) rfl rfl))
    · intro i ys nw hi hzz
      refine ex2_e hzz ?_
      clear hzz
      intro p2 e2 hzz
      refine an5_e hzz ?_
      clear hzz
      rintro rfl hp2 rfl ha9 hpi2 so6 mo6 v I oI C oC D9 m9 h9 tk9 E9 ⟨tv, rfl⟩ hC9 hm9 F9 N9 off9 ne9 T6z h6z
      have m9R : (L1 + 1, oR) ∈ e2 ++ b5 := List.mem_append_right _ m5R
      have m9r : (rr, lstObj (valsOf ring) nr) ∈ e2 ++ b5 := List.mem_append_right _ m5r
      (try clear N8); (try clear F8); (try clear hR); (try clear N7); (try clear F6)
      generalize hnw : e2 ++ b5 = nw9 at N9 off9 m9R m9r
      have hgk : ∃ y, ring[i]? = some y := ⟨ring[i]'(by (first | lia | omega)), List.getElem?_eq_getElem _⟩
      have hgk1 : ∃ y, ring[i + 1]? = some y := ⟨ring[i + 1]'(by (first | lia | omega)), List.getElem?_eq_getElem _⟩
      obtain ⟨⟨ya, ta⟩, hya⟩ := hgk
      obtain ⟨⟨yb, tb⟩, hyb⟩ := hgk1
      (repeat' ((fail_if_success (with_reducible (first | show gz2 | show gz3 | show gz4 | show gz5 | show gz6 | show gz7 | show gz8 | show gz9 | show gz10 | show gz11 | show gz12 | show gz13 | show gz14 | show gz15 | show gz31 | show gz32 | show gz33 | show gz34 | show gz29 | show gz30 | show gz35 | show gz36 | show gz37 | show gz38))); (first | ((with_reducible show wpAny _ _ (execs _ _) _ _ _); k_gentoks) | with_reducible (first | refine execs_one ?_ | (refine execs_cut ?_; intro _ _) | (refine if_cut ?_; intro _ _)) | ((fail_if_success (with_reducible show gz1)); (first | (refine Kh.go ‹_› _ _ ?_; try dsimp only [KnP]) | ((with_reducible show TurnEnd _ _ _ _ _ _); dsimp only [TurnEnd]))) | (k_unfold; (try dsimp only)) | (k_end; wrow_close) | walk1 | (dsimp only; walk1) | (leave1; try dsimp only))))
      rename News _ _ _ _ => N10
      refine lcf_cell N10 rfl (.tail _ (.tail _ (.tail _ m9R))) dR' ?_ (by rfl) (by rfl)
      (repeat' ((fail_if_success (with_reducible (first | show gz2 | show gz3 | show gz4 | show gz5 | show gz6 | show gz7 | show gz8 | show gz9 | show gz10 | show gz11 | show gz12 | show gz13 | show gz14 | show gz15 | show gz31 | show gz32 | show gz33 | show gz34 | show gz29 | show gz30 | show gz35 | show gz36 | show gz37 | show gz38))); (first | ((with_reducible show wpAny _ _ (execs _ _) _ _ _); k_gentoks) | with_reducible (first | refine execs_one ?_ | (refine execs_cut ?_; intro _ _) | (refine if_cut ?_; intro _ _)) | ((fail_if_success (with_reducible show gz1)); (first | (refine Kh.go ‹_› _ _ ?_; try dsimp only [KnP]) | ((with_reducible show TurnEnd _ _ _ _ _ _); dsimp only [TurnEnd]))) | (k_unfold; (try dsimp only)) | (k_end; wrow_close) | walk1 | (dsimp only; walk1) | (leave1; try dsimp only))))
      rename News _ _ _ _ => N11
      refine lst_item N11 (.tail _ (.tail _ (.tail _ m9r))) (by (first | lia | omega)) (by (first | lia | omega)) (v := .int ya ta) (by simp only [valsOf, List.getElem?_map]; rw [show (0 + (i : Int)).toNat = i by (first | lia | omega), hya]; rfl) ?_
      (repeat' ((fail_if_success (with_reducible (first | show gz2 | show gz3 | show gz4 | show gz5 | show gz6 | show gz7 | show gz8 | show gz9 | show gz10 | show gz11 | show gz12 | show gz13 | show gz14 | show gz15 | show gz31 | show gz32 | show gz33 | show gz34 | show gz29 | show gz30 | show gz35 | show gz36 | show gz37 | show gz38))); (first | ((with_reducible show wpAny _ _ (execs _ _) _ _ _); k_gentoks) | with_reducible (first | refine execs_one ?_ | (refine execs_cut ?_; intro _ _) | (refine if_cut ?_; intro _ _)) | ((fail_if_success (with_reducible show gz1)); (first | (refine Kh.go ‹_› _ _ ?_; try dsimp only [KnP]) | ((with_reducible show TurnEnd _ _ _ _ _ _); dsimp only [TurnEnd]))) | (k_unfold; (try dsimp only)) | (k_end; wrow_close) | walk1 | (dsimp only; walk1) | (leave1; try dsimp only))))
      rename News _ _ _ _ => N12
      refine lcf_cell N12 rfl (.tail _ (.tail _ (.tail _ m9R))) dR' ?_ (by rfl) (by rfl)
      (repeat' ((fail_if_success (with_reducible (first | show gz2 | show gz3 | show gz4 | show gz5 | show gz6 | show gz7 | show gz8 | show gz9 | show gz10 | show gz11 | show gz12 | show gz13 | show gz14 | show gz15 | show gz31 | show gz32 | show gz33 | show gz34 | show gz29 | show gz30 | show gz35 | show gz36 | show gz37 | show gz38))); (first | ((with_reducible show wpAny _ _ (execs _ _) _ _ _); k_gentoks) | with_reducible (first | refine execs_one ?_ | (refine execs_cut ?_; intro _ _) | (refine if_cut ?_; intro _ _)) | ((fail_if_success (with_reducible show gz1)); (first | (refine Kh.go ‹_› _ _ ?_; try dsimp only [KnP]) | ((with_reducible show TurnEnd _ _ _ _ _ _); dsimp only [TurnEnd]))) | (k_unfold; (try dsimp only)) | (k_end; wrow_close) | walk1 | (dsimp only; walk1) | (leave1; try dsimp only))))
      rename News _ _ _ _ => N13
      refine lst_item N13 (.tail _ (.tail _ (.tail _ m9r))) (by (first | lia | omega)) (by (first | lia | omega)) (v := .int yb tb) (by simp only [valsOf, List.getElem?_map]; rw [show (0 + (i : Int) + 1).toNat = i + 1 by (first | lia | omega), hyb]; rfl) ?_
      (repeat' ((fail_if_success (with_reducible (first | show gz2 | show gz3 | show gz4 | show gz5 | show gz6 | show gz7 | show gz8 | show gz9 | show gz10 | show gz11 | show gz12 | show gz13 | show gz14 | show gz15 | show gz31 | show gz32 | show gz33 | show gz34 | show gz29 | show gz30 | show gz35 | show gz36 | show gz37 | show gz38))); (first | ((with_reducible show wpAny _ _ (execs _ _) _ _ _); k_gentoks) | with_reducible (first | refine execs_one ?_ | (refine execs_cut ?_; intro _ _) | (refine if_cut ?_; intro _ _)) | ((fail_if_success (with_reducible show gz1)); (first | (refine Kh.go ‹_› _ _ ?_; try dsimp only [KnP]) | ((with_reducible show TurnEnd _ _ _ _ _ _); dsimp only [TurnEnd]))) | (k_unfold; (try dsimp only)) | (k_end; wrow_close) | walk1 | (dsimp only; walk1) | (leave1; try dsimp only))))
      rename Fr _ _ _ _ => F14
      rename News _ _ _ _ => N14
      rename _ ∧ _ ∧ _ ∧ AllLt _ _ => l14
      rename_i D' h14
      subst hnw
      refine StopP (h6z _ _) (ex3_i _ _ ((D', tupObj [.int ya ta, .int yb tb] 0) :: (e2 ++ b5)) (an6_i rfl F14 (fun q hq => N14 q ?_) (off3_cons l14.1 l14.2.1 l14.2.2.1 off9) trivial (ex2_i (p2 ++ [(D', (ya, yb))]) ((D', tupObj [.int ya ta, .int yb tb] 0) :: e2) (an5_i (by simp) ?_ rfl (apart_lt (fun q hq => kst_ltOf l14.2.2.2 q hq) ha9) (fun p hp => ?_)))))
      · rcases List.mem_cons.mp hq with z | hq
        · exact z ▸ .tail _ (.head _)
        · rcases List.mem_cons.mp hq with z | hq
          · exact z ▸ .tail _ (.tail _ (.head _))
          · rcases List.mem_cons.mp hq with z | hq
            · exact z ▸ .tail _ (.tail _ (.tail _ (.head _)))
            · rcases List.mem_cons.mp hq with z | hq
              · exact z ▸ .head _
              · exact .tail _ (.tail _ (.tail _ (.tail _ hq)))
      · rw [List.map_append, hp2, List.take_add_one, around_get (a := ya) (b := yb) (by simp [hya]) (by simp [hyb])]
        simp
      · rcases List.mem_append.mp hp with q | q
        · obtain ⟨q1, q2, q3, q4⟩ := hpi2 p q
          exact ⟨q1, q2, q3, .tail _ q4⟩
        · rw [List.mem_singleton.mp q]
          exact ⟨ta, tb, 0, .head _⟩
  · rintro i v ys nw hv ⟨ps, ex, rfl, hps, rfl, han, hpi⟩ hml
    obtain ⟨x, hxi⟩ : ∃ x, xs[i]? = some x := by
      have := (List.getElem?_eq_some_iff.mp hv).1
      exact ⟨xs[i]'(by simpa using this), List.getElem?_eq_getElem _⟩
    have hv' : v = .ref x.1 := by rw [List.getElem?_map, hxi] at hv; exact (Option.some.inj hv).symm
    obtain ⟨xa, xb, xc, xn, hxm⟩ := hx0 x (List.mem_of_getElem? hxi)
    refine ⟨x.1, .int x.2.1 xa, .int x.2.2.1 xb, .int x.2.2.2 xc, xn, hv', List.mem_append_right _ hxm, ?_⟩
    intro so7 mo7 I oI C oC D m₂ h4 tk4 E' hC hm1 hm2 hm3 F4 N4 off4 ne4 T7z h7z
    (try clear N3); (try clear F3)
    generalize hnw : ex ++ b0 = nw at N4 off4
    (repeat' ((fail_if_success (with_reducible (first | show gz2 | show gz3 | show gz4 | show gz5 | show gz6 | show gz7 | show gz8 | show gz9 | show gz10 | show gz11 | show gz12 | show gz13 | show gz14 | show gz15 | show gz31 | show gz32 | show gz33 | show gz34 | show gz29 | show gz30 | show gz35 | show gz36 | show gz37 | show gz38))); (first | ((with_reducible show wpAny _ _ (execs _ _) _ _ _); k_gentoks) | with_reducible (first | refine execs_one ?_ | (refine execs_cut ?_; intro _ _) | (refine if_cut ?_; intro _ _)) | ((fail_if_success (with_reducible show gz1)); (first | (refine Kh.go ‹_› _ _ ?_; try dsimp only [KnP]) | ((with_reducible show TurnEnd _ _ _ _ _ _); dsimp only [TurnEnd]))) | (k_unfold; (try dsimp only)) | (k_end; wrow_close) | walk1 | (dsimp only; walk1) | (leave1; try dsimp only))))
    rename Fr _ _ _ _ => F5
    rename News _ _ _ _ => N5
    rename _ ∧ _ ∧ _ ∧ AllLt _ _ => l5
    rename_i D' h5
    subst hnw
    refine StopP (h7z _ _) (ex3_i _ _ ((D', tupObj [.int x.2.2.1 xb, .int x.2.2.2 xc] 0) :: (ex ++ b0)) (an6_i rfl F5 (fun q hq => N5 q ?_) (off3_cons l5.1 l5.2.1 l5.2.2.1 off4) (.tail _ (List.mem_append_right _ htl)) (ex2_i (ps ++ [(D', x.2.2)]) ((D', tupObj [.int x.2.2.1 xb, .int x.2.2.2 xc] 0) :: ex) (an5_i (by simp) ?_ rfl (apart_lt (fun q hq => kst_ltOf l5.2.2.2 q hq) han) (fun p hp => ?_)))))
    · rcases List.mem_cons.mp hq with z | hq
      · exact z ▸ .tail _ (.head _)
      · rcases List.mem_cons.mp hq with z | hq
        · exact z ▸ .tail _ (.tail _ (.head _))
        · rcases List.mem_cons.mp hq with z | hq
          · exact z ▸ .tail _ (.tail _ (.tail _ (.head _)))
          · rcases List.mem_cons.mp hq with z | hq
            · exact z ▸ .head _
            · exact .tail _ (.tail _ (.tail _ (.tail _ hq)))
    · rw [List.map_append, hps, List.take_add_one, hxi]
      simp
    · rcases List.mem_append.mp hp with q | q
      · obtain ⟨q1, q2, q3, q4⟩ := hpi p q
        exact ⟨q1, q2, q3, .tail _ q4⟩
      · rw [List.mem_singleton.mp q]
        exact ⟨xb, xc, 0, .head _⟩
end
section
/-! the heap, without the program -/
theorem tri_key {x y : X3} (sx : Sml x) (sy : Sml y) : triLt x.2 y.2 = decide (tkey x < tkey y) := by
  obtain ⟨xa, x1, x2, x3⟩ := x
  obtain ⟨ya, y1, y2, y3⟩ := y
  simp only [Sml] at sx sy
  simp only [triLt, tkey]
  split
  · split
    · exact decide_eq_decide.mpr (by (first | lia | omega))
    · exact decide_eq_decide.mpr (by (first | lia | omega))
  · exact decide_eq_decide.mpr (by (first | lia | omega))
theorem key_inj {x y : X3} (sx : Sml x) (sy : Sml y) (h : tkey x = tkey y) : x.2 = y.2 := by
  obtain ⟨xa, x1, x2, x3⟩ := x
  obtain ⟨ya, y1, y2, y3⟩ := y
  simp only [Sml] at sx sy
  simp only [tkey] at h
  have h1 : x1 = y1 := by (first | lia | omega)
  have h2 : x2 = y2 := by (first | lia | omega)
  have h3 : x3 = y3 := by (first | lia | omega)
  rw [h1, h2, h3]
/-- the key at a place -/
noncomputable def kat (xs : List X3) (i : Nat) : Int := (xs[i]?.map tkey).getD 0
theorem kat_some {xs : List X3} {i : Nat} {x : X3} (h : xs[i]? = some x) : kat xs i = tkey x := by unfold kat; rw [h]; rfl
theorem kat_set {xs : List X3} {i j : Nat} {x : X3} (hi : i < xs.length) : kat (xs.set i x) j = if j = i then tkey x else kat xs j := by
  unfold kat
  split
  · rename_i h; subst h; rw [List.getElem?_set_self hi]; rfl
  · rename_i h; rw [List.getElem?_set_ne (by (first | lia | omega))]
/-- each one whose parent stands at or past st is no less than it -/
noncomputable def HeapFrom (st : Nat) (xs : List X3) : Prop := ∀ k, k < xs.length → 0 < k → st ≤ (k - 1) / 2 → kat xs ((k - 1) / 2) ≤ kat xs k
theorem par_of {c p : Nat} (h : c = 2 * p + 1 ∨ c = 2 * p + 2) : (c - 1) / 2 = p := by (first | lia | omega)
theorem par_inv {k p : Nat} (h0 : 0 < k) (h : (k - 1) / 2 = p) : k = 2 * p + 1 ∨ k = 2 * p + 2 := by (first | lia | omega)
theorem par_pos {c p : Nat} (h : c = 2 * p + 1 ∨ c = 2 * p + 2) : 0 < c := by (first | lia | omega)
/-- within the tree of st -/
inductive Und (st : Nat) : Nat → Prop
  | self : Und st st
  | down {p c : Nat} : Und st p → (c = 2 * p + 1 ∨ c = 2 * p + 2) → Und st c
theorem Und.le {st p : Nat} (h : Und st p) : st ≤ p := by
  induction h with
  | self => (first | lia | omega)
  | down _ h ih => (first | lia | omega)
theorem Und.up {st p : Nat} (h : Und st p) (hl : st < p) : 0 < p ∧ Und st ((p - 1) / 2) := by
  cases h with
  | self => (first | lia | omega)
  | @down q c k e => exact ⟨by (first | lia | omega), by rw [par_of e]; exact k⟩
structure Hole (st pos : Nat) (xs : List X3) : Prop where
  und : Und st pos
  lt : pos < xs.length
  e1 : ∀ k, k < xs.length → 0 < k → st ≤ (k - 1) / 2 → k ≠ pos → (k - 1) / 2 ≠ pos → kat xs ((k - 1) / 2) ≤ kat xs k
  e2 : st < pos → ∀ c, c < xs.length → (c = 2 * pos + 1 ∨ c = 2 * pos + 2) → kat xs ((pos - 1) / 2) ≤ kat xs c
theorem sml_set {xs : List X3} {i : Nat} {x : X3} (h : ∀ y ∈ xs, Sml y) (hx : Sml x) : ∀ y ∈ xs.set i x, Sml y := fun y hy => by
  rcases List.mem_or_eq_of_mem_set hy with q | q
  · exact h y q
  · rw [q]; exact hx
theorem child_facts {pos : Nat} {xs : List X3} (hs : ∀ y ∈ xs, Sml y) (h : 2 * pos + 1 < xs.length) :
    child pos xs < xs.length ∧ (child pos xs = 2 * pos + 1 ∨ child pos xs = 2 * pos + 2) ∧ ∀ c, c < xs.length → (c = 2 * pos + 1 ∨ c = 2 * pos + 2) → kat xs (child pos xs) ≤ kat xs c := by
  unfold child
  have e1 : xs[2 * pos + 1]? = some xs[2 * pos + 1] := List.getElem?_eq_getElem _
  by_cases h2 : 2 * pos + 2 < xs.length
  · have e2 : xs[2 * pos + 2]? = some xs[2 * pos + 2] := List.getElem?_eq_getElem _
    have k1 := kat_some e1
    have k2 := kat_some e2
    rw [e1, e2]
    dsimp only
    rw [tri_key (hs _ (List.mem_of_getElem? e1)) (hs _ (List.mem_of_getElem? e2)), ← k1, ← k2]
    by_cases hlt : kat xs (2 * pos + 1) < kat xs (2 * pos + 2)
    · rw [if_pos (by simpa using hlt)]
      refine ⟨h, .inl rfl, fun c hc hcc => ?_⟩
      rcases hcc with rfl | rfl <;> (first | lia | omega)
    · rw [if_neg (by simpa using hlt)]
      refine ⟨h2, .inr rfl, fun c hc hcc => ?_⟩
      rcases hcc with rfl | rfl <;> (first | lia | omega)
  · have e2 : xs[2 * pos + 2]? = none := List.getElem?_eq_none (by (first | lia | omega))
    rw [e1, e2]
    refine ⟨h, .inl rfl, fun c hc hcc => ?_⟩
    have : c = 2 * pos + 1 := by (first | lia | omega)
    rw [this]
    exact Int.le_refl _
theorem suGo_hole {st : Nat} : ∀ (n pos : Nat) (xs : List X3), xs.length - pos = n → (∀ y ∈ xs, Sml y) → Hole st pos xs → Hole st (suGo pos xs).1 (suGo pos xs).2 ∧ (∀ y ∈ (suGo pos xs).2, Sml y) ∧ (suGo pos xs).2.length ≤ 2 * (suGo pos xs).1 + 1 := by
  intro n
  induction n using Nat.strongRecOn with
  | _ n ih =>
    intro pos xs hn hs H
    rw [suGo]
    by_cases hlt : 2 * pos + 1 < xs.length
    · obtain ⟨c1, c2, c3⟩ := child_facts hs hlt
      obtain ⟨p, hp⟩ : ∃ p, xs[child pos xs]? = some p := ⟨_, List.getElem?_eq_getElem c1⟩
      have hkp := kat_some hp
      rw [dif_pos hlt, hp]
      dsimp only
      generalize child pos xs = ch at *
      refine ih ((xs.set pos p).length - ch) (by rw [List.length_set]; have := H.lt; (first | lia | omega)) ch (xs.set pos p) rfl (sml_set hs (hs _ (List.mem_of_getElem? hp))) ?_
      have hlen : (xs.set pos p).length = xs.length := List.length_set
      have hul := H.und.le
      refine ⟨H.und.down c2, by (first | lia | omega), fun k hk hk0 hks hkn hkn' => ?_, fun _ c hc hcc => ?_⟩
      · rw [hlen] at hk
        rw [kat_set H.lt, kat_set H.lt]
        by_cases q1 : k = pos
        · rw [if_pos q1, if_neg (by (first | lia | omega)), ← hkp]
          have := H.e2 (by (first | lia | omega)) ch c1 c2
          rw [q1]
          exact this
        · rw [if_neg q1]
          by_cases q2 : (k - 1) / 2 = pos
          · rw [if_pos q2, ← hkp]
            exact c3 k hk (par_inv hk0 q2)
          · rw [if_neg q2]
            exact H.e1 k hk hk0 hks q1 q2
      · rw [hlen] at hc
        rw [kat_set H.lt, kat_set H.lt, if_pos (by (first | lia | omega)), if_neg (by (first | lia | omega)), ← hkp]
        have := H.e1 c hc (par_pos hcc) (by rw [par_of hcc]; (first | lia | omega)) (by (first | lia | omega)) (by rw [par_of hcc]; (first | lia | omega))
        rw [par_of hcc] at this
        exact this
    · rw [dif_neg hlt]
      exact ⟨H, hs, by dsimp only; (first | lia | omega)⟩
theorem sdGo_heap {st : Nat} {it : X3} (hit : Sml it) : ∀ (pos : Nat) (xs : List X3), (∀ y ∈ xs, Sml y) → Hole st pos xs → (∀ c, c < xs.length → (c = 2 * pos + 1 ∨ c = 2 * pos + 2) → tkey it ≤ kat xs c) → HeapFrom st (sdGo it st pos xs) := by
  intro pos
  induction pos using Nat.strongRecOn with
  | _ pos ih =>
    intro xs hs H J
    have hlt := H.lt
    have hul := H.und.le
    have fin : (st < pos → kat xs ((pos - 1) / 2) ≤ tkey it) → HeapFrom st (xs.set pos it) := by
      intro hq k hk hk0 hks
      rw [List.length_set] at hk
      rw [kat_set hlt, kat_set hlt]
      by_cases q1 : k = pos
      · rw [if_pos q1, if_neg (by (first | lia | omega)), q1]
        exact hq (by (first | lia | omega))
      · rw [if_neg q1]
        by_cases q2 : (k - 1) / 2 = pos
        · rw [if_pos q2]; exact J k hk (par_inv hk0 q2)
        · rw [if_neg q2]; exact H.e1 k hk hk0 hks q1 q2
    rw [sdGo]
    by_cases hp : st < pos
    · rw [dif_pos hp]
      obtain ⟨hp0, hpu⟩ := H.und.up hp
      have hpl : (pos - 1) / 2 < xs.length := by (first | lia | omega)
      have e1 : xs[(pos - 1) / 2]? = some xs[(pos - 1) / 2] := List.getElem?_eq_getElem _
      have k1 := kat_some e1
      have s1 := hs _ (List.mem_of_getElem? e1)
      rw [e1]
      dsimp only
      rw [tri_key hit s1, ← k1]
      generalize xs[(pos - 1) / 2] = p at *
      have hle := hpu.le
      by_cases hc : tkey it < kat xs ((pos - 1) / 2)
      · rw [if_pos (by simpa using hc)]
        have hlen : (xs.set pos p).length = xs.length := List.length_set
        have sib : ∀ c, c < xs.length → (c = 2 * ((pos - 1) / 2) + 1 ∨ c = 2 * ((pos - 1) / 2) + 2) → c ≠ pos → kat xs ((pos - 1) / 2) ≤ kat xs c := fun c hcl hcc hcn => by
          have := H.e1 c hcl (par_pos hcc) (by rw [par_of hcc]; exact hle) hcn (by rw [par_of hcc]; (first | lia | omega))
          rw [par_of hcc] at this
          exact this
        refine ih ((pos - 1) / 2) (by (first | lia | omega)) _ (sml_set hs s1) ⟨hpu, by (first | lia | omega), fun k hk hk0 hks hkn hkn' => ?_, fun hst c hcl hcc => ?_⟩ fun c hcl hcc => ?_
        · rw [hlen] at hk
          rw [kat_set hlt, kat_set hlt]
          have q1 : k ≠ pos := fun q => hkn' (by rw [q])
          rw [if_neg q1]
          by_cases q2 : (k - 1) / 2 = pos
          · rw [if_pos q2, ← k1]; exact H.e2 hp k hk (par_inv hk0 q2)
          · rw [if_neg q2]; exact H.e1 k hk hk0 hks q1 q2
        · rw [hlen] at hcl
          rw [kat_set hlt, kat_set hlt, if_neg (by (first | lia | omega))]
          have up := H.e1 ((pos - 1) / 2) hpl (by (first | lia | omega)) (by have := (hpu.up hst).2.le; exact this) (by (first | lia | omega)) (by (first | lia | omega))
          split
          · rw [← k1]; exact up
          · rename_i hcn
            exact Int.le_trans up (sib c hcl hcc hcn)
        · rw [hlen] at hcl
          rw [kat_set hlt]
          split
          · rw [← k1]; (first | lia | omega)
          · rename_i hcn
            have := sib c hcl hcc hcn
            (first | lia | omega)
      · rw [if_neg (by simpa using hc)]
        exact fin fun _ => by (first | lia | omega)
    · rw [dif_neg hp]
      exact fin fun q => absurd q hp
theorem siftup_heap {st : Nat} {it : X3} {xs : List X3} (hs : ∀ y ∈ xs, Sml y) (h : xs[st]? = some it) (H : HeapFrom (st + 1) xs) : HeapFrom st (siftup st it xs) := by
  have hl := (List.getElem?_eq_some_iff.mp h).1
  have hit := hs it (List.mem_of_getElem? h)
  obtain ⟨h1, h2, h3⟩ := suGo_hole (st := st) _ st xs rfl hs ⟨.self, hl, fun k hk hk0 hks q1 q2 => H k hk hk0 (by (first | lia | omega)), fun q => absurd q (by (first | lia | omega))⟩
  unfold siftup
  generalize (suGo st xs).1 = pos at *
  generalize (suGo st xs).2 = ys at *
  have hlen : (ys.set pos it).length = ys.length := List.length_set
  refine sdGo_heap hit pos _ (sml_set h2 hit) ⟨h1.und, by rw [hlen]; exact h1.lt, fun k hk hk0 hks q1 q2 => ?_, fun q c hc hcc => absurd hc (by (first | lia | omega))⟩ fun c hc hcc => absurd hc (by (first | lia | omega))
  rw [hlen] at hk
  rw [kat_set h1.lt, kat_set h1.lt, if_neg q1, if_neg q2]
  exact h1.e1 k hk hk0 hks q1 q2
theorem hfy_heap : ∀ (k : Nat) {xs : List X3}, (∀ y ∈ xs, Sml y) → HeapFrom k xs → HeapFrom 0 (hfy k xs)
  | 0, _, _, h => h
  | k + 1, xs, hs, h => by
    show HeapFrom 0 (hfy k (su k xs))
    refine hfy_heap k (fun y hy => hs y ((su_perm k xs).mem_iff.mp hy)) ?_
    unfold su
    split
    · rename_i it hit
      exact siftup_heap hs hit h
    · rename_i hn
      intro j hj hj0 hjs
      have := List.getElem?_eq_none_iff.mp hn
      (first | lia | omega)
theorem heap_root {xs : List X3} (H : HeapFrom 0 xs) : ∀ k, k < xs.length → kat xs 0 ≤ kat xs k := by
  intro k
  induction k using Nat.strongRecOn with
  | _ k ih =>
    intro hk
    by_cases h0 : k = 0
    · rw [h0]; exact Int.le_refl _
    · exact Int.le_trans (ih ((k - 1) / 2) (by (first | lia | omega)) (by (first | lia | omega))) (H k hk (by (first | lia | omega)) (by (first | lia | omega)))
/-- what the heap and the list of what came off hold after i pops -/
structure PopInv (os : List X3) (i : Nat) (taken hpL : List X3) : Prop where
  perm : (taken ++ hpL).Perm os
  len : taken.length = i
  vals : taken.map (·.2) = (os.map (·.2)).take i
  heap : HeapFrom 0 hpL
theorem pop_start {os xs : List X3} (hp : os.Perm xs) (hl : xs.length = 6 ∨ xs.length = 7) (hs : ∀ x ∈ os, Sml x) : PopInv os 0 [] (hfy 3 xs) := by
  refine ⟨?_, rfl, by simp, hfy_heap 3 (fun y hy => hs y (hp.mem_iff.mpr hy)) fun k hk _ hks => by (first | lia | omega)⟩
  rw [List.nil_append]
  exact (hfy_perm 3 xs).trans hp.symm
theorem hpop_perm (ys : List X3) (last : X3) : ((hpop ys last).1 :: (hpop ys last).2).Perm (ys ++ [last]) := by
  cases ys with
  | nil => exact .refl _
  | cons y r =>
    show (y :: siftup 0 last (last :: r)).Perm (y :: (r ++ [last]))
    refine .cons y ((siftup_perm 0 last (last :: r) rfl).trans ?_)
    exact (List.perm_append_singleton last r).symm
theorem hpop_heap {ys : List X3} {last : X3} (hs : ∀ y ∈ ys ++ [last], Sml y) (H : HeapFrom 0 (ys ++ [last])) : HeapFrom 0 (hpop ys last).2 := by
  cases ys with
  | nil => intro k hk; simp [hpop] at hk
  | cons y r =>
    show HeapFrom 0 (siftup 0 last (last :: r))
    refine siftup_heap (fun z hz => hs z (by simp at hz ⊢; rcases hz with q | q <;> simp [q])) rfl fun k hk hk0 hks => ?_
    have h1 := H k (by simp at hk ⊢; (first | lia | omega)) hk0 (by (first | lia | omega))
    have e : ∀ j, 0 < j → j < (last :: r).length → kat (last :: r) j = kat (y :: r ++ [last]) j := fun j hj0 hj => by
      unfold kat
      obtain ⟨j', rfl⟩ : ∃ j', j = j' + 1 := ⟨j - 1, by (first | lia | omega)⟩
      rw [List.cons_append, List.getElem?_cons_succ, List.getElem?_cons_succ, List.getElem?_append_left (by simp at hj; (first | lia | omega))]
    rw [e k hk0 hk, e ((k - 1) / 2) (by (first | lia | omega)) (by (first | lia | omega))]
    exact h1
theorem hpop_root (ys : List X3) (last : X3) : (ys ++ [last])[0]? = some (hpop ys last).1 := by
  cases ys <;> rfl
theorem pop_step {os : List X3} {i : Nat} {taken hpL : List X3} (h : PopInv os i taken hpL) (hi : i < os.length) (hs : ∀ x ∈ os, Sml x) (ho : os.Pairwise (fun a b => tkey a ≤ tkey b)) :
    ∃ ys last, hpL = ys ++ [last] ∧ PopInv os (i + 1) (taken ++ [(hpop ys last).1]) (hpop ys last).2 := by
  have hlen := h.perm.length_eq
  rw [List.length_append, h.len] at hlen
  have hne : hpL ≠ [] := fun q => by rw [q] at hlen; simp at hlen; (first | lia | omega)
  refine ⟨hpL.dropLast, hpL.getLast hne, (List.dropLast_concat_getLast hne).symm, ?_⟩
  have hsp := (List.dropLast_concat_getLast hne).symm
  generalize hpL.dropLast = ys at *
  generalize hpL.getLast hne = last at *
  subst hsp
  have hsm : ∀ y ∈ ys ++ [last], Sml y := fun y hy => hs y (h.perm.mem_iff.mp (List.mem_append_right _ hy))
  have hrt := hpop_root ys last
  have hpm := hpop_perm ys last
  generalize hq : (hpop ys last).1 = y at *
  have hmn := heap_root h.heap
  obtain ⟨x, hx⟩ : ∃ x, os[i]? = some x := ⟨os[i], List.getElem?_eq_getElem _⟩
  have hym : y ∈ ys ++ [last] := List.mem_of_getElem? hrt
  have hmin : ∀ z ∈ ys ++ [last], tkey y ≤ tkey z := fun z hz => by
    obtain ⟨k, hk⟩ := List.mem_iff_getElem?.mp hz
    have := hmn k (List.getElem?_eq_some_iff.mp hk).1
    rw [kat_some hk, kat_some hrt] at this
    exact this
  -- what is left, as values
  have hvp : ((ys ++ [last]).map (·.2)).Perm ((os.drop i).map (·.2)) := by
    have e := h.perm.map (fun x : X3 => x.2)
    rw [List.map_append, h.vals, ← List.map_take] at e
    have e2 : os.map (fun x : X3 => x.2) = (os.take i).map (·.2) ++ (os.drop i).map (·.2) := by rw [← List.map_append, List.take_append_drop]
    rw [e2] at e
    exact (List.perm_append_left_iff _).mp e
  have hdr : os.drop i = x :: os.drop (i + 1) := by
    have hil : i < os.length := hi
    rw [List.drop_eq_getElem_cons hil]
    have := List.getElem?_eq_getElem hil
    rw [this] at hx
    cases hx
    rfl
  have hxs := hs x (List.mem_of_getElem? hx)
  have hys := hsm y hym
  have k0 : ∀ a b : X3, a.2 = b.2 → tkey a = tkey b := fun a b q => by unfold tkey; rw [q]
  have le1 : tkey y ≤ tkey x := by
    have : x.2 ∈ (ys ++ [last]).map (·.2) := hvp.mem_iff.mpr (by rw [hdr]; simp)
    obtain ⟨z, hz, hzx⟩ := List.mem_map.mp this
    rw [← k0 z x hzx]
    exact hmin z hz
  have le2 : tkey x ≤ tkey y := by
    have : y.2 ∈ (os.drop i).map (·.2) := hvp.mem_iff.mp (List.mem_map_of_mem hym)
    obtain ⟨z, hz, hzy⟩ := List.mem_map.mp this
    rw [← k0 z y hzy]
    have hpw := ho.sublist (List.drop_sublist i os)
    rw [hdr] at hz hpw
    rcases List.mem_cons.mp hz with rfl | q
    · exact Int.le_refl _
    · exact (List.pairwise_cons.mp hpw).1 z q
  have hval : y.2 = x.2 := key_inj hys hxs (by (first | lia | omega))
  refine ⟨?_, by rw [List.length_append, h.len]; rfl, ?_, hpop_heap hsm h.heap⟩
  · rw [List.append_assoc]
    exact (List.Perm.append_left _ hpm).trans h.perm
  · rw [List.map_append, h.vals, List.take_add_one, List.getElem?_map, hx]
    show _ ++ [y.2] = _ ++ [x.2]
    rw [hval]
end
section
/-! the steps, without the program -/
theorem fmod4 (a : Int) : 0 ≤ a.fmod 4 ∧ a.fmod 4 < 4 := ⟨Int.fmod_nonneg_of_pos a (by decide), Int.fmod_lt_of_pos a (by decide)⟩
noncomputable def Rg (e : T3) : Prop := (0 ≤ e.2.1 ∧ e.2.1 < 4) ∧ (0 ≤ e.2.2 ∧ e.2.2 < 4)
theorem stepOf_rg (c n : Int) : Rg (stepOf c n) := by
  unfold stepOf Rg
  refine ⟨fmod4 _, ?_⟩
  dsimp only
  split
  · exact fmod4 _
  · exact fmod4 _
theorem steps_rg {ns : List Int} : ∀ e ∈ stepsL ns, Rg e := fun e he => by
  obtain ⟨p, _, rfl⟩ := List.mem_map.mp (List.mem_of_mem_take he)
  exact stepOf_rg _ _
theorem allSteps_len (ns : List Int) : (allSteps ns).length = 7 := by
  unfold allSteps cellsL
  simp
theorem steps_len (ns : List Int) : (stepsL ns).length = 6 ∨ (stepsL ns).length = 7 := by
  unfold stepsL
  rw [List.length_take, allSteps_len]
  have h1 := Int.fmod_nonneg_of_pos ns.sum (show (0 : Int) < 2 by decide)
  have h2 := Int.fmod_lt_of_pos ns.sum (show (0 : Int) < 2 by decide)
  (first | lia | omega)
/-! the table read -/
noncomputable def heldL (T : List (List Int)) (t : Nat) : List Int := ([0, 1, 2, 3] : List Int).filter fun p => decide (getT T p.toNat p.toNat ≤ t)
noncomputable def hitL (T : List (List Int)) (t : Nat) (p : Int) : List Int := (heldL T t).filter fun a => decide (a = p) || decide (getT T a.toNat p.toNat ≤ t)
noncomputable def freeL (T : List (List Int)) (t : Nat) : List Int := ([0, 1, 2, 3] : List Int).filter fun p => (hitL T t p).isEmpty
noncomputable def newestL (T : List (List Int)) (t : Nat) : Prop := (∃ a ∈ heldL T t, getT T a.toNat a.toNat = t) ∧ ∀ a ∈ heldL T t, (t : Int) ≤ getT T a.toNat a.toNat
end
section
/-! the table by thresholds -/
inductive Way (E : Nat → Nat → Prop) : Nat → Nat → Prop
  | one {a b : Nat} : E a b → Way E a b
  | more {a b c : Nat} : Way E a b → E b c → Way E a c
theorem Way.trans {E : Nat → Nat → Prop} {a b c : Nat} (h : Way E a b) (k : Way E b c) : Way E a c := by
  induction k with
  | one e => exact .more h e
  | more _ e ih => exact .more ih e
theorem Way.mono {E F : Nat → Nat → Prop} (hE : ∀ a b, E a b → F a b) {a b : Nat} (h : Way E a b) : Way F a b := by
  induction h with
  | one e => exact .one (hE _ _ e)
  | more _ e ih => exact .more ih (hE _ _ e)
theorem Way.first {E : Nat → Nat → Prop} {a b : Nat} (h : Way E a b) : E a b ∨ ∃ c, E a c ∧ Way E c b := by
  induction h with
  | one e => exact .inl e
  | more _ e ih =>
    rcases ih with q | ⟨c, q, k⟩
    · exact .inr ⟨_, q, .one e⟩
    · exact .inr ⟨c, q, .more k e⟩
theorem Way.last {E : Nat → Nat → Prop} {a b : Nat} (h : Way E a b) : ∃ c, E c b := by
  cases h with
  | one e => exact ⟨_, e⟩
  | more _ e => exact ⟨_, e⟩
theorem sq_upd {T : List (List Int)} (h : Sq T) {a b : Nat} (ha : a < 4) {v : Int} : Sq (updT T a b v) := by
  obtain ⟨h1, h2⟩ := h
  unfold updT
  refine ⟨by rw [List.length_set]; exact h1, fun t ht => ?_⟩
  rcases List.mem_or_eq_of_mem_set ht with q | q
  · exact h2 t q
  · rw [q, List.length_set]
    have hal : a < T.length := by (first | lia | omega)
    rw [List.getD_eq_getElem?_getD, List.getElem?_eq_getElem hal]
    exact h2 _ (List.getElem_mem hal)
theorem get_upd {T : List (List Int)} (h : Sq T) {a b c d : Nat} (ha : a < 4) (hb : b < 4) {v : Int} : getT (updT T a b v) c d = if c = a ∧ d = b then v else getT T c d := by
  obtain ⟨h1, h2⟩ := h
  unfold getT updT
  have hal : a < T.length := by (first | lia | omega)
  have hrow : (T.getD a []).length = 4 := by
    rw [List.getD_eq_getElem?_getD, List.getElem?_eq_getElem hal]
    exact h2 _ (List.getElem_mem hal)
  by_cases hc : c = a
  · subst hc
    have e1 : (T.set c ((T.getD c []).set b v)).getD c [] = (T.getD c []).set b v := by
      rw [List.getD_eq_getElem?_getD, List.getElem?_set_self hal]; rfl
    rw [e1]
    by_cases hd : d = b
    · subst hd
      rw [if_pos ⟨rfl, rfl⟩, List.getD_eq_getElem?_getD, List.getElem?_set_self (by (first | lia | omega))]; rfl
    · rw [if_neg (by simp [hd]), List.getD_eq_getElem?_getD, List.getElem?_set_ne (by (first | lia | omega)), ← List.getD_eq_getElem?_getD]
  · rw [if_neg (by simp [hc])]
    have e1 : (T.set a ((T.getD a []).set b v)).getD c [] = T.getD c [] := by
      rw [List.getD_eq_getElem?_getD, List.getElem?_set_ne (by (first | lia | omega)), ← List.getD_eq_getElem?_getD]
    rw [e1]
/-- an edge that came off by time t -/
noncomputable def Ed (es : List T3) (t : Nat) (a b : Nat) : Prop := ∃ i e, i < t ∧ es[i]? = some e ∧ e.2.1.toNat = a ∧ e.2.2.toNat = b
noncomputable def Rg4 (es : List T3) : Prop := ∀ e ∈ es, e.2.1.toNat < 4 ∧ e.2.2.toNat < 4
theorem init_le : ∀ (es : List T3), Rg4 es → Sq (initT es) ∧ ∀ t : Nat, t < 99 → ∀ a b, a < 4 → b < 4 → (getT (initT es) a b ≤ t ↔ Ed es t a b) := by
  intro es hr
  suffices h : ∀ i, i ≤ es.length → Sq (initT (es.take i)) ∧ ∀ t : Nat, t < 99 → ∀ a b, a < 4 → b < 4 → (getT (initT (es.take i)) a b ≤ t ↔ Ed (es.take i) t a b) by
    have q := h es.length (Nat.le_refl _)
    rw [List.take_length] at q
    exact q
  intro i
  induction i with
  | zero =>
    intro _
    rw [List.take_zero]
    refine ⟨⟨rfl, by decide⟩, fun t ht a b ha hb => ?_⟩
    have e : getT (initT []) a b = 99 := by
      match a, b, ha, hb with
      | 0, 0, _, _ | 0, 1, _, _ | 0, 2, _, _ | 0, 3, _, _ | 1, 0, _, _ | 1, 1, _, _ | 1, 2, _, _ | 1, 3, _, _ | 2, 0, _, _ | 2, 1, _, _ | 2, 2, _, _ | 2, 3, _, _ | 3, 0, _, _ | 3, 1, _, _ | 3, 2, _, _ | 3, 3, _, _ => rfl
    rw [e]
    constructor
    · intro h; (first | lia | omega)
    · rintro ⟨i, e, _, q, _⟩
      simp at q
  | succ i ih =>
    intro hi
    obtain ⟨s1, s2⟩ := ih (by (first | lia | omega))
    obtain ⟨x, hx⟩ : ∃ x, es[i]? = some x := ⟨es[i], List.getElem?_eq_getElem _⟩
    obtain ⟨r1, r2⟩ := hr x (List.mem_of_getElem? hx)
    rw [← initT_step es i x hx]
    refine ⟨sq_upd s1 r1, fun t ht a b ha hb => ?_⟩
    rw [get_upd s1 r1 r2]
    have hgt : ∀ j, (es.take (i + 1))[j]? = if j < i + 1 then es[j]? else none := fun j => by rw [List.getElem?_take]
    have hgt' : ∀ j, (es.take i)[j]? = if j < i then es[j]? else none := fun j => by rw [List.getElem?_take]
    have up : Ed (es.take i) t a b → Ed (es.take (i + 1)) t a b := by
      rintro ⟨j, e, h1, h2, h3⟩
      rw [hgt'] at h2
      split at h2
      · exact ⟨j, e, h1, by rw [hgt, if_pos (by (first | lia | omega))]; exact h2, h3⟩
      · cases h2
    split
    · rename_i hab
      obtain ⟨rfl, rfl⟩ := hab
      constructor
      · intro h
        by_cases h' : getT (initT (List.take i es)) x.2.1.toNat x.2.2.toNat ≤ t
        · exact up ((s2 t ht _ _ ha hb).mp h')
        · exact ⟨i, x, by (first | lia | omega), by rw [hgt, if_pos (by (first | lia | omega))]; exact hx, rfl, rfl⟩
      · rintro ⟨j, e, h1, h2, h3⟩
        rw [hgt] at h2
        split at h2
        · by_cases hji : j = i
          · (first | lia | omega)
          · have := (s2 t ht _ _ ha hb).mpr ⟨j, e, h1, by rw [hgt', if_pos (by (first | lia | omega))]; exact h2, h3⟩
            (first | lia | omega)
        · cases h2
    · rename_i hab
      rw [s2 t ht _ _ ha hb]
      refine ⟨up, ?_⟩
      rintro ⟨j, e, h1, h2, h3, h4⟩
      rw [hgt] at h2
      split at h2
      · by_cases hji : j = i
        · subst hji
          rw [hx] at h2
          cases h2
          exact absurd ⟨h3.symm, h4.symm⟩ hab
        · exact ⟨j, e, h1, by rw [hgt', if_pos (by (first | lia | omega))]; exact h2, h3, h4⟩
      · cases h2
theorem sq_relax {T : List (List Int)} (h : Sq T) {m a b : Nat} (ha : a < 4) : Sq (relax T m a b) := sq_upd h ha
/-- a whole turn of the middle, before and after -/
structure Mid (T T' : List (List Int)) (m : Nat) (P : Nat → Nat → Prop) : Prop where
  sq : Sq T'
  lo : ∀ a b, a < 4 → b < 4 → P a b → getT T' a b = min (getT T a b) (max (getT T a m) (getT T m b))
  hi : ∀ a b, a < 4 → b < 4 → ¬ P a b → getT T' a b = getT T a b
theorem mid_relax {T T' : List (List Int)} {m : Nat} {P : Nat → Nat → Prop} (h : Mid T T' m P) (hm : m < 4) {a b : Nat} (ha : a < 4) (hb : b < 4) (hn : ¬ P a b) : Mid T (relax T' m a b) m (fun c d => P c d ∨ (c = a ∧ d = b)) := by
  have e1 : getT T' a m = getT T a m := by
    by_cases q : P a m
    · rw [h.lo a m ha hm q]; (first | lia | omega)
    · exact h.hi a m ha hm q
  have e2 : getT T' m b = getT T m b := by
    by_cases q : P m b
    · rw [h.lo m b hm hb q]; (first | lia | omega)
    · exact h.hi m b hm hb q
  have e3 := h.hi a b ha hb hn
  refine ⟨sq_relax h.sq ha, fun c d hc hd hp => ?_, fun c d hc hd hp => ?_⟩
  · unfold relax
    rw [get_upd h.sq ha hb]
    split
    · rename_i q
      obtain ⟨rfl, rfl⟩ := q
      rw [e1, e2, e3]
    · rename_i q
      rcases hp with hp | hp
      · exact h.lo c d hc hd hp
      · exact absurd hp q
  · unfold relax
    rw [get_upd h.sq ha hb, if_neg (fun q => hp (.inr q))]
    exact h.hi c d hc hd (fun q => hp (.inl q))
theorem Mid.iff {T T' : List (List Int)} {m : Nat} {P P' : Nat → Nat → Prop} (h : Mid T T' m P) (hp : ∀ a b, a < 4 → b < 4 → (P a b ↔ P' a b)) : Mid T T' m P' :=
  ⟨h.sq, fun a b ha hb q => h.lo a b ha hb ((hp a b ha hb).mpr q), fun a b ha hb q => h.hi a b ha hb (fun k => q ((hp a b ha hb).mp k))⟩
theorem mid_B {T T' : List (List Int)} {m a : Nat} (hm : m < 4) (ha : a < 4) (h : Mid T T' m (fun c _ => c < a)) : ∀ k, k ≤ 4 → Mid T (fwB T' m a k) m (fun c d => c < a ∨ (c = a ∧ d < k))
  | 0, _ => h.iff fun c d _ _ => by (first | lia | omega)
  | k + 1, hk => by
    rw [fwB_succ]
    exact (mid_relax (mid_B hm ha h k (by (first | lia | omega))) hm ha (show k < 4 by (first | lia | omega)) (by (first | lia | omega))).iff fun c d _ _ => by (first | lia | omega)
theorem mid_A {T : List (List Int)} {m : Nat} (hm : m < 4) (h : Sq T) : ∀ k, k ≤ 4 → Mid T (fwA T m k) m (fun c _ => c < k)
  | 0, _ => ⟨h, fun a b _ _ q => absurd q (by (first | lia | omega)), fun _ _ _ _ _ => rfl⟩
  | k + 1, hk => by
    rw [fwA_succ]
    exact (mid_B hm (show k < 4 by (first | lia | omega)) (mid_A hm h k (by (first | lia | omega))) 4 (by (first | lia | omega))).iff fun c d _ _ => by (first | lia | omega)
theorem fw_inv {T : List (List Int)} (h : Sq T) (t : Nat) {E : Nat → Nat → Prop} (hE : ∀ a b, a < 4 → b < 4 → (getT T a b ≤ t ↔ E a b)) : ∀ k, k ≤ 4 → Sq (fwM T k) ∧ (∀ a b, a < 4 → b < 4 → getT T a b ≤ t → getT (fwM T k) a b ≤ t) ∧ (∀ a b, a < 4 → b < 4 → getT (fwM T k) a b ≤ t → Way E a b) ∧
    ∀ j, j < k → ∀ a b, a < 4 → b < 4 → getT (fwM T k) a j ≤ t → getT (fwM T k) j b ≤ t → getT (fwM T k) a b ≤ t
  | 0, _ => ⟨h, fun _ _ _ _ q => q, fun a b ha hb q => .one ((hE a b ha hb).mp q), fun j hj => absurd hj (by (first | lia | omega))⟩
  | k + 1, hk => by
    obtain ⟨s1, s2, s3, s4⟩ := fw_inv h t hE k (by (first | lia | omega))
    rw [fwM_succ]
    have M := mid_A (show k < 4 by (first | lia | omega)) s1 4 (by (first | lia | omega))
    generalize fwM T k = U at *
    generalize fwA U k 4 = W at *
    have hk4 : k < 4 := by (first | lia | omega)
    have hW : ∀ a b, a < 4 → b < 4 → (getT W a b ≤ t ↔ getT U a b ≤ t ∨ (getT U a k ≤ t ∧ getT U k b ≤ t)) := fun a b ha hb => by
      rw [M.lo a b ha hb ha]
      (first | lia | omega)
    refine ⟨M.sq, fun a b ha hb q => (hW a b ha hb).mpr (.inl (s2 a b ha hb q)), fun a b ha hb q => ?_, fun j hj a b ha hb q1 q2 => ?_⟩
    · rcases (hW a b ha hb).mp q with q | ⟨q1, q2⟩
      · exact s3 a b ha hb q
      · exact (s3 a k ha hk4 q1).trans (s3 k b hk4 hb q2)
    · have hj4 : j < 4 := by (first | lia | omega)
      rw [hW a j ha hj4] at q1
      rw [hW j b hj4 hb] at q2
      rw [hW a b ha hb]
      by_cases hjk : j = k
      · subst hjk
        rcases q1 with q1 | q1 <;> rcases q2 with q2 | q2
        · exact .inr ⟨q1, q2⟩
        · exact .inr ⟨q1, q2.2⟩
        · exact .inr ⟨q1.1, q2⟩
        · exact .inr ⟨q1.1, q2.2⟩
      · have hjk' : j < k := by (first | lia | omega)
        rcases q1 with q1 | q1 <;> rcases q2 with q2 | q2
        · exact .inl (s4 j hjk' a b ha hb q1 q2)
        · exact .inr ⟨s4 j hjk' a k ha hk4 q1 q2.1, q2.2⟩
        · exact .inr ⟨q1.1, s4 j hjk' k b hk4 hb q1.2 q2⟩
        · exact .inr ⟨q1.1, q2.2⟩
theorem ed_lt {es : List T3} (hr : Rg4 es) {t a b : Nat} (h : Ed es t a b) : a < 4 ∧ b < 4 := by
  obtain ⟨i, e, _, h2, rfl, rfl⟩ := h
  exact hr e (List.mem_of_getElem? h2)
theorem way_lt {es : List T3} (hr : Rg4 es) {t a b : Nat} (h : Way (Ed es t) a b) : a < 4 ∧ b < 4 := by
  induction h with
  | one e => exact ed_lt hr e
  | more _ e ih => exact ⟨ih.1, (ed_lt hr e).2⟩
theorem table_way {es : List T3} (hr : Rg4 es) {t : Nat} (ht : t < 99) {a b : Nat} (ha : a < 4) (hb : b < 4) : getT (fwM (initT es) 4) a b ≤ t ↔ Way (Ed es t) a b := by
  obtain ⟨s1, s2⟩ := init_le es hr
  obtain ⟨_, q2, q3, q4⟩ := fw_inv s1 t (fun a b ha hb => s2 t ht a b ha hb) 4 (by (first | lia | omega))
  refine ⟨q3 a b ha hb, fun h => ?_⟩
  clear ha hb
  induction h with
  | one e =>
    obtain ⟨ha, hb⟩ := ed_lt hr e
    exact q2 _ _ ha hb ((s2 t ht _ _ ha hb).mpr e)
  | more p e ih =>
    obtain ⟨ha, hb⟩ := ed_lt hr e
    obtain ⟨hc, _⟩ := way_lt hr p
    exact q4 _ ha _ _ hc hb ih (q2 _ _ ha hb ((s2 t ht _ _ ha hb).mpr e))
end
section
/-! rings and ends, by ways -/
section
variable {xs : List X3} {es : List T3} {t : Nat}
theorem rg_keys (hr : ∀ e ∈ es, Rg e) (hx : xs.map (·.2) = es.take t) : ∀ x ∈ xs, (0 ≤ x.2.2.1 ∧ x.2.2.1 < 4) ∧ (0 ≤ x.2.2.2 ∧ x.2.2.2 < 4) := fun x hxm => by
  have : x.2 ∈ es.take t := by rw [← hx]; exact List.mem_map_of_mem (f := fun x : X3 => x.2) hxm
  exact hr x.2 (List.mem_of_mem_take this)
theorem rg4_of (hr : ∀ e ∈ es, Rg e) : Rg4 es := fun e he => by
  obtain ⟨⟨a, b⟩, c, d⟩ := hr e he
  exact ⟨by (first | lia | omega), by (first | lia | omega)⟩
theorem ed_iff (hr : ∀ e ∈ es, Rg e) (hx : xs.map (·.2) = es.take t) {a b : Nat} : Ed es t a b ↔ ((a : Int), (b : Int)) ∈ edX xs := by
  constructor
  · rintro ⟨i, e, h1, h2, h3, h4⟩
    have hm : e ∈ xs.map (·.2) := by
      rw [hx]
      exact List.mem_iff_getElem?.mpr ⟨i, by rw [List.getElem?_take, if_pos h1]; exact h2⟩
    obtain ⟨x, hxm, rfl⟩ := List.mem_map.mp hm
    obtain ⟨⟨q1, q2⟩, q3, q4⟩ := rg_keys hr hx x hxm
    exact List.mem_map.mpr ⟨x, hxm, Prod.ext (by dsimp only at h3 ⊢; (first | lia | omega)) (by dsimp only at h4 ⊢; (first | lia | omega))⟩
  · intro h
    obtain ⟨x, hxm, he⟩ := List.mem_map.mp h
    have hm : x.2 ∈ es.take t := by rw [← hx]; exact List.mem_map_of_mem (f := fun x : X3 => x.2) hxm
    obtain ⟨i, hi⟩ := List.mem_iff_getElem?.mp hm
    have e1 := congrArg Prod.fst he
    have e2 := congrArg Prod.snd he
    dsimp only at e1 e2
    rw [List.getElem?_take] at hi
    split at hi
    · exact ⟨i, x.2, by assumption, hi, by (first | lia | omega), by (first | lia | omega)⟩
    · cases hi
theorem sc_iff (xs : List X3) {k c : Int} : c ∈ scOf (bldV xs) k ↔ (k, c) ∈ edX xs := by
  have G := good_bldV xs
  by_cases hk : k ∈ keysV (bldV xs)
  · rw [scOf_lk, G.lk k hk]
    exact mem_succE
  · rw [scOf_lk, lkV_none hk]
    constructor
    · intro h; simp at h
    · intro h; exact absurd (G.cl _ h).1 hk
theorem mem_held {T : List (List Int)} {t : Nat} {p : Int} : p ∈ heldL T t ↔ (0 ≤ p ∧ p < 4) ∧ getT T p.toNat p.toNat ≤ t := by
  unfold heldL
  rw [List.mem_filter, decide_eq_true_eq]
  have : p ∈ ([0, 1, 2, 3] : List Int) ↔ 0 ≤ p ∧ p < 4 := mem4
  rw [this]
theorem held_way (hr : ∀ e ∈ es, Rg e) (ht : t < 99) {p : Int} : p ∈ heldL (fwM (initT es) 4) t ↔ (0 ≤ p ∧ p < 4) ∧ Way (Ed es t) p.toNat p.toNat := by
  rw [mem_held]
  constructor
  · rintro ⟨h, k⟩; exact ⟨h, (table_way (rg4_of hr) ht (by (first | lia | omega)) (by (first | lia | omega))).mp k⟩
  · rintro ⟨h, k⟩; exact ⟨h, (table_way (rg4_of hr) ht (by (first | lia | omega)) (by (first | lia | omega))).mpr k⟩
/-- the depth-first order has no ring -/
theorem fin_closed {V : View} {E : Nat → Nat → Prop} (hE : ∀ a b, E a b → (b : Int) ∈ scOf V (a : Int)) : ∀ {done : List Int}, FinO V done → ∀ {a b : Nat}, Way E a b → (a : Int) ∈ done → (b : Int) ∈ done := by
  have one : ∀ {done : List Int}, FinO V done → ∀ {a b : Nat}, E a b → (a : Int) ∈ done → (b : Int) ∈ done := by
    intro done
    induction done with
    | nil => intro _ a b _ h; cases h
    | cons k d ih =>
      intro hf a b e h
      rcases List.mem_cons.mp h with q | q
      · exact .tail _ (hf.1 _ (q ▸ hE a b e))
      · exact .tail _ (ih hf.2 e q)
  intro done hf a b w
  induction w with
  | one e => exact one hf e
  | more _ e ih => exact fun h => one hf e (ih h)
theorem fin_noway {V : View} {E : Nat → Nat → Prop} (hE : ∀ a b, E a b → (b : Int) ∈ scOf V (a : Int)) : ∀ {done : List Int}, FinO V done → ∀ {a : Nat}, (a : Int) ∈ done → ¬ Way E a a
  | [], _, a, h, _ => by cases h
  | k :: d, hf, a, h, w => by
    by_cases q : (a : Int) ∈ d
    · exact fin_noway hE hf.2 q w
    · have hk : (a : Int) = k := (List.mem_cons.mp h).resolve_right q
      rcases w.first with e | ⟨c, e, w'⟩
      · exact q (hf.1 _ (hk ▸ hE a a e))
      · exact q (fin_closed hE hf.2 w' (hf.1 _ (hk ▸ hE a c e)))
theorem plain_none (ht : t ≤ es.length) (hl : es.length ≤ 7) (hx : xs.map (·.2) = es.take t) (hr : ∀ e ∈ es, Rg e) {done : List Int} (hf : FinO (bldV xs) done) (hd : ∀ k ∈ keysV (bldV xs), k ∈ done) : heldL (fwM (initT es) 4) t = [] := by
  refine List.eq_nil_iff_forall_not_mem.mpr fun p hp => ?_
  obtain ⟨h, w⟩ := (held_way hr (by (first | lia | omega))).mp hp
  refine fin_noway (V := bldV xs) (fun a b e => (sc_iff xs).mpr ((ed_iff hr hx).mp e)) hf ?_ w
  exact hd _ ((keys_bldV (rg_keys hr hx)).mpr (by (first | lia | omega)))
/-! a ring that is told -/
theorem ring_way {E : Nat → Nat → Prop} {r : List Int} (hE : ∀ i a b, r[i]? = some a → r[i + 1]? = some b → E a.toNat b.toNat) : ∀ (i j : Nat), i < j → ∀ {a b : Int}, r[i]? = some a → r[j]? = some b → Way E a.toNat b.toNat := by
  intro i j
  induction j with
  | zero => intro h; (first | lia | omega)
  | succ j ih =>
    intro h a b ha hb
    by_cases q : i = j
    · subst q; exact .one (hE i a b ha hb)
    · have hj : j < r.length := by have := (List.getElem?_eq_some_iff.mp hb).1; (first | lia | omega)
      exact .more (ih (by (first | lia | omega)) ha (List.getElem?_eq_getElem hj)) (hE j _ _ (List.getElem?_eq_getElem hj) hb)
theorem ring_self {V : View} {r : List Int} (hR : IsRing V r) {E : Nat → Nat → Prop} (hE : ∀ i a b, r[i]? = some a → r[i + 1]? = some b → E a.toNat b.toNat) : ∃ a, r[0]? = some a ∧ Way E a.toNat a.toNat := by
  have hl := hR.len
  have h0 : r[0]? = some r[0] := List.getElem?_eq_getElem (by (first | lia | omega))
  have h1 : r[r.length - 1]? = some r[0] := by
    rw [← List.getLast?_eq_getElem?, ← hR.ends, List.head?_eq_getElem?]; exact h0
  exact ⟨r[0], h0, ring_way hE 0 (r.length - 1) (by (first | lia | omega)) h0 h1⟩
theorem around_mem {r : List Int} {p : Int × Int} (h : p ∈ aroundL r) : ∃ i : Nat, r[i]? = some p.1 ∧ r[i + 1]? = some p.2 := by
  obtain ⟨i, hi⟩ := List.mem_iff_getElem?.mp h
  unfold aroundL at hi
  rw [List.getElem?_zip_eq_some] at hi
  rw [List.getElem?_tail] at hi
  exact ⟨i, hi⟩
theorem plain_ring (ht : t ≤ es.length) (hl : es.length ≤ 7) (hx : xs.map (·.2) = es.take t) (hr : ∀ e ∈ es, Rg e) {r : List Int} (hR : IsRing (bldV xs) r) :
    heldL (fwM (initT es) 4) t ≠ [] ∧ r.length ≤ 16 ∧ (∀ p ∈ aroundL r, p ∈ xs.map (·.2.2)) ∧ (newestL (fwM (initT es) 4) t → ∃ p, (xs.map (·.2.2)).getLast? = some p ∧ p ∈ aroundL r) := by
  have hed : ∀ i a b, r[i]? = some a → r[i + 1]? = some b → (a, b) ∈ edX xs := fun i a b ha hb => (sc_iff xs).mp (hR.edge i a b ha hb)
  have hrk := rg_keys hr hx
  have hbd : ∀ p ∈ edX xs, (0 ≤ p.1 ∧ p.1 < 4) ∧ (0 ≤ p.2 ∧ p.2 < 4) := fun p hp => by
    obtain ⟨x, hxm, rfl⟩ := List.mem_map.mp hp
    exact hrk x hxm
  have hE : ∀ i a b, r[i]? = some a → r[i + 1]? = some b → Ed es t a.toNat b.toNat := fun i a b ha hb => by
    have h1 := hed i a b ha hb
    have h2 := hbd _ h1
    dsimp only at h2
    rw [ed_iff hr hx, Int.toNat_of_nonneg h2.1.1, Int.toNat_of_nonneg h2.2.1]
    exact h1
  have hlen := hR.len
  have hin : ∀ p ∈ aroundL r, p ∈ xs.map (·.2.2) := fun p hp => by
    obtain ⟨i, h1, h2⟩ := around_mem hp
    exact hed i p.1 p.2 h1 h2
  refine ⟨?_, ?_, hin, ?_⟩
  · obtain ⟨a, h0, w⟩ := ring_self hR hE
    have h1 : r[1]? = some r[1] := List.getElem?_eq_getElem (by (first | lia | omega))
    have h2 := hbd _ (hed 0 _ _ h0 h1)
    exact fun q => absurd ((held_way (p := a) hr (by (first | lia | omega))).mpr ⟨h2.1, w⟩) (by rw [q]; simp)
  · have h1 := nodup_le (m := [0, 1, 2, 3]) hR.nd fun x hxm => by
      obtain ⟨i, hi⟩ := List.mem_iff_getElem?.mp hxm
      rw [List.getElem?_tail] at hi
      have hil : i < r.length := by have := (List.getElem?_eq_some_iff.mp hi).1; (first | lia | omega)
      have h2 := (hbd _ (hed i _ _ (List.getElem?_eq_getElem hil) hi)).2
      exact mem4.mpr h2
    rw [List.length_tail] at h1
    simp at h1
    (first | lia | omega)
  · rintro ⟨⟨a0, ha0, ha1⟩, hmin⟩
    have hxl : xs.length = t := by
      have := congrArg List.length hx
      rw [List.length_map, List.length_take] at this
      (first | lia | omega)
    have ht0 : 0 < t := by
      rcases Nat.eq_zero_or_pos t with q | q
      · subst q
        have hnil : xs = [] := List.length_eq_zero_iff.mp hxl
        have h0 := hed 0 _ _ (List.getElem?_eq_getElem (show 0 < r.length by (first | lia | omega))) (List.getElem?_eq_getElem (show 1 < r.length by (first | lia | omega)))
        rw [hnil] at h0
        simp at h0
      · exact q
    obtain ⟨e, he⟩ : ∃ e, es[t - 1]? = some e := ⟨es[t - 1]'(by (first | lia | omega)), List.getElem?_eq_getElem _⟩
    have hlast : (xs.map (·.2.2)).getLast? = some e.2 := by
      have e1 : xs.map (fun x : X3 => x.2.2) = (es.take t).map (fun e : T3 => e.2) := by rw [← hx, List.map_map]; rfl
      rw [e1, List.getLast?_map, List.getLast?_eq_getElem?, List.length_take, Nat.min_eq_left ht, List.getElem?_take, if_pos (by (first | lia | omega)), he]
      rfl
    refine ⟨e.2, hlast, ?_⟩
    refine Classical.byContradiction fun hno => ?_
    have hE1 : ∀ i a b, r[i]? = some a → r[i + 1]? = some b → Ed es (t - 1) a.toNat b.toNat := fun i a b ha hb => by
      obtain ⟨j, f, h1, h2, h3, h4⟩ := hE i a b ha hb
      by_cases q : j = t - 1
      · subst q
        rw [he] at h2
        cases h2
        exfalso
        have h5 := hbd _ (hed i a b ha hb)
        have h6 := hr e (List.mem_of_getElem? he)
        obtain ⟨⟨_, _⟩, _, _⟩ := h6
        dsimp only at h5
        refine hno ?_
        have e2 : e.2 = (a, b) := Prod.ext (by dsimp only; (first | lia | omega)) (by dsimp only; (first | lia | omega))
        rw [e2]
        exact List.mem_of_getElem? (around_get ha hb)
      · exact ⟨j, f, by (first | lia | omega), h2, h3, h4⟩
    obtain ⟨a, h0, w⟩ := ring_self hR hE1
    have h1 : r[1]? = some r[1] := List.getElem?_eq_getElem (by (first | lia | omega))
    have h2 := (hbd _ (hed 0 _ _ h0 h1)).1
    dsimp only at h2
    have h3 := (table_way (t := t - 1) (rg4_of hr) (by (first | lia | omega)) (by (first | lia | omega)) (by (first | lia | omega))).mpr w
    have h4 := hmin a ((mem_held).mpr ⟨h2, by (first | lia | omega)⟩)
    (first | lia | omega)
/-! what goes out, against what is held -/
theorem topo_way {V : View} {gone : List Int} (hK : KInv (edX xs) V [] gone) (hr : ∀ e ∈ es, Rg e) (hx : xs.map (·.2) = es.take t) {a b : Nat} (w : Way (Ed es t) a b) : ∀ i : Nat, gone[i]? = some (b : Int) → ∃ j : Nat, j < i ∧ gone[j]? = some (a : Int) := by
  have one : ∀ {a b : Nat}, Ed es t a b → ∀ i : Nat, gone[i]? = some (b : Int) → ∃ j : Nat, j < i ∧ gone[j]? = some (a : Int) := fun {a b} e i hi => by
    have h1 := hK.topo i _ hi _ ((ed_iff hr hx).mp e) rfl
    obtain ⟨j, hj⟩ := List.mem_iff_getElem?.mp h1
    rw [List.getElem?_take] at hj
    split at hj
    · exact ⟨j, by assumption, hj⟩
    · cases hj
  induction w with
  | one e => exact one e
  | more _ e ih =>
    intro i hi
    obtain ⟨j, h1, h2⟩ := one e i hi
    obtain ⟨k, h3, h4⟩ := ih j h2
    exact ⟨k, by (first | lia | omega), h4⟩
theorem nodup_at {l : List Int} (h : l.Nodup) {i j : Nat} {a : Int} (hi : l[i]? = some a) (hj : l[j]? = some a) : i = j := by
  obtain ⟨h1, h2⟩ := List.getElem?_eq_some_iff.mp hi
  obtain ⟨h3, h4⟩ := List.getElem?_eq_some_iff.mp hj
  exact (List.getElem_inj (h₀ := h1) (h₁ := h3) h).mp (h2.trans h4.symm)
/-- one that is left has a ring behind it -/
theorem left_ring {V : View} {gone : List Int} (hK : KInv (edX xs) V [] gone) (hks : ∀ k, k ∈ keysV V ↔ 0 ≤ k ∧ k < 4) (hr : ∀ e ∈ es, Rg e) (hx : xs.map (·.2) = es.take t) {p : Nat} (hp : p < 4) (hg : (p : Int) ∉ gone) :
    ∃ a : Nat, a < 4 ∧ Way (Ed es t) a a ∧ (a = p ∨ Way (Ed es t) a p) := by
  refine Classical.byContradiction fun hno => ?_
  have H : ∀ n : Nat, ∃ (l : List Int) (h : Nat), l.length = n ∧ (((h : Int) :: l).Nodup) ∧ (∀ x ∈ (h : Int) :: l, (0 ≤ x ∧ x < 4)) ∧ (h : Int) ∉ gone ∧ (∀ x ∈ l, Way (Ed es t) h x.toNat) ∧ (h = p ∨ Way (Ed es t) h p) := by
    intro n
    induction n with
    | zero => exact ⟨[], p, rfl, by simp, by simp; (first | lia | omega), hg, by simp, .inl rfl⟩
    | succ n ih =>
      obtain ⟨l, h, h1, h2, h3, h4, h5, h6⟩ := ih
      have hh := h3 h (.head _)
      obtain ⟨q, q1, q2, q3⟩ := kahn_end hK ((hks _).mpr hh) h4
      have hq := (hks _).mp q2
      have eq : ((q.toNat : Nat) : Int) = q := Int.toNat_of_nonneg hq.1
      have e : Ed es t q.toNat h := (ed_iff hr hx).mpr (by rw [eq]; exact q1)
      have wp : Way (Ed es t) q.toNat p := by
        rcases h6 with r | r
        · exact r ▸ .one e
        · exact (Way.one e).trans r
      refine ⟨(h : Int) :: l, q.toNat, by simp [h1], ?_, ?_, by rw [eq]; exact q3, ?_, .inr wp⟩
      · rw [eq, List.nodup_cons]
        refine ⟨fun hm => hno ⟨q.toNat, by (first | lia | omega), ?_, .inr wp⟩, h2⟩
        rcases List.mem_cons.mp hm with r | r
        · have : q.toNat = h := by (first | lia | omega)
          rw [this] at e ⊢
          exact .one e
        · exact (Way.one e).trans (h5 q r)
      · intro x hxm
        rcases List.mem_cons.mp hxm with r | r
        · rw [r, eq]; exact hq
        · exact h3 x r
      · intro x hxm
        rcases List.mem_cons.mp hxm with r | r
        · rw [r, show ((h : Int)).toNat = h by (first | lia | omega)]; exact .one e
        · exact (Way.one e).trans (h5 x r)
  obtain ⟨l, h, h1, h2, h3, _⟩ := H 4
  have := nodup_le (m := [0, 1, 2, 3]) h2 fun x hxm => by
    exact mem4.mpr (h3 x hxm)
  simp [h1] at this
theorem sorted_eq : ∀ {l m : List Int}, (∀ x, x ∈ l ↔ x ∈ m) → l.Nodup → m.Nodup → l.Pairwise (· ≤ ·) → m.Pairwise (· ≤ ·) → l = m
  | [], [], _, _, _, _, _ => rfl
  | [], b :: m, h, _, _, _, _ => absurd ((h b).mpr (.head _)) (by simp)
  | a :: l, [], h, _, _, _, _ => absurd ((h a).mp (.head _)) (by simp)
  | a :: l, b :: m, h, n1, n2, s1, s2 => by
    obtain ⟨p1, p2⟩ := List.nodup_cons.mp n1
    obtain ⟨q1, q2⟩ := List.nodup_cons.mp n2
    obtain ⟨u1, u2⟩ := List.pairwise_cons.mp s1
    obtain ⟨v1, v2⟩ := List.pairwise_cons.mp s2
    have hab : a = b := by
      rcases List.mem_cons.mp ((h a).mp (.head _)) with z | z
      · exact z
      · rcases List.mem_cons.mp ((h b).mpr (.head _)) with y | y
        · exact y.symm
        · have := v1 a z; have := u1 b y; (first | lia | omega)
    subst hab
    refine congrArg (a :: ·) (sorted_eq (fun x => ⟨fun hm => ?_, fun hm => ?_⟩) p2 q2 u2 v2)
    · exact (List.mem_cons.mp ((h x).mp (.tail _ hm))).resolve_left fun z => p1 (z ▸ hm)
    · exact (List.mem_cons.mp ((h x).mpr (.tail _ hm))).resolve_left fun z => q1 (z ▸ hm)
theorem mem_free (hr : ∀ e ∈ es, Rg e) (ht : t < 99) {p : Int} : p ∈ freeL (fwM (initT es) 4) t ↔ (0 ≤ p ∧ p < 4) ∧ ∀ a : Nat, a < 4 → Way (Ed es t) a a → ¬ (a = p.toNat ∨ Way (Ed es t) a p.toNat) := by
  unfold freeL
  rw [List.mem_filter]
  have e1 : p ∈ ([0, 1, 2, 3] : List Int) ↔ 0 ≤ p ∧ p < 4 := mem4
  rw [e1, List.isEmpty_iff]
  refine and_congr_right fun hp => ?_
  unfold hitL
  rw [List.filter_eq_nil_iff]
  have e2 : ∀ a : Nat, a < 4 → (getT (fwM (initT es) 4) a p.toNat ≤ t ↔ Way (Ed es t) a p.toNat) := fun a ha => table_way (rg4_of hr) ht ha (by (first | lia | omega))
  constructor
  · intro h a ha w q
    have h1 := h (a : Int) ((held_way hr ht).mpr ⟨by (first | lia | omega), by rw [show ((a : Int)).toNat = a by (first | lia | omega)]; exact w⟩)
    rw [show ((a : Int)).toNat = a by (first | lia | omega)] at h1
    simp only [Bool.or_eq_true, decide_eq_true_eq, not_or] at h1
    rcases q with q | q
    · exact h1.1 (by (first | lia | omega))
    · exact h1.2 ((e2 a ha).mpr q)
  · intro h a ha q
    obtain ⟨h1, w⟩ := (held_way hr ht).mp ha
    have h2 := h a.toNat (by (first | lia | omega)) w
    simp only [Bool.or_eq_true, decide_eq_true_eq] at q
    rcases q with q | q
    · exact h2 (.inl (by rw [q]))
    · exact h2 (.inr ((e2 _ (by (first | lia | omega))).mp q))
theorem plain_free (ht : t ≤ es.length) (hl : es.length ≤ 7) (hx : xs.map (·.2) = es.take t) (hr : ∀ e ∈ es, Rg e) {V : View} {gone sl : List Int}
    (hK : KInv (edX xs) V [] gone) (hk : keysV V = keysV (bldV xs)) (hp : sl.Perm gone) (hs : sl.Pairwise (· ≤ ·)) : sl = freeL (fwM (initT es) 4) t := by
  have hks : ∀ k, k ∈ keysV V ↔ 0 ≤ k ∧ k < 4 := fun k => by rw [hk]; exact keys_bldV (rg_keys hr hx)
  have hn : gone.Nodup := by have := hK.nd; rwa [List.append_nil] at this
  refine sorted_eq (fun p => ?_) (hp.nodup_iff.mpr hn) ?_ hs ?_
  · rw [hp.mem_iff, mem_free hr (by (first | lia | omega))]
    constructor
    · intro h
      have hpk := (hks p).mp (hK.sub p (by rw [List.append_nil]; exact h))
      have eq : ((p.toNat : Nat) : Int) = p := Int.toNat_of_nonneg hpk.1
      refine ⟨hpk, fun a ha w q => ?_⟩
      obtain ⟨i, hi⟩ := List.mem_iff_getElem?.mp h
      rw [← eq] at hi
      have hin : ∃ j : Nat, gone[j]? = some (a : Int) := by
        rcases q with q | q
        · exact ⟨i, q ▸ hi⟩
        · obtain ⟨j, _, hj⟩ := topo_way hK hr hx q i hi
          exact ⟨j, hj⟩
      obtain ⟨j, hj⟩ := hin
      obtain ⟨k, h1, h2⟩ := topo_way hK hr hx w j hj
      have := nodup_at hn hj h2
      (first | lia | omega)
    · rintro ⟨hpk, h⟩
      have eq : ((p.toNat : Nat) : Int) = p := Int.toNat_of_nonneg hpk.1
      refine Classical.byContradiction fun hg => ?_
      obtain ⟨a, h1, h2, h3⟩ := left_ring hK hks hr hx (p := p.toNat) (by (first | lia | omega)) (by rw [eq]; exact hg)
      exact h a h1 h2 h3
  · exact List.Nodup.sublist List.filter_sublist (by decide)
  · exact List.Pairwise.sublist List.filter_sublist (by decide)
end
end
section
theorem pick7 (sl : List (Int × Tok)) : kms_pick (valsOf sl).toArray.toList none (some 7) = valsOf (sl.take 7) := by
  show ((valsOf sl).drop (kms_lo none (valsOf sl).length)).take (kms_hi (some 7) (valsOf sl).length - kms_lo none (valsOf sl).length) = _
  have e1 : kms_lo none (valsOf sl).length = 0 := rfl
  have e2 : kms_hi (some 7) (valsOf sl).length = min 7 (valsOf sl).length := by simp [kms_hi]
  rw [e1, e2, List.drop_zero, Nat.sub_zero]
  unfold valsOf
  rw [List.map_take, List.length_map]
  by_cases h : sl.length ≤ 7
  · rw [Nat.min_eq_right h, List.take_of_length_le (by simp), List.take_of_length_le (by simpa using h)]
  · rw [Nat.min_eq_left (by (first | lia | omega))]
theorem pickN (xs : List X3) (k : Nat) : kms_pick (refsOf xs).toArray.toList none (some ((k : Int) + 1)) = refsOf (xs.take (k + 1)) := by
  show ((refsOf xs).drop (kms_lo none (refsOf xs).length)).take (kms_hi (some ((k : Int) + 1)) (refsOf xs).length - kms_lo none (refsOf xs).length) = _
  have e1 : kms_lo none (refsOf xs).length = 0 := rfl
  have e2 : kms_hi (some ((k : Int) + 1)) (refsOf xs).length = min (k + 1) (refsOf xs).length := by
    unfold kms_hi
    dsimp only
    rw [if_neg (by (first | lia | omega)), show ((k : Int) + 1).toNat = k + 1 by (first | lia | omega)]
  rw [e1, e2, List.drop_zero, Nat.sub_zero]
  unfold refsOf
  rw [List.map_take, List.length_map]
  by_cases h : xs.length ≤ k + 1
  · rw [Nat.min_eq_right h, List.take_of_length_le (by simp), List.take_of_length_le (by simpa using h)]
  · rw [Nat.min_eq_left (by (first | lia | omega))]
theorem tail3_perm {α : Type} (X : List α) (a b c : α) : (X ++ [a, b, c]).Perm (c :: b :: a :: X) :=
  List.perm_append_comm.trans (((List.Perm.swap c b X).cons a).trans ((List.Perm.swap c a (b :: X)).trans ((List.Perm.swap b a X).cons c)))
section
variable {prog : Program} {w : World} {A : Around} {E : Value → Shared → Prop} {s : Shared} {h₀ : Heap} {L : Addr} {m : Str → Option Value} {news : List (Addr × Obj)}
theorem rit_make1 {r : Addr} {a k sz : Int} {t u v : Tok} {Q : Value → Shared → Prop} (hr : IsRange s.heap r a k 1 t u v) (hsm : Builtin.Range.small a k 1 = true) (hsz : Builtin.Range.rangeSize a k 1 = sz) (F : Fr h₀ L s.heap m) (N : News h₀ L s.heap news)
    (h : ∀ it h', Fr h₀ L h' m → News h₀ L h' ((it, rngIt a sz 1) :: news) → (∀ p ∈ news, @LT.lt Nat _ p.1 it) → Q (.ref it) { s with heap := h' }) : wpAny (model prog w) A (pyIter (.ref r)) Q E s := by
  refine wpAny_pyIter_range hr hsm ?_
  rw [hsz]
  obtain ⟨F', N', l'⟩ := push_news (o := rngIt a sz 1) F N
  exact h _ _ F' N' l'
end
theorem rng1_small {n : Nat} (h : n = 6 ∨ n = 7) : Builtin.Range.small 1 ((n : Int) + 1) 1 = true ∧ Builtin.Range.rangeSize 1 ((n : Int) + 1) 1 = (n : Int) := by
  rcases h with rfl | rfl <;> decide
theorem four_snoc (f : Int → Bool) {k : Nat} (hk : k < 4) : (([0, 1, 2, 3] : List Int).take (k + 1)).filter f = (([0, 1, 2, 3] : List Int).take k).filter f ++ if f (k : Int) = true then [(k : Int)] else [] := by
  have e : ([0, 1, 2, 3] : List Int).take (k + 1) = ([0, 1, 2, 3] : List Int).take k ++ [(k : Int)] := match k, hk with
    | 0, _ | 1, _ | 2, _ | 3, _ => rfl
  rw [e, List.filter_append, List.filter_cons]
  simp
theorem snoc_filter (f : Int → Bool) {l : List Int} {j : Nat} {a : Int} (h : l[j]? = some a) : (l.take (j + 1)).filter f = (l.take j).filter f ++ if f a = true then [a] else [] := by
  rw [List.take_add_one, List.filter_append, h]
  simp [List.filter_cons]
theorem two_front {B : List (Addr × Obj)} {p q : Addr × Obj} (hp : p ∈ B) (hq : q ∈ B) (hne : q ≠ p) : ∃ rest, B.Perm (p :: q :: rest) := by
  obtain ⟨l1, l2, rfl⟩ := List.append_of_mem hp
  have hq' : q ∈ l1 ++ l2 := by
    simp only [List.mem_append, List.mem_cons] at hq ⊢
    rcases hq with z | z | z
    · exact .inl z
    · exact absurd z hne
    · exact .inr z
  obtain ⟨m1, m2, e⟩ := List.append_of_mem hq'
  refine ⟨m1 ++ m2, List.perm_middle.trans (List.Perm.cons p ?_)⟩
  rw [e]
  exact List.perm_middle
theorem newest_of {T : List (List Int)} {t : Nat} {M : Int} {gl : List Int} (hg : gl = (heldL T t).map (fun a => getT T a.toNat a.toNat)) (h1 : M ∈ gl) (h2 : ∀ a ∈ gl, M ≤ a) (hM : M = (t : Int)) : newestL T t := by
  rw [hg] at h1 h2
  obtain ⟨a0, q1, q2⟩ := List.mem_map.mp h1
  refine ⟨⟨a0, q1, by (first | lia | omega)⟩, fun a ha => ?_⟩
  have := h2 _ (List.mem_map_of_mem (f := fun a : Int => getT T a.toNat a.toNat) ha)
  (first | lia | omega)
theorem unturnF {h₀ h₀' h : Heap} {L : Addr} {m : Str → Option Value} (t : KtsTurn [] h₀ h₀') (F : Fr h₀' L h m) : Fr h₀ L h m :=
  ⟨F.ns, fun b o e => F.keep b o (t.other b o e (by simp)), by rw [← t.size]; exact F.above⟩
theorem unturnN {h₀ h₀' h : Heap} {L : Addr} {news : List (Addr × Obj)} (t : KtsTurn [] h₀ h₀') (N : News h₀' L h news) : News h₀ L h news := fun p hp => by
  obtain ⟨a, b, c⟩ := N p hp
  refine ⟨a, b, ?_⟩
  cases e : h₀.get? p.1 with
  | none => rfl
  | some o => rw [t.other _ _ e (by simp)] at c; cases c
theorem ne_hd {a : Addr} {l l' : List (Addr × Obj)} (h : Apart l') (e : l'.map (·.1) = a :: l.map (·.1)) : ∀ q ∈ l, q.1 ≠ a := fun q hq ez => (List.nodup_cons.mp (show (a :: l.map (·.1)).Nodup from e ▸ h)).1 (ez ▸ List.mem_map_of_mem hq)
theorem perm_apart {l l' : List (Addr × Obj)} (p : l.Perm l') (h : Apart l) : Apart l' := apart_perm h p
theorem perm_front {α : Type} (X Y R : List α) : (X ++ (Y ++ R)).Perm (Y ++ (X ++ R)) := by
  rw [← List.append_assoc, ← List.append_assoc]
  exact List.perm_append_comm.append_right R
theorem tk_ne {tkA rA : Addr} {a b : Nat} {tk : List X3} {ring : List (Int × Tok)} (h : 2 ≤ ring.length) : (tkA, lstObj (refsOf tk) a) ≠ (rA, lstObj (valsOf ring) b) := fun e => by
  have e1 := congrArg (fun z : Addr × Obj => z.2.data) e
  dsimp only at e1
  injection e1 with e2 e3
  have e4 : refsOf tk = valsOf ring := by simpa using congrArg Array.toList e2
  cases ring with
  | nil => simp at h
  | cons a b =>
    cases tk with
    | nil => simp [refsOf] at e4
    | cons c d => simp [refsOf, valsOf] at e4
theorem sub7 {α : Type} {l l' : List α} (a b c d e f : α) (h : l' ⊆ l) : (a :: b :: c :: d :: e :: f :: l') ⊆ (a :: b :: c :: d :: e :: f :: l) := List.cons_subset_cons _ (sub5 _ _ _ _ _ h)
theorem lw_end {D p i t T U H : Addr × Obj} {R R' : List (Addr × Obj)} (h : ∀ q ∈ R, q ∈ R') : ∀ q ∈ p :: i :: t :: T :: U :: H :: R, q ∈ D :: t :: p :: i :: T :: U :: H :: R' := fun _ hq =>
  .tail _ ((((List.Perm.swap _ _ _).cons _).trans (List.Perm.swap _ _ _)).subset (sub7 _ _ _ _ _ _ (fun q hq => h q hq) hq))
theorem lw_rv {D p i t T U : Addr × Obj} {H : Addr} {oH oH2 : Obj} {v : Option Value} {R : List (Addr × Obj)} (hd : oH.data = .cell v) {r : Addr} {vs : List Value} {n : Nat} (hm : (r, lstObj vs n) ∈ p :: i :: t :: T :: U :: (H, oH) :: R) : (r, lstObj vs n) ∈ D :: p :: i :: t :: T :: U :: (H, oH2) :: R := by
  have hne : (r, lstObj vs n) ≠ (H, oH) := fun e => by
    have := congrArg (fun z : Addr × Obj => z.2.data) e
    dsimp only at this
    rw [hd] at this
    cases this
  have h2 := (List.perm_middle (l₁ := [p, i, t, T, U])).subset hm
  have h3 := (List.mem_cons.mp h2).resolve_left hne
  exact .tail _ (sub5 _ _ _ _ _ (fun _ h => .tail _ h) h3)
theorem rest_of {B rest : List (Addr × Obj)} {a b : Addr} {us vs : List Value} {m n : Nat} {q : Addr × Obj} (pm : B.Perm ((a, lstObj us m) :: (b, lstObj vs n) :: rest)) (hq : q ∈ B) (hc : q.2.cls ≠ .type "list") : q ∈ rest :=
  ((List.mem_cons.mp (((List.mem_cons.mp (pm.mem_iff.mp hq)).resolve_left fun z => hc (congrArg (fun z : Addr × Obj => z.2.cls) z)))).resolve_left fun z => hc (congrArg (fun z : Addr × Obj => z.2.cls) z))
theorem ends_of {ring : List (Int × Tok)} (he : (ring.map (·.1)).head? = (ring.map (·.1)).getLast?) (hl : 2 ≤ ring.length) : ∃ a t t', ring[0]? = some (a, t) ∧ ring[ring.length - 1]? = some (a, t') := by
  rw [List.head?_map, List.getLast?_map, List.head?_eq_getElem?, List.getLast?_eq_getElem?] at he
  have e1 : ring[0]? = some ring[0] := List.getElem?_eq_getElem (by (first | lia | omega))
  have e2 : ring[ring.length - 1]? = some ring[ring.length - 1] := List.getElem?_eq_getElem (by (first | lia | omega))
  rw [e1, e2] at he
  simp only [Option.map_some, Option.some.injEq] at he
  exact ⟨ring[0].1, ring[0].2, ring[ring.length - 1].2, e1, by rw [e2, he]⟩
theorem held_nil {hl : List (Int × Tok)} {l : List Int} (h : hl.map (·.1) = l) (h2 : l = []) : hl = [] := List.map_eq_nil_iff.mp (h.trans h2)
theorem held_some {hl : List (Int × Tok)} {l : List Int} (h : hl.map (·.1) = l) (h2 : l ≠ []) : (valsOf hl).isEmpty = false := by
  cases hl with
  | nil => exact absurd h.symm h2
  | cons a b => rfl
theorem held_len {hl : List (Int × Tok)} {f : Int → Bool} (h : hl.map (·.1) = ([0, 1, 2, 3] : List Int).filter f) : hl.length ≤ 4 := by
  have h1 := congrArg List.length h
  have h2 := List.length_filter_le f [0, 1, 2, 3]
  rw [List.length_map] at h1
  rw [h1]
  exact h2
set_option maxHeartbeats 2000000 in
theorem law_goes : PySem.Challenge.rw_mg0053_01.Holds := by
  refine hd ?_
  k_go0
  all_goals try k_fold
  rename (hd.heap_39 _).In _ => KX
  rename Top _ _ _ _ _ _ => T
  rename Below _ _ _ _ => K0
  rename Heap.IsList _ _ _ => hL
  rename IntsAre _ _ => hI
  rename Fr _ _ _ _ => F
  rename News _ _ _ _ => N0
  rename_i w s₀ s₁ mg mb G Y fa o pm doc ho hg X V GL B TE TW a1 a2 M a3 a4 hcd ns hs hlay0 hLa hr1 hl2 a5 a6 scr vals a7 ra w1 r0 hr hcond hc2 hD h₁ tk₁ oH oU oT dH dU dT X0
  obtain ⟨sl, rfl, rfl⟩ := vals_ints hI
  have hqk : ∀ h tk m, Fr s₁.heap s₁.heap.objs.size h m → qk (.ret (.bool true)) { heap := h, gens := s₁.gens, drawn := s₁.drawn, toks := tk, os := s₁.os } := by
    intro h tk m Fq
    clear F N0 K0
    (try k_unfold)
    (try k_end)
    wrow_close
  clear_value qk ek
  have K1 : Below callerA s₁.heap [] s₁.heap := K0
  clear K0
  clear G Y ho hg X V GL B TE TW M hcd hlay0 hr1 hl2 ra w1 r0 hr hD X0 hs hLa hc2
  (repeat' ((fail_if_success (with_reducible (first | show gz2 | show gz3 | show gz4 | show gz5 | show gz6 | show gz7 | show gz8 | show gz9 | show gz10 | show gz11 | show gz12 | show gz13 | show gz14 | show gz15 | show gz39 | show gz40 | show gz41 | show gz42 | show gz43 | show gz44 | show gz28 | show gz16 | show gz45 | show gz32 | show gz31 | show gz46 | show gz47 | show gz48 | show gz29 | show gz49 | show gz50 | show gz51 | show gz52 | show gz36 | show gz37 | show gz30 | show gz35))); (first | ((with_reducible show wpAny _ _ (execs _ _) _ _ _); k_gentoks) | with_reducible (first | refine execs_one ?_ | (refine execs_cut ?_; intro _ _) | (refine if_cut ?_; intro _ _)) | ((fail_if_success (with_reducible show gz1)); (first | (refine Kh.go ‹_› _ _ ?_; try dsimp only [KnP]) | ((with_reducible show TurnEnd _ _ _ _ _ _); dsimp only [TurnEnd]))) | (k_unfold; (try dsimp only)) | (k_end; wrow_close) | walk1 | (dsimp only; walk1) | (leave1; try dsimp only))))
  rename Fr _ _ _ _ => F1
  rename News _ _ _ _ => N1
  have hl63 : sl.length ≤ 63 := by have := hcond; simp at this; (first | lia | omega)
  have hL1 : Heap.IsList h₁ scr (valsOf sl).toArray := by
    obtain ⟨ox, q1, q2⟩ := hL
    exact ⟨ox, F1.keep _ _ q1, q2⟩
  k_dflt (refine' kms_slice_lit (lo := none) (hi := some 7) (its := (valsOf sl).toArray) (zs := valsOf (sl.take 7)) F1 N1 hL1 ?kp ?kq ?ke ?_ ?ks ?kt ?kz; (case kp => kmk_part); (case kq => kmk_part); (case ks => with_unfolding_all rfl); (case kt => kmk_pure); (case kz => rw [sizeLine_eq]; simp; (first | lia | omega)); (case ke => exact pick7 sl))
  intro nl h2 F2 N2 l2
  clear F1 N1 hL1
  (repeat' ((fail_if_success (with_reducible (first | show gz2 | show gz3 | show gz4 | show gz5 | show gz6 | show gz7 | show gz8 | show gz9 | show gz10 | show gz11 | show gz12 | show gz13 | show gz14 | show gz15 | show gz39 | show gz40 | show gz41 | show gz42 | show gz43 | show gz44 | show gz28 | show gz16 | show gz45 | show gz32 | show gz31 | show gz46 | show gz47 | show gz48 | show gz29 | show gz49 | show gz50 | show gz51 | show gz52 | show gz36 | show gz37 | show gz30 | show gz35))); (first | ((with_reducible show wpAny _ _ (execs _ _) _ _ _); k_gentoks) | with_reducible (first | refine execs_one ?_ | (refine execs_cut ?_; intro _ _) | (refine if_cut ?_; intro _ _)) | ((fail_if_success (with_reducible show gz1)); (first | (refine Kh.go ‹_› _ _ ?_; try dsimp only [KnP]) | ((with_reducible show TurnEnd _ _ _ _ _ _); dsimp only [TurnEnd]))) | (k_unfold; (try dsimp only)) | (k_end; wrow_close) | walk1 | (dsimp only; walk1) | (leave1; try dsimp only))))
  rename Fr _ _ _ _ => F3
  rename News _ _ _ _ => N3
  have ha3 : Apart ((nl, lstObj (valsOf (sl.take 7)) 0) :: [(s₁.heap.objs.size + 1 + 1 + 1, oH), (s₁.heap.objs.size + 1 + 1, oU), (s₁.heap.objs.size + 1, oT)]) := by
    refine apart_lt l2 ?_
    show ([s₁.heap.objs.size + 1 + 1 + 1, s₁.heap.objs.size + 1 + 1, s₁.heap.objs.size + 1] : List Nat).Nodup
    generalize (s₁.heap.objs.size : Nat) = z
    simp
    (first | lia | omega)
  refine steps_spec _ _ _ _ _ _ _ _ _ _ _ ⟨⟨_, _, _, _, _, _, _, K1, KX, T⟩, rfl, rfl⟩ F3 nl (sl.take 7) 0 _ N3 ha3 (by simp; (first | lia | omega)) (by decide) (by decide) ?_
  intro h4 tk4 st xs tr n4 hxs htr F4 N4 ha4
  clear F3 N3
  (repeat' ((fail_if_success (with_reducible (first | show gz2 | show gz3 | show gz4 | show gz5 | show gz6 | show gz7 | show gz8 | show gz9 | show gz10 | show gz11 | show gz12 | show gz13 | show gz14 | show gz15 | show gz39 | show gz40 | show gz41 | show gz42 | show gz43 | show gz44 | show gz28 | show gz16 | show gz45 | show gz32 | show gz31 | show gz46 | show gz47 | show gz48 | show gz29 | show gz49 | show gz50 | show gz51 | show gz52 | show gz36 | show gz37 | show gz30 | show gz35))); (first | ((with_reducible show wpAny _ _ (execs _ _) _ _ _); k_gentoks) | with_reducible (first | refine execs_one ?_ | (refine execs_cut ?_; intro _ _) | (refine if_cut ?_; intro _ _)) | ((fail_if_success (with_reducible show gz1)); (first | (refine Kh.go ‹_› _ _ ?_; try dsimp only [KnP]) | ((with_reducible show TurnEnd _ _ _ _ _ _); dsimp only [TurnEnd]))) | (k_unfold; (try dsimp only)) | (k_end; wrow_close) | walk1 | (dsimp only; walk1) | (leave1; try dsimp only))))
  rename Fr _ _ _ _ => F5
  rename News _ _ _ _ => N5
  have hxl : xs.length = 6 ∨ xs.length = 7 := by
    have h1 := steps_len ((sl.take 7).map (·.1))
    rw [← hxs, List.length_map] at h1
    exact h1
  have hxr : ∀ x ∈ xs, Sml x := fun x hx => steps_rg (ns := (sl.take 7).map (·.1)) x.2 (by rw [← hxs]; exact List.mem_map_of_mem hx)
  generalize hb5 : (tr ++ (nl, lstObj (valsOf (sl.take 7)) 0) :: [(s₁.heap.objs.size + 1 + 1 + 1, oH), (s₁.heap.objs.size + 1 + 1, oU), (s₁.heap.objs.size + 1, oT)]) = b5 at N5 ha4
  have htr5 : ∀ x ∈ xs, TriIn b5 x := fun x hx => by
    obtain ⟨q1, q2, q3, q4, q5⟩ := htr x hx
    exact ⟨q1, q2, q3, q4, hb5 ▸ List.mem_append_left _ q5⟩
  refine sorted_tris F5 N5 (xs := xs) (n := n4) (.head _) (fun x hx => ?_) hxr (by (first | lia | omega)) (by (first | lia | omega)) ?_
  · obtain ⟨q1, q2, q3, q4, q5⟩ := htr5 x hx
    exact ⟨q1, q2, q3, q4, .tail _ q5⟩
  intro ol c6 h6 os F6 N6 l6 hperm hsort
  have ha6 : Apart ((ol, lstObj (refsOf os) c6) :: (st, lstObj (refsOf xs) n4) :: b5) := apart_lt l6 ha4
  clear F5 N5
  (repeat' ((fail_if_success (with_reducible (first | show gz2 | show gz3 | show gz4 | show gz5 | show gz6 | show gz7 | show gz8 | show gz9 | show gz10 | show gz11 | show gz12 | show gz13 | show gz14 | show gz15 | show gz39 | show gz40 | show gz41 | show gz42 | show gz43 | show gz44 | show gz28 | show gz16 | show gz45 | show gz32 | show gz31 | show gz46 | show gz47 | show gz48 | show gz29 | show gz49 | show gz50 | show gz51 | show gz52 | show gz36 | show gz37 | show gz30 | show gz35))); (first | ((with_reducible show wpAny _ _ (execs _ _) _ _ _); k_gentoks) | with_reducible (first | refine execs_one ?_ | (refine execs_cut ?_; intro _ _) | (refine if_cut ?_; intro _ _)) | ((fail_if_success (with_reducible show gz1)); (first | (refine Kh.go ‹_› _ _ ?_; try dsimp only [KnP]) | ((with_reducible show TurnEnd _ _ _ _ _ _); dsimp only [TurnEnd]))) | (k_unfold; (try dsimp only)) | (k_end; wrow_close) | walk1 | (dsimp only; walk1) | (leave1; try dsimp only))))
  rename Fr _ _ _ _ => F7
  rename News _ _ _ _ => N7
  have hol : os.length = 6 ∨ os.length = 7 := by rw [hperm.length_eq]; exact hxl
  have hor : ∀ x ∈ os, Sml x := fun x hx => hxr x (hperm.mem_iff.mp hx)
  have hot5 : ∀ x ∈ os, TriIn b5 x := fun x hx => htr5 x (hperm.mem_iff.mp hx)
  refine table_spec _ _ _ _ _ _ _ _ _ _ _ ⟨⟨_, _, _, _, _, _, _, K1, KX, T⟩, rfl, rfl⟩ F7 ol os c6 _ N7 ha6 (fun x hx => ?_) (fun x hx => hor x hx) (by (first | lia | omega)) (by decide) (by decide) ?_
  · obtain ⟨q1, q2, q3, q4, q5⟩ := hot5 x hx
    exact ⟨q1, q2, q3, q4, .tail _ q5⟩
  intro h8 tk8 tb rows nt hsq htv F8 N8 ha8
  clear F7 N7
  (repeat' ((fail_if_success (with_reducible (first | show gz2 | show gz3 | show gz4 | show gz5 | show gz6 | show gz7 | show gz8 | show gz9 | show gz10 | show gz11 | show gz12 | show gz13 | show gz14 | show gz15 | show gz39 | show gz40 | show gz41 | show gz42 | show gz43 | show gz44 | show gz28 | show gz16 | show gz45 | show gz32 | show gz31 | show gz46 | show gz47 | show gz48 | show gz29 | show gz49 | show gz50 | show gz51 | show gz52 | show gz36 | show gz37 | show gz30 | show gz35))); (first | ((with_reducible show wpAny _ _ (execs _ _) _ _ _); k_gentoks) | with_reducible (first | refine execs_one ?_ | (refine execs_cut ?_; intro _ _) | (refine if_cut ?_; intro _ _)) | ((fail_if_success (with_reducible show gz1)); (first | (refine Kh.go ‹_› _ _ ?_; try dsimp only [KnP]) | ((with_reducible show TurnEnd _ _ _ _ _ _); dsimp only [TurnEnd]))) | (k_unfold; (try dsimp only)) | (k_end; wrow_close) | walk1 | (dsimp only; walk1) | (leave1; try dsimp only))))
  obtain ⟨R0, hR0⟩ : ∃ R0, R0 = (tb, lstObj (rowRefs rows) nt) :: (rLed rows ++ (ol, lstObj (refsOf os) c6) :: (st, lstObj (refsOf xs) n4) :: (tr ++ [(nl, lstObj (valsOf (sl.take 7)) 0)])) := ⟨_, rfl⟩
  have pm8 : ((tb, lstObj (rowRefs rows) nt) :: (rLed rows ++ (ol, lstObj (refsOf os) c6) :: (st, lstObj (refsOf xs) n4) :: b5)).Perm ((s₁.heap.objs.size + 1, oT) :: (s₁.heap.objs.size + 1 + 1, oU) :: (s₁.heap.objs.size + 1 + 1 + 1, oH) :: R0) := by
    have q := tail3_perm R0 (s₁.heap.objs.size + 1 + 1 + 1, oH) (s₁.heap.objs.size + 1 + 1, oU) (s₁.heap.objs.size + 1, oT)
    refine List.Perm.trans (List.Perm.of_eq ?_) q
    rw [hR0, ← hb5]
    simp
  have N9 := news_perm N8 pm8
  have ha9 := apart_perm ha8 pm8
  have hot0 : ∀ x ∈ os, TriIn R0 x := fun x hx => by
    obtain ⟨q1, q2, q3, q4, q5⟩ := htr x (hperm.mem_iff.mp hx)
    refine ⟨q1, q2, q3, q4, ?_⟩
    rw [hR0]
    exact .tail _ (List.mem_append_right _ (.tail _ (.tail _ (List.mem_append_left _ q5))))
  have mtb0 : (tb, lstObj (rowRefs rows) nt) ∈ R0 := by rw [hR0]; exact .head _
  have mrw0 : ∀ q ∈ rLed rows, q ∈ R0 := fun q hq => by rw [hR0]; exact .tail _ (List.mem_append_left _ hq)
  have mol0 : (ol, lstObj (refsOf os) c6) ∈ R0 := by rw [hR0]; exact .tail _ (List.mem_append_right _ (.head _))
  have mst0 : (st, lstObj (refsOf xs) n4) ∈ R0 := by rw [hR0]; exact .tail _ (List.mem_append_right _ (.tail _ (.head _)))
  clear N8 ha8 pm8 ha6 l6 ha4 hb5 htr5 hot5 htr ha3 hR0
  have dT' : oT.data = .cell none := dT
  have dU' : oU.data = .cell none := dU
  have dH' : oH.data = .cell none := dH
  clear dT dU dH
  refine storeX_C F8 N9 rfl (updF_at (l₁ := []) ha9) dT' ?_
  intro h10 oT2 F10 N10 dT2
  dsimp only [List.nil_append] at N10
  clear F8 N9
  (repeat' ((fail_if_success (with_reducible (first | show gz2 | show gz3 | show gz4 | show gz5 | show gz6 | show gz7 | show gz8 | show gz9 | show gz10 | show gz11 | show gz12 | show gz13 | show gz14 | show gz15 | show gz39 | show gz40 | show gz41 | show gz42 | show gz43 | show gz44 | show gz28 | show gz16 | show gz45 | show gz32 | show gz31 | show gz46 | show gz47 | show gz48 | show gz29 | show gz49 | show gz50 | show gz51 | show gz52 | show gz36 | show gz37 | show gz30 | show gz35))); (first | ((with_reducible show wpAny _ _ (execs _ _) _ _ _); k_gentoks) | with_reducible (first | refine execs_one ?_ | (refine execs_cut ?_; intro _ _) | (refine if_cut ?_; intro _ _)) | ((fail_if_success (with_reducible show gz1)); (first | (refine Kh.go ‹_› _ _ ?_; try dsimp only [KnP]) | ((with_reducible show TurnEnd _ _ _ _ _ _); dsimp only [TurnEnd]))) | (k_unfold; (try dsimp only)) | (k_end; wrow_close) | walk1 | (dsimp only; walk1) | (leave1; try dsimp only))))
  rename Fr _ _ _ _ => F11
  rename News _ _ _ _ => N11
  refine list_copyK F11 N11 (lst_is N11 (.tail _ (.tail _ (.tail _ mst0)))) ?_ (by rw [sizeLine_eq]; simp; (first | lia | omega))
  intro hp c12 h12 F12 N12 l12
  have ha12 := apart_lt (p := (hp, lstObj (refsOf xs) c12)) l12 ha9
  clear F11 N11
  (repeat' ((fail_if_success (with_reducible (first | show gz2 | show gz3 | show gz4 | show gz5 | show gz6 | show gz7 | show gz8 | show gz9 | show gz10 | show gz11 | show gz12 | show gz13 | show gz14 | show gz15 | show gz39 | show gz40 | show gz41 | show gz42 | show gz43 | show gz44 | show gz28 | show gz16 | show gz45 | show gz32 | show gz31 | show gz46 | show gz47 | show gz48 | show gz29 | show gz49 | show gz50 | show gz51 | show gz52 | show gz36 | show gz37 | show gz30 | show gz35))); (first | ((with_reducible show wpAny _ _ (execs _ _) _ _ _); k_gentoks) | with_reducible (first | refine execs_one ?_ | (refine execs_cut ?_; intro _ _) | (refine if_cut ?_; intro _ _)) | ((fail_if_success (with_reducible show gz1)); (first | (refine Kh.go ‹_› _ _ ?_; try dsimp only [KnP]) | ((with_reducible show TurnEnd _ _ _ _ _ _); dsimp only [TurnEnd]))) | (k_unfold; (try dsimp only)) | (k_end; wrow_close) | walk1 | (dsimp only; walk1) | (leave1; try dsimp only))))
  rename Fr _ _ _ _ => F13
  rename News _ _ _ _ => N13
  have hxt0 : ∀ x ∈ xs, TriIn R0 x := fun x hx => hot0 x (hperm.mem_iff.mpr hx)
  refine heapify_spec _ _ _ _ _ _ _ _ _ _ _ ⟨⟨_, _, _, _, _, _, _, K1, KX, T⟩, rfl, rfl⟩ F13 hp xs c12 _ N13 (apart_ne ha12) (fun x hx => ?_) hxl (by decide) (by decide) ?_
  · obtain ⟨q1, q2, q3, q4, q5⟩ := hxt0 x hx
    exact ⟨q1, q2, q3, q4, .tail _ (.tail _ (.tail _ q5))⟩
  intro h14 tk14 c14 F14 N14
  clear F13 N13 l12
  (repeat' ((fail_if_success (with_reducible (first | show gz2 | show gz3 | show gz4 | show gz5 | show gz6 | show gz7 | show gz8 | show gz9 | show gz10 | show gz11 | show gz12 | show gz13 | show gz14 | show gz15 | show gz39 | show gz40 | show gz41 | show gz42 | show gz43 | show gz44 | show gz28 | show gz16 | show gz45 | show gz32 | show gz31 | show gz46 | show gz47 | show gz48 | show gz29 | show gz49 | show gz50 | show gz51 | show gz52 | show gz36 | show gz37 | show gz30 | show gz35))); (first | ((with_reducible show wpAny _ _ (execs _ _) _ _ _); k_gentoks) | with_reducible (first | refine execs_one ?_ | (refine execs_cut ?_; intro _ _) | (refine if_cut ?_; intro _ _)) | ((fail_if_success (with_reducible show gz1)); (first | (refine Kh.go ‹_› _ _ ?_; try dsimp only [KnP]) | ((with_reducible show TurnEnd _ _ _ _ _ _); dsimp only [TurnEnd]))) | (k_unfold; (try dsimp only)) | (k_end; wrow_close) | walk1 | (dsimp only; walk1) | (leave1; try dsimp only))))
  refine my_for ?_
  (repeat' ((fail_if_success (with_reducible (first | show gz2 | show gz3 | show gz4 | show gz5 | show gz6 | show gz7 | show gz8 | show gz9 | show gz10 | show gz11 | show gz12 | show gz13 | show gz14 | show gz15 | show gz39 | show gz40 | show gz41 | show gz42 | show gz43 | show gz44 | show gz28 | show gz16 | show gz45 | show gz32 | show gz31 | show gz46 | show gz47 | show gz48 | show gz29 | show gz49 | show gz50 | show gz51 | show gz52 | show gz36 | show gz37 | show gz30 | show gz35))); (first | ((with_reducible show wpAny _ _ (execs _ _) _ _ _); k_gentoks) | with_reducible (first | refine execs_one ?_ | (refine execs_cut ?_; intro _ _) | (refine if_cut ?_; intro _ _)) | ((fail_if_success (with_reducible show gz1)); (first | (refine Kh.go ‹_› _ _ ?_; try dsimp only [KnP]) | ((with_reducible show TurnEnd _ _ _ _ _ _); dsimp only [TurnEnd]))) | (k_unfold; (try dsimp only)) | (k_end; wrow_close) | walk1 | (dsimp only; walk1) | (leave1; try dsimp only))))
  rename Fr _ _ _ _ => F15
  rename News _ _ _ _ => N15
  refine kst_len (l := ol) (us := refsOf os) (k := os.length) (c := c6) N15 (.tail _ (.tail _ (.tail _ (.tail _ (.tail _ mol0))))) (by simp) (by (first | lia | omega)) ?_
  (repeat' ((fail_if_success (with_reducible (first | show gz2 | show gz3 | show gz4 | show gz5 | show gz6 | show gz7 | show gz8 | show gz9 | show gz10 | show gz11 | show gz12 | show gz13 | show gz14 | show gz15 | show gz39 | show gz40 | show gz41 | show gz42 | show gz43 | show gz44 | show gz28 | show gz16 | show gz45 | show gz32 | show gz31 | show gz46 | show gz47 | show gz48 | show gz29 | show gz49 | show gz50 | show gz51 | show gz52 | show gz36 | show gz37 | show gz30 | show gz35))); (first | ((with_reducible show wpAny _ _ (execs _ _) _ _ _); k_gentoks) | with_reducible (first | refine execs_one ?_ | (refine execs_cut ?_; intro _ _) | (refine if_cut ?_; intro _ _)) | ((fail_if_success (with_reducible show gz1)); (first | (refine Kh.go ‹_› _ _ ?_; try dsimp only [KnP]) | ((with_reducible show TurnEnd _ _ _ _ _ _); dsimp only [TurnEnd]))) | (k_unfold; (try dsimp only)) | (k_end; wrow_close) | walk1 | (dsimp only; walk1) | (leave1; try dsimp only))))
  rename IsRange _ _ _ _ _ _ _ _ => hR
  rename Fr _ _ _ _ => F16
  rename News _ _ _ _ => N16
  rename _ ∧ _ ∧ _ ∧ _ ∧ AllLt _ _ => l15
  rename_i tkA _ _ _ _ _ _ _ _ _ _ _ _
  have hrs := rng1_small hol
  have haT : Apart ((tkA, lstObj (refsOf []) 0) :: (hp, lstObj (refsOf (hfy 3 xs)) c14) :: (s₁.heap.objs.size + 1, oT2) :: (s₁.heap.objs.size + 1 + 1, oU) :: (s₁.heap.objs.size + 1 + 1 + 1, oH) :: R0) :=
    apart_lt (List.forall_mem_cons.mpr ⟨l15.1, List.forall_mem_cons.mpr ⟨l15.2.1, List.forall_mem_cons.mpr ⟨l15.2.2.1, List.forall_mem_cons.mpr ⟨l15.2.2.2.1, fun q hq => kst_ltOf l15.2.2.2.2 q hq⟩⟩⟩⟩) ha12
  refine rit_make1 hR hrs.1 hrs.2 F16 N16 ?_
  intro it h17 F17 N17 l17
  have ha17 := apart_lt (p := (it, rngIt 1 os.length 1)) l17 haT
  have F17' := frB [(Str.ofString "order", .ref ol), (Str.ofString "heap", .ref hp), (Str.ofString "taken", .ref tkA)] F17 ⟨rfl, rfl, rfl, trivial⟩
  have pm17 : ((it, rngIt 1 os.length 1) :: (tkA, lstObj (refsOf []) 0) :: (hp, lstObj (refsOf (hfy 3 xs)) c14) :: (s₁.heap.objs.size + 1, oT2) :: (s₁.heap.objs.size + 1 + 1, oU) :: (s₁.heap.objs.size + 1 + 1 + 1, oH) :: R0).Perm ((hp, lstObj (refsOf (hfy 3 xs)) c14) :: (it, rngIt 1 os.length 1) :: (tkA, lstObj (refsOf []) 0) :: (s₁.heap.objs.size + 1, oT2) :: (s₁.heap.objs.size + 1 + 1, oU) :: (s₁.heap.objs.size + 1 + 1 + 1, oH) :: R0) :=
    ((List.Perm.swap _ _ _).cons _).trans (List.Perm.swap _ _ _)
  have N18 := news_perm N17 pm17
  have ha18 := apart_perm ha17 pm17
  clear N17 ha17 F17 l17 haT pm17 F16 N16 hR l15
  refine Stop.mk (my_forLoop (fun kk s' => ∃ (i : Nat) (taken hpL : List X3) (nt nh : Nat) (h : Heap) (tk : Nat) (u : Str → Option Value) (oU oH : Obj) (vU vH : Option Value), kk = os.length + 1 - i ∧ i ≤ os.length ∧ s' = { heap := h, gens := s₁.gens, drawn := s₁.drawn, toks := tk, os := s₁.os } ∧
      oU.data = .cell vU ∧ oH.data = .cell vH ∧ Fr s₁.heap s₁.heap.objs.size h (kB u [(Str.ofString "order", .ref ol), (Str.ofString "heap", .ref hp), (Str.ofString "taken", .ref tkA)]) ∧
      News s₁.heap s₁.heap.objs.size h ((hp, lstObj (refsOf hpL) nh) :: (it, rngIt ((i : Int) + 1) ((os.length : Int) - i) 1) :: (tkA, lstObj (refsOf taken) nt) :: (s₁.heap.objs.size + 1, oT2) :: (s₁.heap.objs.size + 1 + 1, oU) :: (s₁.heap.objs.size + 1 + 1 + 1, oH) :: R0) ∧
      Apart ((hp, lstObj (refsOf hpL) nh) :: (it, rngIt ((i : Int) + 1) ((os.length : Int) - i) 1) :: (tkA, lstObj (refsOf taken) nt) :: (s₁.heap.objs.size + 1, oT2) :: (s₁.heap.objs.size + 1 + 1, oU) :: (s₁.heap.objs.size + 1 + 1 + 1, oH) :: R0) ∧ PopInv os i taken hpL)
    (fun s' => ∃ (h : Heap) (tk : Nat) (m : Str → Option Value), s' = { heap := h, gens := s₁.gens, drawn := s₁.drawn, toks := tk, os := s₁.os } ∧ Fr s₁.heap s₁.heap.objs.size h m) ?_ (os.length + 1)
    (ex12_i 0 [] (hfy 3 xs) _ _ _ _ _ oU oH _ _ (an9_i rfl (Nat.zero_le _) rfl dU' dH' F17' (by simpa using N18) (by simpa using ha18) (pop_start hperm hxl hor))) ?_)
  · clear N18 ha18 F17' dU' dH'
    intro I1z R1z Q1z hI1z hR1z hQ1z kk s' hzz
    refine ex12_e hzz ?_
    clear hzz
    intro i taken hpL nt nh h tk u oU oH vU vH hzz
    refine an9_e hzz ?_
    clear hzz
    rintro rfl hi rfl dU dH F19 N19 ha19 hpi
    by_cases hlt : i < os.length
    · refine rng_next F19 N19 (upd_at (l₁ := [_]) ha19) (by (first | lia | omega)) ?_
      intro h20 F20 N20
      dsimp only [NextIs]
      have eI : rngIt ((i : Int) + 1 + 1) ((os.length : Int) - (i : Int) - 1) 1 = rngIt (((i + 1 : Nat) : Int) + 1) ((os.length : Int) - ((i + 1 : Nat) : Int)) 1 := by
        rw [show ((i + 1 : Nat) : Int) = (i : Int) + 1 by (first | lia | omega), show (os.length : Int) - (i + 1) = os.length - i - 1 by (first | lia | omega)]
      dsimp only [List.cons_append, List.nil_append] at N20
      rw [eI] at N20
      refine wpAny_assign_Name ?_
      refine storeX_C F20 N20 rfl (updF_at (l₁ := [_, _, _, _]) ha19) dU ?_
      intro h21 oU2 F21 N21 dU2
      dsimp only [List.cons_append, List.nil_append] at N21
      clear N20 F20 N19 F19
      refine ex2_e (pop_step hpi hlt hor hsort) ?_
      intro ys last hzz
      refine an2_e hzz ?_
      clear hzz
      rintro rfl hpi'
      have hyl : ys.length < 10 := by
        have := hpi.perm.length_eq
        simp at this
        (first | lia | omega)
      have hyt : ∀ x ∈ ys ++ [last], TriIn R0 x := fun x hx => hot0 x (hpi.perm.mem_iff.mp (List.mem_append_right _ hx))
      (repeat' ((fail_if_success (with_reducible (first | show gz2 | show gz3 | show gz4 | show gz5 | show gz6 | show gz7 | show gz8 | show gz9 | show gz10 | show gz11 | show gz12 | show gz13 | show gz14 | show gz15 | show gz39 | show gz40 | show gz41 | show gz42 | show gz43 | show gz44 | show gz28 | show gz16 | show gz45 | show gz32 | show gz31 | show gz46 | show gz47 | show gz48 | show gz29 | show gz49 | show gz50 | show gz51 | show gz52 | show gz36 | show gz37 | show gz30 | show gz35))); (first | ((with_reducible show wpAny _ _ (execs _ _) _ _ _); k_gentoks) | with_reducible (first | refine execs_one ?_ | (refine execs_cut ?_; intro _ _) | (refine if_cut ?_; intro _ _)) | ((fail_if_success (with_reducible show gz1)); (first | (refine Kh.go ‹_› _ _ ?_; try dsimp only [KnP]) | ((with_reducible show TurnEnd _ _ _ _ _ _); dsimp only [TurnEnd]))) | (k_unfold; (try dsimp only)) | (k_end; wrow_close) | walk1 | (dsimp only; walk1) | (leave1; try dsimp only))))
      rename Fr _ _ _ _ => F22
      rename News _ _ _ _ => N22
      refine heappop_spec _ _ _ _ _ _ _ _ _ _ _ ⟨⟨_, _, _, _, _, _, _, K1, KX, T⟩, rfl, rfl⟩ F22 hp ys last nh _ N22 (by exact ne_hd ha19 rfl) (fun x hx => ?_) hyl (by decide) (by decide) ?_
      · obtain ⟨q1, q2, q3, q4, q5⟩ := hyt x hx
        exact ⟨q1, q2, q3, q4, .tail _ (.tail _ (.tail _ (.tail _ (.tail _ q5))))⟩
      intro h23 tk23 c23 F23 N23
      clear F22 N22
      generalize (hpop ys last).1 = y at *
      generalize (hpop ys last).2 = hpL' at *
      (repeat' ((fail_if_success (with_reducible (first | show gz2 | show gz3 | show gz4 | show gz5 | show gz6 | show gz7 | show gz8 | show gz9 | show gz10 | show gz11 | show gz12 | show gz13 | show gz14 | show gz15 | show gz39 | show gz40 | show gz41 | show gz42 | show gz43 | show gz44 | show gz28 | show gz16 | show gz45 | show gz32 | show gz31 | show gz46 | show gz47 | show gz48 | show gz29 | show gz49 | show gz50 | show gz51 | show gz52 | show gz36 | show gz37 | show gz30 | show gz35))); (first | ((with_reducible show wpAny _ _ (execs _ _) _ _ _); k_gentoks) | with_reducible (first | refine execs_one ?_ | (refine execs_cut ?_; intro _ _) | (refine if_cut ?_; intro _ _)) | ((fail_if_success (with_reducible show gz1)); (first | (refine Kh.go ‹_› _ _ ?_; try dsimp only [KnP]) | ((with_reducible show TurnEnd _ _ _ _ _ _); dsimp only [TurnEnd]))) | (k_unfold; (try dsimp only)) | (k_end; wrow_close) | walk1 | (dsimp only; walk1) | (leave1; try dsimp only))))
      rename Fr _ _ _ _ => F24
      rename News _ _ _ _ => N24
      refine lst_append (D := tkA) (vs := refsOf taken) (n := nt) F24 N24 (upd_at (l₁ := [_, _]) ha19) (by have := hpi.len; simp; (first | lia | omega)) ?_
      intro h25 F25 N25
      rw [show refsOf taken ++ [Value.ref y.1] = refsOf (taken ++ [y]) by simp [refsOf]] at N25
      dsimp only [List.cons_append, List.nil_append] at N25
      (try clear F24); (try clear N24); (try clear hpi); (try clear hyt); (try clear hyl); (try clear F23); (try clear N23); (try clear F21); (try clear N21)
      generalize taken ++ [y] = tk2 at *
      have ht2 : ∀ x ∈ tk2, TriIn R0 x := fun x hx => hot0 x (hpi'.perm.mem_iff.mp (List.mem_append_left _ hx))
      have hr2 : ∀ x ∈ tk2, Sml x := fun x hx => hor x (hpi'.perm.mem_iff.mp (List.mem_append_left _ hx))
      (repeat' ((fail_if_success (with_reducible (first | show gz2 | show gz3 | show gz4 | show gz5 | show gz6 | show gz7 | show gz8 | show gz9 | show gz10 | show gz11 | show gz12 | show gz13 | show gz14 | show gz15 | show gz39 | show gz40 | show gz41 | show gz42 | show gz43 | show gz44 | show gz28 | show gz16 | show gz45 | show gz32 | show gz31 | show gz46 | show gz47 | show gz48 | show gz29 | show gz49 | show gz50 | show gz51 | show gz52 | show gz36 | show gz37 | show gz30 | show gz35))); (first | ((with_reducible show wpAny _ _ (execs _ _) _ _ _); k_gentoks) | with_reducible (first | refine execs_one ?_ | (refine execs_cut ?_; intro _ _) | (refine if_cut ?_; intro _ _)) | ((fail_if_success (with_reducible show gz1)); (first | (refine Kh.go ‹_› _ _ ?_; try dsimp only [KnP]) | ((with_reducible show TurnEnd _ _ _ _ _ _); dsimp only [TurnEnd]))) | (k_unfold; (try dsimp only)) | (k_end; wrow_close) | walk1 | (dsimp only; walk1) | (leave1; try dsimp only))))
      rename Fr _ _ _ _ => F26
      rename News _ _ _ _ => N26
      refine nameX_C N26 rfl (.tail _ (.tail _ (.tail _ (.tail _ (.head _))))) dU2 ?_
      (repeat' ((fail_if_success (with_reducible (first | show gz2 | show gz3 | show gz4 | show gz5 | show gz6 | show gz7 | show gz8 | show gz9 | show gz10 | show gz11 | show gz12 | show gz13 | show gz14 | show gz15 | show gz39 | show gz40 | show gz41 | show gz42 | show gz43 | show gz44 | show gz28 | show gz16 | show gz45 | show gz32 | show gz31 | show gz46 | show gz47 | show gz48 | show gz29 | show gz49 | show gz50 | show gz51 | show gz52 | show gz36 | show gz37 | show gz30 | show gz35))); (first | ((with_reducible show wpAny _ _ (execs _ _) _ _ _); k_gentoks) | with_reducible (first | refine execs_one ?_ | (refine execs_cut ?_; intro _ _) | (refine if_cut ?_; intro _ _)) | ((fail_if_success (with_reducible show gz1)); (first | (refine Kh.go ‹_› _ _ ?_; try dsimp only [KnP]) | ((with_reducible show TurnEnd _ _ _ _ _ _); dsimp only [TurnEnd]))) | (k_unfold; (try dsimp only)) | (k_end; wrow_close) | walk1 | (dsimp only; walk1) | (leave1; try dsimp only))))
      rename Fr _ _ _ _ => F27
      rename News _ _ _ _ => N27
      k_dflt (refine' kms_slice_lit (lo := none) (hi := some ((i : Int) + 1)) (its := (refsOf os).toArray) (zs := refsOf (os.take (i + 1))) F27 N27 (lst_is N27 (.tail _ (.tail _ (.tail _ (.tail _ (.tail _ (.tail _ mol0))))))) ?kp ?kq ?ke ?_ ?ks ?kt ?kz; (case kp => kmk_part); (case kq => kmk_part); (case ks => with_unfolding_all rfl); (case kt => kmk_pure); (case kz => rw [sizeLine_eq]; simp; (first | lia | omega)); (case ke => exact pickN os i))
      intro D28 h28 F28 N28 l28
      (try clear F26); (try clear N26); (try clear F27); (try clear N27)
      (repeat' ((fail_if_success (with_reducible (first | show gz2 | show gz3 | show gz4 | show gz5 | show gz6 | show gz7 | show gz8 | show gz9 | show gz10 | show gz11 | show gz12 | show gz13 | show gz14 | show gz15 | show gz39 | show gz40 | show gz41 | show gz42 | show gz43 | show gz44 | show gz28 | show gz16 | show gz45 | show gz32 | show gz31 | show gz46 | show gz47 | show gz48 | show gz29 | show gz49 | show gz50 | show gz51 | show gz52 | show gz36 | show gz37 | show gz30 | show gz35))); (first | ((with_reducible show wpAny _ _ (execs _ _) _ _ _); k_gentoks) | with_reducible (first | refine execs_one ?_ | (refine execs_cut ?_; intro _ _) | (refine if_cut ?_; intro _ _)) | ((fail_if_success (with_reducible show gz1)); (first | (refine Kh.go ‹_› _ _ ?_; try dsimp only [KnP]) | ((with_reducible show TurnEnd _ _ _ _ _ _); dsimp only [TurnEnd]))) | (k_unfold; (try dsimp only)) | (k_end; wrow_close) | walk1 | (dsimp only; walk1) | (leave1; try dsimp only))))
      rename News _ _ _ _ => N29
      refine ne_tris_N (xs := tk2) (ys := os.take (i + 1)) N29 (.tail _ (.tail _ (.tail _ (.head _)))) (.head _) (fun x hx => ?_) (fun x hx => ?_) (by rw [hpi'.vals, List.map_take]) (by rw [units_deeper]; decide) ?_
      · obtain ⟨q1, q2, q3, q4, q5⟩ := ht2 x hx
        exact ⟨q1, q2, q3, q4, .tail _ (.tail _ (.tail _ (.tail _ (.tail _ (.tail _ (.tail _ q5))))))⟩
      · obtain ⟨q1, q2, q3, q4, q5⟩ := hot0 x (List.mem_of_mem_take hx)
        exact ⟨q1, q2, q3, q4, .tail _ (.tail _ (.tail _ (.tail _ (.tail _ (.tail _ (.tail _ q5))))))⟩
      (repeat' ((fail_if_success (with_reducible (first | show gz2 | show gz3 | show gz4 | show gz5 | show gz6 | show gz7 | show gz8 | show gz9 | show gz10 | show gz11 | show gz12 | show gz13 | show gz14 | show gz15 | show gz39 | show gz40 | show gz41 | show gz42 | show gz43 | show gz44 | show gz28 | show gz16 | show gz45 | show gz32 | show gz31 | show gz46 | show gz47 | show gz48 | show gz29 | show gz49 | show gz50 | show gz51 | show gz52 | show gz36 | show gz37 | show gz30 | show gz35))); (first | ((with_reducible show wpAny _ _ (execs _ _) _ _ _); k_gentoks) | with_reducible (first | refine execs_one ?_ | (refine execs_cut ?_; intro _ _) | (refine if_cut ?_; intro _ _)) | ((fail_if_success (with_reducible show gz1)); (first | (refine Kh.go ‹_› _ _ ?_; try dsimp only [KnP]) | ((with_reducible show TurnEnd _ _ _ _ _ _); dsimp only [TurnEnd]))) | (k_unfold; (try dsimp only)) | (k_end; wrow_close) | walk1 | (dsimp only; walk1) | (leave1; try dsimp only))))
      rename Fr _ _ _ _ => F30
      rename News _ _ _ _ => N30
      have pm30 : ((hp, lstObj (refsOf hpL') c23) :: (it, rngIt (((i + 1 : Nat) : Int) + 1) ((os.length : Int) - ((i + 1 : Nat) : Int)) 1) :: (tkA, lstObj (refsOf tk2) (nt + 1)) :: (s₁.heap.objs.size + 1, oT2) :: (s₁.heap.objs.size + 1 + 1, oU2) :: (s₁.heap.objs.size + 1 + 1 + 1, oH) :: R0).Perm ((tkA, lstObj (refsOf tk2) (nt + 1)) :: (hp, lstObj (refsOf hpL') c23) :: (it, rngIt (((i + 1 : Nat) : Int) + 1) ((os.length : Int) - ((i + 1 : Nat) : Int)) 1) :: (s₁.heap.objs.size + 1, oT2) :: (s₁.heap.objs.size + 1 + 1, oU2) :: (s₁.heap.objs.size + 1 + 1 + 1, oH) :: R0) :=
        ((List.Perm.swap _ _ _).cons _).trans (List.Perm.swap _ _ _)
      have N31 := news_perm (fun q hq => N30 q (.tail _ hq)) pm30
      have ha31 := perm_apart pm30 ha19
      have hpl : tk2.length = i + 1 := hpi'.len
      refine stage_spec _ _ _ _ _ _ _ _ _ callerA s₁.heap _ _ _ _ _ _ _ ⟨K1, KX, T, fun b hb => nomatch hb⟩ rfl rfl F30 _ tkA tk2 _ N31 ha31 (fun x hx => ?_) (fun x hx => hr2 x hx) (by (first | lia | omega)) (by decide) (by decide) ?_
      · obtain ⟨q1, q2, q3, q4, q5⟩ := ht2 x hx
        exact ⟨q1, q2, q3, q4, .tail _ (.tail _ (.tail _ (.tail _ (.tail _ q5))))⟩
      intro rv sl2 V gone ex g32 h32 tk32 Tp sA nT nS hrv hK hkV hpg hsg hturn hGD F32' N32' ha32'
      have F32 := unturnF hturn F32'
      have N32'' := unturnN hturn N32'
      have pm32 := perm_front ((Tp, tupObj [rv, .bool true, .ref sA] nT) :: (sA, lstObj (valsOf sl2) nS) :: ex) [(tkA, lstObj (refsOf tk2) (nt + 1)), (hp, lstObj (refsOf hpL') c23), (it, rngIt (((i + 1 : Nat) : Int) + 1) ((os.length : Int) - ((i + 1 : Nat) : Int)) 1), (s₁.heap.objs.size + 1, oT2), (s₁.heap.objs.size + 1 + 1, oU2), (s₁.heap.objs.size + 1 + 1 + 1, oH)] R0
      have N32 := news_perm N32'' pm32
      have ha32 := apart_perm ha32' pm32
      have hsub32 : ∀ q ∈ R0, q ∈ ((Tp, tupObj [rv, .bool true, .ref sA] nT) :: (sA, lstObj (valsOf sl2) nS) :: ex) ++ R0 := fun q hq => List.mem_append_right _ hq
      have mTp : (Tp, tupObj [rv, .bool true, .ref sA] nT) ∈ ((Tp, tupObj [rv, .bool true, .ref sA] nT) :: (sA, lstObj (valsOf sl2) nS) :: ex) ++ R0 := .head _
      have msA : (sA, lstObj (valsOf sl2) nS) ∈ ((Tp, tupObj [rv, .bool true, .ref sA] nT) :: (sA, lstObj (valsOf sl2) nS) :: ex) ++ R0 := .tail _ (.head _)
      have hrv2 : ∀ q, q ∈ ex ++ (tkA, lstObj (refsOf tk2) (nt + 1)) :: (hp, lstObj (refsOf hpL') c23) :: (it, rngIt (((i + 1 : Nat) : Int) + 1) ((os.length : Int) - ((i + 1 : Nat) : Int)) 1) :: (s₁.heap.objs.size + 1, oT2) :: (s₁.heap.objs.size + 1 + 1, oU2) :: (s₁.heap.objs.size + 1 + 1 + 1, oH) :: R0 → q ∈ [(tkA, lstObj (refsOf tk2) (nt + 1)), (hp, lstObj (refsOf hpL') c23), (it, rngIt (((i + 1 : Nat) : Int) + 1) ((os.length : Int) - ((i + 1 : Nat) : Int)) 1), (s₁.heap.objs.size + 1, oT2), (s₁.heap.objs.size + 1 + 1, oU2), (s₁.heap.objs.size + 1 + 1 + 1, oH)] ++ (((Tp, tupObj [rv, .bool true, .ref sA] nT) :: (sA, lstObj (valsOf sl2) nS) :: ex) ++ R0) := fun q hq => pm32.mem_iff.mp (.tail _ (.tail _ hq))
      generalize ((Tp, tupObj [rv, .bool true, .ref sA] nT) :: (sA, lstObj (valsOf sl2) nS) :: ex) ++ R0 = R1 at *
      clear pm32 N32'' N32' ha32' F32' hGD hturn
      (try clear F30); (try clear N30); (try clear N31); (try clear ha31); (try clear N29); (try clear F28); (try clear l28)
      dsimp only [List.cons_append, List.nil_append] at N32 ha32 hrv2
      have N33 : News s₁.heap s₁.heap.objs.size h32 ((Tp, tupObj [rv, .bool true, .ref sA] nT) :: (tkA, lstObj (refsOf tk2) (nt + 1)) :: (hp, lstObj (refsOf hpL') c23) :: (it, rngIt (((i + 1 : Nat) : Int) + 1) ((os.length : Int) - ((i + 1 : Nat) : Int)) 1) :: (s₁.heap.objs.size + 1, oT2) :: (s₁.heap.objs.size + 1 + 1, oU2) :: (s₁.heap.objs.size + 1 + 1 + 1, oH) :: R1) :=
        fun q hq => (List.mem_cons.mp hq).elim (fun z => z ▸ N32 _ (.tail _ (.tail _ (.tail _ (.tail _ (.tail _ (.tail _ mTp))))))) (N32 q)
      clear N32
      (repeat' ((fail_if_success (with_reducible (first | show gz2 | show gz3 | show gz4 | show gz5 | show gz6 | show gz7 | show gz8 | show gz9 | show gz10 | show gz11 | show gz12 | show gz13 | show gz14 | show gz15 | show gz39 | show gz40 | show gz41 | show gz42 | show gz43 | show gz44 | show gz28 | show gz16 | show gz45 | show gz32 | show gz31 | show gz46 | show gz47 | show gz48 | show gz29 | show gz49 | show gz50 | show gz51 | show gz52 | show gz36 | show gz37 | show gz30 | show gz35))); (first | ((with_reducible show wpAny _ _ (execs _ _) _ _ _); k_gentoks) | with_reducible (first | refine execs_one ?_ | (refine execs_cut ?_; intro _ _) | (refine if_cut ?_; intro _ _)) | ((fail_if_success (with_reducible show gz1)); (first | (refine Kh.go ‹_› _ _ ?_; try dsimp only [KnP]) | ((with_reducible show TurnEnd _ _ _ _ _ _); dsimp only [TurnEnd]))) | (k_unfold; (try dsimp only)) | (k_end; wrow_close) | walk1 | (dsimp only; walk1) | (leave1; try dsimp only))))
      rename Fr _ _ _ _ => F34
      rename News _ _ _ _ => N34
      refine wpAny_Assign_Name ?_ (by with_unfolding_all rfl)
      refine LCt.ListComp_T F34 (by with_unfolding_all rfl) (by decide) (by rfl) (by decide) (by rfl) ?_
      (repeat' ((fail_if_success (with_reducible (first | show gz2 | show gz3 | show gz4 | show gz5 | show gz6 | show gz7 | show gz8 | show gz9 | show gz10 | show gz11 | show gz12 | show gz13 | show gz14 | show gz15 | show gz39 | show gz40 | show gz41 | show gz42 | show gz43 | show gz44 | show gz28 | show gz16 | show gz45 | show gz32 | show gz31 | show gz46 | show gz47 | show gz48 | show gz29 | show gz49 | show gz50 | show gz51 | show gz52 | show gz36 | show gz37 | show gz30 | show gz35))); (first | ((with_reducible show wpAny _ _ (execs _ _) _ _ _); k_gentoks) | with_reducible (first | refine execs_one ?_ | (refine execs_cut ?_; intro _ _) | (refine if_cut ?_; intro _ _)) | ((fail_if_success (with_reducible show gz1)); (first | (refine Kh.go ‹_› _ _ ?_; try dsimp only [KnP]) | ((with_reducible show TurnEnd _ _ _ _ _ _); dsimp only [TurnEnd]))) | (k_unfold; (try dsimp only)) | (k_end; wrow_close) | walk1 | (dsimp only; walk1) | (leave1; try dsimp only))))
      rename IsRange _ _ _ _ _ _ _ _ => hR35
      rename Fr _ _ _ _ => F35
      rename News _ _ _ _ => N35
      have N36 : News s₁.heap s₁.heap.objs.size _ ((tkA, lstObj (refsOf tk2) (nt + 1)) :: (hp, lstObj (refsOf hpL') c23) :: (it, rngIt (((i + 1 : Nat) : Int) + 1) ((os.length : Int) - ((i + 1 : Nat) : Int)) 1) :: (s₁.heap.objs.size + 1, oT2) :: (s₁.heap.objs.size + 1 + 1, oU2) :: (s₁.heap.objs.size + 1 + 1 + 1, oH) :: R1) := fun q hq => N35 q (.tail _ hq)
      obtain ⟨B36, hB36⟩ : ∃ B, B = ((tkA, lstObj (refsOf tk2) (nt + 1)) :: (hp, lstObj (refsOf hpL') c23) :: (it, rngIt (((i + 1 : Nat) : Int) + 1) ((os.length : Int) - ((i + 1 : Nat) : Int)) 1) :: (s₁.heap.objs.size + 1, oT2) :: (s₁.heap.objs.size + 1 + 1, oU2) :: (s₁.heap.objs.size + 1 + 1 + 1, oH) :: R1) := ⟨_, rfl⟩
      rw [← hB36] at N36
      have m36T : (s₁.heap.objs.size + 1, oT2) ∈ B36 := by rw [hB36]; exact .tail _ (.tail _ (.tail _ (.head _)))
      have m36U : (s₁.heap.objs.size + 1 + 1, oU2) ∈ B36 := by rw [hB36]; exact .tail _ (.tail _ (.tail _ (.tail _ (.head _))))
      have m36R : ∀ q ∈ R0, q ∈ B36 := fun q hq => by rw [hB36]; exact .tail _ (.tail _ (.tail _ (.tail _ (.tail _ (.tail _ (hsub32 q hq))))))
      refine LCt.CompSrcT.range (n := 4) rfl F35 N36 hR35 (by decide) (by decide) (by rw [sizeLine_eq]; decide) ?_
      intro g36
      (try clear N35); (try clear N34); (try clear F34); (try clear N33); (try clear F32)
      refine comp_indT (fun k ys nw => ∃ hl : List (Int × Tok), ys = valsOf hl ∧ hl.map (·.1) = (([0, 1, 2, 3] : List Int).take k).filter (fun p => decide (getT (tv rows) p.toNat p.toNat ≤ ((i + 1 : Nat) : Int))) ∧ nw = B36) ⟨[], rfl, rfl, rfl⟩ ?_ ?_
      · intro ys nw hzz
        refine ex1_e hzz ?_
        clear hzz
        intro hl hzz
        refine an3_e hzz ?_
        clear hzz
        rintro rfl hhl rfl
        intro D43 h43 tk43 F43 N43 off43
        have hhl2 : hl.map (·.1) = heldL (tv rows) (i + 1) := hhl
        have ha43 : Apart ((D43, lstObj (valsOf hl) (valsOf hl).length) :: nw) := apart_cons (off1_ne' off43) (by rw [hB36]; exact ha32)
        rw [hB36] at ha43
        have N44 : News s₁.heap s₁.heap.objs.size h43 ((D43, lstObj (valsOf hl) (valsOf hl).length) :: (tkA, lstObj (refsOf tk2) (nt + 1)) :: (hp, lstObj (refsOf hpL') c23) :: (it, rngIt (((i + 1 : Nat) : Int) + 1) ((os.length : Int) - ((i + 1 : Nat) : Int)) 1) :: (s₁.heap.objs.size + 1, oT2) :: (s₁.heap.objs.size + 1 + 1, oU2) :: (s₁.heap.objs.size + 1 + 1 + 1, oH) :: R1) := by rw [← hB36]; exact N43
        (try clear N43); (try clear N36); (try clear F35); (try clear hR35)
        clear m36T m36U m36R off43 hhl hB36
        refine storeX_C F43 N44 rfl (updF_at (l₁ := [_, _, _, _, _, _]) ha43) dH ?_
        intro h45 oH2 F45 N45 dH2
        dsimp only [List.cons_append, List.nil_append] at N45
        have ha45 : Apart ((D43, lstObj (valsOf hl) (valsOf hl).length) :: (tkA, lstObj (refsOf tk2) (nt + 1)) :: (hp, lstObj (refsOf hpL') c23) :: (it, rngIt (((i + 1 : Nat) : Int) + 1) ((os.length : Int) - ((i + 1 : Nat) : Int)) 1) :: (s₁.heap.objs.size + 1, oT2) :: (s₁.heap.objs.size + 1 + 1, oU2) :: (s₁.heap.objs.size + 1 + 1 + 1, oH2) :: R1) := apart_obj (l₁ := [_, _, _, _, _, _]) ha43
        (try clear N44); (try clear F43); (try clear ha43); (try clear ha32)
        obtain ⟨B45, hB45⟩ : ∃ B, B = ((D43, lstObj (valsOf hl) (valsOf hl).length) :: (tkA, lstObj (refsOf tk2) (nt + 1)) :: (hp, lstObj (refsOf hpL') c23) :: (it, rngIt (((i + 1 : Nat) : Int) + 1) ((os.length : Int) - ((i + 1 : Nat) : Int)) 1) :: (s₁.heap.objs.size + 1, oT2) :: (s₁.heap.objs.size + 1 + 1, oU2) :: (s₁.heap.objs.size + 1 + 1 + 1, oH2) :: R1) := ⟨_, rfl⟩
        rw [← hB45] at N45 ha45
        have m45D : (D43, lstObj (valsOf hl) (valsOf hl).length) ∈ B45 := by rw [hB45]; exact .head _
        have m45K : (tkA, lstObj (refsOf tk2) (nt + 1)) ∈ B45 := by rw [hB45]; exact .tail _ (.head _)
        have m45T : (s₁.heap.objs.size + 1, oT2) ∈ B45 := by rw [hB45]; exact .tail _ (.tail _ (.tail _ (.tail _ (.head _))))
        have m45U : (s₁.heap.objs.size + 1 + 1, oU2) ∈ B45 := by rw [hB45]; exact .tail _ (.tail _ (.tail _ (.tail _ (.tail _ (.head _)))))
        have m45H : (s₁.heap.objs.size + 1 + 1 + 1, oH2) ∈ B45 := by rw [hB45]; exact .tail _ (.tail _ (.tail _ (.tail _ (.tail _ (.tail _ (.head _))))))
        have m45R : ∀ q ∈ R0, q ∈ B45 := fun q hq => by rw [hB45]; exact .tail _ (.tail _ (.tail _ (.tail _ (.tail _ (.tail _ (.tail _ (hsub32 q hq)))))))
        have m45S : (sA, lstObj (valsOf sl2) nS) ∈ B45 := by rw [hB45]; exact .tail _ (.tail _ (.tail _ (.tail _ (.tail _ (.tail _ (.tail _ msA))))))
        (repeat' ((fail_if_success (with_reducible (first | show gz2 | show gz3 | show gz4 | show gz5 | show gz6 | show gz7 | show gz8 | show gz9 | show gz10 | show gz11 | show gz12 | show gz13 | show gz14 | show gz15 | show gz39 | show gz40 | show gz41 | show gz42 | show gz43 | show gz44 | show gz28 | show gz16 | show gz45 | show gz32 | show gz31 | show gz46 | show gz47 | show gz48 | show gz29 | show gz49 | show gz50 | show gz51 | show gz52 | show gz36 | show gz37 | show gz30 | show gz35))); (first | ((with_reducible show wpAny _ _ (execs _ _) _ _ _); k_gentoks) | with_reducible (first | refine execs_one ?_ | (refine execs_cut ?_; intro _ _) | (refine if_cut ?_; intro _ _)) | ((fail_if_success (with_reducible show gz1)); (first | (refine Kh.go ‹_› _ _ ?_; try dsimp only [KnP]) | ((with_reducible show TurnEnd _ _ _ _ _ _); dsimp only [TurnEnd]))) | (k_unfold; (try dsimp only)) | (k_end; wrow_close) | walk1 | (dsimp only; walk1) | (leave1; try dsimp only))))
        rename Fr _ _ _ _ => F46
        rename News _ _ _ _ => N46
        refine Assign_ListComp_C F46 (by rfl) (by with_unfolding_all rfl) (by with_unfolding_all rfl) rfl (by decide) (by rfl) (by decide) (fun _ _ => by rfl) (by rfl) (by rfl) ?_
        (repeat' ((fail_if_success (with_reducible (first | show gz2 | show gz3 | show gz4 | show gz5 | show gz6 | show gz7 | show gz8 | show gz9 | show gz10 | show gz11 | show gz12 | show gz13 | show gz14 | show gz15 | show gz39 | show gz40 | show gz41 | show gz42 | show gz43 | show gz44 | show gz28 | show gz16 | show gz45 | show gz32 | show gz31 | show gz46 | show gz47 | show gz48 | show gz29 | show gz49 | show gz50 | show gz51 | show gz52 | show gz36 | show gz37 | show gz30 | show gz35))); (first | ((with_reducible show wpAny _ _ (execs _ _) _ _ _); k_gentoks) | with_reducible (first | refine execs_one ?_ | (refine execs_cut ?_; intro _ _) | (refine if_cut ?_; intro _ _)) | ((fail_if_success (with_reducible show gz1)); (first | (refine Kh.go ‹_› _ _ ?_; try dsimp only [KnP]) | ((with_reducible show TurnEnd _ _ _ _ _ _); dsimp only [TurnEnd]))) | (k_unfold; (try dsimp only)) | (k_end; wrow_close) | walk1 | (dsimp only; walk1) | (leave1; try dsimp only))))
        rename IsRange _ _ _ _ _ _ _ _ => hR47
        rename Fr _ _ _ _ => F47
        rename News _ _ _ _ => N47
        have hll : hl.length ≤ 4 := held_len hhl2
        have hlm : ∀ a ∈ hl.map (·.1), 0 ≤ a ∧ a < 4 := fun a ha => by
          rw [hhl2] at ha
          exact (mem_held.mp ha).1
        refine Stop.mk ⟨_, 4, _, _, _, B45, fun k ys nw => ∃ fl : List (Int × Tok), ys = valsOf fl ∧ fl.map (·.1) = (([0, 1, 2, 3] : List Int).take k).filter (fun p => (hitL (tv rows) (i + 1) p).isEmpty) ∧ nw = B45, rfl, rfl, by decide, hR47, by decide, by decide, F47, N47, ha45, ⟨[], rfl, rfl, rfl⟩, ?_, ?_⟩
        · intro ys nw hzz
          refine ex1_e hzz ?_
          clear hzz
          intro fl hzz
          refine an3_e hzz ?_
          clear hzz
          rintro rfl hfl rfl D48 h48 tk48 F48 N48 ha48
          (try clear hR47); (try clear F47); (try clear N47); (try clear F46); (try clear N46); (try clear F45); (try clear N45)
          dsimp only
          have hxe : tk2.map (·.2) = (os.map (·.2)).take (i + 1) := hpi'.vals
          have hes : ∀ e ∈ os.map (·.2), Rg e := fun e he => by
            obtain ⟨x, hx, rfl⟩ := List.mem_map.mp he
            exact hor x hx
          have hlen7 : (os.map (·.2)).length ≤ 7 := by rw [List.length_map]; (first | lia | omega)
          have hle1 : i + 1 ≤ (os.map (·.2)).length := by rw [List.length_map]; (first | lia | omega)
          have hfree : sl2.map (·.1) = fl.map (·.1) := by
            have e1 : fl.map (·.1) = freeL (tv rows) (i + 1) := hfl
            rw [e1, htv]
            exact plain_free (t := i + 1) hle1 hlen7 hxe hes hK hkV hpg hsg
          refine hrv.elim ?_ ?_ <;> clear hrv <;> intro hrv
          · refine an2_e hrv ?_
            clear hrv
            intro hrve hrv
            refine ex1_e hrv ?_
            clear hrv
            intro done hrv
            refine an2_e hrv ?_
            clear hrv
            intro hf1 hf2
            subst hrve
            have hnil : hl = [] := held_nil hhl2 (htv ▸ plain_none (t := i + 1) hle1 hlen7 hxe hes hf1 hf2)
            (repeat' ((fail_if_success (with_reducible (first | show gz2 | show gz3 | show gz4 | show gz5 | show gz6 | show gz7 | show gz8 | show gz9 | show gz10 | show gz11 | show gz12 | show gz13 | show gz14 | show gz15 | show gz39 | show gz40 | show gz41 | show gz42 | show gz43 | show gz44 | show gz28 | show gz16 | show gz45 | show gz32 | show gz31 | show gz46 | show gz47 | show gz48 | show gz29 | show gz49 | show gz50 | show gz51 | show gz52 | show gz36 | show gz37 | show gz30 | show gz35))); (first | ((with_reducible show wpAny _ _ (execs _ _) _ _ _); k_gentoks) | with_reducible (first | refine execs_one ?_ | (refine execs_cut ?_; intro _ _) | (refine if_cut ?_; intro _ _)) | ((fail_if_success (with_reducible show gz1)); (first | (refine Kh.go ‹_› _ _ ?_; try dsimp only [KnP]) | ((with_reducible show TurnEnd _ _ _ _ _ _); dsimp only [TurnEnd]))) | (k_unfold; (try dsimp only)) | (k_end; wrow_close) | walk1 | (dsimp only; walk1) | (leave1; try dsimp only))))
            rename News _ _ _ (List.cons (Prod.mk D48 _) _) => N62
            refine ne_ints_N N62 (l1 := sl2) (l2 := fl) (.tail _ m45S) (.head _) (by rw [units_deeper]; decide) ?_
            rw [hfree, decide_eq_true rfl]
            (repeat' ((fail_if_success (with_reducible (first | show gz2 | show gz3 | show gz4 | show gz5 | show gz6 | show gz7 | show gz8 | show gz9 | show gz10 | show gz11 | show gz12 | show gz13 | show gz14 | show gz15 | show gz39 | show gz40 | show gz41 | show gz42 | show gz43 | show gz44 | show gz28 | show gz16 | show gz45 | show gz32 | show gz31 | show gz46 | show gz47 | show gz48 | show gz29 | show gz49 | show gz50 | show gz51 | show gz52 | show gz36 | show gz37 | show gz30 | show gz35))); (first | ((with_reducible show wpAny _ _ (execs _ _) _ _ _); k_gentoks) | with_reducible (first | refine execs_one ?_ | (refine execs_cut ?_; intro _ _) | (refine if_cut ?_; intro _ _)) | ((fail_if_success (with_reducible show gz1)); (first | (refine Kh.go ‹_› _ _ ?_; try dsimp only [KnP]) | ((with_reducible show TurnEnd _ _ _ _ _ _); dsimp only [TurnEnd]))) | (k_unfold; (try dsimp only)) | (k_end; wrow_close) | walk1 | (dsimp only; walk1) | (leave1; try dsimp only))))
            rename News _ _ _ (List.cons (Prod.mk D48 _) _) => N63
            refine nameX_C N63 rfl (.tail _ m45H) dH2 ?_
            (repeat' ((fail_if_success (with_reducible (first | show gz2 | show gz3 | show gz4 | show gz5 | show gz6 | show gz7 | show gz8 | show gz9 | show gz10 | show gz11 | show gz12 | show gz13 | show gz14 | show gz15 | show gz39 | show gz40 | show gz41 | show gz42 | show gz43 | show gz44 | show gz28 | show gz16 | show gz45 | show gz32 | show gz31 | show gz46 | show gz47 | show gz48 | show gz29 | show gz49 | show gz50 | show gz51 | show gz52 | show gz36 | show gz37 | show gz30 | show gz35))); (first | ((with_reducible show wpAny _ _ (execs _ _) _ _ _); k_gentoks) | with_reducible (first | refine execs_one ?_ | (refine execs_cut ?_; intro _ _) | (refine if_cut ?_; intro _ _)) | ((fail_if_success (with_reducible show gz1)); (first | (refine Kh.go ‹_› _ _ ?_; try dsimp only [KnP]) | ((with_reducible show TurnEnd _ _ _ _ _ _); dsimp only [TurnEnd]))) | (k_unfold; (try dsimp only)) | (k_end; wrow_close) | walk1 | (dsimp only; walk1) | (leave1; try dsimp only))))
            rename News _ _ _ _ => N64
            refine eq_nil_N N64 (vs := valsOf hl) (na := (valsOf hl).length) (.tail _ (.tail _ m45D)) (.head _) (by rw [units_deeper]; decide) ?_
            rw [hnil]
            (repeat' ((fail_if_success (with_reducible (first | show gz2 | show gz3 | show gz4 | show gz5 | show gz6 | show gz7 | show gz8 | show gz9 | show gz10 | show gz11 | show gz12 | show gz13 | show gz14 | show gz15 | show gz39 | show gz40 | show gz41 | show gz42 | show gz43 | show gz44 | show gz28 | show gz16 | show gz45 | show gz32 | show gz31 | show gz46 | show gz47 | show gz48 | show gz29 | show gz49 | show gz50 | show gz51 | show gz52 | show gz36 | show gz37 | show gz30 | show gz35))); (first | ((with_reducible show wpAny _ _ (execs _ _) _ _ _); k_gentoks) | with_reducible (first | refine execs_one ?_ | (refine execs_cut ?_; intro _ _) | (refine if_cut ?_; intro _ _)) | ((fail_if_success (with_reducible show gz1)); (first | (refine Kh.go ‹_› _ _ ?_; try dsimp only [KnP]) | ((with_reducible show TurnEnd _ _ _ _ _ _); dsimp only [TurnEnd]))) | (k_unfold; (try dsimp only)) | (k_end; wrow_close) | walk1 | (dsimp only; walk1) | (leave1; try dsimp only))))
            rename Fr _ _ _ _ => F65
            rename News _ _ _ _ => N65
            exact StopN hI1z (os.length + 1 - (i + 1)) (sb3 (by assumption)) (ex12_i (i + 1) tk2 hpL' (nt + 1) c23 _ _ _ oU2 oH2 _ _ (an9_i rfl (by (first | lia | omega)) rfl dU2 dH2 (frB _ F65 ⟨rfl, rfl, rfl, trivial⟩) (fun q hq => N65 q (.tail _ (.tail _ (by rw [hB45]; exact lw_end hsub32 q hq)))) ha19 hpi'))
          · refine ex3_e hrv ?_
            clear hrv
            intro rA ring nr hrv
            refine an3_e hrv ?_
            clear hrv
            intro hrve hR hrm
            subst hrve
            refine an4_e (plain_ring (t := i + 1) hle1 hlen7 hxe hes hR) ?_
            rintro p1 p2 p3 p4
            have hnil : (valsOf hl).isEmpty = false := held_some hhl2 (htv ▸ p1)
            (repeat' ((fail_if_success (with_reducible (first | show gz2 | show gz3 | show gz4 | show gz5 | show gz6 | show gz7 | show gz8 | show gz9 | show gz10 | show gz11 | show gz12 | show gz13 | show gz14 | show gz15 | show gz39 | show gz40 | show gz41 | show gz42 | show gz43 | show gz44 | show gz28 | show gz16 | show gz45 | show gz32 | show gz31 | show gz46 | show gz47 | show gz48 | show gz29 | show gz49 | show gz50 | show gz51 | show gz52 | show gz36 | show gz37 | show gz30 | show gz35))); (first | ((with_reducible show wpAny _ _ (execs _ _) _ _ _); k_gentoks) | with_reducible (first | refine execs_one ?_ | (refine execs_cut ?_; intro _ _) | (refine if_cut ?_; intro _ _)) | ((fail_if_success (with_reducible show gz1)); (first | (refine Kh.go ‹_› _ _ ?_; try dsimp only [KnP]) | ((with_reducible show TurnEnd _ _ _ _ _ _); dsimp only [TurnEnd]))) | (k_unfold; (try dsimp only)) | (k_end; wrow_close) | walk1 | (dsimp only; walk1) | (leave1; try dsimp only))))
            rename News _ _ _ (List.cons (Prod.mk D48 _) _) => N62
            refine ne_ints_N N62 (l1 := sl2) (l2 := fl) (.tail _ m45S) (.head _) (by rw [units_deeper]; decide) ?_
            rw [hfree, decide_eq_true rfl]
            (repeat' ((fail_if_success (with_reducible (first | show gz2 | show gz3 | show gz4 | show gz5 | show gz6 | show gz7 | show gz8 | show gz9 | show gz10 | show gz11 | show gz12 | show gz13 | show gz14 | show gz15 | show gz39 | show gz40 | show gz41 | show gz42 | show gz43 | show gz44 | show gz28 | show gz16 | show gz45 | show gz32 | show gz31 | show gz46 | show gz47 | show gz48 | show gz29 | show gz49 | show gz50 | show gz51 | show gz52 | show gz36 | show gz37 | show gz30 | show gz35))); (first | ((with_reducible show wpAny _ _ (execs _ _) _ _ _); k_gentoks) | with_reducible (first | refine execs_one ?_ | (refine execs_cut ?_; intro _ _) | (refine if_cut ?_; intro _ _)) | ((fail_if_success (with_reducible show gz1)); (first | (refine Kh.go ‹_› _ _ ?_; try dsimp only [KnP]) | ((with_reducible show TurnEnd _ _ _ _ _ _); dsimp only [TurnEnd]))) | (k_unfold; (try dsimp only)) | (k_end; wrow_close) | walk1 | (dsimp only; walk1) | (leave1; try dsimp only))))
            rename News _ _ _ (List.cons (Prod.mk D48 _) _) => N63
            refine nameX_C N63 rfl (.tail _ m45H) dH2 ?_
            (repeat' ((fail_if_success (with_reducible (first | show gz2 | show gz3 | show gz4 | show gz5 | show gz6 | show gz7 | show gz8 | show gz9 | show gz10 | show gz11 | show gz12 | show gz13 | show gz14 | show gz15 | show gz39 | show gz40 | show gz41 | show gz42 | show gz43 | show gz44 | show gz28 | show gz16 | show gz45 | show gz32 | show gz31 | show gz46 | show gz47 | show gz48 | show gz29 | show gz49 | show gz50 | show gz51 | show gz52 | show gz36 | show gz37 | show gz30 | show gz35))); (first | ((with_reducible show wpAny _ _ (execs _ _) _ _ _); k_gentoks) | with_reducible (first | refine execs_one ?_ | (refine execs_cut ?_; intro _ _) | (refine if_cut ?_; intro _ _)) | ((fail_if_success (with_reducible show gz1)); (first | (refine Kh.go ‹_› _ _ ?_; try dsimp only [KnP]) | ((with_reducible show TurnEnd _ _ _ _ _ _); dsimp only [TurnEnd]))) | (k_unfold; (try dsimp only)) | (k_end; wrow_close) | walk1 | (dsimp only; walk1) | (leave1; try dsimp only))))
            rename News _ _ _ _ => N64
            refine eq_nil_N N64 (vs := valsOf hl) (na := (valsOf hl).length) (.tail _ (.tail _ m45D)) (.head _) (by rw [units_deeper]; decide) ?_
            rw [hnil]
            have mrA : (rA, lstObj (valsOf ring) nr) ∈ nw := by rw [hB45]; exact lw_rv dH (hrv2 _ hrm)
            (repeat' ((fail_if_success (with_reducible (first | show gz2 | show gz3 | show gz4 | show gz5 | show gz6 | show gz7 | show gz8 | show gz9 | show gz10 | show gz11 | show gz12 | show gz13 | show gz14 | show gz15 | show gz39 | show gz40 | show gz41 | show gz42 | show gz43 | show gz44 | show gz28 | show gz16 | show gz45 | show gz32 | show gz31 | show gz46 | show gz47 | show gz48 | show gz29 | show gz49 | show gz50 | show gz51 | show gz52 | show gz36 | show gz37 | show gz30 | show gz35))); (first | ((with_reducible show wpAny _ _ (execs _ _) _ _ _); k_gentoks) | with_reducible (first | refine execs_one ?_ | (refine execs_cut ?_; intro _ _) | (refine if_cut ?_; intro _ _)) | ((fail_if_success (with_reducible show gz1)); (first | (refine Kh.go ‹_› _ _ ?_; try dsimp only [KnP]) | ((with_reducible show TurnEnd _ _ _ _ _ _); dsimp only [TurnEnd]))) | (k_unfold; (try dsimp only)) | (k_end; wrow_close) | walk1 | (dsimp only; walk1) | (leave1; try dsimp only))))
            rename Fr _ _ _ _ => F65
            rename News _ _ _ _ => N65
            refine LCg.ListComp_U F65 (by with_unfolding_all rfl) (by decide) (by rfl) (by decide) (by rfl) ?_
            (repeat' ((fail_if_success (with_reducible (first | show gz2 | show gz3 | show gz4 | show gz5 | show gz6 | show gz7 | show gz8 | show gz9 | show gz10 | show gz11 | show gz12 | show gz13 | show gz14 | show gz15 | show gz39 | show gz40 | show gz41 | show gz42 | show gz43 | show gz44 | show gz28 | show gz16 | show gz45 | show gz32 | show gz31 | show gz46 | show gz47 | show gz48 | show gz29 | show gz49 | show gz50 | show gz51 | show gz52 | show gz36 | show gz37 | show gz30 | show gz35))); (first | ((with_reducible show wpAny _ _ (execs _ _) _ _ _); k_gentoks) | with_reducible (first | refine execs_one ?_ | (refine execs_cut ?_; intro _ _) | (refine if_cut ?_; intro _ _)) | ((fail_if_success (with_reducible show gz1)); (first | (refine Kh.go ‹_› _ _ ?_; try dsimp only [KnP]) | ((with_reducible show TurnEnd _ _ _ _ _ _); dsimp only [TurnEnd]))) | (k_unfold; (try dsimp only)) | (k_end; wrow_close) | walk1 | (dsimp only; walk1) | (leave1; try dsimp only))))
            rename News _ _ _ _ => N66
            refine nameX_C N66 rfl (.tail _ (.tail _ m45H)) dH2 ?_
            (repeat' ((fail_if_success (with_reducible (first | show gz2 | show gz3 | show gz4 | show gz5 | show gz6 | show gz7 | show gz8 | show gz9 | show gz10 | show gz11 | show gz12 | show gz13 | show gz14 | show gz15 | show gz39 | show gz40 | show gz41 | show gz42 | show gz43 | show gz44 | show gz28 | show gz16 | show gz45 | show gz32 | show gz31 | show gz46 | show gz47 | show gz48 | show gz29 | show gz49 | show gz50 | show gz51 | show gz52 | show gz36 | show gz37 | show gz30 | show gz35))); (first | ((with_reducible show wpAny _ _ (execs _ _) _ _ _); k_gentoks) | with_reducible (first | refine execs_one ?_ | (refine execs_cut ?_; intro _ _) | (refine if_cut ?_; intro _ _)) | ((fail_if_success (with_reducible show gz1)); (first | (refine Kh.go ‹_› _ _ ?_; try dsimp only [KnP]) | ((with_reducible show TurnEnd _ _ _ _ _ _); dsimp only [TurnEnd]))) | (k_unfold; (try dsimp only)) | (k_end; wrow_close) | walk1 | (dsimp only; walk1) | (leave1; try dsimp only))))
            rename Fr _ _ _ _ => F67
            rename News _ _ _ _ => N67
            have N67' : News s₁.heap s₁.heap.objs.size _ nw := fun q hq => N67 q (.tail _ (.tail _ hq))
            refine LCg.CompSrc.ledger (k := (valsOf hl).length) (by rfl) F67 N67' m45D (by rw [sizeLine_eq]; simp; (first | lia | omega)) ?_
            intro g67
            refine comp_indU (fun j zs nw' => ∃ gl : List (Int × Tok), zs = valsOf gl ∧ gl.map (·.1) = ((hl.map (·.1)).take j).map (fun a => getT (tv rows) a.toNat a.toNat) ∧ nw = nw') ⟨[], rfl, rfl, rfl⟩ ?_ ?_
            · intro zs nw' hzz
              refine ex1_e hzz ?_
              clear hzz
              intro gl hzz
              refine an3_e hzz ?_
              clear hzz
              rintro rfl hgl rfl
              intro D68 h68 tk68 F68 N68 off68
              (try clear N67'); (try clear N67); (try clear F67); (try clear N66); (try clear N65); (try clear F65)
              rw [List.take_of_length_le (by simp), hhl2, htv] at hgl
              (repeat' ((fail_if_success (with_reducible (first | show gz2 | show gz3 | show gz4 | show gz5 | show gz6 | show gz7 | show gz8 | show gz9 | show gz10 | show gz11 | show gz12 | show gz13 | show gz14 | show gz15 | show gz39 | show gz40 | show gz41 | show gz42 | show gz43 | show gz44 | show gz28 | show gz16 | show gz45 | show gz32 | show gz31 | show gz46 | show gz47 | show gz48 | show gz29 | show gz49 | show gz50 | show gz51 | show gz52 | show gz36 | show gz37 | show gz30 | show gz35))); (first | ((with_reducible show wpAny _ _ (execs _ _) _ _ _); k_gentoks) | with_reducible (first | refine execs_one ?_ | (refine execs_cut ?_; intro _ _) | (refine if_cut ?_; intro _ _)) | ((fail_if_success (with_reducible show gz1)); (first | (refine Kh.go ‹_› _ _ ?_; try dsimp only [KnP]) | ((with_reducible show TurnEnd _ _ _ _ _ _); dsimp only [TurnEnd]))) | (k_unfold; (try dsimp only)) | (k_end; wrow_close) | walk1 | (dsimp only; walk1) | (leave1; try dsimp only))))
              rename Fr _ _ _ _ => F69
              rename News _ _ _ _ => N69
              have hgne : 0 < (gl.map (·.1)).length := by
                rw [hgl, List.length_map]
                exact List.length_pos_iff.mpr p1
              refine min_list_N (by rfl) F69 N69 (lst_is (n := (valsOf gl).length) N69 (.head _)) (ints_vals gl) hgne ?_
              intro h70 M tM tk70 F70 N70 hM1 hM2
              (repeat' ((fail_if_success (with_reducible (first | show gz2 | show gz3 | show gz4 | show gz5 | show gz6 | show gz7 | show gz8 | show gz9 | show gz10 | show gz11 | show gz12 | show gz13 | show gz14 | show gz15 | show gz39 | show gz40 | show gz41 | show gz42 | show gz43 | show gz44 | show gz28 | show gz16 | show gz45 | show gz32 | show gz31 | show gz46 | show gz47 | show gz48 | show gz29 | show gz49 | show gz50 | show gz51 | show gz52 | show gz36 | show gz37 | show gz30 | show gz35))); (first | ((with_reducible show wpAny _ _ (execs _ _) _ _ _); k_gentoks) | with_reducible (first | refine execs_one ?_ | (refine execs_cut ?_; intro _ _) | (refine if_cut ?_; intro _ _)) | ((fail_if_success (with_reducible show gz1)); (first | (refine Kh.go ‹_› _ _ ?_; try dsimp only [KnP]) | ((with_reducible show TurnEnd _ _ _ _ _ _); dsimp only [TurnEnd]))) | (k_unfold; (try dsimp only)) | (k_end; wrow_close) | walk1 | (dsimp only; walk1) | (leave1; try dsimp only))))
              rename Fr _ _ _ _ => F71
              rename News _ _ _ _ => N71
              refine nameX_C N71 rfl (.tail _ m45U) dU2 ?_
              (repeat' ((fail_if_success (with_reducible (first | show gz2 | show gz3 | show gz4 | show gz5 | show gz6 | show gz7 | show gz8 | show gz9 | show gz10 | show gz11 | show gz12 | show gz13 | show gz14 | show gz15 | show gz39 | show gz40 | show gz41 | show gz42 | show gz43 | show gz44 | show gz28 | show gz16 | show gz45 | show gz32 | show gz31 | show gz46 | show gz47 | show gz48 | show gz29 | show gz49 | show gz50 | show gz51 | show gz52 | show gz36 | show gz37 | show gz30 | show gz35))); (first | ((with_reducible show wpAny _ _ (execs _ _) _ _ _); k_gentoks) | with_reducible (first | refine execs_one ?_ | (refine execs_cut ?_; intro _ _) | (refine if_cut ?_; intro _ _)) | ((fail_if_success (with_reducible show gz1)); (first | (refine Kh.go ‹_› _ _ ?_; try dsimp only [KnP]) | ((with_reducible show TurnEnd _ _ _ _ _ _); dsimp only [TurnEnd]))) | (k_unfold; (try dsimp only)) | (k_end; wrow_close) | walk1 | (dsimp only; walk1) | (leave1; try dsimp only))))
              rename Fr _ _ _ _ => F72
              rename News _ _ _ _ => N72
              have hrl := hR.len
              rw [List.length_map] at hrl p2
              obtain ⟨rest, pmR⟩ := two_front mrA m45K (tk_ne hrl)
              have N73 := news_perm (fun q hq => N72 q (.tail _ hq)) pmR
              have haR := apart_perm (apart_tail ha48) pmR
              refine isring_spec _ _ _ _ _ _ _ _ _ _ _ ⟨⟨_, _, _, _, _, _, _, K1, KX, T⟩, rfl, rfl⟩ F72 rA tkA ring nr tk2 (nt + 1) (M == (i : Int) + 1) rest N73 haR (fun x hx => ?_) (by (first | lia | omega)) hrl p2 (by rw [List.map_tail]; exact hR.nd) p3 (fun hnw => ?_) ?_ (by decide) (by decide) ?_
              · obtain ⟨q1, q2, q3, q4, q5⟩ := ht2 x hx
                exact ⟨q1, q2, q3, q4, rest_of pmR (m45R _ q5) (by simp)⟩
              · have hMe : M = (i : Int) + 1 := by simpa using hnw
                exact p4 (newest_of hgl hM1 hM2 (by (first | lia | omega)))
              · exact ends_of hR.ends hrl
              · intro h74 tk74 F74 N74
                (try clear N73); (try clear N72); (try clear F72)
                (repeat' ((fail_if_success (with_reducible (first | show gz2 | show gz3 | show gz4 | show gz5 | show gz6 | show gz7 | show gz8 | show gz9 | show gz10 | show gz11 | show gz12 | show gz13 | show gz14 | show gz15 | show gz39 | show gz40 | show gz41 | show gz42 | show gz43 | show gz44 | show gz28 | show gz16 | show gz45 | show gz32 | show gz31 | show gz46 | show gz47 | show gz48 | show gz29 | show gz49 | show gz50 | show gz51 | show gz52 | show gz36 | show gz37 | show gz30 | show gz35))); (first | ((with_reducible show wpAny _ _ (execs _ _) _ _ _); k_gentoks) | with_reducible (first | refine execs_one ?_ | (refine execs_cut ?_; intro _ _) | (refine if_cut ?_; intro _ _)) | ((fail_if_success (with_reducible show gz1)); (first | (refine Kh.go ‹_› _ _ ?_; try dsimp only [KnP]) | ((with_reducible show TurnEnd _ _ _ _ _ _); dsimp only [TurnEnd]))) | (k_unfold; (try dsimp only)) | (k_end; wrow_close) | walk1 | (dsimp only; walk1) | (leave1; try dsimp only))))
                rename Fr _ _ _ _ => F75
                rename News _ _ _ _ => N75
                exact StopN hI1z (os.length + 1 - (i + 1)) (sb3 (by assumption)) (ex12_i (i + 1) tk2 hpL' (nt + 1) c23 _ _ _ oU2 oH2 _ _ (an9_i rfl (by (first | lia | omega)) rfl dU2 dH2 (frB _ F75 ⟨rfl, rfl, rfl, trivial⟩) (fun q hq => N75 q (pmR.mem_iff.mp (by rw [hB45]; exact lw_end hsub32 q hq))) ha19 hpi'))
            · intro j zs nw' hj hzz
              refine ex1_e hzz ?_
              clear hzz
              intro gl hzz
              refine an3_e hzz ?_
              clear hzz
              rintro rfl hgl rfl so2 mo2 v I oI C oC D m71 h71 tk71 E71 hv71 hC71 hm71 F71 N71 off71 ne71 T2z h2z
              (try clear N67'); (try clear N67); (try clear F67); (try clear N66); (try clear N65); (try clear F65)
              obtain ⟨⟨a71, t71⟩, ha71⟩ : ∃ y, hl[j]? = some y := ⟨hl[j]'(by simpa using hj), List.getElem?_eq_getElem _⟩
              have hv71' : v = .int a71 t71 := by
                simp only [valsOf, List.getElem?_toArray, List.getElem?_map, ha71] at hv71
                exact (Option.some.inj hv71).symm
              subst hv71'
              have hab := hlm a71 (List.mem_map.mpr ⟨_, List.mem_of_getElem? ha71, rfl⟩)
              have ha4 : a71.toNat < 4 := by (first | lia | omega)
              (repeat' ((fail_if_success (with_reducible (first | show gz2 | show gz3 | show gz4 | show gz5 | show gz6 | show gz7 | show gz8 | show gz9 | show gz10 | show gz11 | show gz12 | show gz13 | show gz14 | show gz15 | show gz39 | show gz40 | show gz41 | show gz42 | show gz43 | show gz44 | show gz28 | show gz16 | show gz45 | show gz32 | show gz31 | show gz46 | show gz47 | show gz48 | show gz29 | show gz49 | show gz50 | show gz51 | show gz52 | show gz36 | show gz37 | show gz30 | show gz35))); (first | ((with_reducible show wpAny _ _ (execs _ _) _ _ _); k_gentoks) | with_reducible (first | refine execs_one ?_ | (refine execs_cut ?_; intro _ _) | (refine if_cut ?_; intro _ _)) | ((fail_if_success (with_reducible show gz1)); (first | (refine Kh.go ‹_› _ _ ?_; try dsimp only [KnP]) | ((with_reducible show TurnEnd _ _ _ _ _ _); dsimp only [TurnEnd]))) | (k_unfold; (try dsimp only)) | (k_end; wrow_close) | walk1 | (dsimp only; walk1) | (leave1; try dsimp only))))
              rename News _ _ _ _ => N72
              refine lcf_cell N72 rfl (.tail _ (.tail _ (.tail _ m45T))) dT2 ?_ (by rfl) (by rfl)
              (repeat' ((fail_if_success (with_reducible (first | show gz2 | show gz3 | show gz4 | show gz5 | show gz6 | show gz7 | show gz8 | show gz9 | show gz10 | show gz11 | show gz12 | show gz13 | show gz14 | show gz15 | show gz39 | show gz40 | show gz41 | show gz42 | show gz43 | show gz44 | show gz28 | show gz16 | show gz45 | show gz32 | show gz31 | show gz46 | show gz47 | show gz48 | show gz29 | show gz49 | show gz50 | show gz51 | show gz52 | show gz36 | show gz37 | show gz30 | show gz35))); (first | ((with_reducible show wpAny _ _ (execs _ _) _ _ _); k_gentoks) | with_reducible (first | refine execs_one ?_ | (refine execs_cut ?_; intro _ _) | (refine if_cut ?_; intro _ _)) | ((fail_if_success (with_reducible show gz1)); (first | (refine Kh.go ‹_› _ _ ?_; try dsimp only [KnP]) | ((with_reducible show TurnEnd _ _ _ _ _ _); dsimp only [TurnEnd]))) | (k_unfold; (try dsimp only)) | (k_end; wrow_close) | walk1 | (dsimp only; walk1) | (leave1; try dsimp only))))
              rename News _ _ _ _ => N73
              refine ex2_e (tv_cell hsq ha4 ha4) ?_
              intro rw73 t73 hzz
              refine an3_e hzz ?_
              clear hzz
              rintro u1 u2 u3
              refine lst_item (l := tb) (vs := rowRefs rows) (v := .ref rw73.a) N73 (.tail _ (.tail _ (.tail _ (m45R _ mtb0)))) hab.1 (by (first | lia | omega)) u1 ?_
              (repeat' ((fail_if_success (with_reducible (first | show gz2 | show gz3 | show gz4 | show gz5 | show gz6 | show gz7 | show gz8 | show gz9 | show gz10 | show gz11 | show gz12 | show gz13 | show gz14 | show gz15 | show gz39 | show gz40 | show gz41 | show gz42 | show gz43 | show gz44 | show gz28 | show gz16 | show gz45 | show gz32 | show gz31 | show gz46 | show gz47 | show gz48 | show gz29 | show gz49 | show gz50 | show gz51 | show gz52 | show gz36 | show gz37 | show gz30 | show gz35))); (first | ((with_reducible show wpAny _ _ (execs _ _) _ _ _); k_gentoks) | with_reducible (first | refine execs_one ?_ | (refine execs_cut ?_; intro _ _) | (refine if_cut ?_; intro _ _)) | ((fail_if_success (with_reducible show gz1)); (first | (refine Kh.go ‹_› _ _ ?_; try dsimp only [KnP]) | ((with_reducible show TurnEnd _ _ _ _ _ _); dsimp only [TurnEnd]))) | (k_unfold; (try dsimp only)) | (k_end; wrow_close) | walk1 | (dsimp only; walk1) | (leave1; try dsimp only))))
              rename News _ _ _ _ => N74
              refine lst_item (l := rw73.a) (vs := valsOf rw73.v) (n := rw73.e) (v := .int (getT (tv rows) a71.toNat a71.toNat) t73) N74 (.tail _ (.tail _ (.tail _ (m45R _ (mrw0 _ u2))))) hab.1 (by (first | lia | omega)) u3 ?_
              (repeat' ((fail_if_success (with_reducible (first | show gz2 | show gz3 | show gz4 | show gz5 | show gz6 | show gz7 | show gz8 | show gz9 | show gz10 | show gz11 | show gz12 | show gz13 | show gz14 | show gz15 | show gz39 | show gz40 | show gz41 | show gz42 | show gz43 | show gz44 | show gz28 | show gz16 | show gz45 | show gz32 | show gz31 | show gz46 | show gz47 | show gz48 | show gz29 | show gz49 | show gz50 | show gz51 | show gz52 | show gz36 | show gz37 | show gz30 | show gz35))); (first | ((with_reducible show wpAny _ _ (execs _ _) _ _ _); k_gentoks) | with_reducible (first | refine execs_one ?_ | (refine execs_cut ?_; intro _ _) | (refine if_cut ?_; intro _ _)) | ((fail_if_success (with_reducible show gz1)); (first | (refine Kh.go ‹_› _ _ ?_; try dsimp only [KnP]) | ((with_reducible show TurnEnd _ _ _ _ _ _); dsimp only [TurnEnd]))) | (k_unfold; (try dsimp only)) | (k_end; wrow_close) | walk1 | (dsimp only; walk1) | (leave1; try dsimp only))))
              rename Fr _ _ _ _ => F75
              rename News _ _ _ _ => N75
              refine StopP (h2z _ _) (ex3_i _ _ nw (an6_i rfl F75 N75 off71 (.inr ⟨_, m45D, rfl, _, rfl⟩) (ex1_i (gl ++ [(getT (tv rows) a71.toNat a71.toNat, t73)]) (an3_i (by simp) ?_ rfl))))
              rw [List.take_add_one, List.map_append, List.map_append, hgl]
              simp [ha71]
        · intro k ys nw hk hzz
          refine ex1_e hzz ?_
          clear hzz
          intro fl hzz
          refine an3_e hzz ?_
          clear hzz
          rintro rfl hfl rfl so4 mo4 I oI C oC cA oX D tt h49 tk49 E49 dX F49 N49 ha49 T4z U4z h4z k4z
          (try clear hR47); (try clear F47); (try clear N47); (try clear F46); (try clear N46); (try clear F45); (try clear N45)
          obtain ⟨B49, hB49⟩ : ∃ B, B = ((I, oI) :: (C, oC) :: (cA, oX) :: (D, LCg.lst (valsOf fl)) :: nw) := ⟨_, rfl⟩
          rw [← hB49] at N49 ha49
          have s49 : ∀ q ∈ nw, q ∈ B49 := fun q hq => by rw [hB49]; exact .tail _ (.tail _ (.tail _ (.tail _ hq)))
          have m49X : (cA, oX) ∈ B49 := by rw [hB49]; exact .tail _ (.tail _ (.head _))
          (repeat' ((fail_if_success (with_reducible (first | show gz2 | show gz3 | show gz4 | show gz5 | show gz6 | show gz7 | show gz8 | show gz9 | show gz10 | show gz11 | show gz12 | show gz13 | show gz14 | show gz15 | show gz39 | show gz40 | show gz41 | show gz42 | show gz43 | show gz44 | show gz28 | show gz16 | show gz45 | show gz32 | show gz31 | show gz46 | show gz47 | show gz48 | show gz29 | show gz49 | show gz50 | show gz51 | show gz52 | show gz36 | show gz37 | show gz30 | show gz35))); (first | ((with_reducible show wpAny _ _ (execs _ _) _ _ _); k_gentoks) | with_reducible (first | refine execs_one ?_ | (refine execs_cut ?_; intro _ _) | (refine if_cut ?_; intro _ _)) | ((fail_if_success (with_reducible show gz1)); (first | (refine Kh.go ‹_› _ _ ?_; try dsimp only [KnP]) | ((with_reducible show TurnEnd _ _ _ _ _ _); dsimp only [TurnEnd]))) | (k_unfold; (try dsimp only)) | (k_end; wrow_close) | walk1 | (dsimp only; walk1) | (leave1; try dsimp only))))
          rename Fr _ _ _ _ => F50
          rename News _ _ _ _ => N50
          refine LCt.ListComp_T F50 (by with_unfolding_all rfl) (by decide) (by rfl) (by decide) (by rfl) ?_
          (repeat' ((fail_if_success (with_reducible (first | show gz2 | show gz3 | show gz4 | show gz5 | show gz6 | show gz7 | show gz8 | show gz9 | show gz10 | show gz11 | show gz12 | show gz13 | show gz14 | show gz15 | show gz39 | show gz40 | show gz41 | show gz42 | show gz43 | show gz44 | show gz28 | show gz16 | show gz45 | show gz32 | show gz31 | show gz46 | show gz47 | show gz48 | show gz29 | show gz49 | show gz50 | show gz51 | show gz52 | show gz36 | show gz37 | show gz30 | show gz35))); (first | ((with_reducible show wpAny _ _ (execs _ _) _ _ _); k_gentoks) | with_reducible (first | refine execs_one ?_ | (refine execs_cut ?_; intro _ _) | (refine if_cut ?_; intro _ _)) | ((fail_if_success (with_reducible show gz1)); (first | (refine Kh.go ‹_› _ _ ?_; try dsimp only [KnP]) | ((with_reducible show TurnEnd _ _ _ _ _ _); dsimp only [TurnEnd]))) | (k_unfold; (try dsimp only)) | (k_end; wrow_close) | walk1 | (dsimp only; walk1) | (leave1; try dsimp only))))
          refine lcf_cell N50 rfl (s49 _ m45H) dH2 ?_ (by rfl) (by rfl)
          (repeat' ((fail_if_success (with_reducible (first | show gz2 | show gz3 | show gz4 | show gz5 | show gz6 | show gz7 | show gz8 | show gz9 | show gz10 | show gz11 | show gz12 | show gz13 | show gz14 | show gz15 | show gz39 | show gz40 | show gz41 | show gz42 | show gz43 | show gz44 | show gz28 | show gz16 | show gz45 | show gz32 | show gz31 | show gz46 | show gz47 | show gz48 | show gz29 | show gz49 | show gz50 | show gz51 | show gz52 | show gz36 | show gz37 | show gz30 | show gz35))); (first | ((with_reducible show wpAny _ _ (execs _ _) _ _ _); k_gentoks) | with_reducible (first | refine execs_one ?_ | (refine execs_cut ?_; intro _ _) | (refine if_cut ?_; intro _ _)) | ((fail_if_success (with_reducible show gz1)); (first | (refine Kh.go ‹_› _ _ ?_; try dsimp only [KnP]) | ((with_reducible show TurnEnd _ _ _ _ _ _); dsimp only [TurnEnd]))) | (k_unfold; (try dsimp only)) | (k_end; wrow_close) | walk1 | (dsimp only; walk1) | (leave1; try dsimp only))))
          rename Fr _ _ _ _ => F51
          rename News _ _ _ _ => N51
          refine LCt.CompSrcT.ledger (k := (valsOf hl).length) (by rfl) F51 N51 (s49 _ m45D) (by rw [sizeLine_eq]; simp; (first | lia | omega)) ?_
          intro g51
          refine comp_indT (fun j zs nw' => ∃ gl : List (Int × Tok), zs = valsOf gl ∧ gl.map (·.1) = ((hl.map (·.1)).take j).filter (fun a => decide (a = (k : Int)) || decide (getT (tv rows) a.toNat ((k : Int)).toNat ≤ ((i + 1 : Nat) : Int))) ∧ nw' = B49) ⟨[], rfl, rfl, rfl⟩ ?_ ?_
          · intro zs nw' hzz
            refine ex1_e hzz ?_
            clear hzz
            intro gl hzz
            refine an3_e hzz ?_
            clear hzz
            rintro rfl hgl rfl
            intro D53 h53 tk53 F53 N53 off53
            (repeat' ((fail_if_success (with_reducible (first | show gz2 | show gz3 | show gz4 | show gz5 | show gz6 | show gz7 | show gz8 | show gz9 | show gz10 | show gz11 | show gz12 | show gz13 | show gz14 | show gz15 | show gz39 | show gz40 | show gz41 | show gz42 | show gz43 | show gz44 | show gz28 | show gz16 | show gz45 | show gz32 | show gz31 | show gz46 | show gz47 | show gz48 | show gz29 | show gz49 | show gz50 | show gz51 | show gz52 | show gz36 | show gz37 | show gz30 | show gz35))); (first | ((with_reducible show wpAny _ _ (execs _ _) _ _ _); k_gentoks) | with_reducible (first | refine execs_one ?_ | (refine execs_cut ?_; intro _ _) | (refine if_cut ?_; intro _ _)) | ((fail_if_success (with_reducible show gz1)); (first | (refine Kh.go ‹_› _ _ ?_; try dsimp only [KnP]) | ((with_reducible show TurnEnd _ _ _ _ _ _); dsimp only [TurnEnd]))) | (k_unfold; (try dsimp only)) | (k_end; wrow_close) | walk1 | (dsimp only; walk1) | (leave1; try dsimp only))))
            rename News _ _ _ _ => N55
            refine eq_nil_N N55 (vs := valsOf gl) (na := (valsOf gl).length) (.tail _ (.head _)) (.head _) (by rw [units_deeper]; decide) ?_
            have hgh : gl.map (·.1) = hitL (tv rows) (i + 1) (k : Int) := by
              rw [hgl, List.take_of_length_le (by simp), hhl2]
              rfl
            have hge : (hitL (tv rows) (i + 1) (k : Int)).isEmpty = (valsOf gl).isEmpty := by
              rw [← hgh]
              cases gl <;> rfl
            (repeat' ((fail_if_success (with_reducible (first | show gz2 | show gz3 | show gz4 | show gz5 | show gz6 | show gz7 | show gz8 | show gz9 | show gz10 | show gz11 | show gz12 | show gz13 | show gz14 | show gz15 | show gz39 | show gz40 | show gz41 | show gz42 | show gz43 | show gz44 | show gz28 | show gz16 | show gz45 | show gz32 | show gz31 | show gz46 | show gz47 | show gz48 | show gz29 | show gz49 | show gz50 | show gz51 | show gz52 | show gz36 | show gz37 | show gz30 | show gz35))); (first | ((with_reducible show wpAny _ _ (execs _ _) _ _ _); k_gentoks) | with_reducible (first | refine execs_one ?_ | (refine execs_cut ?_; intro _ _) | (refine if_cut ?_; intro _ _)) | ((fail_if_success (with_reducible show gz1)); (first | (refine Kh.go ‹_› _ _ ?_; try dsimp only [KnP]) | ((with_reducible show TurnEnd _ _ _ _ _ _); dsimp only [TurnEnd]))) | (k_unfold; (try dsimp only)) | (k_end; wrow_close) | walk1 | (dsimp only; walk1) | (leave1; try dsimp only))))
            · rename Fr _ _ _ _ => F60
              rename News _ _ _ _ => N60
              rename List.isEmpty _ = true => hem
              refine lcf_cell N60 rfl (.tail _ (.tail _ m49X)) dX ?_ (by rfl) (by rfl)
              refine StopP (h4z _ _) (ex3_i _ _ nw (an5_i rfl F60 (fun q hq => N60 q (.tail _ (.tail _ (hB49 ▸ hq)))) (hB49 ▸ ha49) (ex1_i (fl ++ [((k : Int), tt)]) (an3_i (by simp) ?_ rfl))))
              rw [four_snoc _ hk, ← hfl, if_pos (hge.trans hem)]
              simp
            · rename Fr _ _ _ _ => F60
              rename News _ _ _ _ => N60
              rename List.isEmpty _ = false => hem
              refine StopP (k4z _) (ex3_i _ _ nw (an5_i rfl F60 (fun q hq => N60 q (.tail _ (.tail _ (hB49 ▸ hq)))) (hB49 ▸ ha49) (ex1_i fl (an3_i rfl ?_ rfl))))
              rw [four_snoc _ hk, ← hfl, if_neg (by rw [hge, hem]; decide)]
              simp
          · intro j zs nw' hj hzz
            refine ex1_e hzz ?_
            clear hzz
            intro gl hzz
            refine an3_e hzz ?_
            clear hzz
            rintro rfl hgl rfl so3 mo3 v I2 oI2 C2 oC2 D2 m52 h52 tk52 E52 hv52 hC52 hm52 F52 N52 off52 ne52 T3z U3z h3z k3z
            (try clear F51); (try clear N51); (try clear F50); (try clear N50)
            obtain ⟨⟨a52, t52⟩, ha52⟩ : ∃ y, hl[j]? = some y := ⟨hl[j]'(by simpa using hj), List.getElem?_eq_getElem _⟩
            have hv52' : v = .int a52 t52 := by
              simp only [valsOf, List.getElem?_toArray, List.getElem?_map, ha52] at hv52
              exact (Option.some.inj hv52).symm
            subst hv52'
            have hab := hlm a52 (List.mem_map.mpr ⟨_, List.mem_of_getElem? ha52, rfl⟩)
            (repeat' ((fail_if_success (with_reducible (first | show gz2 | show gz3 | show gz4 | show gz5 | show gz6 | show gz7 | show gz8 | show gz9 | show gz10 | show gz11 | show gz12 | show gz13 | show gz14 | show gz15 | show gz39 | show gz40 | show gz41 | show gz42 | show gz43 | show gz44 | show gz28 | show gz16 | show gz45 | show gz32 | show gz31 | show gz46 | show gz47 | show gz48 | show gz29 | show gz49 | show gz50 | show gz51 | show gz52 | show gz36 | show gz37 | show gz30 | show gz35))); (first | ((with_reducible show wpAny _ _ (execs _ _) _ _ _); k_gentoks) | with_reducible (first | refine execs_one ?_ | (refine execs_cut ?_; intro _ _) | (refine if_cut ?_; intro _ _)) | ((fail_if_success (with_reducible show gz1)); (first | (refine Kh.go ‹_› _ _ ?_; try dsimp only [KnP]) | ((with_reducible show TurnEnd _ _ _ _ _ _); dsimp only [TurnEnd]))) | (k_unfold; (try dsimp only)) | (k_end; wrow_close) | walk1 | (dsimp only; walk1) | (leave1; try dsimp only))))
            rename News _ _ _ _ => N54
            refine lcf_cell N54 rfl (.tail _ (.tail _ (.tail _ m49X))) dX ?_ (by rfl) (by rfl)
            (repeat' ((fail_if_success (with_reducible (first | show gz2 | show gz3 | show gz4 | show gz5 | show gz6 | show gz7 | show gz8 | show gz9 | show gz10 | show gz11 | show gz12 | show gz13 | show gz14 | show gz15 | show gz39 | show gz40 | show gz41 | show gz42 | show gz43 | show gz44 | show gz28 | show gz16 | show gz45 | show gz32 | show gz31 | show gz46 | show gz47 | show gz48 | show gz29 | show gz49 | show gz50 | show gz51 | show gz52 | show gz36 | show gz37 | show gz30 | show gz35))); (first | ((with_reducible show wpAny _ _ (execs _ _) _ _ _); k_gentoks) | with_reducible (first | refine execs_one ?_ | (refine execs_cut ?_; intro _ _) | (refine if_cut ?_; intro _ _)) | ((fail_if_success (with_reducible show gz1)); (first | (refine Kh.go ‹_› _ _ ?_; try dsimp only [KnP]) | ((with_reducible show TurnEnd _ _ _ _ _ _); dsimp only [TurnEnd]))) | (k_unfold; (try dsimp only)) | (k_end; wrow_close) | walk1 | (dsimp only; walk1) | (leave1; try dsimp only))))
            · rename Fr _ _ _ _ => F56
              rename News _ _ _ _ => N56
              rename a52 = _ => hae
              refine StopP (h3z _ _) (ex3_i _ _ nw' (an6_i rfl F56 N56 off52 (.inr ⟨_, s49 _ m45D, rfl, _, rfl⟩) (ex1_i (gl ++ [(a52, t52)]) (an3_i (by simp) ?_ rfl))))
              rw [snoc_filter _ (a := a52) (by simp [ha52]), ← hgl, if_pos (by simp [hae])]
              simp
            · rename News _ _ _ _ => N56
              rename a52 ≠ _ => hne
              refine lcf_cell N56 rfl (.tail _ (.tail _ (.tail _ (s49 _ m45T)))) dT2 ?_ (by rfl) (by rfl)
              (repeat' ((fail_if_success (with_reducible (first | show gz2 | show gz3 | show gz4 | show gz5 | show gz6 | show gz7 | show gz8 | show gz9 | show gz10 | show gz11 | show gz12 | show gz13 | show gz14 | show gz15 | show gz39 | show gz40 | show gz41 | show gz42 | show gz43 | show gz44 | show gz28 | show gz16 | show gz45 | show gz32 | show gz31 | show gz46 | show gz47 | show gz48 | show gz29 | show gz49 | show gz50 | show gz51 | show gz52 | show gz36 | show gz37 | show gz30 | show gz35))); (first | ((with_reducible show wpAny _ _ (execs _ _) _ _ _); k_gentoks) | with_reducible (first | refine execs_one ?_ | (refine execs_cut ?_; intro _ _) | (refine if_cut ?_; intro _ _)) | ((fail_if_success (with_reducible show gz1)); (first | (refine Kh.go ‹_› _ _ ?_; try dsimp only [KnP]) | ((with_reducible show TurnEnd _ _ _ _ _ _); dsimp only [TurnEnd]))) | (k_unfold; (try dsimp only)) | (k_end; wrow_close) | walk1 | (dsimp only; walk1) | (leave1; try dsimp only))))
              rename News _ _ _ _ => N57
              have ha4 : a52.toNat < 4 := by (first | lia | omega)
              refine ex2_e (tv_cell hsq ha4 hk) ?_
              intro rw57 t57 hzz
              refine an3_e hzz ?_
              clear hzz
              rintro u1 u2 u3
              refine lst_item (l := tb) (vs := rowRefs rows) (v := .ref rw57.a) N57 (.tail _ (.tail _ (.tail _ (s49 _ (m45R _ mtb0))))) hab.1 (by (first | lia | omega)) u1 ?_
              (repeat' ((fail_if_success (with_reducible (first | show gz2 | show gz3 | show gz4 | show gz5 | show gz6 | show gz7 | show gz8 | show gz9 | show gz10 | show gz11 | show gz12 | show gz13 | show gz14 | show gz15 | show gz39 | show gz40 | show gz41 | show gz42 | show gz43 | show gz44 | show gz28 | show gz16 | show gz45 | show gz32 | show gz31 | show gz46 | show gz47 | show gz48 | show gz29 | show gz49 | show gz50 | show gz51 | show gz52 | show gz36 | show gz37 | show gz30 | show gz35))); (first | ((with_reducible show wpAny _ _ (execs _ _) _ _ _); k_gentoks) | with_reducible (first | refine execs_one ?_ | (refine execs_cut ?_; intro _ _) | (refine if_cut ?_; intro _ _)) | ((fail_if_success (with_reducible show gz1)); (first | (refine Kh.go ‹_› _ _ ?_; try dsimp only [KnP]) | ((with_reducible show TurnEnd _ _ _ _ _ _); dsimp only [TurnEnd]))) | (k_unfold; (try dsimp only)) | (k_end; wrow_close) | walk1 | (dsimp only; walk1) | (leave1; try dsimp only))))
              rename News _ _ _ _ => N58
              refine lcf_cell N58 rfl (.tail _ (.tail _ (.tail _ m49X))) dX ?_ (by rfl) (by rfl)
              (repeat' ((fail_if_success (with_reducible (first | show gz2 | show gz3 | show gz4 | show gz5 | show gz6 | show gz7 | show gz8 | show gz9 | show gz10 | show gz11 | show gz12 | show gz13 | show gz14 | show gz15 | show gz39 | show gz40 | show gz41 | show gz42 | show gz43 | show gz44 | show gz28 | show gz16 | show gz45 | show gz32 | show gz31 | show gz46 | show gz47 | show gz48 | show gz29 | show gz49 | show gz50 | show gz51 | show gz52 | show gz36 | show gz37 | show gz30 | show gz35))); (first | ((with_reducible show wpAny _ _ (execs _ _) _ _ _); k_gentoks) | with_reducible (first | refine execs_one ?_ | (refine execs_cut ?_; intro _ _) | (refine if_cut ?_; intro _ _)) | ((fail_if_success (with_reducible show gz1)); (first | (refine Kh.go ‹_› _ _ ?_; try dsimp only [KnP]) | ((with_reducible show TurnEnd _ _ _ _ _ _); dsimp only [TurnEnd]))) | (k_unfold; (try dsimp only)) | (k_end; wrow_close) | walk1 | (dsimp only; walk1) | (leave1; try dsimp only))))
              rename News _ _ _ _ => N59
              refine lst_item (l := rw57.a) (vs := valsOf rw57.v) (n := rw57.e) (v := .int (getT (tv rows) a52.toNat k) t57) N59 (.tail _ (.tail _ (.tail _ (s49 _ (m45R _ (mrw0 _ u2)))))) (by (first | lia | omega)) (by (first | lia | omega)) (by rw [Int.toNat_natCast]; exact u3) ?_
              (repeat' ((fail_if_success (with_reducible (first | show gz2 | show gz3 | show gz4 | show gz5 | show gz6 | show gz7 | show gz8 | show gz9 | show gz10 | show gz11 | show gz12 | show gz13 | show gz14 | show gz15 | show gz39 | show gz40 | show gz41 | show gz42 | show gz43 | show gz44 | show gz28 | show gz16 | show gz45 | show gz32 | show gz31 | show gz46 | show gz47 | show gz48 | show gz29 | show gz49 | show gz50 | show gz51 | show gz52 | show gz36 | show gz37 | show gz30 | show gz35))); (first | ((with_reducible show wpAny _ _ (execs _ _) _ _ _); k_gentoks) | with_reducible (first | refine execs_one ?_ | (refine execs_cut ?_; intro _ _) | (refine if_cut ?_; intro _ _)) | ((fail_if_success (with_reducible show gz1)); (first | (refine Kh.go ‹_› _ _ ?_; try dsimp only [KnP]) | ((with_reducible show TurnEnd _ _ _ _ _ _); dsimp only [TurnEnd]))) | (k_unfold; (try dsimp only)) | (k_end; wrow_close) | walk1 | (dsimp only; walk1) | (leave1; try dsimp only))))
              rename News _ _ _ _ => N60
              refine lcf_cell N60 rfl (.tail _ (.tail _ (.tail _ (s49 _ m45U)))) dU2 ?_ (by rfl) (by rfl)
              (try clear N56); (try clear N57); (try clear N58); (try clear N59)
              (repeat' ((fail_if_success (with_reducible (first | show gz2 | show gz3 | show gz4 | show gz5 | show gz6 | show gz7 | show gz8 | show gz9 | show gz10 | show gz11 | show gz12 | show gz13 | show gz14 | show gz15 | show gz39 | show gz40 | show gz41 | show gz42 | show gz43 | show gz44 | show gz28 | show gz16 | show gz45 | show gz32 | show gz31 | show gz46 | show gz47 | show gz48 | show gz29 | show gz49 | show gz50 | show gz51 | show gz52 | show gz36 | show gz37 | show gz30 | show gz35))); (first | ((with_reducible show wpAny _ _ (execs _ _) _ _ _); k_gentoks) | with_reducible (first | refine execs_one ?_ | (refine execs_cut ?_; intro _ _) | (refine if_cut ?_; intro _ _)) | ((fail_if_success (with_reducible show gz1)); (first | (refine Kh.go ‹_› _ _ ?_; try dsimp only [KnP]) | ((with_reducible show TurnEnd _ _ _ _ _ _); dsimp only [TurnEnd]))) | (k_unfold; (try dsimp only)) | (k_end; wrow_close) | walk1 | (dsimp only; walk1) | (leave1; try dsimp only))))
              · rename Fr _ _ _ _ => F61
                rename News _ _ _ _ => N61
                rename getT _ _ _ ≤ _ => hle
                refine StopP (h3z _ _) (ex3_i _ _ nw' (an6_i rfl F61 N61 off52 (.inr ⟨_, s49 _ m45D, rfl, _, rfl⟩) (ex1_i (gl ++ [(a52, t52)]) (an3_i (by simp) ?_ rfl))))
                rw [snoc_filter _ (a := a52) (by simp [ha52]), ← hgl, if_pos (by rw [Int.toNat_natCast, Bool.or_eq_true, decide_eq_true_eq, decide_eq_true_eq]; (first | lia | omega))]
                simp
              · rename Fr _ _ _ _ => F61
                rename News _ _ _ _ => N61
                rename ¬ getT _ _ _ ≤ _ => hle
                refine StopP (k3z _) (ex3_i _ _ nw' (an6_i rfl F61 N61 off52 (.inr ⟨_, s49 _ m45D, rfl, _, rfl⟩) (ex1_i gl (an3_i rfl ?_ rfl))))
                rw [snoc_filter _ (a := a52) (by simp [ha52]), ← hgl, if_neg (by rw [Int.toNat_natCast, Bool.or_eq_true, decide_eq_true_eq, decide_eq_true_eq]; (first | lia | omega))]
                simp
      · intro k ys nw hk hzz
        refine ex1_e hzz ?_
        clear hzz
        intro hl hzz
        refine an3_e hzz ?_
        clear hzz
        rintro rfl hhl rfl so6 mo6 v I oI C oC D m37 h37 tk37 E37 ⟨tv37, rfl⟩ hC37 hm37 F37 N37 off37 ne37 T6z U6z h6z k6z
        (try clear N36); (try clear F35); (try clear hR35)
        (repeat' ((fail_if_success (with_reducible (first | show gz2 | show gz3 | show gz4 | show gz5 | show gz6 | show gz7 | show gz8 | show gz9 | show gz10 | show gz11 | show gz12 | show gz13 | show gz14 | show gz15 | show gz39 | show gz40 | show gz41 | show gz42 | show gz43 | show gz44 | show gz28 | show gz16 | show gz45 | show gz32 | show gz31 | show gz46 | show gz47 | show gz48 | show gz29 | show gz49 | show gz50 | show gz51 | show gz52 | show gz36 | show gz37 | show gz30 | show gz35))); (first | ((with_reducible show wpAny _ _ (execs _ _) _ _ _); k_gentoks) | with_reducible (first | refine execs_one ?_ | (refine execs_cut ?_; intro _ _) | (refine if_cut ?_; intro _ _)) | ((fail_if_success (with_reducible show gz1)); (first | (refine Kh.go ‹_› _ _ ?_; try dsimp only [KnP]) | ((with_reducible show TurnEnd _ _ _ _ _ _); dsimp only [TurnEnd]))) | (k_unfold; (try dsimp only)) | (k_end; wrow_close) | walk1 | (dsimp only; walk1) | (leave1; try dsimp only))))
        rename News _ _ _ _ => N38
        refine lcf_cell N38 rfl (.tail _ (.tail _ (.tail _ m36T))) dT2 ?_ (by rfl) (by rfl)
        (repeat' ((fail_if_success (with_reducible (first | show gz2 | show gz3 | show gz4 | show gz5 | show gz6 | show gz7 | show gz8 | show gz9 | show gz10 | show gz11 | show gz12 | show gz13 | show gz14 | show gz15 | show gz39 | show gz40 | show gz41 | show gz42 | show gz43 | show gz44 | show gz28 | show gz16 | show gz45 | show gz32 | show gz31 | show gz46 | show gz47 | show gz48 | show gz29 | show gz49 | show gz50 | show gz51 | show gz52 | show gz36 | show gz37 | show gz30 | show gz35))); (first | ((with_reducible show wpAny _ _ (execs _ _) _ _ _); k_gentoks) | with_reducible (first | refine execs_one ?_ | (refine execs_cut ?_; intro _ _) | (refine if_cut ?_; intro _ _)) | ((fail_if_success (with_reducible show gz1)); (first | (refine Kh.go ‹_› _ _ ?_; try dsimp only [KnP]) | ((with_reducible show TurnEnd _ _ _ _ _ _); dsimp only [TurnEnd]))) | (k_unfold; (try dsimp only)) | (k_end; wrow_close) | walk1 | (dsimp only; walk1) | (leave1; try dsimp only))))
        rename News _ _ _ _ => N39
        refine ex2_e (tv_cell hsq hk hk) ?_
        intro rw37 t37 hzz
        refine an3_e hzz ?_
        clear hzz
        rintro u1 u2 u3
        refine lst_item (l := tb) (vs := rowRefs rows) (v := .ref rw37.a) N39 (.tail _ (.tail _ (.tail _ (m36R _ mtb0)))) (by (first | lia | omega)) (by (first | lia | omega)) (by rw [show (0 + (k : Int)).toNat = k by (first | lia | omega)]; exact u1) ?_
        (repeat' ((fail_if_success (with_reducible (first | show gz2 | show gz3 | show gz4 | show gz5 | show gz6 | show gz7 | show gz8 | show gz9 | show gz10 | show gz11 | show gz12 | show gz13 | show gz14 | show gz15 | show gz39 | show gz40 | show gz41 | show gz42 | show gz43 | show gz44 | show gz28 | show gz16 | show gz45 | show gz32 | show gz31 | show gz46 | show gz47 | show gz48 | show gz29 | show gz49 | show gz50 | show gz51 | show gz52 | show gz36 | show gz37 | show gz30 | show gz35))); (first | ((with_reducible show wpAny _ _ (execs _ _) _ _ _); k_gentoks) | with_reducible (first | refine execs_one ?_ | (refine execs_cut ?_; intro _ _) | (refine if_cut ?_; intro _ _)) | ((fail_if_success (with_reducible show gz1)); (first | (refine Kh.go ‹_› _ _ ?_; try dsimp only [KnP]) | ((with_reducible show TurnEnd _ _ _ _ _ _); dsimp only [TurnEnd]))) | (k_unfold; (try dsimp only)) | (k_end; wrow_close) | walk1 | (dsimp only; walk1) | (leave1; try dsimp only))))
        rename News _ _ _ _ => N40
        refine lst_item (l := rw37.a) (vs := valsOf rw37.v) (n := rw37.e) (v := .int (getT (tv rows) k k) t37) N40 (.tail _ (.tail _ (.tail _ (m36R _ (mrw0 _ u2))))) (by (first | lia | omega)) (by (first | lia | omega)) (by rw [show (0 + (k : Int)).toNat = k by (first | lia | omega)]; exact u3) ?_
        (repeat' ((fail_if_success (with_reducible (first | show gz2 | show gz3 | show gz4 | show gz5 | show gz6 | show gz7 | show gz8 | show gz9 | show gz10 | show gz11 | show gz12 | show gz13 | show gz14 | show gz15 | show gz39 | show gz40 | show gz41 | show gz42 | show gz43 | show gz44 | show gz28 | show gz16 | show gz45 | show gz32 | show gz31 | show gz46 | show gz47 | show gz48 | show gz29 | show gz49 | show gz50 | show gz51 | show gz52 | show gz36 | show gz37 | show gz30 | show gz35))); (first | ((with_reducible show wpAny _ _ (execs _ _) _ _ _); k_gentoks) | with_reducible (first | refine execs_one ?_ | (refine execs_cut ?_; intro _ _) | (refine if_cut ?_; intro _ _)) | ((fail_if_success (with_reducible show gz1)); (first | (refine Kh.go ‹_› _ _ ?_; try dsimp only [KnP]) | ((with_reducible show TurnEnd _ _ _ _ _ _); dsimp only [TurnEnd]))) | (k_unfold; (try dsimp only)) | (k_end; wrow_close) | walk1 | (dsimp only; walk1) | (leave1; try dsimp only))))
        rename News _ _ _ _ => N41
        refine lcf_cell N41 rfl (.tail _ (.tail _ (.tail _ m36U))) dU2 ?_ (by rfl) (by rfl)
        (try clear N38); (try clear N39); (try clear N40)
        (repeat' ((fail_if_success (with_reducible (first | show gz2 | show gz3 | show gz4 | show gz5 | show gz6 | show gz7 | show gz8 | show gz9 | show gz10 | show gz11 | show gz12 | show gz13 | show gz14 | show gz15 | show gz39 | show gz40 | show gz41 | show gz42 | show gz43 | show gz44 | show gz28 | show gz16 | show gz45 | show gz32 | show gz31 | show gz46 | show gz47 | show gz48 | show gz29 | show gz49 | show gz50 | show gz51 | show gz52 | show gz36 | show gz37 | show gz30 | show gz35))); (first | ((with_reducible show wpAny _ _ (execs _ _) _ _ _); k_gentoks) | with_reducible (first | refine execs_one ?_ | (refine execs_cut ?_; intro _ _) | (refine if_cut ?_; intro _ _)) | ((fail_if_success (with_reducible show gz1)); (first | (refine Kh.go ‹_› _ _ ?_; try dsimp only [KnP]) | ((with_reducible show TurnEnd _ _ _ _ _ _); dsimp only [TurnEnd]))) | (k_unfold; (try dsimp only)) | (k_end; wrow_close) | walk1 | (dsimp only; walk1) | (leave1; try dsimp only))))
        · rename Fr _ _ _ _ => F42
          rename News _ _ _ _ => N42
          rename getT _ _ _ ≤ _ => hle
          refine StopP (h6z _ _) (ex3_i _ _ nw (an6_i rfl F42 N42 off37 trivial (ex1_i (hl ++ [(0 + (k : Int), tv37)]) (an3_i (by simp) ?_ rfl))))
          rw [four_snoc _ hk, ← hhl, if_pos (by rw [decide_eq_true_eq]; rw [show ((k : Int)).toNat = k by (first | lia | omega)]; (first | lia | omega))]
          simp
        · rename Fr _ _ _ _ => F42
          rename News _ _ _ _ => N42
          rename ¬ getT _ _ _ ≤ _ => hle
          refine StopP (k6z _) (ex3_i _ _ nw (an6_i rfl F42 N42 off37 trivial (ex1_i hl (an3_i rfl ?_ rfl))))
          rw [four_snoc _ hk, ← hhl, if_neg (by rw [decide_eq_true_eq]; rw [show ((k : Int)).toNat = k by (first | lia | omega)]; (first | lia | omega))]
          simp
    · have hie : i = os.length := by (first | lia | omega)
      subst hie
      have pmE : ∀ {X : List (Addr × Obj)} {a b : Addr × Obj}, (a :: b :: X).Perm (b :: a :: X) := List.Perm.swap _ _ _
      have N20 := news_perm N19 pmE
      have ha20 := apart_perm ha19 pmE
      refine rng_end rfl F19 N20 (apart_ne ha20) (by (first | lia | omega)) ?_
      intro h21 F21 N21
      exact StopP (hR1z _) (ex3_i _ _ _ (an2_i rfl F21))
  · rintro s' ⟨h, tk, m, rfl, F20⟩
    clear N18 ha18 F17'
    (try dsimp only)
    (repeat' ((fail_if_success (with_reducible (first | show gz2 | show gz3 | show gz4 | show gz5 | show gz6 | show gz7 | show gz8 | show gz9 | show gz10 | show gz11 | show gz12 | show gz13 | show gz14 | show gz15 | show gz39 | show gz40 | show gz41 | show gz42 | show gz43 | show gz44 | show gz28 | show gz16 | show gz45 | show gz32 | show gz31 | show gz46 | show gz47 | show gz48 | show gz29 | show gz49 | show gz50 | show gz51 | show gz52 | show gz36 | show gz37 | show gz30 | show gz35))); (first | ((with_reducible show wpAny _ _ (execs _ _) _ _ _); k_gentoks) | with_reducible (first | refine execs_one ?_ | (refine execs_cut ?_; intro _ _) | (refine if_cut ?_; intro _ _)) | ((fail_if_success (with_reducible show gz1)); (first | (refine Kh.go ‹_› _ _ ?_; try dsimp only [KnP]) | ((with_reducible show TurnEnd _ _ _ _ _ _); dsimp only [TurnEnd]))) | (k_unfold; (try dsimp only)) | (k_end; wrow_close) | walk1 | (dsimp only; walk1) | (leave1; try dsimp only))))
    exact hqk h tk m F20
end
end Mine
theorem PySem.Challenge.cw_mg0053_01_holds : PySem.Challenge.rw_mg0053_01.Holds := by
  exact Mine.law_goes
