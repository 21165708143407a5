import PyProof.Rows.All
import Wide.All
import OpenK.AllK
import Wide.FinOn
import Lean
import PySem.Challenge.RW_il0027_01
open PySem PySem.W PyProof.Rows
set_option Elab.async false
namespace Mine
set_option maxRecDepth 100000 in
set_option maxHeartbeats 8000000 in
open_top hd for PySem.Challenge.rw_il0027_01
end Mine
open PySem.Calls
set_option maxRecDepth 100000
namespace Mine
/-- the head leaves the walk's switches on: off again, as in texts of their own -/
theorem calm : True := by
  w_top off
  exact trivial

theorem lookup_int_iter : typeLookup (.type "int") "__iter__" = pure none := by rw [typeLookup_type, builtinLookup_eq_fast]; kernel_rfl
theorem lookup_int_getitem : typeLookup (.type "int") "__getitem__" = pure none := by rw [typeLookup_type, builtinLookup_eq_fast]; kernel_rfl

section
variable {prog : Program} {w : World} {A : Around} {E : Value → Shared → Prop} {s : Shared}
theorem pyIter_int {i : Int} {t : Tok} {Q : Value → Shared → Prop} (hh : A.handled = none)
    (h : ∀ h' tk e, Heap.NewExc s.heap h' e "TypeError" → E (.ref e) { s with heap := h', toks := tk }) :
    wpAny (model prog w) A (pyIter (.int i t)) Q E s := by
  unfold pyIter
  have hT : s.TypeIs (.int i t) "int" := by first | exact rfl | trivial | constructor
  refine wpAny_bind (wpAny_specialOf hT lookup_int_iter ?_)
  dsimp only
  refine wpAny_bind (wpAny_specialOf hT lookup_int_getitem ?_)
  dsimp only
  refine wpAny_bind (wpAny_rule ?_)
  refine wpAny_bind (wpAny_typeNameOf' hT (by decide) ?_)
  exact wpAny_raiseTypeError hh h (by decide +kernel)
theorem call_iter_int {i : Int} {t : Tok} {Q : Value → Shared → Prop} (hh : A.handled = none)
    (h : ∀ h' tk e, Heap.NewExc s.heap h' e "TypeError" → E (.ref e) { s with heap := h', toks := tk }) :
    wpAny (model prog w) A (call (.builtin "iter") [.int i t]) Q E s := by
  refine call_function_entry (by decide +kernel) (by decide +kernel) kdk_entry_iter (kdk_args_iter _) ?_
  unfold Builtin.«iter»
  refine wpAny_bind (m := someArgs "iter" 1 2 _) (wpAny_of_eq (a := [Value.int i t]) (by first | rfl | kernel_rfl!) ?_)
  show wpAny _ _ (pyIter (.int i t) >>= _) _ _ _
  exact wpAny_bind (pyIter_int hh h)
end


/-- what stays of a heap: all but ws; the frames fs up to their slots -/
def Ex (fs ws : List Addr) (h h' : Heap) : Prop :=
  ∀ b o, h.get? b = some o → b ∉ ws → (b ∉ fs → h'.get? b = some o) ∧ ∃ sl, h'.get? b = some { o with slots := sl }

theorem Ex.of_keeps {fs ws : List Addr} {h h' : Heap} (k : ∀ b o, h.get? b = some o → h'.get? b = some o) : Ex fs ws h h' :=
  fun b o e _ => ⟨fun _ => k b o e, o.slots, k b o e⟩
theorem Ex.of_ext {fs ws : List Addr} {h h' : Heap} (k : ∀ b o, b ∉ ws → h.get? b = some o → h'.get? b = some o) : Ex fs ws h h' :=
  fun b o e n => ⟨fun _ => k b o n e, o.slots, k b o n e⟩
theorem Ex.refl (fs ws : List Addr) (h : Heap) : Ex fs ws h h := .of_keeps fun _ _ e => e
theorem Ex.trans {fs ws : List Addr} {h₁ h₂ h₃ : Heap} (x : Ex fs ws h₁ h₂) (y : Ex fs ws h₂ h₃) : Ex fs ws h₁ h₃ := fun b o e n => by
  obtain ⟨x1, sl, x2⟩ := x b o e n
  obtain ⟨_, sl', y2⟩ := y b _ x2 n
  exact ⟨fun hf => (y b o (x1 hf) n).1 hf, sl', y2⟩
theorem Ex.mono {fs ws fs' ws' : List Addr} {h h' : Heap} (x : Ex fs ws h h') (hf : ∀ b ∈ fs, b ∈ fs') (hw : ∀ b ∈ ws, b ∈ ws') : Ex fs' ws' h h' := fun b o e n =>
  let ⟨x1, x2⟩ := x b o e (fun q => n (hw b q)); ⟨fun q => x1 (fun q' => q (hf b q')), x2⟩
theorem Ex.drop {fs ws fs' ws' : List Addr} {h h' : Heap} (x : Ex fs ws h h') (hf : ∀ b ∈ fs, b ∈ fs' ∨ h.get? b = none) (hw : ∀ b ∈ ws, b ∈ ws' ∨ h.get? b = none) : Ex fs' ws' h h' := fun b o e n =>
  have n' : b ∉ ws := fun q => (hw b q).elim n fun q' => by rw [e] at q'; cases q'
  let ⟨x1, x2⟩ := x b o e n'; ⟨fun q => x1 fun q' => (hf b q').elim q fun q'' => by (rw [e] at q''; cases q''), x2⟩
theorem Ex.sameBut {fs ws : List Addr} {a : Addr} {h h' : Heap} (x : Heap.SameBut a h h') (ha : a ∈ ws) : Ex fs ws h h' :=
  .of_ext fun b o n e => (x.2 b fun q => n (q ▸ ha)).trans e

theorem Ex.up {fs ws : List Addr} {h h' : Heap} (x : Ex fs ws h h') {b : Addr} {o : Obj} (e : h.get? b = some o) (n : b ∉ ws) : ∃ sl, h'.get? b = some { o with slots := sl } := (x b o e n).2
theorem Ex.list {fs ws : List Addr} {h h' : Heap} {a : Addr} {vs : Array Value} (x : Ex fs ws h h') (n : a ∉ ws) (e : h.IsList a vs) : h'.IsList a vs := by
  obtain ⟨o, ho, hc, k, hd⟩ := e
  obtain ⟨sl, h'⟩ := x.up ho n
  exact ⟨_, h', hc, k, hd⟩
theorem Ex.tup {fs ws : List Addr} {h h' : Heap} {a : Addr} {vs : Array Value} (x : Ex fs ws h h') (n : a ∉ ws) (e : IsTup h a vs) : IsTup h' a vs := by
  obtain ⟨o, ho, hc, k, hd⟩ := e
  obtain ⟨sl, h'⟩ := x.up ho n
  exact ⟨_, h', hc, k, hd⟩
theorem Ex.ns {fs ws : List Addr} {h h' : Heap} {a : Addr} {m : Str → Option Value} (x : Ex fs ws h h') (n : a ∉ ws) (e : h.Ns a m) : h'.Ns a m := by
  obtain ⟨o, es, ep, ho, hd, r⟩ := e
  obtain ⟨sl, h'⟩ := x.up ho n
  exact ⟨_, es, ep, h', hd, r⟩
theorem Ex.listiter {fs ws : List Addr} {h h' : Heap} {a l : Addr} {i : Nat} (x : Ex fs ws h h') (n : a ∉ ws) (e : h.IsListIter a l i) : h'.IsListIter a l i := by
  obtain ⟨o, ho, hc, hd⟩ := e
  obtain ⟨sl, h'⟩ := x.up ho n
  exact ⟨_, h', hc, hd⟩

def Same (a b : Array GenState) : Prop := b = a

structure Mv (fs ws : List Addr) (G : Array GenState → Array GenState → Prop) (s s' : Shared) : Prop where
  heap : Ex fs ws s.heap s'.heap
  gens : G s.gens s'.gens
  drawn : s'.drawn = s.drawn
  os : s'.os = s.os

theorem Mv.refl {fs ws : List Addr} {G : Array GenState → Array GenState → Prop} (hg : ∀ a, G a a) (s : Shared) : Mv fs ws G s s := ⟨Ex.refl _ _ _, hg _, rfl, rfl⟩
theorem Mv.trans {fs ws : List Addr} {G : Array GenState → Array GenState → Prop} (hg : ∀ a b c, G a b → G b c → G a c) {s₁ s₂ s₃ : Shared} (x : Mv fs ws G s₁ s₂) (y : Mv fs ws G s₂ s₃) : Mv fs ws G s₁ s₃ :=
  ⟨x.heap.trans y.heap, hg _ _ _ x.gens y.gens, y.drawn.trans x.drawn, y.os.trans x.os⟩
theorem Mv.mono {fs ws fs' ws' : List Addr} {G G' : Array GenState → Array GenState → Prop} {s s' : Shared} (x : Mv fs ws G s s') (hf : ∀ b ∈ fs, b ∈ fs') (hw : ∀ b ∈ ws, b ∈ ws') (hg : ∀ a b, G a b → G' a b) : Mv fs' ws' G' s s' :=
  ⟨x.heap.mono hf hw, hg _ _ x.gens, x.drawn, x.os⟩
theorem Mv.drop {fs ws fs' ws' : List Addr} {G : Array GenState → Array GenState → Prop} {s s' : Shared} (x : Mv fs ws G s s') (hf : ∀ b ∈ fs, b ∈ fs' ∨ s.heap.get? b = none) (hw : ∀ b ∈ ws, b ∈ ws' ∨ s.heap.get? b = none) : Mv fs' ws' G s s' :=
  ⟨x.heap.drop hf hw, x.gens, x.drawn, x.os⟩
theorem Mv.of_keeps {fs ws : List Addr} {s : Shared} {h' : Heap} {tk : Nat} (k : ∀ b o, s.heap.get? b = some o → h'.get? b = some o) : Mv fs ws Same s { s with heap := h', toks := tk } :=
  ⟨.of_keeps k, rfl, rfl, rfl⟩
theorem Mv.of_ext {fs ws : List Addr} {s : Shared} {h' : Heap} {tk : Nat} (k : ∀ b o, b ∉ ws → s.heap.get? b = some o → h'.get? b = some o) : Mv fs ws Same s { s with heap := h', toks := tk } :=
  ⟨.of_ext k, rfl, rfl, rfl⟩
theorem Same.refl : ∀ a, Same a a := fun _ => rfl
theorem Same.trans : ∀ a b c, Same a b → Same b c → Same a c := fun _ _ _ x y => Eq.trans y x

/-- an iterator at I: n items, P says which; St j: j of them are taken -/
structure Iter (prog : Program) (w : World) (A : Around) (fs : List Addr) (I : Addr) (fp ws : List Addr) (G : Array GenState → Array GenState → Prop) (n : Nat) (P : Nat → Value → Prop) (St : Nat → Shared → Prop) : Prop where
  sub : ∀ b ∈ ws, b ∈ fp
  grefl : ∀ a, G a a
  gtrans : ∀ a b c, G a b → G b c → G a c
  item : ∀ j (s : Shared) (Q : Option Value → Shared → Prop) (E : Value → Shared → Prop), j < n → St j s → (∀ v s', P j v → St (j + 1) s' → Mv fs ws G s s' → Q (some v) s') → wpAny (model prog w) A (pyNext (.ref I)) Q E s
  done : ∀ (s : Shared) (Q : Option Value → Shared → Prop) (E : Value → Shared → Prop), St n s → (∀ s', Mv fs ws G s s' → Q none s') → wpAny (model prog w) A (pyNext (.ref I)) Q E s
  self : ∀ j (s : Shared) (Q : Value → Shared → Prop) (E : Value → Shared → Prop), St j s → Q (.ref I) s → wpAny (model prog w) A (pyIter (.ref I)) Q E s
  frame : ∀ j s s' ws', St j s → Mv fs ws' Same s s' → (∀ b ∈ ws', b ∉ fp) → St j s'

section
variable {prog : Program} {w : World} {A : Around} {fs : List Addr}
theorem Iter.list (hh : A.handled = none) (I ax : Addr) (hne : ax ≠ I) (items : List Value) :
    Iter prog w A fs I [I, ax] [I] Same items.length (fun i v => items[i]? = some v) (fun i s => s.heap.IsListIter I ax i ∧ s.heap.IsList ax items.toArray) where
  sub := fun b hb => by simp at hb; simp [hb]
  grefl := Same.refl
  gtrans := Same.trans
  item := fun j s Q E hj st hQ => by
    refine (Walks.list (prog := prog) (w := w) hh I ax hne items.toArray).item j s Q E (by simpa using hj) st fun v h' tk hp hst hk => ?_
    exact hQ v _ (by simpa using hp) hst (Mv.of_ext hk)
  done := fun s Q E st hQ => by
    refine (Walks.list (prog := prog) (w := w) hh I ax hne items.toArray).done s Q E (by simpa using st) fun h' tk hk => ?_
    exact hQ _ (Mv.of_ext hk)
  self := fun j s Q E st hQ => (Walks.list (prog := prog) (w := w) hh I ax hne items.toArray).self j s Q E st hQ
  frame := fun j s s' ws' st mv hd => ⟨mv.heap.listiter (fun q => hd _ q (by simp)) st.1, mv.heap.list (fun q => hd _ q (by simp)) st.2⟩

theorem loop_core {c : Code} {I D C : Addr} {fp wsI : List Addr} {G : Array GenState → Array GenState → Prop} {n : Nat} {P : Nat → Value → Prop} {St : Nat → Shared → Prop} {x : Str} {px p : Pos} {cenv : Env} {tail : Value → Sem Fin}
    {kx : Value → Sem Unit} (W : Iter prog w A fs I fp wsI G n P St) (hq : c.quiet = true) (hu : A.under c = A)
    (hden : (model prog w).den c = (standAt p >>= fun _ => pyNext (.ref I) >>= fun r => match r with
      | none => pure (.done .next)
      | some v => letOwnedTupleGo (.Name x px) (.ref I) v >>= fun _ => assign (.Name x px) cenv v >>= fun _ => tail v : Sem Fin).onRaise kx)
    (hC : cenv.locals = C) (hx : cenv.kindOf x = some .local) (hp : (cenv.scope.kind == .class || (cenv.scope.kind == .module && cenv.locals != cenv.globals)) = false)
    (hDC : D ≠ C) (hDf : D ∉ fp) (hCf : C ∉ fp)
    (Inv : Nat → List Value → Shared → Prop) (s₀ : Shared) (hstab : ∀ j ys s s', Inv j ys s → Mv fs (D :: C :: wsI) G s s' → Inv j ys s')
    (hturn : ∀ j v s₁ m₁ ys, j < n → P j v → s₁.heap.Ns C m₁ → m₁ x = some v → s₁.heap.IsList D ys.toArray → Inv j ys s₁ → Mv fs (D :: C :: wsI) G s₀ s₁ →
      wpAny (model prog w) A (tail v) (fun fin s₂ => fin = .again c ∧ ∃ rs m₂, s₂.heap.Ns C m₂ ∧ s₂.heap.IsList D (ys ++ rs).toArray ∧ Inv (j + 1) (ys ++ rs) s₂ ∧ Mv fs [D, C] Same s₁ s₂) (fun _ _ => False) s₁)
    {m₀ : Str → Option Value} {ys₀ : List Value} (hst : St 0 s₀) (hn : s₀.heap.Ns C m₀) (hl : s₀.heap.IsList D ys₀.toArray) (hi : Inv 0 ys₀ s₀) :
    codeAny (model prog w) A c (fun r s' => r = .ok .next ∧ ∃ ys m', Inv n ys s' ∧ s'.heap.IsList D ys.toArray ∧ s'.heap.Ns C m' ∧ Mv fs (D :: C :: wsI) G s₀ s') s₀ := by
  have hCw : C ∉ wsI := fun q => hCf (W.sub _ q)
  have hDw : D ∉ wsI := fun q => hDf (W.sub _ q)
  have wI : ∀ {s s' : Shared}, Mv fs wsI G s s' → Mv fs (D :: C :: wsI) G s s' := fun x => x.mono (fun _ q => q) (fun b q => .tail _ (.tail _ q)) fun _ _ q => q
  have wS : ∀ {s s' : Shared}, Mv fs [D, C] Same s s' → Mv fs (D :: C :: wsI) G s s' := fun x => x.mono (fun _ q => q) (fun b q => by simp at q; rcases q with rfl | rfl <;> simp) fun a b q => by (cases q; exact W.grefl _)
  refine codeAny_loop hq (fun k s => ∃ j ys m, j ≤ n ∧ k = n - j ∧ St j s ∧ Inv j ys s ∧ s.heap.IsList D ys.toArray ∧ s.heap.Ns C m ∧ Mv fs (D :: C :: wsI) G s₀ s) (fun k s hI => ?_) n
    ⟨0, ys₀, m₀, Nat.zero_le _, rfl, hst, hi, hl, hn, .refl W.grefl _⟩
  obtain ⟨j, ys, m, hj, rfl, st, inv, hl, hn, mv⟩ := hI
  rw [hu, hden]
  refine wpAny_onRaise ?_
  refine wpAny_mono (E := fun _ _ => False) (Q := fun fin s' => (∃ f, fin = .done f ∧ (Except.ok f : Result) = .ok .next ∧ ∃ ys m', Inv n ys s' ∧ s'.heap.IsList D ys.toArray ∧ s'.heap.Ns C m' ∧ Mv fs (D :: C :: wsI) G s₀ s')
      ∨ (fin = .again c ∧ ∃ m, m < n - j ∧ ∃ j' ys m', j' ≤ n ∧ m = n - j' ∧ St j' s' ∧ Inv j' ys s' ∧ s'.heap.IsList D ys.toArray ∧ s'.heap.Ns C m' ∧ Mv fs (D :: C :: wsI) G s₀ s')) ?_ (fun fin s' h => ?_) (fun _ _ h => h.elim)
  · refine wpAny_bind (wpAny_standAt (wpAny_bind ?_))
    by_cases hlt : j < n
    · refine W.item j s _ _ hlt st fun v s₁ hP st₁ mv₁ => ?_
      show wpAny _ _ (letOwnedTupleGo (.Name x px) (.ref I) v >>= fun _ => assign (.Name x px) cenv v >>= fun _ => tail v) _ _ s₁
      refine wpAny_bind (wpAny_of_eq (a := ()) (by rfl) ?_)
      have hn₁ : s₁.heap.Ns C m := mv₁.heap.ns hCw hn
      have hl₁ := mv₁.heap.list hDw hl
      refine wpAny_bind (wpAny_assign_Name (wpAny_storeName_local hx (hC ▸ hn₁) (fun h₂ hn₂ hs₂ => ?_) hp))
      rw [hC] at hn₂ hs₂
      have mv₂ : Mv fs [D, C] Same s₁ { s₁ with heap := h₂, toks := s₁.toks + 1 } := ⟨Ex.sameBut hs₂ (by simp), rfl, rfl, rfl⟩
      have st₂ := W.frame _ _ { s₁ with heap := h₂, toks := s₁.toks + 1 } [C] st₁ ⟨Ex.sameBut hs₂ (by simp), rfl, rfl, rfl⟩ (by simpa using hCf)
      have mv' := (mv.trans W.gtrans (wI mv₁)).trans W.gtrans (wS mv₂)
      have inv₂ := hstab _ _ _ _ (hstab _ _ _ _ inv (wI mv₁)) (wS mv₂)
      have hl₂ : h₂.IsList D ys.toArray := (Ex.sameBut (fs := fs) (ws := [C]) hs₂ (by simp)).list (by simpa using hDC) hl₁
      refine wpAny_mono (hturn j v _ _ ys hlt hP hn₂ (by simp) hl₂ inv₂ mv') (fun fin s₃ h₃ => ?_) (fun _ _ h => h.elim)
      obtain ⟨rfl, rs, m₃, hn₃, hl₃, inv₃, mv₃⟩ := h₃
      refine .inr ⟨rfl, n - (j + 1), by omega, j + 1, ys ++ rs, m₃, hlt, rfl, ?_, inv₃, hl₃, hn₃, mv'.trans W.gtrans (wS mv₃)⟩
      exact W.frame _ _ _ _ st₂ mv₃ (fun b hb => by simp at hb; rcases hb with rfl | rfl <;> assumption)
    · obtain rfl : j = n := by omega
      refine W.done s _ _ st fun s₁ mv₁ => ?_
      exact wpAny_pure (.inl ⟨_, rfl, rfl, ys, m, hstab _ _ _ _ inv (wI mv₁), mv₁.heap.list hDw hl, mv₁.heap.ns hCw hn, mv.trans W.gtrans (wI mv₁)⟩)
  · rcases h with ⟨f, rfl, h⟩ | ⟨rfl, h⟩
    · exact h
    · exact ⟨rfl, h⟩
end

abbrev noErr : Value → Shared → Prop := fun _ _ => False

abbrev tail1 (ifs : List Expr) (elt : Expr) (cenv : Env) (acc : Value) (c : Code) : Sem Fin :=
  (forIn ifs true fun c r => if r = true then (do let ok ← isTrue c cenv (eval c cenv); pure (ForInStep.yield ok)) else pure (ForInStep.yield r)) >>= fun ok =>
    if ok = true then ((eval elt cenv >>= fun x => call (.builtin "list.append") [acc, x] >>= fun _ => pure ()) >>= fun _ => again c) else again c

theorem turn1 (elt iter : Expr) (x : Str) (px : Pos) (ifs : List Expr) (scope : Scope) (pos : Pos) (it acc : Value) (env : Env) :
    compTurn (.ListComp elt [⟨.Name x px, iter, ifs, 0⟩] scope pos) 0 it acc env = (standAt iter.pos >>= fun _ => pyNext it >>= fun r => match r with
      | none => pure (.done .next)
      | some v => letOwnedTupleGo (.Name x px) it v >>= fun _ => assign (.Name x px) env v >>= fun _ => tail1 ifs elt env acc (.compLoop (.ListComp elt [⟨.Name x px, iter, ifs, 0⟩] scope pos) 0 it acc env)) := by rfl

abbrev tail2a (iter' : Expr) (e : Expr) (cenv : Env) (acc : Value) (c : Code) : Sem Fin :=
  eval iter' cenv >>= fun x => standAt iter'.pos >>= fun _ => foldedSetIterable iter' cenv x >>= fun x => holding [x] (pyIter x) >>= fun it' => runOwn (.compStart e 1 it' acc cenv) cenv >>= fun _ => again c

theorem turn2a (elt iter iter' : Expr) (x x' : Str) (px px' : Pos) (scope : Scope) (pos : Pos) (it acc : Value) (env : Env) :
    compTurn (.ListComp elt [⟨.Name x px, iter, [], 0⟩, ⟨.Name x' px', iter', [], 0⟩] scope pos) 0 it acc env = (standAt iter.pos >>= fun _ => pyNext it >>= fun r => match r with
      | none => pure (.done .next)
      | some v => letOwnedTupleGo (.Name x px) it v >>= fun _ => assign (.Name x px) env v >>= fun _ =>
          tail2a iter' (.ListComp elt [⟨.Name x px, iter, [], 0⟩, ⟨.Name x' px', iter', [], 0⟩] scope pos) env acc (.compLoop (.ListComp elt [⟨.Name x px, iter, [], 0⟩, ⟨.Name x' px', iter', [], 0⟩] scope pos) 0 it acc env)) := by rfl

abbrev tail2b (elt : Expr) (cenv : Env) (acc : Value) (c : Code) : Sem Fin :=
  (eval elt cenv >>= fun x => call (.builtin "list.append") [acc, x] >>= fun _ => pure ()) >>= fun _ => again c

theorem turn2b (elt iter iter' : Expr) (x x' : Str) (px px' : Pos) (scope : Scope) (pos : Pos) (it acc : Value) (env : Env) :
    compTurn (.ListComp elt [⟨.Name x px, iter, [], 0⟩, ⟨.Name x' px', iter', [], 0⟩] scope pos) 1 it acc env = (standAt iter'.pos >>= fun _ => pyNext it >>= fun r => match r with
      | none => pure (.done .next)
      | some v => letOwnedTupleGo (.Name x' px') it v >>= fun _ => assign (.Name x' px') env v >>= fun _ =>
          tail2b elt env acc (.compLoop (.ListComp elt [⟨.Name x px, iter, [], 0⟩, ⟨.Name x' px', iter', [], 0⟩] scope pos) 1 it acc env)) := by rfl

section
variable {prog : Program} {w : World} {A : Around} {fs : List Addr}

theorem den_loop (e : Expr) (d : Nat) (it acc : Value) (env : Env) (h : ∃ elt gs scope pos, e = .ListComp elt gs scope pos) :
    (model prog w).den (.compLoop e d it acc env) = (compTurn e d it acc env).onRaise (fun x => do noteFrame x env; theTreesLotGoes x) := by
  obtain ⟨elt, gs, scope, pos, rfl⟩ := h
  rfl
theorem under_loop (elt : Expr) (gs : List Comprehension) (scope : Scope) (pos : Pos) (d : Nat) (it acc : Value) (env : Env) : A.under (.compLoop (.ListComp elt gs scope pos) d it acc env) = A := Around.under_of_weight rfl

/-- the comprehension's own block: the list D, the names' table C -/
theorem comp_block {E : Value → Shared → Prop} {elt iter : Expr} {x : Str} {px : Pos} {ifs : List Expr} {rest : List Comprehension} {scope : Scope} {cl : List (Str × Addr)} {pos : Pos} {env : Env} {it : Value} {s₂ : Shared} {RR : Value → Addr → Result → Shared → Prop}
    (hcell : ∀ y ∈ scope.names, y.2 ≠ .cell) (hkind : scope.kind = .function)
    (h : ∀ h₁, (∀ b o, s₂.heap.get? b = some o → h₁.get? b = some o) → h₁.IsList s₂.heap.objs.size #[] → h₁.Ns (s₂.heap.objs.size + 1) (fun _ => none) →
      wpAny (model prog w) A (pyIter it) (fun it' s₄ => it' = it ∧ s₄ = { s₂ with heap := h₁ }) noErr { s₂ with heap := h₁ } ∧
      codeAny (model prog w) A (.compLoop (.ListComp elt (⟨.Name x px, iter, ifs, 0⟩ :: rest) scope pos) 0 it (.ref s₂.heap.objs.size) (compEnvC scope cl (s₂.heap.objs.size + 1) env)) (RR (.ref s₂.heap.objs.size) (s₂.heap.objs.size + 1)) { s₂ with heap := h₁ }) :
    wpAny (model prog w) A (newList []) (fun acc s₃ => wpAny (model prog w) A (newFunctionEnv scope env.globals cl [] env.qual none .none (some env)) (fun cenv s₄ =>
      codeAny (model prog w) A (.compStart (.ListComp elt (⟨.Name x px, iter, ifs, 0⟩ :: rest) scope pos) 0 it acc { cenv with scope := relabel scope env }) (RR acc cenv.locals) s₄) E s₃) E s₂ := by
  refine wpAny_newObj_type (wpAny_newFunctionEnv hcell (by intro y hy; simp at hy) (fun h₁ hns₁ hsb₁ => ?_) hkind)
  dsimp only at hns₁ hsb₁ ⊢
  have hC : (s₂.heap.push { cls := .type "list", dict := none, data := .seq ([] : List Value).toArray }).objs.size = s₂.heap.objs.size + 1 := by rw [Heap.size_push]
  rw [hC] at hns₁ hsb₁ ⊢
  have hDC : s₂.heap.objs.size ≠ s₂.heap.objs.size + 1 := Nat.ne_of_lt (Nat.lt_succ_self _)
  have old : ∀ b o, s₂.heap.get? b = some o → h₁.get? b = some o := fun b o e => hsb₁.extBut b o (Nat.ne_of_lt (Nat.lt_succ_of_lt (Heap.lt_size e))) (Heap.get?_push_of_some _ (Heap.get?_push_of_some _ e))
  have hacc : h₁.IsList s₂.heap.objs.size #[] := ⟨_, hsb₁.extBut _ _ hDC (Heap.get?_push_of_some _ (Heap.get?_push_size _ rfl)), rfl, _, rfl⟩
  obtain ⟨hit, loop⟩ := h h₁ old hacc hns₁
  refine codeAny_compStart_list loop (wpAny_mono hit (fun it' s₄ h₄ => ?_) fun _ _ f => f.elim)
  obtain ⟨rfl, rfl⟩ := h₄
  exact loop

theorem comp_eval {s : Shared} {E : Value → Shared → Prop} {Q : Value → Shared → Prop} {elt iter : Expr} {x : Str} {px : Pos} {ifs : List Expr} {rest : List Comprehension} {scope : Scope} {cl : List (Str × Addr)} {pos : Pos} {env : Env}
    (hclos : closureFor scope env = pure cl) (hcell : ∀ y ∈ scope.names, y.2 ≠ .cell) (hkind : scope.kind = .function) (hnames : ∀ y ∈ scope.names, y.2 = .local → scope.names.lookup y.1 = some .local)
    (h : wpAny (model prog w) A (eval iter env) (fun xv s₁ => wpAny (model prog w) A (pyIter xv) (fun it s₂ =>
      ∀ h₁, (∀ b o, s₂.heap.get? b = some o → h₁.get? b = some o) → h₁.IsList s₂.heap.objs.size #[] → h₁.Ns (s₂.heap.objs.size + 1) (fun _ => none) →
        wpAny (model prog w) A (pyIter it) (fun it' s₄ => it' = it ∧ s₄ = { s₂ with heap := h₁ }) noErr { s₂ with heap := h₁ } ∧
        codeAny (model prog w) A (.compLoop (.ListComp elt (⟨.Name x px, iter, ifs, 0⟩ :: rest) scope pos) 0 it (.ref s₂.heap.objs.size) (compEnvC scope cl (s₂.heap.objs.size + 1) env))
          (fun r s' => r = .ok .next ∧ (∃ m', s'.heap.Ns (s₂.heap.objs.size + 1) m') ∧ ∀ h', Heap.SameBut (s₂.heap.objs.size + 1) s'.heap h' → Q (.ref s₂.heap.objs.size) { s' with heap := h' }) { s₂ with heap := h₁ }) E s₁) E s)
    (hs : ∀ x, foldedSetIterable iter env x = pure x := by intro _; rfl) :
    wpAny (model prog w) A (eval (.ListComp elt (⟨.Name x px, iter, ifs, 0⟩ :: rest) scope pos) env) Q E s := by
  rw [eval_ListComp]
  refine wpAny_comprehension_free (use := none) rfl hs hclos hkind hnames (wpAny_mono h (fun xv s₁ h₁ => wpAny_mono h₁ (fun it s₂ h₂ => ?_) fun _ _ e => e) fun _ _ e => e)
  refine comp_block (RR := fun acc C => compPost (model prog w) A E none Q acc C) hcell hkind fun h₁ k1 k2 k3 => ?_
  obtain ⟨a, b⟩ := h₂ h₁ k1 k2 k3
  refine ⟨a, codeAny_mono b fun r s' hr => ?_⟩
  obtain ⟨rfl, ⟨m', hn⟩, hq⟩ := hr
  exact ⟨m', hn, hq⟩

theorem comp_assign {s : Shared} {E : Value → Shared → Prop} {Q : Flow → Shared → Prop} {elt iter : Expr} {x y : Str} {px py : Pos} {ifs : List Expr} {rest : List Comprehension} {scope : Scope} {cl : List (Str × Addr)} {pos spos : Pos} {env : Env}
    (hsw : swapsWith (.ListComp elt (⟨.Name x px, iter, ifs, 0⟩ :: rest) scope pos) (some (.Name y py)) spos.line env = pure true)
    (hclos : closureFor scope env = pure cl) (hcell : ∀ y ∈ scope.names, y.2 ≠ .cell) (hkind : scope.kind = .function) (hnames : ∀ y ∈ scope.names, y.2 = .local → scope.names.lookup y.1 = some .local)
    (hy : env.kindOf y = some .local) (hp : (env.scope.kind == .class || (env.scope.kind == .module && env.locals != env.globals)) = false)
    (h : wpAny (model prog w) A (eval iter env) (fun xv s₁ => wpAny (model prog w) A (pyIter xv) (fun it s₂ => env.locals < s₂.heap.objs.size ∧
      ∀ h₁, (∀ b o, s₂.heap.get? b = some o → h₁.get? b = some o) → h₁.IsList s₂.heap.objs.size #[] → h₁.Ns (s₂.heap.objs.size + 1) (fun _ => none) →
        wpAny (model prog w) A (pyIter it) (fun it' s₄ => it' = it ∧ s₄ = { s₂ with heap := h₁ }) noErr { s₂ with heap := h₁ } ∧
        codeAny (model prog w) A (.compLoop (.ListComp elt (⟨.Name x px, iter, ifs, 0⟩ :: rest) scope pos) 0 it (.ref s₂.heap.objs.size) (compEnvC scope cl (s₂.heap.objs.size + 1) env))
          (fun r s' => r = .ok .next ∧ (∃ m', s'.heap.Ns (s₂.heap.objs.size + 1) m') ∧ ∃ m, s'.heap.Ns env.locals m ∧ ∀ h₂ h₃, h₂.Ns env.locals (fun z => if z = y then some (.ref s₂.heap.objs.size) else m z) → Heap.SameBut env.locals s'.heap h₂ → Heap.SameBut (s₂.heap.objs.size + 1) h₂ h₃ →
            Q .next { s' with heap := h₃, toks := s'.toks + 1 }) { s₂ with heap := h₁ }) E s₁) E s)
    (hs : ∀ x, foldedSetIterable iter env x = pure x := by intro _; rfl) :
    wpAny (model prog w) A (exec (.Assign [.Name y py] (.ListComp elt (⟨.Name x px, iter, ifs, 0⟩ :: rest) scope pos) spos) env) Q E s := by
  rw [exec_Assign_Name_used _ _ _ _ hsw]
  refine wpAny_bind (wpAny_standAt (wpAny_bind ?_))
  show wpAny _ A (do let _ ← comprehension (.ListComp elt (⟨.Name x px, iter, ifs, 0⟩ :: rest) scope pos) scope env _ (newList []) false (eval iter env) (some (assign (.Name y py) env))) _ _ s
  refine wpAny_bind (wpAny_mono (wpAny_comprehension_free (use := some (assign (.Name y py) env)) (Q := fun _ s' => Q .next s') rfl hs hclos hkind hnames
    (wpAny_mono h (fun xv s₁ h₁ => wpAny_mono h₁ (fun it s₂ h₂ => ?_) fun _ _ e => e) fun _ _ e => e)) (fun _ s' h' => ?_) fun _ _ e => e)
  · obtain ⟨hlt, h₂⟩ := h₂
    refine comp_block (RR := fun acc C => compPost (model prog w) A E (some (assign (.Name y py) env)) (fun _ s' => Q .next s') acc C) hcell hkind fun h₁ k1 k2 k3 => ?_
    obtain ⟨a, b⟩ := h₂ h₁ k1 k2 k3
    refine ⟨a, codeAny_mono b fun r s' hr => ?_⟩
    obtain ⟨rfl, ⟨m', hn⟩, m, hm, hq⟩ := hr
    refine wpAny_assign_Name (wpAny_storeName_local hy hm (fun h₂ hn₂ hs₂ => ?_) hp)
    have hne : s₂.heap.objs.size + 1 ≠ env.locals := Nat.ne_of_gt (Nat.lt_succ_of_lt hlt)
    exact ⟨m', hn.sameBut hs₂ hne, fun h₃ hs₃ => hq h₂ h₃ hn₂ hs₂ hs₃⟩
  · exact wpAny_pure (wpAny_pure h')
end


theorem Ex.listiter' {fs ws : List Addr} {h h' : Heap} {a l : Addr} {i : Nat} (x : Ex fs ws h h') (n : a ∉ ws) (e : h.IsTupleIter a l i) : h'.IsTupleIter a l i := by
  obtain ⟨o, ho, hc, hd⟩ := e
  obtain ⟨sl, h'⟩ := x.up ho n
  exact ⟨_, h', hc, hd⟩
theorem Ex.tuple {fs ws : List Addr} {h h' : Heap} {a : Addr} {vs : Array Value} (x : Ex fs ws h h') (n : a ∉ ws) (e : h.IsTuple a vs) : h'.IsTuple a vs := by
  obtain ⟨o, ho, hc, k, hd⟩ := e
  obtain ⟨sl, h'⟩ := x.up ho n
  exact ⟨_, h', hc, k, hd⟩
theorem Ex.striter {fs ws : List Addr} {h h' : Heap} {a : Addr} {ty : String} {y : Str} {t : Tok} {i : Nat} (x : Ex fs ws h h') (n : a ∉ ws) (e : h.IsStrIter a ty y t i) : h'.IsStrIter a ty y t i := by
  obtain ⟨o, ho, hc, hd⟩ := e
  obtain ⟨sl, h'⟩ := x.up ho n
  exact ⟨_, h', hc, hd⟩

section
variable {prog : Program} {w : World} {A : Around} {fs : List Addr}
theorem Iter.of_walks {I : Addr} {fp : List Addr} {n : Nat} {P : Nat → Value → Prop} {St : Nat → Heap → Prop} (W : Walks prog w A I fp [I] n P St)
    (hf : ∀ j h h' ws', St j h → Ex fs ws' h h' → (∀ b ∈ ws', b ∉ fp) → St j h') : Iter prog w A fs I fp [I] Same n P (fun j s => St j s.heap) where
  sub := W.sub
  grefl := Same.refl
  gtrans := Same.trans
  item := fun j s Q E hj st hQ => W.item j s Q E hj st fun v h' tk hp hst hk => hQ v _ hp hst (Mv.of_ext hk)
  done := fun s Q E st hQ => W.done s Q E st fun h' tk hk => hQ _ (Mv.of_ext hk)
  self := W.self
  frame := fun j s s' ws' st mv hd => hf j _ _ ws' st mv.heap hd

theorem Iter.tuple (hh : A.handled = none) (I ax : Addr) (hne : ax ≠ I) (items : List Value) :
    Iter prog w A fs I [I, ax] [I] Same items.length (fun i v => items[i]? = some v) (fun i s => s.heap.IsTupleIter I ax i ∧ s.heap.IsTuple ax items.toArray) := by
  have W := Iter.of_walks (fs := fs) (Walks.tuple (prog := prog) (w := w) hh I ax hne items.toArray) fun j h h' ws' st ex hd => ⟨ex.listiter' (fun q => hd _ q (by simp)) st.1, ex.tuple (fun q => hd _ q (by simp)) st.2⟩
  simpa using W
theorem Iter.strAscii (hh : A.handled = none) (I : Addr) (x : Str) (t : Tok) :
    Iter prog w A fs I [I] [I] Same x.cps.size (SignAt x) (fun i s => s.heap.IsStrIter I "str_ascii_iterator" x t i) :=
  Iter.of_walks (Walks.strAscii hh I x t) fun j h h' ws' st ex hd => ex.striter (fun q => hd _ q (by simp)) st
theorem Iter.strWide (hh : A.handled = none) (I : Addr) (x : Str) (t : Tok) :
    Iter prog w A fs I [I] [I] Same x.cps.size (SignAt x) (fun i s => s.heap.IsStrIter I "str_iterator" x t i) :=
  Iter.of_walks (Walks.strWide hh I x t) fun j h h' ws' st ex hd => ex.striter (fun q => hd _ q (by simp)) st
theorem Iter.range (hh : A.handled = none) (I : Addr) (n : Nat) :
    Iter prog w A fs I [I] [I] Same n (fun i v => ∃ t, v = .int i t) (fun i s => ∃ o, s.heap.get? I = some o ∧ o.slots = #[] ∧ IsRangeIter s.heap I (0 + (i : Nat) * 1) ((n : Int) - (i : Nat)) 1 ∧ I ∉ fs) := by
  have W := Walks.range (prog := prog) (w := w) hh I 0 1 n
  refine { sub := W.sub, grefl := Same.refl, gtrans := Same.trans, item := fun j s Q E hj st hQ => ?_, done := fun s Q E st hQ => ?_, self := fun j s Q E st hQ => ?_, frame := fun j s s' ws' st mv hd => ?_ }
  · obtain ⟨o, ho, hsl, hr, hf⟩ := st
    refine W.item j s Q E hj hr fun v h' tk hp hst hk => hQ v _ ?_ ?_ (Mv.of_ext hk)
    · obtain ⟨t, rfl⟩ := hp; exact ⟨t, by simp⟩
    · exact ⟨_, hst, rfl, hst, hf⟩
  · obtain ⟨o, ho, hsl, hr, hf⟩ := st
    exact W.done s Q E hr fun h' tk hk => hQ _ (Mv.of_ext hk)
  · obtain ⟨o, ho, hsl, hr, hf⟩ := st
    exact W.self j s Q E hr hQ
  · obtain ⟨o, ho, hsl, hr, hf⟩ := st
    have := (mv.heap I o ho (fun q => hd _ q (by simp))).1 hf
    refine ⟨o, this, hsl, ?_, hf⟩
    have hr' : s.heap.get? I = _ := hr
    rw [ho] at hr'
    exact this.trans hr'
end

/-- an iterator that stands at its start -/
inductive ItAt (h : Heap) (I : Addr) : Nat → (Nat → Value → Prop) → Prop
  | list {ax : Addr} {items : List Value} : ax ≠ I → h.IsListIter I ax 0 → h.IsList ax items.toArray → ItAt h I items.length (fun i v => items[i]? = some v)
  | tup {ax : Addr} {items : List Value} : ax ≠ I → h.IsTupleIter I ax 0 → h.IsTuple ax items.toArray → ItAt h I items.length (fun i v => items[i]? = some v)
  | ascii {x : Str} {t : Tok} : h.IsStrIter I "str_ascii_iterator" x t 0 → ItAt h I x.cps.size (SignAt x)
  | wide {x : Str} {t : Tok} : h.IsStrIter I "str_iterator" x t 0 → ItAt h I x.cps.size (SignAt x)

theorem ItAt.ex {fs : List Addr} {h h' : Heap} {I : Addr} {n : Nat} {P : Nat → Value → Prop} (x : ItAt h I n P) (e : Ex fs [] h h') : ItAt h' I n P := by
  cases x with
  | list a b c => exact .list a (e.listiter (by simp) b) (e.list (by simp) c)
  | tup a b c => exact .tup a (e.listiter' (by simp) b) (e.tuple (by simp) c)
  | ascii a => exact .ascii (e.striter (by simp) a)
  | wide a => exact .wide (e.striter (by simp) a)

theorem ItAt.iter {prog : Program} {w : World} {fs : List Addr} {h : Heap} {I : Addr} {n : Nat} {P : Nat → Value → Prop} (x : ItAt h I n P) :
    ∃ fp St, (∀ A : Around, A.handled = none → Iter prog w A fs I fp [I] Same n P St) ∧ (∀ s : Shared, s.heap = h → St 0 s) ∧ ∀ b ∈ fp, b < h.objs.size := by
  cases x with
  | list a b c => exact ⟨_, _, fun A hh => Iter.list hh I _ a _, fun s e => ⟨e ▸ b, e ▸ c⟩, fun q hq => by
      obtain ⟨o, ho, _⟩ := b; obtain ⟨o', ho', _⟩ := c
      simp at hq; rcases hq with rfl | rfl
      · exact Heap.lt_size ho
      · exact Heap.lt_size ho'⟩
  | tup a b c => exact ⟨_, _, fun A hh => Iter.tuple hh I _ a _, fun s e => ⟨e ▸ b, e ▸ c⟩, fun q hq => by
      obtain ⟨o, ho, _⟩ := b; obtain ⟨o', ho', _⟩ := c
      simp at hq; rcases hq with rfl | rfl
      · exact Heap.lt_size ho
      · exact Heap.lt_size ho'⟩
  | ascii a => exact ⟨_, _, fun A hh => Iter.strAscii hh I _ _, fun s e => e ▸ a, fun q hq => by
      obtain ⟨o, ho, _⟩ := a
      simp at hq; subst hq
      exact Heap.lt_size ho⟩
  | wide a => exact ⟨_, _, fun A hh => Iter.strWide hh I _ _, fun s e => e ▸ a, fun q hq => by
      obtain ⟨o, ho, _⟩ := a
      simp at hq; subst hq
      exact Heap.lt_size ho⟩

abbrev frs (l : List Env) : List Addr := l.filterMap (·.frame)

theorem frs_in {l : List Env} : ∀ env ∈ l, ∀ a, env.frame = some a → a ∈ frs l := fun env he a hf => List.mem_filterMap.mpr ⟨env, he, hf⟩

theorem ex_of_stays {h h' bs : Heap} {l : List Env} (hff : h.FunFrames bs l) (k : (hideAll h (frs l)).StaysIn h') (u : h.UpToSlots h') : Ex (frs l) [] h h' := fun b o e _ => by
  by_cases hm : b ∈ frs l
  · obtain ⟨_, o', ho', hd⟩ := hff.mem hm
    rw [e] at ho'; cases ho'
    exact ⟨fun q => (q hm).elim, u b o e hd⟩
  · have := k b o (hideAll_get _ e hm)
    exact ⟨fun _ => this, o.slots, this⟩

section
variable {prog : Program} {w : World} {A : Around} {s' : Shared}
theorem caught {env : Env} {l : List Env} {L e : Addr} {h bs : Heap} {X T' : String} {x : Str} {np pos : Pos} {b₀ : Stmt} {suite : List Stmt} {rest : List ExceptHandler} {Q : Flow → Shared → Prop}
    (hfr : A.frames = some (env :: l)) (hf : env.frame = some L) (hff : h.FunFrames bs (env :: l)) (hx : Heap.NewExc h s'.heap e X)
    (hexc : isSubtype (.type T') (.type "BaseException") = pure true) (hnt : isSubtype (.type ((Manifest.find? T').elim "type" fun y => y.metatype)) (.type "tuple") = pure false) (hsub : isSubtype (.type X) (.type T') = pure true)
    (hname : ∀ s'' (Q'' : Value → Shared → Prop), Ex (frs (env :: l)) [] h s''.heap → Q'' (.type T') s'' → wpAny (model prog w) (A.mark (some (.ref e))) (eval (.Name x np) env) Q'' noErr s'')
    (k : ∀ h', Ex (frs (env :: l)) [] h h' → wpAny (model prog w) (A.mark (some (.ref e))) (execs (b₀ :: suite) env) Q noErr { s' with heap := h' }) :
    wpAny (model prog w) A (noteFrame (.ref e) env) (fun _ s₂ => wpAny (model prog w) A (setFlight (.ref e) none) (fun _ s₃ =>
      wpAny (model prog w) A (handleBy (.ref e) env (.ExceptHandler (some (.Name x np)) none (b₀ :: suite) pos :: rest)) Q noErr s₃) noErr s₂) noErr s' := by
  obtain ⟨ob, tp, he, hcls, hd⟩ := hx.there
  have hffB : h.FunFrames (hideAll h (frs (env :: l))) (env :: l) := funFrames_hide hff frs_in
  have hff' : s'.heap.FunFrames (hideAll h (frs (env :: l))) (env :: l) := hffB.of_keeps fun b o q _ => ⟨o, hx.keeps b o q, rfl⟩
  have hstB : (hideAll h (frs (env :: l))).StaysIn s'.heap := fun b o q => hx.keeps b o (of_hideAll _ q)
  have henB : (hideAll h (frs (env :: l))).get? e = none := by
    cases q : (hideAll h (frs (env :: l))).get? e with
    | none => rfl
    | some o => have := of_hideAll _ q; rw [hx.new] at this; cases this
  have up : h.UpToSlots s'.heap := Heap.UpToSlots.of_keeps hx.keeps
  unfold noteFrame
  simp only [hf]
  refine wpAny_bind (wpAny_field he hd (x := .none) rfl ?_)
  rw [if_neg (by decide)]
  refine wpAny_entryW (a0 := tp) hfr hff' hf he hstB henB hd (by show 1 < 6; decide) rfl fun h₁ hN => ?_
  obtain ⟨n1, n2, n3, n4⟩ := hN
  rw [hcls] at n3
  refine wpAny_landsW (L := L) (cls := .type X) (a0 := tp) ⟨n1, henB, n2, n3⟩ fun h₂ fl₂ u₂ => ?_
  have ex₂ : Ex (frs (env :: l)) [] h h₂ := ex_of_stays hff fl₂.1 ((up.trans n4).trans u₂)
  obtain ⟨ob₂, hob₂, hobc₂⟩ := fl₂.there
  refine wpAny_handleBy_builtin (X := X) (T := T') (b := true) hexc hnt hsub (wpAny_mono (hname _ _ ex₂ ⟨rfl, ⟨ob₂, hob₂, hobc₂⟩, ?_⟩) (fun _ _ q => q) fun _ _ f => f.elim)
  rw [if_pos rfl]
  refine lands_againW fl₂ fun h₃ fl₃ u₃ => ?_
  exact wpAny_mono (k h₃ (ex_of_stays hff fl₃.1 (((up.trans n4).trans u₂).trans u₃))) (fun _ _ q => q) fun _ _ f => f.elim
end

abbrev Ar (dp un : Nat) (gd : Option (List Code)) (l : List Env) : Around := { handled := none, depth := dp, frames := some l, guards := gd, units := un }

/-- what a call may lean on: the text's own objects in bs, the frames l above it -/
structure Cx (w : World) (p : Program) (loose : List Str) (mean : ExcName → Option Value) (mg mb : Str → Option Value) (l : List Env) (bs : Heap) (h : Heap) : Prop where
  stays : bs.StaysIn h
  ff : h.FunFrames bs l
  K : (hd.heap_39 w.params).In bs
  T : Top p loose mean mg mb bs

section
variable {w : World} {p : Program} {loose : List Str} {mean : ExcName → Option Value} {mg mb : Str → Option Value} {l : List Env} {bs h h' : Heap}
theorem Cx.nofrs (c : Cx w p loose mean mg mb l bs h) {b : Addr} (hb : b ∈ frs l) : bs.get? b = none := (c.ff.mem hb).1
theorem Cx.ex {ws : List Addr} (c : Cx w p loose mean mg mb l bs h) (x : Ex (frs l) ws h h') (hw : ∀ b ∈ ws, bs.get? b = none ∧ b ∉ frs l) : Cx w p loose mean mg mb l bs h' where
  stays := fun b o e => (x b o (c.stays b o e) fun q => by rw [(hw b q).1] at e; cases e).1 fun q => by rw [c.nofrs q] at e; cases e
  ff := by
    have : ∀ {l' : List Env}, (∀ b ∈ frs l', b ∈ frs l) → h.FunFrames bs l' → h'.FunFrames bs l' := fun {l'} => by
      induction l' with
      | nil => intro _ _; trivial
      | cons env rest ih =>
        intro hin ⟨hk, ⟨L, o, hf, hn, ho, hd⟩, hr⟩
        have hL : L ∈ frs l := hin L (frs_in env (.head _) L hf)
        obtain ⟨sl, hs⟩ := x.up ho fun q => (hw L q).2 hL
        exact ⟨hk, ⟨L, _, hf, hn, hs, hd⟩, ih (fun b hb => hin b (by
          obtain ⟨e', he', hf'⟩ := List.mem_filterMap.mp hb
          exact List.mem_filterMap.mpr ⟨e', .tail _ he', hf'⟩)) hr⟩
    exact this (fun _ q => q) c.ff
  K := c.K
  T := c.T
theorem Cx.keeps (c : Cx w p loose mean mg mb l bs h) (k : ∀ b o, h.get? b = some o → h'.get? b = some o) : Cx w p loose mean mg mb l bs h' := c.ex (ws := []) (.of_keeps k) (by simp)
theorem Cx.Kh (c : Cx w p loose mean mg mb l bs h) : (hd.heap_39 w.params).In h := c.K.keeps c.stays
theorem Cx.Th (c : Cx w p loose mean mg mb l bs h) : Top p loose mean mg mb h := c.T.keeps c.stays
theorem Cx.below {dp un : Nat} {gd : Option (List Code)} (c : Cx w p loose mean mg mb l bs h) : Below (Ar dp un gd l) bs l h := ⟨rfl, c.stays, c.ff⟩

/-- the frame's ground laid anew, when the frames above have turned their slots -/
theorem reground' {L : Addr} {m m' : Str → Option Value} {h₀ h h' : Heap} {ws : List Addr} (c : Cx w p loose mean mg mb l bs h₀) (F : Fr h₀ L h m) (ex : Ex (L :: frs l) ws h h') (hw : ∀ b ∈ ws, h₀.get? b = none) (hn : h'.Ns L m') :
    ∃ g, Fr g L h' m' ∧ Ex (frs l) [] h₀ g ∧ Cx w p loose mean mg mb l bs g ∧ ∀ b, h₀.get? b = none → g.get? b = none := by
  obtain ⟨TT, keep⟩ := kts_turn_at (fs := frs l) (g := h₀) (h := h') (fun b hb => let ⟨_, o, ho, _⟩ := c.ff.mem hb; ⟨o, ho⟩)
    (fun b o e n => (ex b o (F.keep b o e) (fun q => by rw [hw b q] at e; cases e)).1 fun q => by
      rcases List.mem_cons.mp q with rfl | q
      · exact absurd (Heap.lt_size e) (Nat.not_lt.mpr F.above)
      · exact n q)
    (fun b o e _ => ex.up (F.keep b o e) (fun q => by rw [hw b q] at e; cases e))
  have exg : Ex (frs l) [] h₀ (ktsHeap h' (frs l) h₀) := fun b o e _ => ⟨fun n => TT.other b o e n, TT.up e⟩
  exact ⟨_, ⟨hn, keep, by rw [TT.size]; exact F.above⟩, exg, c.ex exg (by simp), TT.none_⟩
theorem reground {L : Addr} {m : Str → Option Value} {h₀ h h' : Heap} {ws : List Addr} (c : Cx w p loose mean mg mb l bs h₀) (F : Fr h₀ L h m) (ex : Ex (L :: frs l) ws h h') (hw : ∀ b ∈ ws, h₀.get? b = none ∧ b ≠ L) :
    ∃ g, Fr g L h' m ∧ Ex (frs l) [] h₀ g ∧ Cx w p loose mean mg mb l bs g ∧ ∀ b, h₀.get? b = none → g.get? b = none :=
  reground' c F ex (fun b q => (hw b q).1) (ex.ns (fun q => (hw L q).2 rfl) F.ns)

/-- a call's end: what it gives, all that was there stays -/
def Ends (l : List Env) (s : Shared) (Post : Value → Heap → Prop) (r : Result) (s' : Shared) : Prop := ∃ v, r = .ok (.ret v) ∧ Mv (frs l) [] Same s s' ∧ Post v s'.heap

theorem enter {s : Shared} {dp un : Nat} {gd : Option (List Code)} {name qual : Str} {params : Arguments} {body : List Stmt} {scope : Scope} {dV kV doc pm cdv ct oc : Value} {an od : Option Addr} {osl : Array (Option Value)} {f : Addr} {args : Args} {binds : List (Str × Value)} {Post : Value → Heap → Prop}
    (c : Cx w p loose mean mg mb l bs s.heap)
    (ho : (hd.heap_39 w.params).lookup f = some ⟨oc, od, .func (fnOf name qual params body scope dV kV doc pm an cdv ct), osl⟩) (hcd : codeIn (hd.heap_39 w.params) cdv qual = true) (hroom : dp < recursionLimit)
    (hbind : BindsTo s (fnOf name qual params body scope dV kV doc pm an cdv ct) args binds) (hloc : ∀ y ∈ binds, scope.names.lookup y.1 = some .local)
    (hcell : ∀ x ∈ scope.names, x.2 ≠ .cell)
    (h : ∀ h₁, Fr s.heap s.heap.objs.size h₁ (fun y => binds.reverse.lookup y) → News s.heap s.heap.objs.size h₁ [] → Below (Ar dp un gd l) bs l s.heap → (hd.heap_39 w.params).In s.heap → Top p loose mean mg mb s.heap →
      wpAny (model Challenge.rw_il0027_01.row.prog w) ((Ar dp un gd l).deeper (envOf qual scope s.heap.objs.size f cdv)) (execs body (envOf qual scope s.heap.objs.size f cdv))
        (fun fl s' => Mv (frs l) [] Same s s' ∧ Post (match fl with | .ret v => v | _ => .none) s'.heap) noErr { s with heap := h₁, toks := s.toks + binds.length })
    (hco : scope.isCoroutine = false := by rfl) (hgen : scope.isGenerator = false := by rfl) (hk : scope.kind = .function := by rfl) :
    codeAny (model Challenge.rw_il0027_01.row.prog w) (Ar dp un gd l) (.call (.ref f) args) (Ends l s Post) s := by
  refine codeAny_call_def (fd := fnOf name qual params body scope dV kV doc pm an cdv ct) hroom (c.Kh _ _ ho) rfl c.Th.nolimit (codeRec_of c.Kh hcd) rfl hbind hcell hloc (fun h₁ hns hk₁ => ?_) hco hgen hk
  refine wpAny_mono (h h₁ ⟨hns, hk₁, Nat.le_refl _⟩ (fun _ hp => nomatch hp) c.below c.Kh c.Th) (fun fl s' q => ⟨_, rfl, q⟩) fun _ _ f => f.elim
end

section
variable {prog : Program} {w : World} {A : Around} {E : Value → Shared → Prop} {s : Shared}
theorem call_iter_of {x : Value} {Q : Value → Shared → Prop} (h : wpAny (model prog w) A.in1 (pyIter x) Q E s) : wpAny (model prog w) A (call (.builtin "iter") [x]) Q E s := by
  refine call_function_entry (by decide +kernel) (by decide +kernel) kdk_entry_iter (kdk_args_iter _) ?_
  unfold Builtin.«iter»
  refine wpAny_bind (m := someArgs "iter" 1 2 _) (wpAny_of_eq (a := [x]) (by first | rfl | kernel_rfl!) ?_)
  show wpAny _ _ (pyIter x >>= _) _ _ _
  exact wpAny_bind (wpAny_mono h (fun v s' h' => wpAny_pure ⟨_, rfl, h'⟩) fun _ _ x => x)
end
theorem binds_Kx {K : Frag} {s : Shared} {fd : FuncData} {args : Args} {binds : List (Str × Value)} {T : Addr} {o : Obj} {items : Array Value} {n : Nat} {k : Option (Array Value) → Sem (List (Str × Value))} (X : K.In s.heap) (hd : fd.defaults = .ref T) (ho : K.lookup T = some o) (hs : o.data = .seq items n)
    (h₁ : bindArgs fd args = seqItems? fd.defaults >>= k) (h₂ : k (some items) = pure binds) : BindsTo s fd args binds := BindsTo.of_defaults hd (X _ _ ho) hs h₁ h₂
section
variable {w : World} {p : Program} {loose : List Str} {mean : ExcName → Option Value} {mg mb : Str → Option Value} {l : List Env} {bs : Heap} {s : Shared} {dp un : Nat} {gd : Option (List Code)}

abbrev ItPost (s : Shared) (n : Nat) (P : Nat → Value → Prop) : Value → Heap → Prop := fun v h' => ∃ I, v = .ref I ∧ s.heap.get? I = none ∧ ItAt h' I n P

theorem ex_fresh {fs : List Addr} {h h' : Heap} (x : Ex fs [] h h') : h.get? h'.objs.size = none := by
  cases q : h.get? h'.objs.size with
  | none => rfl
  | some o => obtain ⟨sl, e⟩ := x.up q (by simp); exact absurd (Heap.lt_size e) (Nat.lt_irrefl _)
theorem lt_ne_size {h : Heap} {a : Addr} {o : Obj} (e : h.get? a = some o) : a ≠ h.objs.size := Nat.ne_of_lt (Heap.lt_size e)
theorem iter_end_tup {E : Value → Shared → Prop} {A : Around} {t : Addr} {items : List Value} {h' : Heap} {tk : Nat} (ht : h'.IsTuple t items.toArray) (ex : Ex (frs l) [] s.heap h') :
    wpAny (model Challenge.rw_il0027_01.row.prog w) A (call (.builtin "iter") [.ref t]) (fun v s' => Mv (frs l) [] Same s s' ∧ ItPost s items.length (fun j v => items[j]? = some v) v s'.heap) E { s with heap := h', toks := tk } := by
  refine call_iter_of (wpAny_pyIter_tuple (s := { s with heap := h', toks := tk }) ht ⟨⟨ex.trans (.of_keeps fun b o e => Heap.get?_push_of_some _ e), rfl, rfl, rfl⟩, _, rfl, ex_fresh ex, ?_⟩)
  obtain ⟨o, ho, r⟩ := ht
  exact .tup (lt_ne_size ho) ⟨_, Heap.get?_push_size _ rfl, rfl, rfl⟩ ⟨o, Heap.get?_push_of_some _ ho, r⟩
theorem iter_end_list {E : Value → Shared → Prop} {A : Around} {t : Addr} {items : List Value} {h' : Heap} {tk : Nat} (ht : h'.IsList t items.toArray) (ex : Ex (frs l) [] s.heap h') :
    wpAny (model Challenge.rw_il0027_01.row.prog w) A (call (.builtin "iter") [.ref t]) (fun v s' => Mv (frs l) [] Same s s' ∧ ItPost s items.length (fun j v => items[j]? = some v) v s'.heap) E { s with heap := h', toks := tk } := by
  refine call_iter_of (wpAny_pyIter_list (s := { s with heap := h', toks := tk }) ht ⟨⟨ex.trans (.of_keeps fun b o e => Heap.get?_push_of_some _ e), rfl, rfl, rfl⟩, _, rfl, ex_fresh ex, ?_⟩)
  obtain ⟨o, ho, r⟩ := ht
  exact .list (lt_ne_size ho) ⟨_, Heap.get?_push_size _ rfl, rfl, rfl⟩ ⟨o, Heap.get?_push_of_some _ ho, r⟩
theorem iter_end_str {E : Value → Shared → Prop} {A : Around} {x : Str} {t : Tok} {h' : Heap} {tk : Nat} (ex : Ex (frs l) [] s.heap h') :
    wpAny (model Challenge.rw_il0027_01.row.prog w) A (call (.builtin "iter") [.str x t]) (fun v s' => Mv (frs l) [] Same s s' ∧ ItPost s x.cps.size (SignAt x) v s'.heap) E { s with heap := h', toks := tk } := by
  refine call_iter_of ?_
  cases ha : x.cps.all (· < 128)
  · exact wpAny_pyIter_wide (s := { s with heap := h', toks := tk }) ha ⟨⟨ex.trans (.of_keeps fun b o e => Heap.get?_push_of_some _ e), rfl, rfl, rfl⟩, _, rfl, ex_fresh ex, .wide (t := t) ⟨_, Heap.get?_push_size _ rfl, rfl, rfl⟩⟩
  · exact wpAny_pyIter_ascii (s := { s with heap := h', toks := tk }) ha ⟨⟨ex.trans (.of_keeps fun b o e => Heap.get?_push_of_some _ e), rfl, rfl, rfl⟩, _, rfl, ex_fresh ex, .ascii (t := t) ⟨_, Heap.get?_push_size _ rfl, rfl, rfl⟩⟩
theorem isi60_list {E : Value → Shared → Prop} {A : Around} {Q : Value → Shared → Prop} {a : Addr} {vs : Array Value} {s : Shared} (hl : s.heap.IsList a vs) (h60 : s.heap.get? 60 = some { cls := .type "tuple", data := .seq #[.type "str", .type "bytes"] }) (h : ∀ tk, Q (.bool false) { s with toks := tk }) :
    wpAny (model Challenge.rw_il0027_01.row.prog w) A (call (.builtin "isinstance") [.ref a, .ref 60]) Q E s :=
  IsiPair.tupleOf (cs := [.type "str", .type "bytes"]) (vs := [false, false]) (Tx := "list")
    (.cons (.of_false_list (by decide) (by rfl) (by rw [isSubtype_type]; kernel_rfl)) (.cons (.of_false_list (by decide) (by rfl) (by rw [isSubtype_type]; kernel_rfl)) .nil)) hl.typeIs h60 h
theorem isi60_tuple {E : Value → Shared → Prop} {A : Around} {Q : Value → Shared → Prop} {a : Addr} {vs : Array Value} {s : Shared} (hl : s.heap.IsTuple a vs) (h60 : s.heap.get? 60 = some { cls := .type "tuple", data := .seq #[.type "str", .type "bytes"] }) (h : ∀ tk, Q (.bool false) { s with toks := tk }) :
    wpAny (model Challenge.rw_il0027_01.row.prog w) A (call (.builtin "isinstance") [.ref a, .ref 60]) Q E s :=
  IsiPair.tupleOf (cs := [.type "str", .type "bytes"]) (vs := [false, false]) (Tx := "tuple")
    (.cons (.of_false_tuple (by decide) (by rfl) (by rw [isSubtype_type]; kernel_rfl)) (.cons (.of_false_tuple (by decide) (by rfl) (by rw [isSubtype_type]; kernel_rfl)) .nil)) hl.typeIs h60 h
theorem tup_made {g h' : Heap} {L D : Addr} {items : List Value} {n : Nat} {rest : List (Addr × Obj)} (N : News g L h' ((D, { cls := .type "tuple", data := .seq items.toArray n }) :: rest)) : h'.IsTuple D items.toArray := ⟨_, (N _ (.head _)).1, rfl, _, rfl⟩

set_option maxHeartbeats 4000000 in
theorem ai_int {i : Int} {t : Tok} (c : Cx w p loose mean mg mb l bs s.heap) (hdp : dp + 10 < recursionLimit) :
    codeAny (model Challenge.rw_il0027_01.row.prog w) (Ar dp un gd l) (.call (.ref 68) ⟨[.int i t], []⟩) (Ends l s (ItPost s 1 (fun j v => [Value.int i t][j]? = some v))) s := by
  have X : (hd.heap_39 w.params).In s.heap := c.Kh
  revert X
  k_fill
  intro X
  refine' enter c ?k6 ?k7 ?k8 ?k9 ?kB ?c5 ?_ ?c2 ?c3 ?c4
  case k6 => k_is
  case k7 => k_is
  case k8 => omega
  case k9 => exact binds_Kx X rfl (by k_is) rfl rfl rfl
  case kB => exact locs rfl
  case c5 => decide
  case c2 => rfl
  case c3 => rfl
  case c4 => rfl
  intro h₁ F N B X' T
  clear X
  try dsimp only
  k_steps
  refine call_iter_of (pyIter_int rfl ?_)
  intro h₂ tk₂ e hx
  refine caught (bs := bs) (T' := "TypeError") rfl rfl ?hff hx (by rw [isSubtype_type]; kernel_rfl) (by rw [isSubtype_type]; kernel_rfl) (by rw [isSubtype_type]; kernel_rfl) ?_ ?_
  case hff =>
    refine Below.frames (A := (Ar dp un gd l).deeper _) (pushX B F ?_ ?_)
    · rfl
    · rfl
  · intro s'' Q'' ex hQ
    obtain ⟨g, Fg, _, cg, _⟩ := reground c F ex (by simp)
    exact nameX_B Fg cg.Kh (topRead_of cg.Th) (by k_is) (by decide +kernel) (by decide) hQ
  · intro h₃ ex₃
    obtain ⟨g, Fg, exg, cg, _⟩ := reground c F ex₃ (by simp)
    have Ng : News g s.heap.objs.size h₃ [] := fun _ hp => nomatch hp
    have Bg : Below (Ar dp un gd l) bs l g := cg.below
    have Xg := cg.Kh
    have Tg := cg.Th
    clear ex₃ hx F N B X' T
    k_steps
    rename_i D' h' F' N' _
    exact iter_end_tup (tup_made N') (exg.trans (.of_keeps F'.keep))

set_option maxHeartbeats 4000000 in
theorem ai_none (c : Cx w p loose mean mg mb l bs s.heap) (hdp : dp + 10 < recursionLimit) :
    codeAny (model Challenge.rw_il0027_01.row.prog w) (Ar dp un gd l) (.call (.ref 68) ⟨[.none], []⟩) (Ends l s (ItPost s 0 (fun j v => ([] : List Value)[j]? = some v))) s := by
  have X : (hd.heap_39 w.params).In s.heap := c.Kh
  revert X
  k_fill
  intro X
  refine' enter c ?k6 ?k7 ?k8 ?k9 ?kB ?c5 ?_ ?c2 ?c3 ?c4
  case k6 => k_is
  case k7 => k_is
  case k8 => omega
  case k9 => exact binds_Kx X rfl (by k_is) rfl rfl rfl
  case kB => exact locs rfl
  case c5 => decide
  case c2 => rfl
  case c3 => rfl
  case c4 => rfl
  intro h₁ F N B X' T
  have h60 : h₁.get? 60 = some { cls := .type "tuple", data := .seq #[.type "str", .type "bytes"] } := F.keep _ _ (X _ _ (by k_is))
  clear X
  try dsimp only
  k_steps
  rename_i D' h' F' N' _
  exact iter_end_tup (tup_made N') (.of_keeps F'.keep)
set_option maxHeartbeats 4000000 in
theorem ai_str {x : Str} {t : Tok} (c : Cx w p loose mean mg mb l bs s.heap) (hdp : dp + 10 < recursionLimit) :
    codeAny (model Challenge.rw_il0027_01.row.prog w) (Ar dp un gd l) (.call (.ref 68) ⟨[.str x t], []⟩) (Ends l s (ItPost s 1 (fun j v => [Value.str x t][j]? = some v))) s := by
  have X : (hd.heap_39 w.params).In s.heap := c.Kh
  revert X
  k_fill
  intro X
  refine' enter c ?k6 ?k7 ?k8 ?k9 ?kB ?c5 ?_ ?c2 ?c3 ?c4
  case k6 => k_is
  case k7 => k_is
  case k8 => omega
  case k9 => exact binds_Kx X rfl (by k_is) rfl rfl rfl
  case kB => exact locs rfl
  case c5 => decide
  case c2 => rfl
  case c3 => rfl
  case c4 => rfl
  intro h₁ F N B X' T
  have h60 : h₁.get? 60 = some { cls := .type "tuple", data := .seq #[.type "str", .type "bytes"] } := F.keep _ _ (X _ _ (by k_is))
  clear X
  try dsimp only
  k_steps
  rename_i D' h' F' N' _
  exact iter_end_tup (tup_made N') (.of_keeps F'.keep)
set_option maxHeartbeats 4000000 in
theorem ai_list {a : Addr} {vs : List Value} (c : Cx w p loose mean mg mb l bs s.heap) (hdp : dp + 10 < recursionLimit) (hl : s.heap.IsList a vs.toArray) :
    codeAny (model Challenge.rw_il0027_01.row.prog w) (Ar dp un gd l) (.call (.ref 68) ⟨[.ref a], []⟩) (Ends l s (ItPost s vs.length (fun j v => vs[j]? = some v))) s := by
  have X : (hd.heap_39 w.params).In s.heap := c.Kh
  revert X
  k_fill
  intro X
  refine' enter c ?k6 ?k7 ?k8 ?k9 ?kB ?c5 ?_ ?c2 ?c3 ?c4
  case k6 => k_is
  case k7 => k_is
  case k8 => omega
  case k9 => exact binds_Kx X rfl (by k_is) rfl rfl rfl
  case kB => exact locs rfl
  case c5 => decide
  case c2 => rfl
  case c3 => rfl
  case c4 => rfl
  intro h₁ F N B X' T
  have h60 : h₁.get? 60 = some { cls := .type "tuple", data := .seq #[.type "str", .type "bytes"] } := F.keep _ _ (X _ _ (by k_is))
  clear X
  try dsimp only
  k_steps
  refine isi60_list (Ex.list (fs := []) (ws := []) (.of_keeps F.keep) (by simp) hl) h60 fun tk' => ?_
  k_steps
  exact iter_end_list (Ex.list (fs := []) (ws := []) (.of_keeps F.keep) (by simp) hl) (.of_keeps F.keep)
set_option maxHeartbeats 4000000 in
theorem ai_tuple {a : Addr} {vs : List Value} (c : Cx w p loose mean mg mb l bs s.heap) (hdp : dp + 10 < recursionLimit) (hl : s.heap.IsTuple a vs.toArray) :
    codeAny (model Challenge.rw_il0027_01.row.prog w) (Ar dp un gd l) (.call (.ref 68) ⟨[.ref a], []⟩) (Ends l s (ItPost s vs.length (fun j v => vs[j]? = some v))) s := by
  have X : (hd.heap_39 w.params).In s.heap := c.Kh
  revert X
  k_fill
  intro X
  refine' enter c ?k6 ?k7 ?k8 ?k9 ?kB ?c5 ?_ ?c2 ?c3 ?c4
  case k6 => k_is
  case k7 => k_is
  case k8 => omega
  case k9 => exact binds_Kx X rfl (by k_is) rfl rfl rfl
  case kB => exact locs rfl
  case c5 => decide
  case c2 => rfl
  case c3 => rfl
  case c4 => rfl
  intro h₁ F N B X' T
  have h60 : h₁.get? 60 = some { cls := .type "tuple", data := .seq #[.type "str", .type "bytes"] } := F.keep _ _ (X _ _ (by k_is))
  clear X
  try dsimp only
  k_steps
  refine isi60_tuple (Ex.tuple (fs := []) (ws := []) (.of_keeps F.keep) (by simp) hl) h60 fun tk' => ?_
  k_steps
  exact iter_end_tup (Ex.tuple (fs := []) (ws := []) (.of_keeps F.keep) (by simp) hl) (.of_keeps F.keep)
set_option maxHeartbeats 4000000 in
theorem aj_none (c : Cx w p loose mean mg mb l bs s.heap) (hdp : dp + 10 < recursionLimit) :
    codeAny (model Challenge.rw_il0027_01.row.prog w) (Ar dp un gd l) (.call (.ref 68) ⟨[.none, .type "list"], []⟩) (Ends l s (ItPost s 0 (fun j v => ([] : List Value)[j]? = some v))) s := by
  have X : (hd.heap_39 w.params).In s.heap := c.Kh
  revert X
  k_fill
  intro X
  refine' enter c ?k6 ?k7 ?k8 ?k9 ?kB ?c5 ?_ ?c2 ?c3 ?c4
  case k6 => k_is
  case k7 => k_is
  case k8 => omega
  case k9 => exact binds_Kx X rfl (by k_is) rfl rfl rfl
  case kB => exact locs rfl
  case c5 => decide
  case c2 => rfl
  case c3 => rfl
  case c4 => rfl
  intro h₁ F N B X' T
  have h60 : h₁.get? 60 = some { cls := .type "tuple", data := .seq #[.type "str", .type "bytes"] } := F.keep _ _ (X _ _ (by k_is))
  clear X
  try dsimp only
  k_steps
  rename_i D' h' F' N' _
  exact iter_end_tup (tup_made N') (.of_keeps F'.keep)
set_option maxHeartbeats 4000000 in
theorem aj_int {i : Int} {t : Tok} (c : Cx w p loose mean mg mb l bs s.heap) (hdp : dp + 10 < recursionLimit) :
    codeAny (model Challenge.rw_il0027_01.row.prog w) (Ar dp un gd l) (.call (.ref 68) ⟨[.int i t, .type "list"], []⟩) (Ends l s (ItPost s 1 (fun j v => [Value.int i t][j]? = some v))) s := by
  have X : (hd.heap_39 w.params).In s.heap := c.Kh
  revert X
  k_fill
  intro X
  refine' enter c ?k6 ?k7 ?k8 ?k9 ?kB ?c5 ?_ ?c2 ?c3 ?c4
  case k6 => k_is
  case k7 => k_is
  case k8 => omega
  case k9 => exact binds_Kx X rfl (by k_is) rfl rfl rfl
  case kB => exact locs rfl
  case c5 => decide
  case c2 => rfl
  case c3 => rfl
  case c4 => rfl
  intro h₁ F N B X' T
  have h60 : h₁.get? 60 = some { cls := .type "tuple", data := .seq #[.type "str", .type "bytes"] } := F.keep _ _ (X _ _ (by k_is))
  clear X
  try dsimp only
  k_steps
  refine isnot_none_ne (by intro x; cases x) ?_
  k_steps
  refine call_iter_of (pyIter_int rfl ?_)
  intro h₂ tk₂ e hx
  refine caught (bs := bs) (T' := "TypeError") rfl rfl ?hff hx (by rw [isSubtype_type]; kernel_rfl) (by rw [isSubtype_type]; kernel_rfl) (by rw [isSubtype_type]; kernel_rfl) ?_ ?_
  case hff =>
    refine Below.frames (A := (Ar dp un gd l).deeper _) (pushX B F ?_ ?_)
    · rfl
    · rfl
  · intro s'' Q'' ex hQ
    obtain ⟨g, Fg, _, cg, _⟩ := reground c F ex (by simp)
    exact nameX_B Fg cg.Kh (topRead_of cg.Th) (by k_is) (by decide +kernel) (by decide) hQ
  · intro h₃ ex₃
    obtain ⟨g, Fg, exg, cg, _⟩ := reground c F ex₃ (by simp)
    have Ng : News g s.heap.objs.size h₃ [] := fun _ hp => nomatch hp
    have Bg : Below (Ar dp un gd l) bs l g := cg.below
    have Xg := cg.Kh
    have Tg := cg.Th
    clear ex₃ hx F N B X' T
    k_steps
    rename_i D' h' F' N' _
    exact iter_end_tup (tup_made N') (exg.trans (.of_keeps F'.keep))
set_option maxHeartbeats 4000000 in
theorem aj_str {x : Str} {t : Tok} (c : Cx w p loose mean mg mb l bs s.heap) (hdp : dp + 10 < recursionLimit) :
    codeAny (model Challenge.rw_il0027_01.row.prog w) (Ar dp un gd l) (.call (.ref 68) ⟨[.str x t, .type "list"], []⟩) (Ends l s (ItPost s x.cps.size (SignAt x))) s := by
  have X : (hd.heap_39 w.params).In s.heap := c.Kh
  revert X
  k_fill
  intro X
  refine' enter c ?k6 ?k7 ?k8 ?k9 ?kB ?c5 ?_ ?c2 ?c3 ?c4
  case k6 => k_is
  case k7 => k_is
  case k8 => omega
  case k9 => exact binds_Kx X rfl (by k_is) rfl rfl rfl
  case kB => exact locs rfl
  case c5 => decide
  case c2 => rfl
  case c3 => rfl
  case c4 => rfl
  intro h₁ F N B X' T
  have h60 : h₁.get? 60 = some { cls := .type "tuple", data := .seq #[.type "str", .type "bytes"] } := F.keep _ _ (X _ _ (by k_is))
  clear X
  try dsimp only
  k_steps
  refine isnot_none_ne (by intro x; cases x) ?_
  k_steps
  exact iter_end_str (.of_keeps F.keep)
set_option maxHeartbeats 4000000 in
theorem aj_list {a : Addr} {vs : List Value} (c : Cx w p loose mean mg mb l bs s.heap) (hdp : dp + 10 < recursionLimit) (hl : s.heap.IsList a vs.toArray) :
    codeAny (model Challenge.rw_il0027_01.row.prog w) (Ar dp un gd l) (.call (.ref 68) ⟨[.ref a, .type "list"], []⟩) (Ends l s (ItPost s 1 (fun j v => [Value.ref a][j]? = some v))) s := by
  have X : (hd.heap_39 w.params).In s.heap := c.Kh
  revert X
  k_fill
  intro X
  refine' enter c ?k6 ?k7 ?k8 ?k9 ?kB ?c5 ?_ ?c2 ?c3 ?c4
  case k6 => k_is
  case k7 => k_is
  case k8 => omega
  case k9 => exact binds_Kx X rfl (by k_is) rfl rfl rfl
  case kB => exact locs rfl
  case c5 => decide
  case c2 => rfl
  case c3 => rfl
  case c4 => rfl
  intro h₁ F N B X' T
  have h60 : h₁.get? 60 = some { cls := .type "tuple", data := .seq #[.type "str", .type "bytes"] } := F.keep _ _ (X _ _ (by k_is))
  clear X
  try dsimp only
  k_steps
  refine isnot_none_ne (by intro x; cases x) ?_
  k_steps
  rename_i D' h' F' N' _
  exact iter_end_tup (tup_made N') (.of_keeps F'.keep)
set_option maxHeartbeats 4000000 in
theorem aj_tuple {a : Addr} {vs : List Value} (c : Cx w p loose mean mg mb l bs s.heap) (hdp : dp + 10 < recursionLimit) (hl : s.heap.IsTuple a vs.toArray) :
    codeAny (model Challenge.rw_il0027_01.row.prog w) (Ar dp un gd l) (.call (.ref 68) ⟨[.ref a, .type "list"], []⟩) (Ends l s (ItPost s vs.length (fun j v => vs[j]? = some v))) s := by
  have X : (hd.heap_39 w.params).In s.heap := c.Kh
  revert X
  k_fill
  intro X
  refine' enter c ?k6 ?k7 ?k8 ?k9 ?kB ?c5 ?_ ?c2 ?c3 ?c4
  case k6 => k_is
  case k7 => k_is
  case k8 => omega
  case k9 => exact binds_Kx X rfl (by k_is) rfl rfl rfl
  case kB => exact locs rfl
  case c5 => decide
  case c2 => rfl
  case c3 => rfl
  case c4 => rfl
  intro h₁ F N B X' T
  have h60 : h₁.get? 60 = some { cls := .type "tuple", data := .seq #[.type "str", .type "bytes"] } := F.keep _ _ (X _ _ (by k_is))
  clear X
  try dsimp only
  k_steps
  refine isnot_none_ne (by intro x; cases x) ?_
  k_steps
  exact iter_end_tup (Ex.tuple (fs := []) (ws := []) (.of_keeps F.keep) (by simp) hl) (.of_keeps F.keep)
end

abbrev Leaf := Sum Int Str
def leafIs : Leaf → Value → Prop
  | .inl i, v => ∃ t, v = .int i t
  | .inr x, v => ∃ t, v = .str x t
inductive Cu where
  | int (i : Int)
  | sign (x : Str)
  | list (a : Addr)
def cuIs : Cu → Value → Prop
  | .int i, v => ∃ t, v = .int i t
  | .sign x, v => ∃ t, v = .str x t
  | .list a, v => v = .ref a
def signs (x : Str) : List Cu := x.cps.toList.map fun c => .sign ⟨#[c]⟩

mutual
/-- v is a tree in h, at most d deep, its leaves fl; cu: what it falls into when each list stays whole -/
inductive T (h : Heap) : Nat → Value → List Leaf → List Cu → Prop
  | none {d : Nat} : T h d .none [] []
  | int {d : Nat} {i : Int} {t : Tok} : T h d (.int i t) [.inl i] [.int i]
  | str {d : Nat} {x : Str} {t : Tok} : T h d (.str x t) [.inr x] (signs x)
  | list {d : Nat} {a : Addr} {vs : List Value} {fl : List Leaf} {cu : List Cu} : h.IsList a vs.toArray → vs.length ≤ 1000 → Ts h d vs fl cu → T h (d + 1) (.ref a) fl [.list a]
  | tup {d : Nat} {a : Addr} {vs : List Value} {fl : List Leaf} {cu : List Cu} : h.IsTuple a vs.toArray → vs.length ≤ 1000 → Ts h d vs fl cu → T h (d + 1) (.ref a) fl cu
inductive Ts (h : Heap) : Nat → List Value → List Leaf → List Cu → Prop
  | nil {d : Nat} : Ts h d [] [] []
  | cons {d : Nat} {v : Value} {vs : List Value} {fl fl' : List Leaf} {cu cu' : List Cu} : T h d v fl cu → Ts h d vs fl' cu' → Ts h d (v :: vs) (fl ++ fl') (cu ++ cu')
end

mutual
theorem T.ex {fs : List Addr} {h h' : Heap} (x : Ex fs [] h h') : ∀ {d : Nat} {v : Value} {fl : List Leaf} {cu : List Cu}, T h d v fl cu → T h' d v fl cu
  | _, _, _, _, .none => .none
  | _, _, _, _, .int => .int
  | _, _, _, _, .str => .str
  | _, _, _, _, .list hl hn ts => .list (x.list (by simp) hl) hn (Ts.ex x ts)
  | _, _, _, _, .tup hl hn ts => .tup (x.tuple (by simp) hl) hn (Ts.ex x ts)
theorem Ts.ex {fs : List Addr} {h h' : Heap} (x : Ex fs [] h h') : ∀ {d : Nat} {vs : List Value} {fl : List Leaf} {cu : List Cu}, Ts h d vs fl cu → Ts h' d vs fl cu
  | _, _, _, _, .nil => .nil
  | _, _, _, _, .cons t ts => .cons (T.ex x t) (Ts.ex x ts)
end
mutual
theorem T.up {h : Heap} : ∀ {d : Nat} {v : Value} {fl : List Leaf} {cu : List Cu}, T h d v fl cu → T h (d + 1) v fl cu
  | _, _, _, _, .none => .none
  | _, _, _, _, .int => .int
  | _, _, _, _, .str => .str
  | _, _, _, _, .list hl hn ts => .list hl hn (Ts.up ts)
  | _, _, _, _, .tup hl hn ts => .tup hl hn (Ts.up ts)
theorem Ts.up {h : Heap} : ∀ {d : Nat} {vs : List Value} {fl : List Leaf} {cu : List Cu}, Ts h d vs fl cu → Ts h (d + 1) vs fl cu
  | _, _, _, _, .nil => .nil
  | _, _, _, _, .cons t ts => .cons (T.up t) (Ts.up ts)
end

theorem Paired.append' {α β : Type} {F : α → β → Prop} : ∀ {l₁ : List α} {l₂ : List β} {m₁ : List α} {m₂ : List β}, Paired F l₁ l₂ → Paired F m₁ m₂ → Paired F (l₁ ++ m₁) (l₂ ++ m₂)
  | _, _, _, _, .nil, h => h
  | _, _, _, _, .cons a t, h => .cons a (Paired.append' t h)

/-- the i-th item, and what the items ahead of it fall into -/
theorem Ts.at {h : Heap} : ∀ {d : Nat} {vs : List Value} {fl : List Leaf} {cu : List Cu}, Ts h d vs fl cu → ∀ {i : Nat} {v : Value}, vs[i]? = some v →
    ∃ f1 f2 f3 c1 c2 c3, fl = f1 ++ f2 ++ f3 ∧ cu = c1 ++ c2 ++ c3 ∧ T h d v f2 c2 ∧ Ts h d (vs.take i) f1 c1
  | _, _, _, _, .cons (fl := fl) (fl' := fl') (cu := cu) (cu' := cu') t ts, 0, v, e => by
    cases e
    exact ⟨[], fl, fl', [], cu, cu', by simp, by simp, t, by simpa using Ts.nil⟩
  | _, _, _, _, .cons (fl := fl) (cu := cu) t ts, i + 1, v, e => by
    obtain ⟨f1, f2, f3, c1, c2, c3, rfl, rfl, ht, hts⟩ := Ts.at ts (by simpa using e)
    exact ⟨fl ++ f1, f2, f3, cu ++ c1, c2, c3, by simp, by simp, ht, by simpa using Ts.cons t hts⟩

theorem Ts.append {h : Heap} : ∀ {d : Nat} {vs ws : List Value} {fl fl' : List Leaf} {cu cu' : List Cu}, Ts h d vs fl cu → Ts h d ws fl' cu' → Ts h d (vs ++ ws) (fl ++ fl') (cu ++ cu')
  | _, _, _, _, _, _, _, .nil, y => y
  | _, _, _, _, _, _, _, .cons t ts, y => by simpa using Ts.cons t (Ts.append ts y)
theorem Ts.split {h : Heap} : ∀ {d : Nat} {vs : List Value} {fl : List Leaf} {cu : List Cu} (n : Nat), Ts h d vs fl cu → ∃ f1 f2 c1 c2, fl = f1 ++ f2 ∧ cu = c1 ++ c2 ∧ Ts h d (vs.take n) f1 c1 ∧ Ts h d (vs.drop n) f2 c2
  | _, _, fl, cu, 0, ts => ⟨[], fl, [], cu, by simp, by simp, by simpa using Ts.nil, by simpa using ts⟩
  | _, _, _, _, _ + 1, .nil => ⟨[], [], [], [], rfl, rfl, by simpa using Ts.nil, by simpa using Ts.nil⟩
  | _, _, _, _, n + 1, .cons (fl := fl) (cu := cu) t ts => by
    obtain ⟨f1, f2, c1, c2, rfl, rfl, a, b⟩ := Ts.split n ts
    exact ⟨fl ++ f1, f2, cu ++ c1, c2, by simp, by simp, by simpa using Ts.cons t a, by simpa using b⟩
theorem Ts.det {h : Heap} : ∀ {d : Nat} {vs : List Value} {fl : List Leaf} {cu : List Cu}, Ts h d vs fl cu → vs = [] → fl = [] ∧ cu = []
  | _, _, _, _, .nil, _ => ⟨rfl, rfl⟩

section
variable {M : Model} {A : Around} {E : Value → Shared → Prop} {s : Shared} {env : Env} {Q : Value → Shared → Prop}
variable {w : World} {p : Program} {loose : List Str} {mean : ExcName → Option Value} {mg mb : Str → Option Value} {l : List Env} {bs : Heap}
theorem ev_local {x : Str} {pos : Pos} {v : Value} {m : Str → Option Value} (hk : env.scope.kind = .function) (hx : env.kindOf x = some .local) (hn : s.heap.Ns env.locals m) (hv : m x = some v) (h : Q v s) (hd : (x == ("__debug__" : Str)) = false := by decide) :
    wpAny M A (eval (.Name x pos) env) Q E s := wpAny_Name (wpAny_loadName_local hk hx hn hv h) hd
theorem ev_global {x : Str} {pos : Pos} {v : Value} (c : Cx w p loose mean mg mb l bs s.heap) (hg : env.globals = mainGlobals) (hk : env.scope.kind = .function) (hx : env.kindOf x = some .globalImplicit) (e : nsIn (hd.heap_39 w.params) mainGlobals x = some (some v)) (h : Q v s) (hd : (x == ("__debug__" : Str)) = false := by decide) :
    wpAny M A (eval (.Name x pos) env) Q E s := Name_function_global hk hx (loadGlobal_global (hg ▸ c.Th.g) (mg_of c.Kh c.Th.g e) h) hd
theorem ev_builtin {x : Str} {pos : Pos} {v : Value} (c : Cx w p loose mean mg mb l bs s.heap) (hg : env.globals = mainGlobals) (hb : env.builtins = builtinsNs) (hk : env.scope.kind = .function) (hx : env.kindOf x = some .globalImplicit) (e : nsIn (hd.heap_39 w.params) mainGlobals x = some none) (hv : bootBuiltins x = some v) (h : Q v s)
    (hn : x ≠ "__name__" := by decide) (hd : (x == ("__debug__" : Str)) = false := by decide) :
    wpAny M A (eval (.Name x pos) env) Q E s := Name_function_global hk hx (loadGlobal_builtin (hg ▸ c.Th.g) (mg_none_of c.Kh c.Th.g e) (hb ▸ c.Th.b) ((c.Th.builtins x hn).trans hv) h) hd
theorem call1 {f x : Str} {fp xp pos : Pos} {a : Addr} {v : Value} {m : Str → Option Value} (c : Cx w p loose mean mg mb l bs s.heap) (hg : env.globals = mainGlobals) (hk : env.scope.kind = .function) (hf : env.kindOf f = some .globalImplicit) (hx : env.kindOf x = some .local)
    (e : nsIn (hd.heap_39 w.params) mainGlobals f = some (some (.ref a))) (ke : keepIn (hd.heap_39 w.params) (.ref a) = true) (hn : s.heap.Ns env.locals m) (hv : m x = some v)
    (h : wpAny M A (call (.ref a) [v]) Q E s) (hd1 : (f == ("__debug__" : Str)) = false := by decide) (hd2 : (x == ("__debug__" : Str)) = false := by decide) :
    wpAny M A (eval (.Call (.Name f fp) [.Name x xp] [] pos) env) Q E s := by
  refine Call_ (ev_global c hg hk hf e ?_ hd1)
  exact callWith_K c.Kh ke (spliced_cons (ev_local hk hx hn hv (spliced_nil ⟨c.Kh, h⟩) hd2))
end

section
variable {prog : Program} {w : World} {A : Around} {fs : List Addr}
theorem emit {elt : Expr} {cenv : Env} {D : Addr} {ys : List Value} {c : Code} {s₁ : Shared} {Φ : Value → Shared → Prop} (hl : s₁.heap.IsList D ys.toArray) (hlen : ys.length ≤ sizeLine)
    (h : wpAny (model prog w) A (eval elt cenv) (fun y s₂ => Mv fs [] Same s₁ s₂ ∧ Φ y s₂) noErr s₁) :
    wpAny (model prog w) A (tail2b elt cenv (.ref D) c) (fun fin s₃ => fin = .again c ∧ ∃ y s₂, Φ y s₂ ∧ s₃.heap.IsList D (ys ++ [y]).toArray ∧ Mv fs [D] Same s₂ s₃ ∧ Mv fs [D] Same s₁ s₃) noErr s₁ := by
  refine wpAny_bind (wpAny_bind (wpAny_mono h (fun y s₂ h₂ => ?_) fun _ _ f => f))
  obtain ⟨mv, hΦ⟩ := h₂
  refine wpAny_bind (wpAny_list_append (hsz := by simpa using hlen) (mv.heap.list (by simp) hl) fun h₅ hl₅ hs₅ => ?_)
  refine wpAny_pure (wpAny_pure ⟨rfl, y, s₂, hΦ, ?_, ⟨Ex.sameBut hs₅ (by simp), rfl, rfl, rfl⟩, ?_⟩)
  · rw [List.push_toArray] at hl₅; exact hl₅
  · have a : Mv fs [D] Same s₁ s₂ := mv.mono (fun _ q => q) (by simp) fun _ _ q => q
    exact a.trans Same.trans ⟨Ex.sameBut hs₅ (by simp), rfl, rfl, rfl⟩
theorem tail1_nil {elt : Expr} {cenv : Env} {acc : Value} {c : Code} {s₁ : Shared} {Q : Fin → Shared → Prop} {E : Value → Shared → Prop} (h : wpAny (model prog w) A (tail2b elt cenv acc c) Q E s₁) :
    wpAny (model prog w) A (tail1 [] elt cenv acc c) Q E s₁ := by
  refine wpAny_bind (wpAny_tests_nil ?_)
  rw [if_pos rfl]
  exact h
theorem tail1_one {t elt : Expr} {cenv : Env} {acc : Value} {c : Code} {s₁ : Shared} {Q : Fin → Shared → Prop} {E : Value → Shared → Prop}
    (h : wpAny (model prog w) A (isTrue t cenv (eval t cenv)) (fun b s₂ => if b = true then wpAny (model prog w) A (tail2b elt cenv acc c) Q E s₂ else Q (.again c) s₂) E s₁) :
    wpAny (model prog w) A (tail1 [t] elt cenv acc c) Q E s₁ := by
  refine wpAny_bind (wpAny_tests_one (wpAny_mono h (fun b s₂ h₂ => ?_) fun _ _ f => f))
  cases b with
  | true => exact h₂
  | false => exact wpAny_pure h₂

/-- a list comprehension over an iterator, one clause; turn: what one item adds -/
theorem comp_loop1 {elt iter : Expr} {x : Str} {px pos : Pos} {ifs : List Expr} {scope : Scope} {I D C : Addr} {fp wsI : List Addr} {G : Array GenState → Array GenState → Prop} {n : Nat} {P : Nat → Value → Prop} {St : Nat → Shared → Prop} {cenv : Env}
    (W : Iter prog w A fs I fp wsI G n P St) (hC : cenv.locals = C) (hx : cenv.kindOf x = some .local) (hp : cenv.scope.kind = .function) (hDC : D ≠ C) (hDf : D ∉ fp) (hCf : C ∉ fp)
    (Inv : Nat → List Value → Shared → Prop) (s₀ : Shared) (hstab : ∀ j ys s s', Inv j ys s → Mv fs (D :: C :: wsI) G s s' → Inv j ys s')
    (hturn : ∀ j v s₁ m₁ ys, j < n → P j v → s₁.heap.Ns C m₁ → m₁ x = some v → s₁.heap.IsList D ys.toArray → Inv j ys s₁ → Mv fs (D :: C :: wsI) G s₀ s₁ →
      wpAny (model prog w) A (tail1 ifs elt cenv (.ref D) (.compLoop (.ListComp elt [⟨.Name x px, iter, ifs, 0⟩] scope pos) 0 (.ref I) (.ref D) cenv))
        (fun fin s₂ => fin = .again (.compLoop (.ListComp elt [⟨.Name x px, iter, ifs, 0⟩] scope pos) 0 (.ref I) (.ref D) cenv) ∧ ∃ rs, s₂.heap.IsList D (ys ++ rs).toArray ∧ Inv (j + 1) (ys ++ rs) s₂ ∧ Mv fs [D] Same s₁ s₂) noErr s₁)
    {m₀ : Str → Option Value} (hst : St 0 s₀) (hn : s₀.heap.Ns C m₀) (hl : s₀.heap.IsList D #[]) (hi : Inv 0 [] s₀) :
    codeAny (model prog w) A (.compLoop (.ListComp elt [⟨.Name x px, iter, ifs, 0⟩] scope pos) 0 (.ref I) (.ref D) cenv) (fun r s' => r = .ok .next ∧ ∃ ys m', Inv n ys s' ∧ s'.heap.IsList D ys.toArray ∧ s'.heap.Ns C m' ∧ Mv fs (D :: C :: wsI) G s₀ s') s₀ := by
  refine loop_core (kx := fun x => do noteFrame x cenv; theTreesLotGoes x) (x := x) (px := px) (p := iter.pos) (cenv := cenv) (tail := fun _ => tail1 ifs elt cenv (.ref D) (.compLoop (.ListComp elt [⟨.Name x px, iter, ifs, 0⟩] scope pos) 0 (.ref I) (.ref D) cenv))
    W rfl (under_loop ..) ?_ hC hx (by rw [hp]; rfl) hDC hDf hCf Inv s₀ hstab (fun j v s₁ m₁ ys h1 h2 h3 h4 h5 h6 h7 => ?_) hst hn (ys₀ := []) hl hi
  · rw [den_loop _ _ _ _ _ ⟨_, _, _, _, rfl⟩, turn1]
    try rfl
  · refine wpAny_mono (hturn j v s₁ m₁ ys h1 h2 h3 h4 h5 h6 h7) (fun fin s₂ h => ?_) fun _ _ f => f
    obtain ⟨rfl, rs, a, b, mv⟩ := h
    exact ⟨rfl, rs, m₁, mv.heap.ns (by simpa using Ne.symm hDC) h3, a, b, mv.mono (fun _ q => q) (by simp) fun _ _ q => q⟩

/-- row = [one for one in ..] -/
theorem row_comp {iter : Expr} {x y : Str} {px px' py pos spos : Pos} {scope : Scope} {env : Env} {s₁ : Shared} {m : Str → Option Value} {QQ : Nat → (Nat → Value → Prop) → Prop} (hh : A.handled = none)
    (hn : s₁.heap.Ns env.locals m)
    (hsw : swapsWith (.ListComp (.Name x px') [⟨.Name x px, iter, [], 0⟩] scope pos) (some (.Name y py)) spos.line env = pure true)
    (hclos : closureFor scope env = pure []) (hcell : ∀ y ∈ scope.names, y.2 ≠ .cell) (hkind : scope.kind = .function) (hnames : ∀ y ∈ scope.names, y.2 = .local → scope.names.lookup y.1 = some .local)
    (hy : env.kindOf y = some .local) (hp : env.scope.kind = .function) (hx : scope.names.lookup x = some .local)
    (hsrc : wpAny (model prog w) A (eval iter env) (fun xv s₂ => Mv fs [] Same s₁ s₂ ∧ ∃ I n P, xv = .ref I ∧ ItAt s₂.heap I n P ∧ s₁.heap.get? I = none ∧ n ≤ 10000 ∧ QQ n P) noErr s₁)
    (hs : ∀ x, foldedSetIterable iter env x = pure x := by intro _; rfl) (hd : (x == ("__debug__" : Str)) = false := by decide) :
    wpAny (model prog w) A (exec (.Assign [.Name y py] (.ListComp (.Name x px') [⟨.Name x px, iter, [], 0⟩] scope pos) spos) env) (fun f s' => f = .next ∧ ∃ (R : Addr) (ys : List Value) (n : Nat) (P : Nat → Value → Prop), QQ n P ∧ s'.heap.Ns env.locals (fun z => if z = y then some (.ref R) else m z) ∧ s'.heap.IsList R ys.toArray ∧ ys.length = n ∧
      (∀ i v, ys[i]? = some v → P i v) ∧ s₁.heap.get? R = none ∧ R ≠ env.locals ∧ Mv fs [env.locals] Same s₁ s') noErr s₁ := by
  refine comp_assign hsw hclos hcell hkind hnames hy (by rw [hp]; rfl) (wpAny_mono hsrc (fun xv s₂ h₂ => ?_) fun _ _ f => f) hs
  obtain ⟨mv₂, I, n, P, rfl, it, hI, hnn, hq⟩ := h₂
  obtain ⟨fp, St, W, hst, hfp⟩ := it.iter (prog := prog) (w := w) (fs := fs)
  have hn₂ : s₂.heap.Ns env.locals m := mv₂.heap.ns (by simp) hn
  refine (W A hh).self 0 s₂ _ _ (hst s₂ rfl) ⟨hn₂.lt, fun h₁ k1 k2 k3 => ?_⟩
  have mv₃ : Mv fs [] Same s₂ { s₂ with heap := h₁ } := Mv.of_keeps k1
  have st₃ : St 0 { s₂ with heap := h₁ } := (W A hh).frame 0 s₂ _ [] (hst s₂ rfl) mv₃ (by simp)
  refine ⟨(W A hh).self 0 _ _ _ st₃ ⟨rfl, rfl⟩, ?_⟩
  have hDC : s₂.heap.objs.size ≠ s₂.heap.objs.size + 1 := Nat.ne_of_lt (Nat.lt_succ_self _)
  have hDf : s₂.heap.objs.size ∉ fp := fun q => Nat.lt_irrefl _ (hfp _ q)
  have hCf : s₂.heap.objs.size + 1 ∉ fp := fun q => Nat.lt_irrefl _ (Nat.lt_of_succ_lt (hfp _ q))
  refine codeAny_mono (comp_loop1 (C := s₂.heap.objs.size + 1) (cenv := compEnvC scope [] (s₂.heap.objs.size + 1) env) (W A hh) rfl (lookup_relabel_local hx) (by simp [compEnvC, relabel, hkind]) hDC hDf hCf
    (fun j ys _ => ys.length = j ∧ ∀ i v, ys[i]? = some v → P i v) { s₂ with heap := h₁ } (fun _ _ _ _ q _ => q) (fun j v s₄ m₄ ys hj hP hns hmx hl inv _ => ?_) st₃ k3 k2 ⟨rfl, by simp⟩) fun r s' hr => ?_
  · refine tail1_nil (wpAny_mono (emit (fs := fs) (Φ := fun y s => y = v) hl (by rw [inv.1, sizeLine_eq]; omega) (ev_local (by simp [compEnvC, relabel, hkind]) (lookup_relabel_local hx) hns hmx ⟨.refl Same.refl _, rfl⟩ hd)) (fun fin s₅ h₅ => ?_) fun _ _ f => f)
    obtain ⟨rfl, y, _, hy', hl₅, _, mv₅⟩ := h₅
    subst hy'
    refine ⟨rfl, [y], hl₅, ⟨by simp [inv.1], fun i u hu => ?_⟩, mv₅⟩
    rcases Nat.lt_trichotomy i ys.length with h | h | h
    · exact inv.2 i u (by rwa [List.getElem?_append_left h] at hu)
    · subst h; simp at hu; subst hu; rw [inv.1]; exact hP
    · rw [List.getElem?_eq_none (by simp; omega)] at hu; cases hu
  · obtain ⟨rfl, ys, m', inv, hl, hnC, mv⟩ := hr
    have hLD : env.locals ≠ s₂.heap.objs.size := Nat.ne_of_lt hn₂.lt
    have hLC : env.locals ≠ s₂.heap.objs.size + 1 := Nat.ne_of_lt (Nat.lt_succ_of_lt hn₂.lt)
    have hLI : env.locals ≠ I := fun q => by
      obtain ⟨o, _, _, ho, _⟩ := hn
      rw [q, hI] at ho; cases ho
    have hns : s'.heap.Ns env.locals m := mv.heap.ns (by simp [hLD, hLC, hLI]) (mv₃.heap.ns (by simp) hn₂)
    refine ⟨rfl, ⟨m', hnC⟩, m, hns, fun h₂ h₃ hn₂' hs₂ hs₃ => ⟨rfl, _, ys, n, P, hq, hn₂'.sameBut hs₃ hLC, ?_, inv.1, inv.2, ?_, Ne.symm hLD, ?_⟩⟩
    · have z := (Ex.sameBut (fs := fs) (ws := [env.locals]) hs₂ (by simp)).list (by simpa using Ne.symm hLD) hl
      exact (Ex.sameBut (fs := fs) (ws := [s₂.heap.objs.size + 1]) hs₃ (by simp)).list (by simpa using hDC) z
    · exact ex_fresh mv₂.heap
    · have a : Mv fs (env.locals :: s₂.heap.objs.size :: (s₂.heap.objs.size + 1) :: [I]) Same s₁ { s' with heap := h₃, toks := s'.toks + 1 } := by
        refine ((mv₂.mono (fun _ q => q) (by simp) fun _ _ q => q).trans Same.trans ((mv₃.mono (fun _ q => q) (by simp) fun _ _ q => q).trans Same.trans (mv.mono (fun _ q => q) (fun b q => .tail _ q) fun _ _ q => q))).trans Same.trans ⟨?_, rfl, rfl, rfl⟩
        exact (Ex.sameBut hs₂ (by simp)).trans (Ex.sameBut hs₃ (by simp))
      refine a.drop (fun _ q => .inl q) fun b hb => ?_
      simp only [List.mem_cons, List.not_mem_nil, or_false] at hb
      rcases hb with rfl | rfl | rfl | rfl
      · exact .inl (by simp)
      · exact .inr (ex_fresh mv₂.heap)
      · refine .inr ?_
        cases q : s₁.heap.get? (s₂.heap.objs.size + 1) with
        | none => rfl
        | some o => obtain ⟨sl, e⟩ := mv₂.heap.up q (by simp); exact absurd (Nat.lt_of_succ_lt (Heap.lt_size e)) (Nat.lt_irrefl _)
      · exact .inr hI
end

section
variable {prog : Program} {w : World} {A : Around} {fs : List Addr}

theorem compStart1 {R : Result → Shared → Prop} {s : Shared} {elt t1 i1 t2 i2 : Expr} {f1 f2 : List Expr} {rest : List Comprehension} {scope : Scope} {pos : Pos} {it acc : Value} {env : Env}
    (h0 : codeAny (model prog w) A (.compLoop (.ListComp elt (⟨t1, i1, f1, 0⟩ :: ⟨t2, i2, f2, 0⟩ :: rest) scope pos) 1 it acc env) R s)
    (h : wpAny (model prog w) A (pyIter it) (fun it' s' => it' = it ∧ s' = s) noErr s) :
    codeAny (model prog w) A (.compStart (.ListComp elt (⟨t1, i1, f1, 0⟩ :: ⟨t2, i2, f2, 0⟩ :: rest) scope pos) 1 it acc env) R s := by
  refine codeAny_of_tree ?_
  show wpAny _ _ ((compStart (.ListComp elt (⟨t1, i1, f1, 0⟩ :: ⟨t2, i2, f2, 0⟩ :: rest) scope pos) 1 it acc env).onRaise (fun x => do noteFrame x env; standAt theWindowsPlace)) _ _ s
  refine wpAny_notedAt ?_
  unfold compStart
  show wpAny _ _ (ask >>= _) _ _ s
  refine wpAny_bind (wpAny_askSetting (wpAny_ite ?_))
  split
  · first
      | exact wpAny_bind (wpAny_pure (wpAny_pure (And.intro rfl h0)))
      | exact wpAny_pure (And.intro rfl h0)
  · have k : ∀ E', wpAny (model prog w) A (pyIter it) (fun it' s' => wpAny (model prog w) A (again (.compLoop (.ListComp elt (⟨t1, i1, f1, 0⟩ :: ⟨t2, i2, f2, 0⟩ :: rest) scope pos) 1 it' acc env))
        (fun fin s' => match fin with | .done f => R (.ok f) s' | .again c' => c'.quiet = true ∧ codeAny (model prog w) A c' R s') E' s') E' s := fun E' => wpAny_mono h (fun it' s' q => by
      obtain ⟨rfl, rfl⟩ := q
      exact wpAny_pure (And.intro rfl h0)) fun _ _ f => f.elim
    first
      | exact wpAny_bind (wpAny_rule (wpAny_bind (wpAny_standAt (wpAny_bind (k _)))))
      | (refine wpAny_bind (wpAny_rule ?_); show wpAny _ _ (standAt i2.pos >>= _) _ _ s; exact wpAny_bind (wpAny_standAt (wpAny_bind (k _))))

theorem nest_loop {elt i1 i2 : Expr} {x1 x2 : Str} {p1 p2 pe pos : Pos} {scope : Scope} {I D C : Addr} {fp : List Addr} {n : Nat} {P : Nat → Value → Prop} {St : Nat → Shared → Prop} {cenv : Env} (hh : A.handled = none)
    (W : Iter prog w A fs I fp [I] Same n P St) (hC : cenv.locals = C) (hx1 : cenv.kindOf x1 = some .local) (hx2 : cenv.kindOf x2 = some .local) (hp : cenv.scope.kind = .function) (hDC : D ≠ C) (hDf : D ∉ fp) (hCf : C ∉ fp)
    (Out : Nat → List Value → Prop) (s₀ : Shared) (helt : elt = .Name x2 pe)
    (hrec : ∀ i v out s m, P i v → i < n → Out i out → Mv fs [D, C, I] Same s₀ s → s.heap.Ns C m → m x1 = some v →
      wpAny (model prog w) A (eval i2 cenv) (fun rv s' => Mv fs [] Same s s' ∧ ∃ (R : Addr) (vs : List Value), rv = .ref R ∧ s'.heap.IsList R vs.toArray ∧ s.heap.get? R = none ∧ Out (i + 1) (out ++ vs) ∧ (out ++ vs).length ≤ 100000) noErr s)
    {m₀ : Str → Option Value} (hst : St 0 s₀) (hn : s₀.heap.Ns C m₀) (hl : s₀.heap.IsList D #[]) (hi : Out 0 [])
    (hs : ∀ x, foldedSetIterable i2 cenv x = pure x := by intro _; rfl) (hd : (x2 == ("__debug__" : Str)) = false := by decide) :
    codeAny (model prog w) A (.compLoop (.ListComp elt [⟨.Name x1 p1, i1, [], 0⟩, ⟨.Name x2 p2, i2, [], 0⟩] scope pos) 0 (.ref I) (.ref D) cenv)
      (fun r s' => r = .ok .next ∧ ∃ out m', Out n out ∧ s'.heap.IsList D out.toArray ∧ s'.heap.Ns C m' ∧ Mv fs [D, C, I] Same s₀ s') s₀ := by
  subst helt
  refine codeAny_mono (loop_core (kx := fun x => do noteFrame x cenv; theTreesLotGoes x) (x := x1) (px := p1) (p := i1.pos) (cenv := cenv)
    (tail := fun _ => tail2a i2 (.ListComp (.Name x2 pe) [⟨.Name x1 p1, i1, [], 0⟩, ⟨.Name x2 p2, i2, [], 0⟩] scope pos) cenv (.ref D) (.compLoop (.ListComp (.Name x2 pe) [⟨.Name x1 p1, i1, [], 0⟩, ⟨.Name x2 p2, i2, [], 0⟩] scope pos) 0 (.ref I) (.ref D) cenv))
    W rfl (under_loop ..) ?_ hC hx1 (by rw [hp]; rfl) hDC hDf hCf (fun j ys _ => Out j ys ∧ ys.length ≤ 100000) s₀ (fun _ _ _ _ q _ => q) (fun j v s₁ m₁ ys hj hP hns hmx hl₁ inv mv => ?_) hst hn (ys₀ := []) hl ⟨hi, by simp⟩) fun r s' hr => ?_
  · rw [den_loop _ _ _ _ _ ⟨_, _, _, _, rfl⟩, turn2a]
    try rfl
  · refine wpAny_bind (wpAny_mono (hrec j v ys s₁ m₁ hP hj inv.1 mv hns hmx) (fun rv s₂ h₂ => ?_) fun _ _ f => f)
    obtain ⟨mv₂, R, vs, rfl, hR, hRn, hO, hlen⟩ := h₂
    have hRD : R ≠ D := fun q => by obtain ⟨o, ho, _⟩ := hl₁; rw [q, ho] at hRn; cases hRn
    have hRC : R ≠ C := fun q => by obtain ⟨o, _, _, ho, _⟩ := hns; rw [q, ho] at hRn; cases hRn
    refine wpAny_bind (wpAny_standAt (wpAny_bind (wpAny_of_eq (hs _) (wpAny_bind (wpAny_holding (wpAny_pyIter_list hR ?_))))))
    have mv₃ : Mv fs [] Same s₂ { s₂ with heap := s₂.heap.push { cls := .type "list_iterator", data := .fields #[.ref R, .int 0 0] } } := Mv.of_keeps fun b o e => Heap.get?_push_of_some _ e
    generalize hs₃ : ({ s₂ with heap := s₂.heap.push { cls := .type "list_iterator", data := .fields #[.ref R, .int 0 0] } } : Shared) = s₃ at mv₃ ⊢
    have hI' : s₃.heap.IsListIter s₂.heap.objs.size R 0 := by subst hs₃; exact ⟨_, Heap.get?_push_size _ rfl, rfl, rfl⟩
    have hR₃ : s₃.heap.IsList R vs.toArray := mv₃.heap.list (by simp) hR
    have hRI : R ≠ s₂.heap.objs.size := by obtain ⟨o, ho, _⟩ := hR; exact lt_ne_size ho
    have hDs : s₂.heap.objs.size ≠ D := fun q => by
      have := mv₂.heap.list (by simp) hl₁
      obtain ⟨o, ho, _⟩ := this; exact lt_ne_size ho q.symm
    have hCs : s₂.heap.objs.size ≠ C := fun q => by
      have := mv₂.heap.ns (by simp) hns
      exact Nat.ne_of_lt this.lt q.symm
    have W' := Iter.list (prog := prog) (w := w) (A := A) (fs := fs) hh s₂.heap.objs.size R hRI vs
    have st' : s₃.heap.IsListIter s₂.heap.objs.size R 0 ∧ s₃.heap.IsList R vs.toArray := ⟨hI', hR₃⟩
    have hl₃ : s₃.heap.IsList D ys.toArray := mv₃.heap.list (by simp) (mv₂.heap.list (by simp) hl₁)
    have hn₃ : s₃.heap.Ns C m₁ := mv₃.heap.ns (by simp) (mv₂.heap.ns (by simp) hns)
    have inner := loop_core (kx := fun x => do noteFrame x cenv; theTreesLotGoes x) (x := x2) (px := p2) (p := i2.pos) (cenv := cenv) (C := C) (D := D)
      (c := .compLoop (.ListComp (.Name x2 pe) [⟨.Name x1 p1, i1, [], 0⟩, ⟨.Name x2 p2, i2, [], 0⟩] scope pos) 1 (.ref s₂.heap.objs.size) (.ref D) cenv)
      (tail := fun _ => tail2b (.Name x2 pe) cenv (.ref D) (.compLoop (.ListComp (.Name x2 pe) [⟨.Name x1 p1, i1, [], 0⟩, ⟨.Name x2 p2, i2, [], 0⟩] scope pos) 1 (.ref s₂.heap.objs.size) (.ref D) cenv))
      W' rfl (under_loop ..) (by rw [den_loop _ _ _ _ _ ⟨_, _, _, _, rfl⟩, turn2b]; try rfl) hC hx2 (by rw [hp]; rfl) hDC (by simp [Ne.symm hDs, Ne.symm hRD]) (by simp [Ne.symm hCs, Ne.symm hRC])
      (fun j zs _ => zs = ys ++ vs.take j) s₃ (fun _ _ _ _ q _ => q) (fun k u s₄ m₄ zs hk hu hns₄ hm₄ hl₄ inv₄ mv₄ => by
        subst inv₄
        refine wpAny_mono (emit (fs := fs) (Φ := fun y _ => y = u) hl₄ (by
          have h1 : (ys ++ vs.take k).length ≤ (ys ++ vs).length := by simp; omega
          rw [sizeLine_eq]; omega) (ev_local hp hx2 (hC ▸ hns₄) hm₄ ⟨.refl Same.refl _, rfl⟩ hd)) (fun fin s₅ h₅ => ?_) fun _ _ f => f
        obtain ⟨rfl, y, _, hy', hl₅, _, mv₅⟩ := h₅
        subst hy'
        refine ⟨rfl, [y], m₄, mv₅.heap.ns (by simpa using Ne.symm hDC) hns₄, hl₅, ?_, mv₅.mono (fun _ q => q) (by simp) fun _ _ q => q⟩
        rw [List.append_assoc, List.take_add_one, hu]; rfl) st' hn₃ hl₃ (by simp)
    refine wpAny_bind (wpAny_onRaise (wpAny_run (h := none) (codeAny_mono (compStart1 inner (W'.self 0 s₃ _ _ st' ⟨rfl, rfl⟩)) fun r s₄ h₄ => ?_)))
    obtain ⟨rfl, zs, m', hz, hl₄, hn₄, mv₄⟩ := h₄
    rw [List.take_length] at hz
    subst hz
    refine wpAny_pure ⟨rfl, vs, m', hn₄, hl₄, ⟨hO, hlen⟩, ?_⟩
    have a : Mv fs (D :: C :: [s₂.heap.objs.size]) Same s₁ s₄ := (((mv₂.mono (fun _ q => q) (by simp) fun _ _ q => q).trans Same.trans (mv₃.mono (fun _ q => q) (by simp) fun _ _ q => q))).trans Same.trans mv₄
    refine a.drop (fun _ q => .inl q) fun b hb => ?_
    simp only [List.mem_cons, List.not_mem_nil, or_false] at hb
    rcases hb with rfl | rfl | rfl
    · exact .inl (by simp)
    · exact .inl (by simp)
    · exact .inr (ex_fresh mv₂.heap)
  · obtain ⟨rfl, out, m', inv, hl', hn', mv⟩ := hr
    exact ⟨rfl, out, m', inv.1, hl', hn', mv⟩

theorem nest_comp {i1 i2 : Expr} {x1 x2 : Str} {p1 p2 pe pos : Pos} {scope : Scope} {env : Env} {s₁ : Shared} {n : Nat} {P : Nat → Value → Prop} (hh : A.handled = none)
    (hclos : closureFor scope env = pure []) (hcell : ∀ y ∈ scope.names, y.2 ≠ .cell) (hkind : scope.kind = .function) (hnames : ∀ y ∈ scope.names, y.2 = .local → scope.names.lookup y.1 = some .local)
    (hx1 : scope.names.lookup x1 = some .local) (hx2 : scope.names.lookup x2 = some .local)
    (Out : Nat → List Value → Prop) (hi : Out 0 [])
    (hsrc : wpAny (model prog w) A (eval i1 env) (fun xv s₂ => wpAny (model prog w) A (pyIter xv) (fun it s₃ => Mv fs [] Same s₁ s₃ ∧ ∃ I, it = .ref I ∧ ItAt s₃.heap I n P ∧ s₁.heap.get? I = none) noErr s₂) noErr s₁)
    (hrec : ∀ C i v out s m, P i v → i < n → Out i out → Mv fs [] Same s₁ s → s.heap.Ns C m → m x1 = some v →
      wpAny (model prog w) A (eval i2 (compEnvC scope [] C env)) (fun rv s' => Mv fs [] Same s s' ∧ ∃ (R : Addr) (vs : List Value), rv = .ref R ∧ s'.heap.IsList R vs.toArray ∧ s.heap.get? R = none ∧ Out (i + 1) (out ++ vs) ∧ (out ++ vs).length ≤ 100000) noErr s)
    (hs1 : ∀ x, foldedSetIterable i1 env x = pure x := by intro _; rfl) (hs2 : ∀ (C : Addr) x, foldedSetIterable i2 (compEnvC scope [] C env) x = pure x := by intro _ _; rfl) (hd : (x2 == ("__debug__" : Str)) = false := by decide) :
    wpAny (model prog w) A (eval (.ListComp (.Name x2 pe) [⟨.Name x1 p1, i1, [], 0⟩, ⟨.Name x2 p2, i2, [], 0⟩] scope pos) env)
      (fun v s' => ∃ (D : Addr) (out : List Value), v = .ref D ∧ s₁.heap.get? D = none ∧ s'.heap.IsList D out.toArray ∧ Out n out ∧ Mv fs [] Same s₁ s') noErr s₁ := by
  refine comp_eval hclos hcell hkind hnames (wpAny_mono hsrc (fun xv s₂ h₂ => wpAny_mono h₂ (fun it s₃ h₃ => ?_) fun _ _ f => f) fun _ _ f => f) hs1
  obtain ⟨mv₂, I, rfl, itat, hI⟩ := h₃
  obtain ⟨fp, St, W, hst, hfp⟩ := itat.iter (prog := prog) (w := w) (fs := fs)
  intro h₁ k1 k2 k3
  have mv₃ : Mv fs [] Same s₃ { s₃ with heap := h₁ } := Mv.of_keeps k1
  have st₃ : St 0 { s₃ with heap := h₁ } := (W A hh).frame 0 s₃ _ [] (hst s₃ rfl) mv₃ (by simp)
  refine ⟨(W A hh).self 0 _ _ _ st₃ ⟨rfl, rfl⟩, ?_⟩
  have hDC : s₃.heap.objs.size ≠ s₃.heap.objs.size + 1 := Nat.ne_of_lt (Nat.lt_succ_self _)
  have hDf : s₃.heap.objs.size ∉ fp := fun q => Nat.lt_irrefl _ (hfp _ q)
  have hCf : s₃.heap.objs.size + 1 ∉ fp := fun q => Nat.lt_irrefl _ (Nat.lt_of_succ_lt (hfp _ q))
  have hC1 : s₁.heap.get? (s₃.heap.objs.size + 1) = none := by
    cases q : s₁.heap.get? (s₃.heap.objs.size + 1) with
    | none => rfl
    | some o => obtain ⟨sl, e⟩ := mv₂.heap.up q (by simp); exact absurd (Nat.lt_of_succ_lt (Heap.lt_size e)) (Nat.lt_irrefl _)
  have back : ∀ {s : Shared}, Mv fs [s₃.heap.objs.size, s₃.heap.objs.size + 1, I] Same { s₃ with heap := h₁ } s → Mv fs [] Same s₁ s := fun {s} mv => by
    have a : Mv fs [s₃.heap.objs.size, s₃.heap.objs.size + 1, I] Same s₁ s := ((mv₂.mono (fun _ q => q) (by simp) fun _ _ q => q).trans Same.trans (mv₃.mono (fun _ q => q) (by simp) fun _ _ q => q)).trans Same.trans mv
    refine a.drop (fun _ q => .inl q) fun b hb => .inr ?_
    simp only [List.mem_cons, List.not_mem_nil, or_false] at hb
    rcases hb with rfl | rfl | rfl
    · exact ex_fresh mv₂.heap
    · exact hC1
    · exact hI
  refine codeAny_mono (nest_loop (pe := pe) (C := s₃.heap.objs.size + 1) (cenv := compEnvC scope [] (s₃.heap.objs.size + 1) env) hh (W A hh) rfl (lookup_relabel_local hx1) (lookup_relabel_local hx2) (by simp [compEnvC, relabel, hkind]) hDC hDf hCf Out { s₃ with heap := h₁ } rfl
    (fun i v out s m hP hj hO mv hns hm => hrec _ i v out s m hP hj hO (back mv) hns hm) st₃ k3 k2 hi (hs2 _) hd) fun r s' hr => ?_
  obtain ⟨rfl, out, m', hO, hl, hnC, mv⟩ := hr
  refine ⟨rfl, ⟨m', hnC⟩, fun h' hs' => ⟨_, out, rfl, ex_fresh mv₂.heap, (Ex.sameBut (fs := fs) (ws := [s₃.heap.objs.size + 1]) hs' (by simp)).list (by simpa using hDC) hl, hO, ?_⟩⟩
  have b : Mv fs [s₃.heap.objs.size, s₃.heap.objs.size + 1, I] Same s' { s' with heap := h' } := ⟨Ex.sameBut hs' (by simp), rfl, rfl, rfl⟩
  exact back (mv.trans Same.trans b)
end

theorem Ts.parts {h : Heap} : ∀ {d : Nat} {vs : List Value} {fl : List Leaf} {cu : List Cu}, Ts h d vs fl cu → ∃ ps : List (List Leaf × List Cu), fl = (ps.map (·.1)).flatten ∧ cu = (ps.map (·.2)).flatten ∧ ps.length = vs.length ∧
    ∀ (i : Nat) (v : Value), vs[i]? = some v → ∃ q : List Leaf × List Cu, ps[i]? = some q ∧ T h d v q.1 q.2
  | _, _, _, _, .nil => ⟨[], rfl, rfl, rfl, by simp⟩
  | _, _, _, _, .cons (fl := f) (cu := c) t ts => by
    obtain ⟨ps, rfl, rfl, hl, hp⟩ := Ts.parts ts
    refine ⟨(f, c) :: ps, by simp, by simp, by simp [hl], fun i v e => ?_⟩
    cases i with
    | zero => cases e; exact ⟨_, rfl, t⟩
    | succ i => exact hp i v (by simpa using e)
theorem flatten_take_le {α : Type} (ls : List (List α)) (i : Nat) : (ls.take i).flatten.length ≤ ls.flatten.length := by
  have h : ls.flatten = (ls.take i).flatten ++ (ls.drop i).flatten := by rw [← List.flatten_append, List.take_append_drop]
  rw [h, List.length_append]; omega
theorem flatten_take_succ {α : Type} (ls : List (List α)) (i : Nat) (x : List α) (e : ls[i]? = some x) : (ls.take (i + 1)).flatten = (ls.take i).flatten ++ x := by
  rw [List.take_add_one, e]; simp
theorem list_eq_of {vs ys : List Value} (hl : ys.length = vs.length) (h : ∀ (i : Nat) (v : Value), ys[i]? = some v → vs[i]? = some v) : ys = vs := by
  apply List.ext_getElem?
  intro i
  rcases Nat.lt_or_ge i ys.length with q | q
  · rw [List.getElem?_eq_getElem q, h i _ (List.getElem?_eq_getElem q)]
  · rw [List.getElem?_eq_none q, List.getElem?_eq_none (by omega)]

section
variable {w : World} {p : Program} {loose : List Str} {mean : ExcName → Option Value} {mg mb : Str → Option Value} {bs : Heap}
abbrev ListPost (s : Shared) (G : List Value → Prop) : Value → Heap → Prop := fun r h' => ∃ (R : Addr) (vs : List Value), r = .ref R ∧ s.heap.get? R = none ∧ h'.IsList R vs.toArray ∧ G vs

/-- [leaf for one in .. for leaf in f(one)], f a def of the text that gives a new list of each item -/
theorem rec_tail {l : List Env} {env : Env} {scope : Scope} {x1 x2 f : Str} {p1 p2 pe pf px pc pos : Pos} {i1 : Expr} {fa : Addr} {s₁ : Shared} {dp un n : Nat} {gd : Option (List Code)} {P : Nat → Value → Prop} {G : Nat → List Value → Prop}
    (hclos : closureFor scope env = pure []) (hcell : ∀ y ∈ scope.names, y.2 ≠ .cell) (hkind : scope.kind = .function) (hnames : ∀ y ∈ scope.names, y.2 = .local → scope.names.lookup y.1 = some .local)
    (hx1 : scope.names.lookup x1 = some .local) (hx2 : scope.names.lookup x2 = some .local) (hg : env.globals = mainGlobals)
    (hf : ∀ C, (compEnvC scope [] C env).kindOf f = some .globalImplicit)
    (e : nsIn (hd.heap_39 w.params) mainGlobals f = some (some (.ref fa))) (ke : keepIn (hd.heap_39 w.params) (.ref fa) = true)
    (c : Cx w p loose mean mg mb (env :: l) bs s₁.heap)
    (hsrc : wpAny (model Challenge.rw_il0027_01.row.prog w) (Ar dp un gd (env :: l)) (eval i1 env) (fun xv s₂ => wpAny (model Challenge.rw_il0027_01.row.prog w) (Ar dp un gd (env :: l)) (pyIter xv) (fun it s₃ => Mv (frs (env :: l)) [] Same s₁ s₃ ∧ ∃ I, it = .ref I ∧ ItAt s₃.heap I n P ∧ s₁.heap.get? I = none) noErr s₂) noErr s₁)
    (hcall : ∀ i v (s' : Shared), P i v → i < n → Mv (frs (env :: l)) [] Same s₁ s' → Cx w p loose mean mg mb (env :: l) bs s'.heap →
      codeAny (model Challenge.rw_il0027_01.row.prog w) (Ar dp un gd (env :: l)) (.call (.ref fa) ⟨[v], []⟩) (Ends (env :: l) s' (ListPost s' (G i))) s')
    (Out : Nat → List Value → Prop) (hi : Out 0 []) (hstep : ∀ i v out vs, P i v → i < n → Out i out → G i vs → Out (i + 1) (out ++ vs) ∧ (out ++ vs).length ≤ 100000)
    (hs1 : ∀ x, foldedSetIterable i1 env x = pure x := by intro _; rfl)
    (hd1 : (x1 == ("__debug__" : Str)) = false := by decide) (hd2 : (x2 == ("__debug__" : Str)) = false := by decide) (hd3 : (f == ("__debug__" : Str)) = false := by decide) :
    wpAny (model Challenge.rw_il0027_01.row.prog w) (Ar dp un gd (env :: l)) (eval (.ListComp (.Name x2 pe) [⟨.Name x1 p1, i1, [], 0⟩, ⟨.Name x2 p2, .Call (.Name f pf) [.Name x1 px] [] pc, [], 0⟩] scope pos) env)
      (fun v s' => ∃ (D : Addr) (out : List Value), v = .ref D ∧ s₁.heap.get? D = none ∧ s'.heap.IsList D out.toArray ∧ Out n out ∧ Mv (frs (env :: l)) [] Same s₁ s') noErr s₁ := by
  refine nest_comp rfl hclos hcell hkind hnames hx1 hx2 Out hi hsrc (fun C i v out s m hP hj hO mv hns hm => ?_) hs1 (fun _ _ => rfl) hd2
  have c' := c.ex mv.heap (by simp)
  refine call1 c' hg (by simp [compEnvC, relabel, hkind]) (hf C) (lookup_relabel_local hx1) e ke hns hm (wpAny_call (codeAny_mono (hcall i v s hP hj mv c') fun r s' hr => ?_)) hd3 hd1
  obtain ⟨r, rfl, mv', R, vs, rfl, hR, hl, hG⟩ := hr
  obtain ⟨a, b⟩ := hstep i v out vs hP hj hO hG
  exact ⟨mv', R, vs, rfl, hl, hR, a, b⟩

theorem src_list {A : Around} {fs : List Addr} {env : Env} {x : Str} {px : Pos} {s : Shared} {m : Str → Option Value} {a : Addr} {items : List Value} (hk : env.scope.kind = .function) (hx : env.kindOf x = some .local) (hn : s.heap.Ns env.locals m) (hm : m x = some (.ref a)) (hl : s.heap.IsList a items.toArray) (hd : (x == ("__debug__" : Str)) = false := by decide) :
    wpAny (model Challenge.rw_il0027_01.row.prog w) A (eval (.Name x px) env) (fun xv s₂ => wpAny (model Challenge.rw_il0027_01.row.prog w) A (pyIter xv) (fun it s₃ => Mv fs [] Same s s₃ ∧ ∃ I, it = .ref I ∧ ItAt s₃.heap I items.length (fun i v => items[i]? = some v) ∧ s.heap.get? I = none) noErr s₂) noErr s := by
  refine ev_local hk hx hn hm (wpAny_pyIter_list hl ⟨Mv.of_keeps fun b o e => Heap.get?_push_of_some _ e, _, rfl, ?_, Heap.get?_none_of_le (Nat.le_refl _)⟩) hd
  obtain ⟨o, ho, r⟩ := hl
  exact .list (lt_ne_size ho) ⟨_, Heap.get?_push_size _ rfl, rfl, rfl⟩ ⟨o, Heap.get?_push_of_some _ ho, r⟩
theorem src_tuple {A : Around} {fs : List Addr} {env : Env} {x : Str} {px : Pos} {s : Shared} {m : Str → Option Value} {a : Addr} {items : List Value} (hk : env.scope.kind = .function) (hx : env.kindOf x = some .local) (hn : s.heap.Ns env.locals m) (hm : m x = some (.ref a)) (hl : s.heap.IsTuple a items.toArray) (hd : (x == ("__debug__" : Str)) = false := by decide) :
    wpAny (model Challenge.rw_il0027_01.row.prog w) A (eval (.Name x px) env) (fun xv s₂ => wpAny (model Challenge.rw_il0027_01.row.prog w) A (pyIter xv) (fun it s₃ => Mv fs [] Same s s₃ ∧ ∃ I, it = .ref I ∧ ItAt s₃.heap I items.length (fun i v => items[i]? = some v) ∧ s.heap.get? I = none) noErr s₂) noErr s := by
  refine ev_local hk hx hn hm (wpAny_pyIter_tuple hl ⟨Mv.of_keeps fun b o e => Heap.get?_push_of_some _ e, _, rfl, ?_, Heap.get?_none_of_le (Nat.le_refl _)⟩) hd
  obtain ⟨o, ho, r⟩ := hl
  exact .tup (lt_ne_size ho) ⟨_, Heap.get?_push_size _ rfl, rfl, rfl⟩ ⟨o, Heap.get?_push_of_some _ ho, r⟩

theorem isi_list_tuple {E : Value → Shared → Prop} {A : Around} {Q : Value → Shared → Prop} {a tp : Addr} {vs : Array Value} {s : Shared} (hl : s.heap.IsList a vs) (ht : s.heap.get? tp = some { cls := .type "tuple", data := .seq #[.type "list", .type "tuple"] }) (h : ∀ tk, Q (.bool true) { s with toks := tk }) :
    wpAny (model Challenge.rw_il0027_01.row.prog w) A (call (.builtin "isinstance") [.ref a, .ref tp]) Q E s :=
  IsiPair.tupleOf (cs := [.type "list", .type "tuple"]) (vs := [true, false]) (Tx := "list")
    (.cons (.of_true (by rfl) (by rw [isSubtype_type]; kernel_rfl)) (.cons (.of_false_list (by decide) (by rfl) (by rw [isSubtype_type]; kernel_rfl)) .nil)) hl.typeIs ht h
theorem isi_tuple_tuple {E : Value → Shared → Prop} {A : Around} {Q : Value → Shared → Prop} {a tp : Addr} {vs : Array Value} {s : Shared} (hl : s.heap.IsTuple a vs) (ht : s.heap.get? tp = some { cls := .type "tuple", data := .seq #[.type "list", .type "tuple"] }) (h : ∀ tk, Q (.bool true) { s with toks := tk }) :
    wpAny (model Challenge.rw_il0027_01.row.prog w) A (call (.builtin "isinstance") [.ref a, .ref tp]) Q E s :=
  IsiPair.tupleOf (cs := [.type "list", .type "tuple"]) (vs := [false, true]) (Tx := "tuple")
    (.cons (.of_false_tuple (by decide) (by rfl) (by rw [isSubtype_type]; kernel_rfl)) (.cons (.of_true (by rfl) (by rw [isSubtype_type]; kernel_rfl)) .nil)) hl.typeIs ht h
end

section
variable {w : World} {p : Program} {loose : List Str} {mean : ExcName → Option Value} {mg mb : Str → Option Value} {bs : Heap}

theorem Cx.push {l : List Env} {h₀ h : Heap} {L : Addr} {m : Str → Option Value} {env : Env} (c : Cx w p loose mean mg mb l bs h₀) (F : Fr h₀ L h m) (hf : env.frame = some L) (hk : env.scope.kind = .function) : Cx w p loose mean mg mb (env :: l) bs h :=
  have b := pushX (A := Ar 0 0 none l) c.below F hf hk
  ⟨b.stays, b.frames, c.K, c.T⟩

theorem none_of_keeps {h h' : Heap} {b : Addr} (k : ∀ b o, h.get? b = some o → h'.get? b = some o) (e : h'.get? b = none) : h.get? b = none := by
  cases q : h.get? b with
  | none => rfl
  | some o => rw [k b o q] at e; cases e
abbrev FlatPost (s : Shared) (fl : List Leaf) : Value → Heap → Prop := fun r h' => ∃ (R : Addr) (vs : List Value), r = .ref R ∧ s.heap.get? R = none ∧ h'.IsList R vs.toArray ∧ Paired leafIs fl vs

theorem abs_post {M : Model} {A : Around} {E : Value → Shared → Prop} {s : Shared} {t : Sem Flow} {P : Flow → Shared → Prop} (h : ∀ Q : Flow → Shared → Prop, (∀ f s', P f s' → Q f s') → wpAny M A t Q E s) : wpAny M A t P E s := h P fun _ _ x => x

/-- a call of always_iterable in the body of a def: the contract c1 put to use -/
theorem ai_use {l : List Env} {s : Shared} {dp un n : Nat} {gd : Option (List Code)} {P : Nat → Value → Prop} {args : List Value} {Q : Value → Shared → Prop}
    (h : codeAny (model Challenge.rw_il0027_01.row.prog w) (Ar dp un gd l) (.call (.ref 68) ⟨args, []⟩) (Ends l s (ItPost s n P)) s)
    (hq : ∀ I s', Mv (frs l) [] Same s s' → s.heap.get? I = none → ItAt s'.heap I n P → Q (.ref I) s') :
    wpAny (model Challenge.rw_il0027_01.row.prog w) (Ar dp un gd l) (call (.ref 68) args) Q noErr s := by
  refine wpAny_call (codeAny_mono h fun r s' hr => ?_)
  obtain ⟨v, rfl, mv, I, rfl, hI, it⟩ := hr
  exact hq I s' mv hI it

set_option maxHeartbeats 4000000 in
theorem flat_leaf {v : Value} {lf : Leaf} (hv : (∃ i t, v = .int i t ∧ lf = .inl i) ∨ (∃ x t, v = .str x t ∧ lf = .inr x)) {l : List Env} {s : Shared} {dp un : Nat} {gd : Option (List Code)}
    (c : Cx w p loose mean mg mb l bs s.heap) (hdp : dp + 20 < recursionLimit) :
    codeAny (model Challenge.rw_il0027_01.row.prog w) (Ar dp un gd l) (.call (.ref 85) ⟨[v], []⟩) (Ends l s (FlatPost s [lf])) s := by
  have X : (hd.heap_39 w.params).In s.heap := c.Kh
  revert X
  k_fill
  intro X
  refine' enter c ?k6 ?k7 ?k8 ?k9 ?kB ?c5 ?_ ?c2 ?c3 ?c4
  case k6 => k_is
  case k7 => k_is
  case k8 => omega
  case k9 => exact BindsTo.of_eq rfl
  case kB => exact locs rfl
  case c5 => decide
  case c2 => rfl
  case c3 => rfl
  case c4 => rfl
  intro h₁ F N B X' T'
  clear X
  try dsimp only
  have c1 := fun (env : Env) (hf : env.frame = some s.heap.objs.size) (hk : env.scope.kind = .function) => c.push F hf hk
  refine wpAny_execs_cons (wpAny_mono (row_comp (fs := s.heap.objs.size :: frs l) (QQ := fun n P => n = 1 ∧ P = fun j u => [v][j]? = some u) rfl F.ns rfl rfl (by decide) rfl (by decide) rfl rfl rfl ?_) (fun f s₂ h₂ => ?_) fun _ _ q => q)
  · refine call1 (c.keeps F.keep) rfl rfl rfl rfl (by k_is) (by k_is) F.ns rfl ?_
    rcases hv with ⟨i, t, rfl, rfl⟩ | ⟨x, t, rfl, rfl⟩
    · refine ai_use ?hc fun I s' mv hI it => ⟨mv, I, _, _, rfl, it, hI, ?_, rfl, rfl⟩
      case hc => exact ai_int (c1 _ rfl rfl) (by show dp + 1 + 10 < recursionLimit; omega)
      decide
    · refine ai_use ?hc fun I s' mv hI it => ⟨mv, I, _, _, rfl, it, hI, ?_, rfl, rfl⟩
      case hc => exact ai_str (c1 _ rfl rfl) (by show dp + 1 + 10 < recursionLimit; omega)
      decide
  · obtain ⟨rfl, R, ys, n, P, ⟨rfl, rfl⟩, hns, hR, hlen, hys, hRn, hRL, mv⟩ := h₂
    obtain rfl : ys = [v] := by
      match ys, hlen with
      | [u], _ => have := hys 0 u rfl; simp at this; rw [this]
    have hRs : s.heap.get? R = none := none_of_keeps F.keep hRn
    obtain ⟨g, Fg, exg, cg, gn⟩ := reground' c F mv.heap (fun b hb => by rw [List.mem_singleton] at hb; rw [hb]; exact Heap.get?_none_of_le (Nat.le_refl _)) hns
    obtain ⟨hp₂, gens₂, dr₂, tk₂, os₂⟩ := s₂
    obtain ⟨mvh, mvg, mvd, mvo⟩ := mv
    cases mvg; cases mvd; cases mvo
    obtain ⟨oR, hoR, hcR, nR, hdR⟩ := hR
    have Ng : News g s.heap.objs.size hp₂ [(R, oR)] := fun q hq => by
      obtain rfl : q = (R, oR) := by simpa using hq
      exact ⟨hoR, hRL, gn R hRs⟩
    have Bg : Below (Ar dp un gd l) bs l g := cg.below
    have Xg := cg.Kh
    have Tg := cg.Th
    clear F N B X' T' hRn hns c1 hys hRL mvh
    refine abs_post fun Q hQ => ?_
    have fin : ∀ h' tk m, Fr g s.heap.objs.size h' m → h'.get? R = some oR → Q (.ret (.ref R)) { s with heap := h', toks := tk } := fun h' tk m F' e =>
      hQ _ _ ⟨⟨exg.trans (.of_keeps F'.keep), rfl, rfl, rfl⟩, R, [v], rfl, hRs, ⟨oR, e, hcR, nR, hdR⟩, .cons (by rcases hv with ⟨i, t, rfl, rfl⟩ | ⟨x, t, rfl, rfl⟩ <;> exact ⟨_, rfl⟩) .nil⟩
    clear hQ
    rcases hv with ⟨i, t, rfl, rfl⟩ | ⟨x, t, rfl, rfl⟩
    · k_steps
      (with_reducible rename Fr g _ _ _ => F'); (with_reducible rename News g _ _ _ => N')
      exact fin _ _ _ F' (N' (R, oR) (by simp)).1
    · k_steps
      (with_reducible rename Fr g _ _ _ => F'); (with_reducible rename News g _ _ _ => N')
      exact fin _ _ _ F' (N' (R, oR) (by simp)).1
theorem flat_end {l : List Env} {env : Env} {scope : Scope} {x1 x2 row : Str} {p1 p2 pe pf px pc pr pos : Pos} {s₁ : Shared} {dp un d : Nat} {gd : Option (List Code)} {m : Str → Option Value} {R : Addr} {ys : List Value} {fl : List Leaf} {cu : List Cu}
    (hclos : closureFor scope env = pure []) (hcell : ∀ y ∈ scope.names, y.2 ≠ .cell) (hkind : scope.kind = .function) (hnames : ∀ y ∈ scope.names, y.2 = .local → scope.names.lookup y.1 = some .local)
    (hx1 : scope.names.lookup x1 = some .local) (hx2 : scope.names.lookup x2 = some .local) (hg : env.globals = mainGlobals)
    (hf : ∀ C, (compEnvC scope [] C env).kindOf "_law_flat" = some .globalImplicit)
    (e : nsIn (hd.heap_39 w.params) mainGlobals "_law_flat" = some (some (.ref 85))) (ke : keepIn (hd.heap_39 w.params) (.ref 85) = true)
    (hk : env.scope.kind = .function) (hrow : env.kindOf row = some .local) (hn : s₁.heap.Ns env.locals m) (hm : m row = some (.ref R)) (hR : s₁.heap.IsList R ys.toArray)
    (c : Cx w p loose mean mg mb (env :: l) bs s₁.heap) (hts : Ts s₁.heap d ys fl cu) (hfl : fl.length ≤ 10000) (hdp : ys ≠ [] → dp + 2 * d + 40 < recursionLimit)
    (ih : ys ≠ [] → ∀ (v : Value) (fl : List Leaf) (cu : List Cu) (l : List Env) (s : Shared) (dp un : Nat) (gd : Option (List Code)), T s.heap d v fl cu → fl.length ≤ 10000 → Cx w p loose mean mg mb l bs s.heap → dp + 2 * d + 40 < recursionLimit →
      codeAny (model Challenge.rw_il0027_01.row.prog w) (Ar dp un gd l) (.call (.ref 85) ⟨[v], []⟩) (Ends l s (FlatPost s fl)) s)
    (hd1 : (x1 == ("__debug__" : Str)) = false := by decide) (hd2 : (x2 == ("__debug__" : Str)) = false := by decide) (hd3 : (row == ("__debug__" : Str)) = false := by decide) :
    wpAny (model Challenge.rw_il0027_01.row.prog w) (Ar dp un gd (env :: l)) (eval (.ListComp (.Name x2 pe) [⟨.Name x1 p1, .Name row pr, [], 0⟩, ⟨.Name x2 p2, .Call (.Name "_law_flat" pf) [.Name x1 px] [] pc, [], 0⟩] scope pos) env)
      (fun v s' => ∃ (D : Addr) (out : List Value), v = .ref D ∧ s₁.heap.get? D = none ∧ s'.heap.IsList D out.toArray ∧ Paired leafIs fl out ∧ Mv (frs (env :: l)) [] Same s₁ s') noErr s₁ := by
  obtain ⟨ps, rfl, rfl, hpl, hps⟩ := hts.parts
  refine wpAny_mono (rec_tail (G := fun i vs => ∃ q : List Leaf × List Cu, ps[i]? = some q ∧ Paired leafIs q.1 vs) hclos hcell hkind hnames hx1 hx2 hg hf e ke c (src_list hk hrow hn hm hR hd3) (fun i v s' hP _ mv c' => ?_)
    (fun i out => Paired leafIs ((ps.map (·.1)).take i).flatten out) .nil (fun i v out vs _ _ hO hG => ?_) (fun _ => rfl) hd1 hd2 (by decide)) (fun v s' h => ?_) fun _ _ f => f
  · obtain ⟨q, hq, ht⟩ := hps i v hP
    have hle : q.1.length ≤ 10000 := by
      have := flatten_take_le (ps.map (·.1)) (i + 1)
      rw [flatten_take_succ (ps.map (·.1)) i q.1 (by rw [List.getElem?_map, hq]; rfl), List.length_append] at this
      omega
    refine codeAny_mono (ih (by rintro rfl; simp at hP) v q.1 q.2 _ s' _ _ _ (T.ex mv.heap ht) hle c' (hdp (by rintro rfl; simp at hP))) fun r s'' hr => ?_
    obtain ⟨r, rfl, mv', R, vs, rfl, hR, hl, hp⟩ := hr
    exact ⟨_, rfl, mv', R, vs, rfl, hR, hl, q, hq, hp⟩
  · obtain ⟨q, hq, hp⟩ := hG
    rw [flatten_take_succ (ps.map (·.1)) i q.1 (by rw [List.getElem?_map, hq]; rfl)]
    have := Paired.append' hO hp
    refine ⟨this, ?_⟩
    rw [← this.length, ← flatten_take_succ (ps.map (·.1)) i q.1 (by rw [List.getElem?_map, hq]; rfl)]
    have := flatten_take_le (ps.map (·.1)) (i + 1)
    omega
  · obtain ⟨D, out, rfl, hD, hl, hO, mv⟩ := h
    rw [List.take_of_length_le (by rw [List.length_map, hpl]; exact Nat.le_refl _)] at hO
    exact ⟨D, out, rfl, hD, hl, hO, mv⟩

set_option maxHeartbeats 4000000 in
theorem flat_node {d : Nat} {v : Value} {vs : List Value} {fl : List Leaf} {cu : List Cu} {l : List Env} {s : Shared} {dp un : Nat} {gd : Option (List Code)}
    (hv : (v = .none ∧ vs = []) ∨ (∃ a, v = .ref a ∧ s.heap.IsList a vs.toArray) ∨ (∃ a, v = .ref a ∧ s.heap.IsTuple a vs.toArray)) (hlen : vs.length ≤ 1000) (hts : Ts s.heap d vs fl cu) (hfl : fl.length ≤ 10000)
    (ih : vs ≠ [] → ∀ (v : Value) (fl : List Leaf) (cu : List Cu) (l : List Env) (s : Shared) (dp un : Nat) (gd : Option (List Code)), T s.heap d v fl cu → fl.length ≤ 10000 → Cx w p loose mean mg mb l bs s.heap → dp + 2 * d + 40 < recursionLimit →
      codeAny (model Challenge.rw_il0027_01.row.prog w) (Ar dp un gd l) (.call (.ref 85) ⟨[v], []⟩) (Ends l s (FlatPost s fl)) s)
    (c : Cx w p loose mean mg mb l bs s.heap) (hdp0 : dp + 40 < recursionLimit) (hdp : vs ≠ [] → dp + 2 * (d + 1) + 40 < recursionLimit) :
    codeAny (model Challenge.rw_il0027_01.row.prog w) (Ar dp un gd l) (.call (.ref 85) ⟨[v], []⟩) (Ends l s (FlatPost s fl)) s := by
  have X : (hd.heap_39 w.params).In s.heap := c.Kh
  revert X
  k_fill
  intro X
  refine' enter c ?k6 ?k7 ?k8 ?k9 ?kB ?c5 ?_ ?c2 ?c3 ?c4
  case k6 => k_is
  case k7 => k_is
  case k8 => omega
  case k9 => exact BindsTo.of_eq rfl
  case kB => exact locs rfl
  case c5 => decide
  case c2 => rfl
  case c3 => rfl
  case c4 => rfl
  intro h₁ F N B X' T'
  clear X
  try dsimp only
  have c1 := fun (env : Env) (hf : env.frame = some s.heap.objs.size) (hk : env.scope.kind = .function) => c.push F hf hk
  refine wpAny_execs_cons (wpAny_mono (row_comp (fs := s.heap.objs.size :: frs l) (QQ := fun n P => n = vs.length ∧ P = fun j u => vs[j]? = some u) rfl F.ns rfl rfl (by decide) rfl (by decide) rfl rfl rfl ?_) (fun f s₂ h₂ => ?_) fun _ _ q => q)
  · refine call1 (c.keeps F.keep) rfl rfl rfl rfl (by k_is) (by k_is) F.ns rfl ?_
    rcases hv with ⟨rfl, rfl⟩ | ⟨a, rfl, ha⟩ | ⟨a, rfl, ha⟩
    · refine ai_use ?hc fun I s' mv hI it => ⟨mv, I, _, _, rfl, it, hI, ?_, rfl, rfl⟩
      case hc => exact ai_none (c1 _ rfl rfl) (by show dp + 1 + 10 < recursionLimit; omega)
      omega
    · refine ai_use ?hc fun I s' mv hI it => ⟨mv, I, _, _, rfl, it, hI, ?_, rfl, rfl⟩
      case hc => exact ai_list (c1 _ rfl rfl) (by show dp + 1 + 10 < recursionLimit; omega) (Ex.list (fs := []) (ws := []) (.of_keeps F.keep) (by simp) ha)
      omega
    · refine ai_use ?hc fun I s' mv hI it => ⟨mv, I, _, _, rfl, it, hI, ?_, rfl, rfl⟩
      case hc => exact ai_tuple (c1 _ rfl rfl) (by show dp + 1 + 10 < recursionLimit; omega) (Ex.tuple (fs := []) (ws := []) (.of_keeps F.keep) (by simp) ha)
      omega
  · obtain ⟨rfl, R, ys, n, P, ⟨rfl, rfl⟩, hns, hR, hylen, hys, hRn, hRL, mv⟩ := h₂
    obtain rfl : ys = vs := list_eq_of hylen hys
    have hRs : s.heap.get? R = none := none_of_keeps F.keep hRn
    obtain ⟨g, Fg, exg, cg, gn⟩ := reground' c F mv.heap (fun b hb => by rw [List.mem_singleton] at hb; rw [hb]; exact Heap.get?_none_of_le (Nat.le_refl _)) hns
    obtain ⟨hp₂, gens₂, dr₂, tk₂, os₂⟩ := s₂
    obtain ⟨mvh, mvg, mvd, mvo⟩ := mv
    cases mvg; cases mvd; cases mvo
    obtain ⟨oR, hoR, hcR, nR, hdR⟩ := hR
    have Ng : News g s.heap.objs.size hp₂ [(R, oR)] := fun q hq => by
      obtain rfl : q = (R, oR) := by simpa using hq
      exact ⟨hoR, hRL, gn R hRs⟩
    have Bg : Below (Ar dp un gd l) bs l g := cg.below
    have Xg := cg.Kh
    have Tg := cg.Th
    clear F N B X' T' hRn hns c1 hys hRL mvh
    refine abs_post fun Q hQ => ?_
    have hts₂ : Ts g d ys fl cu := Ts.ex exg hts
    have fin : ∀ h' tk, (∀ b o, g.get? b = some o → h'.get? b = some o) → ∀ v s', (∃ (D : Addr) (out : List Value), v = .ref D ∧ h'.get? D = none ∧ s'.heap.IsList D out.toArray ∧ Paired leafIs fl out ∧ Mv (s.heap.objs.size :: frs l) [] Same { s with heap := h', toks := tk } s') → Q (.ret v) s' := fun h' tk kp v s' h => by
      obtain ⟨D, out, rfl, hD, hl, hO, mv⟩ := h
      have ex : Ex (frs l) [] s.heap h' := exg.trans (.of_keeps kp)
      refine hQ _ _ ⟨⟨((ex.mono (fun _ q => .tail _ q) fun _ q => q).trans mv.heap).drop (fun b hb => ?_) (by simp), mv.gens, mv.drawn, mv.os⟩, D, out, rfl, ?_, hl, hO⟩
      · rcases List.mem_cons.mp hb with rfl | hb
        · exact .inr (Heap.get?_none_of_le (Nat.le_refl _))
        · exact .inl hb
      · cases q : s.heap.get? D with
        | none => rfl
        | some o => obtain ⟨sl, e⟩ := ex.up q (by simp); rw [hD] at e; cases e
    have oRl : ∀ h' : Heap, h'.get? R = some oR → h'.IsList R ys.toArray := fun h' e => ⟨oR, e, hcR, nR, hdR⟩
    clear hQ
    rcases hv with ⟨rfl, rfl⟩ | ⟨a, rfl, ha⟩ | ⟨a, rfl, ha⟩
    · k_steps
      refine wpAny_mono (flat_end rfl (by decide) rfl (by decide) rfl rfl rfl (fun _ => rfl) (by k_is) (by k_is) rfl rfl Fg.ns rfl (oRl _ hoR) (cg.push Fg rfl rfl) (Ts.ex (.of_keeps (fs := []) Fg.keep) hts₂) hfl (fun hne => by have := hdp hne; show dp + 1 + 2 * d + 40 < recursionLimit; omega) ih) (fun v s' h => fin _ _ Fg.keep v s' h) fun _ _ f => f
    · replace ha := exg.list (by simp) ha
      k_steps
      (with_reducible rename Fr g _ _ _ => F'); (with_reducible rename News g _ _ _ => N')
      refine isi_list_tuple (Ex.list (fs := []) (ws := []) (.of_keeps F'.keep) (by simp) ha) (N' _ (.head _)).1 fun tk' => ?_
      k_steps
      refine wpAny_mono (flat_end rfl (by decide) rfl (by decide) rfl rfl rfl (fun _ => rfl) (by k_is) (by k_is) rfl rfl F'.ns rfl (oRl _ (N' (R, oR) (by simp)).1) (cg.push F' rfl rfl) (Ts.ex (.of_keeps (fs := []) F'.keep) hts₂) hfl (fun hne => by have := hdp hne; show dp + 1 + 2 * d + 40 < recursionLimit; omega) ih) (fun v s' h => fin _ _ F'.keep v s' h) fun _ _ f => f
    · replace ha := exg.tuple (by simp) ha
      k_steps
      (with_reducible rename Fr g _ _ _ => F'); (with_reducible rename News g _ _ _ => N')
      refine isi_tuple_tuple (Ex.tuple (fs := []) (ws := []) (.of_keeps F'.keep) (by simp) ha) (N' _ (.head _)).1 fun tk' => ?_
      k_steps
      refine wpAny_mono (flat_end rfl (by decide) rfl (by decide) rfl rfl rfl (fun _ => rfl) (by k_is) (by k_is) rfl rfl F'.ns rfl (oRl _ (N' (R, oR) (by simp)).1) (cg.push F' rfl rfl) (Ts.ex (.of_keeps (fs := []) F'.keep) hts₂) hfl (fun hne => by have := hdp hne; show dp + 1 + 2 * d + 40 < recursionLimit; omega) ih) (fun v s' h => fin _ _ F'.keep v s' h) fun _ _ f => f

theorem flat_zero {l : List Env} {s : Shared} {dp un : Nat} {gd : Option (List Code)} (c : Cx w p loose mean mg mb l bs s.heap) (hdp : dp + 40 < recursionLimit) :
    codeAny (model Challenge.rw_il0027_01.row.prog w) (Ar dp un gd l) (.call (.ref 85) ⟨[.none], []⟩) (Ends l s (FlatPost s [])) s :=
  flat_node (d := 0) (vs := []) (.inl ⟨rfl, rfl⟩) (by simp) .nil (by simp) (fun h => absurd rfl h) c hdp (fun h => absurd rfl h)
theorem flat_call : ∀ (d : Nat) (v : Value) (fl : List Leaf) (cu : List Cu) (l : List Env) (s : Shared) (dp un : Nat) (gd : Option (List Code)), T s.heap d v fl cu → fl.length ≤ 10000 →
    Cx w p loose mean mg mb l bs s.heap → dp + 2 * d + 40 < recursionLimit →
    codeAny (model Challenge.rw_il0027_01.row.prog w) (Ar dp un gd l) (.call (.ref 85) ⟨[v], []⟩) (Ends l s (FlatPost s fl)) s
  | 0, v, fl, cu, l, s, dp, un, gd, ht, hfl, c, hdp => by
    cases ht with
    | none => exact flat_zero c (by omega)
    | int => exact flat_leaf (.inl ⟨_, _, rfl, rfl⟩) c (by omega)
    | str => exact flat_leaf (.inr ⟨_, _, rfl, rfl⟩) c (by omega)
  | d + 1, v, fl, cu, l, s, dp, un, gd, ht, hfl, c, hdp => by
    have ih := flat_call d
    cases ht with
    | none => exact flat_zero c (by omega)
    | int => exact flat_leaf (.inl ⟨_, _, rfl, rfl⟩) c (by omega)
    | str => exact flat_leaf (.inr ⟨_, _, rfl, rfl⟩) c (by omega)
    | list hl hn ts => exact flat_node (.inr (.inl ⟨_, rfl, hl⟩)) hn ts hfl (fun _ => ih) c (by omega) (fun _ => hdp)
    | tup hl hn ts => exact flat_node (.inr (.inr ⟨_, rfl, hl⟩)) hn ts hfl (fun _ => ih) c (by omega) (fun _ => hdp)
end

section
variable {w : World} {p : Program} {loose : List Str} {mean : ExcName → Option Value} {mg mb : Str → Option Value} {bs : Heap}
theorem node_end {α : Type} {F : α → Value → Prop} {ps : List (List α)} {l : List Env} {env : Env} {scope : Scope} {x1 x2 f : Str} {p1 p2 pe pf px pc pos : Pos} {i1 : Expr} {fa : Addr} {s₁ : Shared} {dp un n : Nat} {gd : Option (List Code)} {P : Nat → Value → Prop}
    (hclos : closureFor scope env = pure []) (hcell : ∀ y ∈ scope.names, y.2 ≠ .cell) (hkind : scope.kind = .function) (hnames : ∀ y ∈ scope.names, y.2 = .local → scope.names.lookup y.1 = some .local)
    (hx1 : scope.names.lookup x1 = some .local) (hx2 : scope.names.lookup x2 = some .local) (hg : env.globals = mainGlobals)
    (hf : ∀ C, (compEnvC scope [] C env).kindOf f = some .globalImplicit)
    (e : nsIn (hd.heap_39 w.params) mainGlobals f = some (some (.ref fa))) (ke : keepIn (hd.heap_39 w.params) (.ref fa) = true)
    (c : Cx w p loose mean mg mb (env :: l) bs s₁.heap)
    (hsrc : wpAny (model Challenge.rw_il0027_01.row.prog w) (Ar dp un gd (env :: l)) (eval i1 env) (fun xv s₂ => wpAny (model Challenge.rw_il0027_01.row.prog w) (Ar dp un gd (env :: l)) (pyIter xv) (fun it s₃ => Mv (frs (env :: l)) [] Same s₁ s₃ ∧ ∃ I, it = .ref I ∧ ItAt s₃.heap I n P ∧ s₁.heap.get? I = none) noErr s₂) noErr s₁)
    (hpl : ps.length = n) (hlen : ps.flatten.length ≤ 10000)
    (hcall : ∀ i v (s' : Shared), P i v → i < n → Mv (frs (env :: l)) [] Same s₁ s' → Cx w p loose mean mg mb (env :: l) bs s'.heap → ∃ q : List α, ps[i]? = some q ∧
      codeAny (model Challenge.rw_il0027_01.row.prog w) (Ar dp un gd (env :: l)) (.call (.ref fa) ⟨[v], []⟩) (Ends (env :: l) s' (ListPost s' (Paired F q))) s')
    (hs1 : ∀ x, foldedSetIterable i1 env x = pure x := by intro _; rfl)
    (hd1 : (x1 == ("__debug__" : Str)) = false := by decide) (hd2 : (x2 == ("__debug__" : Str)) = false := by decide) (hd3 : (f == ("__debug__" : Str)) = false := by decide) :
    wpAny (model Challenge.rw_il0027_01.row.prog w) (Ar dp un gd (env :: l)) (eval (.ListComp (.Name x2 pe) [⟨.Name x1 p1, i1, [], 0⟩, ⟨.Name x2 p2, .Call (.Name f pf) [.Name x1 px] [] pc, [], 0⟩] scope pos) env)
      (fun v s' => ∃ (D : Addr) (out : List Value), v = .ref D ∧ s₁.heap.get? D = none ∧ s'.heap.IsList D out.toArray ∧ Paired F ps.flatten out ∧ Mv (frs (env :: l)) [] Same s₁ s') noErr s₁ := by
  refine wpAny_mono (rec_tail (G := fun i vs => ∃ q : List α, ps[i]? = some q ∧ Paired F q vs) hclos hcell hkind hnames hx1 hx2 hg hf e ke c hsrc (fun i v s' hP hi mv c' => ?_)
    (fun i out => Paired F (ps.take i).flatten out) .nil (fun i v out vs _ _ hO hG => ?_) hs1 hd1 hd2 hd3) (fun v s' h => ?_) fun _ _ f => f
  · obtain ⟨q, hq, hc⟩ := hcall i v s' hP hi mv c'
    refine codeAny_mono hc fun r s'' hr => ?_
    obtain ⟨r, rfl, mv', R, vs, rfl, hR, hl, hp⟩ := hr
    exact ⟨_, rfl, mv', R, vs, rfl, hR, hl, q, hq, hp⟩
  · obtain ⟨q, hq, hp⟩ := hG
    rw [flatten_take_succ ps i q hq]
    have := Paired.append' hO hp
    refine ⟨this, ?_⟩
    rw [← this.length, ← flatten_take_succ ps i q hq]
    have := flatten_take_le ps (i + 1)
    omega
  · obtain ⟨D, out, rfl, hD, hl, hO, mv⟩ := h
    rw [List.take_of_length_le (by rw [hpl]; exact Nat.le_refl _)] at hO
    exact ⟨D, out, rfl, hD, hl, hO, mv⟩

/-- f(x, g): a def of the text, a local, a built-in name -/
theorem call2b {M : Model} {A : Around} {E : Value → Shared → Prop} {s : Shared} {env : Env} {Q : Value → Shared → Prop} {l : List Env} {f x g : Str} {fp xp gp pos : Pos} {a : Addr} {v u : Value} {m : Str → Option Value} (c : Cx w p loose mean mg mb l bs s.heap) (hg : env.globals = mainGlobals) (hb : env.builtins = builtinsNs) (hk : env.scope.kind = .function)
    (hf : env.kindOf f = some .globalImplicit) (hx : env.kindOf x = some .local) (hgk : env.kindOf g = some .globalImplicit)
    (e : nsIn (hd.heap_39 w.params) mainGlobals f = some (some (.ref a))) (ke : keepIn (hd.heap_39 w.params) (.ref a) = true) (eg : nsIn (hd.heap_39 w.params) mainGlobals g = some none) (hu : bootBuiltins g = some u) (hn : s.heap.Ns env.locals m) (hv : m x = some v)
    (h : wpAny M A (call (.ref a) [v, u]) Q E s) (hgn : g ≠ "__name__" := by decide) (hd1 : (f == ("__debug__" : Str)) = false := by decide) (hd2 : (x == ("__debug__" : Str)) = false := by decide) (hd3 : (g == ("__debug__" : Str)) = false := by decide) :
    wpAny M A (eval (.Call (.Name f fp) [.Name x xp, .Name g gp] [] pos) env) Q E s := by
  refine Call_ (ev_global c hg hk hf e ?_ hd1)
  exact callWith_K c.Kh ke (spliced_cons (ev_local hk hx hn hv (spliced_cons (ev_builtin c hg hb hk hgk eg hu (spliced_nil ⟨c.Kh, h⟩) hgn hd3)) hd2))
end

section
variable {w : World} {p : Program} {loose : List Str} {mean : ExcName → Option Value} {mg mb : Str → Option Value} {bs : Heap}
abbrev CutPost (s : Shared) (cu : List Cu) : Value → Heap → Prop := ListPost s (Paired cuIs cu)
set_option maxHeartbeats 4000000 in
theorem cut_leaf {v : Value} {lf : Cu} {l : List Env} {s : Shared} {dp un : Nat} {gd : Option (List Code)}
    (hv : (∃ i t, v = .int i t ∧ lf = .int i) ∨ (∃ (a : Addr) (vs : List Value), v = .ref a ∧ s.heap.IsList a vs.toArray ∧ lf = .list a) ∨ (∃ c t, v = .str ⟨#[c]⟩ t ∧ lf = .sign ⟨#[c]⟩))
    (c : Cx w p loose mean mg mb l bs s.heap) (hdp : dp + 40 < recursionLimit) :
    codeAny (model Challenge.rw_il0027_01.row.prog w) (Ar dp un gd l) (.call (.ref 90) ⟨[v], []⟩) (Ends l s (CutPost s [lf])) s := by
  have X : (hd.heap_39 w.params).In s.heap := c.Kh
  revert X
  k_fill
  intro X
  refine' enter c ?k6 ?k7 ?k8 ?k9 ?kB ?c5 ?_ ?c2 ?c3 ?c4
  case k6 => k_is
  case k7 => k_is
  case k8 => omega
  case k9 => exact BindsTo.of_eq rfl
  case kB => exact locs rfl
  case c5 => decide
  case c2 => rfl
  case c3 => rfl
  case c4 => rfl
  intro h₁ F N B X' T'
  clear X
  try dsimp only
  have c1 := fun (env : Env) (hf : env.frame = some s.heap.objs.size) (hk : env.scope.kind = .function) => c.push F hf hk
  refine wpAny_execs_cons (wpAny_mono (row_comp (fs := s.heap.objs.size :: frs l) (QQ := fun n P => n = 1 ∧ ∀ u, P 0 u → cuIs lf u) rfl F.ns rfl rfl (by decide) rfl (by decide) rfl rfl rfl ?_) (fun f s₂ h₂ => ?_) fun _ _ q => q)
  · refine call2b (u := .type "list") (c.keeps F.keep) rfl rfl rfl rfl rfl rfl (by k_is) (by k_is) (by k_is) (by decide +kernel) F.ns rfl ?_
    rcases hv with ⟨i, t, rfl, rfl⟩ | ⟨a, vs, rfl, ha, rfl⟩ | ⟨c, t, rfl, rfl⟩
    · refine' ai_use ?hc fun I s' mv hI it => ⟨mv, I, _, _, rfl, it, hI, ?sz, ?q⟩
      case hc => exact aj_int (c1 _ rfl rfl) (by show dp + 1 + 10 < recursionLimit; omega)
      case sz => decide
      case q => exact ⟨rfl, fun u hu => by cases hu; exact ⟨_, rfl⟩⟩
    · refine' ai_use ?hc fun I s' mv hI it => ⟨mv, I, _, _, rfl, it, hI, ?sz, ?q⟩
      case hc => exact aj_list (c1 _ rfl rfl) (by show dp + 1 + 10 < recursionLimit; omega) (Ex.list (fs := []) (ws := []) (.of_keeps F.keep) (by simp) ha)
      case sz => decide
      case q => exact ⟨rfl, fun u hu => by cases hu; rfl⟩
    · refine' ai_use ?hc fun I s' mv hI it => ⟨mv, I, _, _, rfl, it, hI, ?sz, ?q⟩
      case hc => exact aj_str (c1 _ rfl rfl) (by show dp + 1 + 10 < recursionLimit; omega)
      case sz => show 1 ≤ 10000; decide
      case q => exact ⟨rfl, fun u hu => by obtain ⟨c, t, hc, rfl⟩ := hu; cases hc; exact ⟨_, rfl⟩⟩
  · obtain ⟨rfl, R, ys, n, P, ⟨rfl, hq⟩, hns, hR, hylen, hys, hRn, hRL, mv⟩ := h₂
    obtain ⟨u, rfl⟩ : ∃ u, ys = [u] := by
      match ys, hylen with
      | [u], _ => exact ⟨u, rfl⟩
    have hu := hq u (hys 0 u rfl)
    clear hq
    have hRs : s.heap.get? R = none := none_of_keeps F.keep hRn
    obtain ⟨g, Fg, exg, cg, gn⟩ := reground' c F mv.heap (fun b hb => by rw [List.mem_singleton] at hb; rw [hb]; exact Heap.get?_none_of_le (Nat.le_refl _)) hns
    obtain ⟨hp₂, gens₂, dr₂, tk₂, os₂⟩ := s₂
    obtain ⟨mvh, mvg, mvd, mvo⟩ := mv
    cases mvg; cases mvd; cases mvo
    obtain ⟨oR, hoR, hcR, nR, hdR⟩ := hR
    have Ng : News g s.heap.objs.size hp₂ [(R, oR)] := fun q hq => by
      obtain rfl : q = (R, oR) := by simpa using hq
      exact ⟨hoR, hRL, gn R hRs⟩
    have Bg : Below (Ar dp un gd l) bs l g := cg.below
    have Xg := cg.Kh
    have Tg := cg.Th
    clear F N B X' T' hRn hns c1 hys hRL mvh
    refine abs_post fun Q hQ => ?_
    have fin : ∀ h' tk m, Fr g s.heap.objs.size h' m → h'.get? R = some oR → Q (.ret (.ref R)) { s with heap := h', toks := tk } := fun h' tk m F' e =>
      hQ _ _ ⟨⟨exg.trans (.of_keeps F'.keep), rfl, rfl, rfl⟩, R, [u], rfl, hRs, ⟨oR, e, hcR, nR, hdR⟩, .cons hu .nil⟩
    clear hQ
    rcases hv with ⟨i, t, rfl, rfl⟩ | ⟨a, vs, rfl, ha, rfl⟩ | ⟨c, t, rfl, rfl⟩
    · k_steps
      (with_reducible rename Fr g _ _ _ => F'); (with_reducible rename News g _ _ _ => N')
      exact fin _ _ _ F' (N' (R, oR) (by simp)).1
    · replace ha := exg.list (by simp) ha
      k_steps
      (with_reducible rename Fr g _ _ _ => F'); (with_reducible rename News g _ _ _ => N')
      exact fin _ _ _ F' (N' (R, oR) (by simp)).1
    · k_steps
      exact fin _ _ _ Fg hoR
set_option maxHeartbeats 4000000 in
theorem cut_node {v : Value} {ps : List (List Cu)} {n : Nat} {P : Nat → Value → Prop} {l : List Env} {s : Shared} {dp un : Nat} {gd : Option (List Code)}
    (hv : (v = .none ∧ n = 0 ∧ P = fun j v => ([] : List Value)[j]? = some v) ∨ (∃ (a : Addr) (vs : List Value), v = .ref a ∧ s.heap.IsTuple a vs.toArray ∧ n = vs.length ∧ P = fun j v => vs[j]? = some v) ∨ (∃ x t, v = .str x t ∧ x.cps.size ≠ 1 ∧ n = x.cps.size ∧ P = SignAt x))
    (hn : n ≤ 10000) (hpl : ps.length = n) (hlen : ps.flatten.length ≤ 10000)
    (hcall : ∀ (i : Nat) (v : Value) (l' : List Env) (s' : Shared) (dp' un' : Nat) (gd' : Option (List Code)), Ex (s.heap.objs.size :: frs l) [] s.heap s'.heap → P i v → Cx w p loose mean mg mb l' bs s'.heap → dp' ≤ dp + 2 → ∃ q : List Cu, ps[i]? = some q ∧
      codeAny (model Challenge.rw_il0027_01.row.prog w) (Ar dp' un' gd' l') (.call (.ref 90) ⟨[v], []⟩) (Ends l' s' (ListPost s' (Paired cuIs q))) s')
    (c : Cx w p loose mean mg mb l bs s.heap) (hdp : dp + 40 < recursionLimit) :
    codeAny (model Challenge.rw_il0027_01.row.prog w) (Ar dp un gd l) (.call (.ref 90) ⟨[v], []⟩) (Ends l s (CutPost s ps.flatten)) s := by
  have X : (hd.heap_39 w.params).In s.heap := c.Kh
  revert X
  k_fill
  intro X
  refine' enter c ?k6 ?k7 ?k8 ?k9 ?kB ?c5 ?_ ?c2 ?c3 ?c4
  case k6 => k_is
  case k7 => k_is
  case k8 => omega
  case k9 => exact BindsTo.of_eq rfl
  case kB => exact locs rfl
  case c5 => decide
  case c2 => rfl
  case c3 => rfl
  case c4 => rfl
  intro h₁ F N B X' T'
  clear X
  try dsimp only
  have c1 := fun (env : Env) (hf : env.frame = some s.heap.objs.size) (hk : env.scope.kind = .function) => c.push F hf hk
  refine wpAny_execs_cons (wpAny_mono (row_comp (fs := s.heap.objs.size :: frs l) (QQ := fun n' P' => n' = n ∧ P' = P) rfl F.ns rfl rfl (by decide) rfl (by decide) rfl rfl rfl ?_) (fun f s₂ h₂ => ?_) fun _ _ q => q)
  · refine call2b (u := .type "list") (c.keeps F.keep) rfl rfl rfl rfl rfl rfl (by k_is) (by k_is) (by k_is) (by decide +kernel) F.ns rfl ?_
    rcases hv with ⟨rfl, rfl, rfl⟩ | ⟨a, vs, rfl, ha, rfl, rfl⟩ | ⟨x, t, rfl, hx, rfl, rfl⟩
    · refine' ai_use ?hc fun I s' mv hI it => ⟨mv, I, _, _, rfl, it, hI, ?sz, ?q⟩
      case hc => exact aj_none (c1 _ rfl rfl) (by show dp + 1 + 10 < recursionLimit; omega)
      case sz => decide
      case q => exact ⟨rfl, rfl⟩
    · refine' ai_use ?hc fun I s' mv hI it => ⟨mv, I, _, _, rfl, it, hI, ?sz, ?q⟩
      case hc => exact aj_tuple (c1 _ rfl rfl) (by show dp + 1 + 10 < recursionLimit; omega) (Ex.tuple (fs := []) (ws := []) (.of_keeps F.keep) (by simp) ha)
      case sz => exact hn
      case q => exact ⟨rfl, rfl⟩
    · refine' ai_use ?hc fun I s' mv hI it => ⟨mv, I, _, _, rfl, it, hI, ?sz, ?q⟩
      case hc => exact aj_str (c1 _ rfl rfl) (by show dp + 1 + 10 < recursionLimit; omega)
      case sz => exact hn
      case q => exact ⟨rfl, rfl⟩
  · obtain ⟨rfl, R, ys, _, _, ⟨rfl, rfl⟩, hns, hR, hylen, hys, hRn, hRL, mv⟩ := h₂
    have hys' := hys
    have hRs : s.heap.get? R = none := none_of_keeps F.keep hRn
    obtain ⟨g, Fg, exg, cg, gn⟩ := reground' c F mv.heap (fun b hb => by rw [List.mem_singleton] at hb; rw [hb]; exact Heap.get?_none_of_le (Nat.le_refl _)) hns
    obtain ⟨hp₂, gens₂, dr₂, tk₂, os₂⟩ := s₂
    obtain ⟨mvh, mvg, mvd, mvo⟩ := mv
    cases mvg; cases mvd; cases mvo
    obtain ⟨oR, hoR, hcR, nR, hdR⟩ := hR
    have Ng : News g s.heap.objs.size hp₂ [(R, oR)] := fun q hq => by
      obtain rfl : q = (R, oR) := by simpa using hq
      exact ⟨hoR, hRL, gn R hRs⟩
    have Bg : Below (Ar dp un gd l) bs l g := cg.below
    have Xg := cg.Kh
    have Tg := cg.Th
    clear F N B X' T' hRn hns c1 hys hRL mvh
    refine abs_post fun Q hQ => ?_
    have fin : ∀ h' tk, (∀ b o, g.get? b = some o → h'.get? b = some o) → ∀ v s', (∃ (D : Addr) (out : List Value), v = .ref D ∧ h'.get? D = none ∧ s'.heap.IsList D out.toArray ∧ Paired cuIs ps.flatten out ∧ Mv (s.heap.objs.size :: frs l) [] Same { s with heap := h', toks := tk } s') → Q (.ret v) s' := fun h' tk kp v s' h => by
      obtain ⟨D, out, rfl, hD, hl, hO, mv⟩ := h
      have ex : Ex (frs l) [] s.heap h' := exg.trans (.of_keeps kp)
      refine hQ _ _ ⟨⟨((ex.mono (fun _ q => .tail _ q) fun _ q => q).trans mv.heap).drop (fun b hb => ?_) (by simp), mv.gens, mv.drawn, mv.os⟩, D, out, rfl, ?_, hl, hO⟩
      · rcases List.mem_cons.mp hb with rfl | hb
        · exact .inr (Heap.get?_none_of_le (Nat.le_refl _))
        · exact .inl hb
      · cases q : s.heap.get? D with
        | none => rfl
        | some o => obtain ⟨sl, e⟩ := ex.up q (by simp); rw [hD] at e; cases e
    have oRl : ∀ h' : Heap, h'.get? R = some oR → h'.IsList R ys.toArray := fun h' e => ⟨oR, e, hcR, nR, hdR⟩
    have exgw : ∀ {h' : Heap}, (∀ b o, g.get? b = some o → h'.get? b = some o) → Ex (s.heap.objs.size :: frs l) [] s.heap h' := fun kp => (exg.trans (.of_keeps kp)).mono (fun _ q => .tail _ q) fun _ q => q
    clear hQ
    rcases hv with ⟨rfl, rfl, rfl⟩ | ⟨a, vs, rfl, ha, rfl, rfl⟩ | ⟨x, t, rfl, hx, rfl, rfl⟩
    · k_steps
      refine wpAny_mono (node_end (F := cuIs) (ps := ps) rfl (by decide) rfl (by decide) rfl rfl rfl (fun _ => rfl) (by k_is) (by k_is) (cg.push Fg rfl rfl) (src_list rfl rfl Fg.ns rfl (oRl _ hoR)) (hpl.trans hylen.symm) hlen (fun i v s' hP hi mv c' => hcall i v _ s' _ _ _ ((exgw Fg.keep).trans mv.heap) (hys' i v hP) c' (by show dp + 1 ≤ dp + 2; omega))) (fun v s' h => fin _ _ Fg.keep v s' h) fun _ _ f => f
    · replace ha := exg.tuple (by simp) ha
      k_steps
      refine wpAny_mono (node_end (F := cuIs) (ps := ps) rfl (by decide) rfl (by decide) rfl rfl rfl (fun _ => rfl) (by k_is) (by k_is) (cg.push Fg rfl rfl) (src_list rfl rfl Fg.ns rfl (oRl _ hoR)) (hpl.trans hylen.symm) hlen (fun i v s' hP hi mv c' => hcall i v _ s' _ _ _ ((exgw Fg.keep).trans mv.heap) (hys' i v hP) c' (by show dp + 1 ≤ dp + 2; omega))) (fun v s' h => fin _ _ Fg.keep v s' h) fun _ _ f => f
    · k_steps
      refine len_str (by show ¬ ((x.cps.size : Nat) : Int) ≥ 2 ^ 63; omega) ?_
      generalize hL : ((x.length : Nat) : Int) = L
      have hL1 : L ≠ 1 := by have : x.length = x.cps.size := rfl; omega
      k_steps
      · refine wpAny_mono (node_end (F := cuIs) (ps := ps) rfl (by decide) rfl (by decide) rfl rfl rfl (fun _ => rfl) (by k_is) (by k_is) (cg.push Fg rfl rfl) (src_list rfl rfl Fg.ns rfl (oRl _ hoR)) (hpl.trans hylen.symm) hlen (fun i v s' hP hi mv c' => hcall i v _ s' _ _ _ ((exgw Fg.keep).trans mv.heap) (hys' i v hP) c' (by show dp + 1 ≤ dp + 2; omega))) (fun v s' h => fin _ _ Fg.keep v s' h) fun _ _ f => f
      · exact absurd (by assumption) hL1
theorem sign_one {x : Str} (h : x.cps.size = 1) : ∃ c, x = ⟨#[c]⟩ := by
  obtain ⟨⟨l⟩⟩ := x
  match l, h with
  | [c], _ => exact ⟨c, rfl⟩
theorem signs_at {x : Str} {i c : Nat} (h : x.cps[i]? = some c) : ((signs x).map fun c => [c])[i]? = some [Cu.sign ⟨#[c]⟩] := by
  unfold signs
  rw [List.getElem?_map, List.getElem?_map, Array.getElem?_toList, h]
  rfl
theorem flatten_ones {α : Type} : ∀ l : List α, (l.map fun c => [c]).flatten = l
  | [] => rfl
  | a :: l => by simp [flatten_ones l]
theorem cut_str {x : Str} {t : Tok} {l : List Env} {s : Shared} {dp un : Nat} {gd : Option (List Code)} (hx : x.cps.size ≤ 10000) (c : Cx w p loose mean mg mb l bs s.heap) (hdp : dp + 50 < recursionLimit) :
    codeAny (model Challenge.rw_il0027_01.row.prog w) (Ar dp un gd l) (.call (.ref 90) ⟨[.str x t], []⟩) (Ends l s (CutPost s (signs x))) s := by
  by_cases h1 : x.cps.size = 1
  · obtain ⟨cp, rfl⟩ := sign_one h1
    exact cut_leaf (.inr (.inr ⟨_, _, rfl, rfl⟩)) c (by omega)
  · have h := cut_node (dp := dp) (ps := (signs x).map fun c => [c]) (n := x.cps.size) (P := SignAt x) (un := un) (gd := gd) (.inr (.inr ⟨x, t, rfl, h1, rfl, rfl⟩)) hx (by simp [signs]) (by rw [flatten_ones]; simp [signs]; omega)
      (fun i v l' s' dp' un' gd' _ hP c' hdp' => ?_) c (by omega)
    · rw [flatten_ones] at h
      exact h
    · obtain ⟨cp, u, hcp, rfl⟩ := hP
      exact ⟨_, signs_at hcp, cut_leaf (.inr (.inr ⟨_, _, rfl, rfl⟩)) c' (by omega)⟩
theorem cut_call : ∀ (d : Nat) (v : Value) (fl : List Leaf) (cu : List Cu) (l : List Env) (s : Shared) (dp un : Nat) (gd : Option (List Code)), T s.heap d v fl cu → cu.length ≤ 10000 →
    Cx w p loose mean mg mb l bs s.heap → dp + 2 * d + 50 < recursionLimit →
    codeAny (model Challenge.rw_il0027_01.row.prog w) (Ar dp un gd l) (.call (.ref 90) ⟨[v], []⟩) (Ends l s (CutPost s cu)) s
  | 0, v, fl, cu, l, s, dp, un, gd, ht, hfl, c, hdp => by
    cases ht with
    | none => exact cut_node (ps := []) (.inl ⟨rfl, rfl, rfl⟩) (by decide) rfl (by decide) (fun i v l' s' dp' un' gd' _ hP c' hdp' => by simp at hP) c (by omega)
    | int => exact cut_leaf (.inl ⟨_, _, rfl, rfl⟩) c (by omega)
    | str => exact cut_str (by simpa [signs] using hfl) c (by omega)
  | d + 1, v, fl, cu, l, s, dp, un, gd, ht, hfl, c, hdp => by
    have ih := cut_call d
    cases ht with
    | none => exact cut_node (ps := []) (.inl ⟨rfl, rfl, rfl⟩) (by decide) rfl (by decide) (fun i v l' s' dp' un' gd' _ hP c' hdp' => by simp at hP) c (by omega)
    | int => exact cut_leaf (.inl ⟨_, _, rfl, rfl⟩) c (by omega)
    | str => exact cut_str (by simpa [signs] using hfl) c (by omega)
    | list hl hn ts => exact cut_leaf (.inr (.inl ⟨_, _, rfl, hl, rfl⟩)) c (by omega)
    | tup hl hn ts =>
      obtain ⟨ps, rfl, rfl, hpl, hps⟩ := ts.parts
      refine cut_node (dp := dp) (un := un) (gd := gd) (ps := ps.map (·.2)) (.inr (.inl ⟨_, _, rfl, hl, rfl, rfl⟩)) (by omega) (by simpa using hpl) hfl (fun i v l' s' dp' un' gd' ex hP c' hdp' => ?_) c (by omega)
      obtain ⟨q, hq, ht⟩ := hps i v hP
      have hq2 : (ps.map (·.2))[i]? = some q.2 := by rw [List.getElem?_map, hq]; rfl
      have hle : q.2.length ≤ 10000 := by
        have := flatten_take_le (ps.map (·.2)) (i + 1)
        rw [flatten_take_succ (ps.map (·.2)) i q.2 hq2, List.length_append] at this
        omega
      exact ⟨q.2, hq2, ih v q.1 q.2 l' s' dp' un' gd' (T.ex ex ht) hle c' (by omega)⟩
end

section
variable {prog : Program} {w : World} {A : Around} {fs : List Addr}
/-- [one for one in ..] -/
theorem copy_comp {iter : Expr} {x : Str} {px px' pos : Pos} {scope : Scope} {env : Env} {s₁ : Shared} {n : Nat} {P : Nat → Value → Prop} (hh : A.handled = none)
    (hclos : closureFor scope env = pure []) (hcell : ∀ y ∈ scope.names, y.2 ≠ .cell) (hkind : scope.kind = .function) (hnames : ∀ y ∈ scope.names, y.2 = .local → scope.names.lookup y.1 = some .local)
    (hx : scope.names.lookup x = some .local) (hnn : n ≤ 10000)
    (hsrc : wpAny (model prog w) A (eval iter env) (fun xv s₂ => wpAny (model prog w) A (pyIter xv) (fun it s₃ => Mv fs [] Same s₁ s₃ ∧ ∃ I, it = .ref I ∧ ItAt s₃.heap I n P ∧ s₁.heap.get? I = none) noErr s₂) noErr s₁)
    (hs : ∀ x, foldedSetIterable iter env x = pure x := by intro _; rfl) (hd : (x == ("__debug__" : Str)) = false := by decide) :
    wpAny (model prog w) A (eval (.ListComp (.Name x px') [⟨.Name x px, iter, [], 0⟩] scope pos) env) (fun v s' => ∃ (R : Addr) (ys : List Value), v = .ref R ∧ s₁.heap.get? R = none ∧ s'.heap.IsList R ys.toArray ∧ ys.length = n ∧
      (∀ (i : Nat) (v : Value), ys[i]? = some v → P i v) ∧ Mv fs [] Same s₁ s') noErr s₁ := by
  refine comp_eval hclos hcell hkind hnames (wpAny_mono hsrc (fun xv s₂ h₂ => wpAny_mono h₂ (fun it s₃ h₃ => ?_) fun _ _ f => f) fun _ _ f => f) hs
  obtain ⟨mv₂, I, rfl, itat, hI⟩ := h₃
  obtain ⟨fp, St, W, hst, hfp⟩ := itat.iter (prog := prog) (w := w) (fs := fs)
  intro h₁ k1 k2 k3
  have mv₃ : Mv fs [] Same s₃ { s₃ with heap := h₁ } := Mv.of_keeps k1
  have st₃ : St 0 { s₃ with heap := h₁ } := (W A hh).frame 0 s₃ _ [] (hst s₃ rfl) mv₃ (by simp)
  refine ⟨(W A hh).self 0 _ _ _ st₃ ⟨rfl, rfl⟩, ?_⟩
  have hDC : s₃.heap.objs.size ≠ s₃.heap.objs.size + 1 := Nat.ne_of_lt (Nat.lt_succ_self _)
  have hDf : s₃.heap.objs.size ∉ fp := fun q => Nat.lt_irrefl _ (hfp _ q)
  have hCf : s₃.heap.objs.size + 1 ∉ fp := fun q => Nat.lt_irrefl _ (Nat.lt_of_succ_lt (hfp _ q))
  refine codeAny_mono (comp_loop1 (C := s₃.heap.objs.size + 1) (cenv := compEnvC scope [] (s₃.heap.objs.size + 1) env) (W A hh) rfl (lookup_relabel_local hx) (by simp [compEnvC, relabel, hkind]) hDC hDf hCf
    (fun j ys _ => ys.length = j ∧ ∀ (i : Nat) (v : Value), ys[i]? = some v → P i v) { s₃ with heap := h₁ } (fun _ _ _ _ q _ => q) (fun j v s₄ m₄ ys hj hP hns hmx hl inv _ => ?_) st₃ k3 k2 ⟨rfl, by simp⟩) fun r s' hr => ?_
  · refine tail1_nil (wpAny_mono (emit (fs := fs) (Φ := fun y s => y = v) hl (by rw [inv.1, sizeLine_eq]; omega) (ev_local (by simp [compEnvC, relabel, hkind]) (lookup_relabel_local hx) hns hmx ⟨.refl Same.refl _, rfl⟩ hd)) (fun fin s₅ h₅ => ?_) fun _ _ f => f)
    obtain ⟨rfl, y, _, hy', hl₅, _, mv₅⟩ := h₅
    subst hy'
    refine ⟨rfl, [y], hl₅, ⟨by simp [inv.1], fun i u hu => ?_⟩, mv₅⟩
    rcases Nat.lt_trichotomy i ys.length with h | h | h
    · exact inv.2 i u (by rwa [List.getElem?_append_left h] at hu)
    · subst h; simp at hu; subst hu; rw [inv.1]; exact hP
    · rw [List.getElem?_eq_none (by simp; omega)] at hu; cases hu
  · obtain ⟨rfl, ys, m', inv, hl, hnC, mv⟩ := hr
    refine ⟨rfl, ⟨m', hnC⟩, fun h' hs' => ⟨_, ys, rfl, ex_fresh mv₂.heap, (Ex.sameBut (fs := fs) (ws := [s₃.heap.objs.size + 1]) hs' (by simp)).list (by simp) hl, inv.1, inv.2, ?_⟩⟩
    have hC1 : s₁.heap.get? (s₃.heap.objs.size + 1) = none := by
      cases q : s₁.heap.get? (s₃.heap.objs.size + 1) with
      | none => rfl
      | some o => obtain ⟨sl, e⟩ := mv₂.heap.up q (by simp); exact absurd (Nat.lt_of_succ_lt (Heap.lt_size e)) (Nat.lt_irrefl _)
    have a : Mv fs [s₃.heap.objs.size, s₃.heap.objs.size + 1, I] Same s₁ { s' with heap := h' } :=
      (((mv₂.mono (fun _ q => q) (by simp) fun _ _ q => q).trans Same.trans (mv₃.mono (fun _ q => q) (by simp) fun _ _ q => q)).trans Same.trans mv).trans Same.trans ⟨Ex.sameBut hs' (by simp), rfl, rfl, rfl⟩
    refine a.drop (fun _ q => .inl q) fun b hb => .inr ?_
    simp only [List.mem_cons, List.not_mem_nil, or_false] at hb
    rcases hb with rfl | rfl | rfl
    · exact ex_fresh mv₂.heap
    · exact hC1
    · exact hI
theorem src_str {A : Around} {fs : List Addr} {env : Env} {x : Str} {px : Pos} {s : Shared} {m : Str → Option Value} {y : Str} {t : Tok} (hk : env.scope.kind = .function) (hx : env.kindOf x = some .local) (hn : s.heap.Ns env.locals m) (hm : m x = some (.str y t)) (hd : (x == ("__debug__" : Str)) = false := by decide) :
    wpAny (model Challenge.rw_il0027_01.row.prog w) A (eval (.Name x px) env) (fun xv s₂ => wpAny (model Challenge.rw_il0027_01.row.prog w) A (pyIter xv) (fun it s₃ => Mv fs [] Same s s₃ ∧ ∃ I, it = .ref I ∧ ItAt s₃.heap I y.cps.size (SignAt y) ∧ s.heap.get? I = none) noErr s₂) noErr s := by
  refine ev_local hk hx hn hm ?_ hd
  cases ha : y.cps.all (· < 128)
  · exact wpAny_pyIter_wide ha ⟨Mv.of_keeps fun b o e => Heap.get?_push_of_some _ e, _, rfl, .wide (t := t) ⟨_, Heap.get?_push_size _ rfl, rfl, rfl⟩, Heap.get?_none_of_le (Nat.le_refl _)⟩
  · exact wpAny_pyIter_ascii ha ⟨Mv.of_keeps fun b o e => Heap.get?_push_of_some _ e, _, rfl, .ascii (t := t) ⟨_, Heap.get?_push_size _ rfl, rfl, rfl⟩, Heap.get?_none_of_le (Nat.le_refl _)⟩
end
section
variable {w : World} {p : Program} {loose : List Str} {mean : ExcName → Option Value} {mg mb : Str → Option Value} {bs : Heap}
theorem signs_carried {x : Str} {ys : List Value} (h : CarriedAll ys (List.map PyData.str (List.filter (fun _ => true) (PyProof.Rows.signs x)))) : Paired cuIs (signs x) ys := by
  have key : ∀ (ns : List Nat) (ys : List Value), CarriedAll ys (List.map PyData.str (List.map (fun n => (⟨#[n]⟩ : Str)) ns)) → Paired cuIs (ns.map fun c => Cu.sign ⟨#[c]⟩) ys := by
    intro ns
    induction ns with
    | nil => intro ys h; cases h; exact .nil
    | cons n ns ih =>
      intro ys h
      cases h with
      | cons a b =>
        cases a
        exact .cons ⟨_, rfl⟩ (ih _ b)
  have hf : List.filter (fun _ : Str => true) (PyProof.Rows.signs x) = PyProof.Rows.signs x := List.filter_eq_self.mpr (by simp)
  rw [hf] at h
  exact key _ _ h

set_option maxHeartbeats 4000000 in
theorem due_leaf {v : Value} {cu : List Cu} {l : List Env} {s : Shared} {dp un : Nat} {gd : Option (List Code)}
    (hv : (v = .none ∧ cu = []) ∨ (∃ i t, v = .int i t ∧ cu = [.int i]) ∨ (∃ (a : Addr) (vs : List Value), v = .ref a ∧ s.heap.IsList a vs.toArray ∧ cu = [.list a]) ∨ (∃ x t, v = .str x t ∧ x.cps.size ≤ 10000 ∧ cu = signs x))
    (c : Cx w p loose mean mg mb l bs s.heap) (hdp : dp + 40 < recursionLimit) :
    codeAny (model Challenge.rw_il0027_01.row.prog w) (Ar dp un gd l) (.call (.ref 95) ⟨[v], []⟩) (Ends l s (CutPost s cu)) s := by
  have X : (hd.heap_39 w.params).In s.heap := c.Kh
  revert X
  k_fill
  intro X
  refine' enter c ?k6 ?k7 ?k8 ?k9 ?kB ?c5 ?_ ?c2 ?c3 ?c4
  case k6 => k_is
  case k7 => k_is
  case k8 => omega
  case k9 => exact BindsTo.of_eq rfl
  case kB => exact locs rfl
  case c5 => decide
  case c2 => rfl
  case c3 => rfl
  case c4 => rfl
  intro h₁ F N B X' T'
  clear X
  try dsimp only
  refine abs_post fun Q hQ => ?_
  have fin : ∀ h' tk m R vs, Fr s.heap s.heap.objs.size h' m → s.heap.get? R = none → h'.IsList R vs.toArray → Paired cuIs cu vs → Q (.ret (.ref R)) { s with heap := h', toks := tk } := fun h' tk m R vs F' e hl hp =>
    hQ _ _ ⟨⟨.of_keeps F'.keep, rfl, rfl, rfl⟩, R, vs, rfl, e, hl, hp⟩
  clear hQ
  rcases hv with ⟨rfl, rfl⟩ | ⟨i, t, rfl, rfl⟩ | ⟨a, vs, rfl, ha, rfl⟩ | ⟨x, t, rfl, hx, rfl⟩
  · k_steps
    (with_reducible rename Fr s.heap _ _ _ => F'); (with_reducible rename News s.heap _ _ _ => N')
    exact fin _ _ _ _ [] F' (N' _ (.head _)).2.2 ⟨_, (N' _ (.head _)).1, rfl, _, rfl⟩ .nil
  · k_steps
    (with_reducible rename Fr s.heap _ _ _ => F'); (with_reducible rename News s.heap _ _ _ => N')
    exact fin _ _ _ _ [_] F' (N' _ (.head _)).2.2 ⟨_, (N' _ (.head _)).1, rfl, _, rfl⟩ (.cons ⟨_, rfl⟩ .nil)
  · k_steps
    (with_reducible rename Fr s.heap _ _ _ => F'); (with_reducible rename News s.heap _ _ _ => N')
    exact fin _ _ _ _ [_] F' (N' _ (.head _)).2.2 ⟨_, (N' _ (.head _)).1, rfl, _, rfl⟩ (.cons rfl .nil)
  · k_steps
    rename_i F' _ e hl _ hc
    exact fin _ _ _ _ _ F' e hl (signs_carried hc)

set_option maxHeartbeats 4000000 in
theorem due_tuple {a : Addr} {vs : List Value} {ps : List (List Cu)} {l : List Env} {s : Shared} {dp un : Nat} {gd : Option (List Code)} (ha : s.heap.IsTuple a vs.toArray)
    (hpl : ps.length = vs.length) (hlen : ps.flatten.length ≤ 10000)
    (hcall : ∀ (i : Nat) (v : Value) (l' : List Env) (s' : Shared) (dp' un' : Nat) (gd' : Option (List Code)), Ex (s.heap.objs.size :: frs l) [] s.heap s'.heap → vs[i]? = some v → Cx w p loose mean mg mb l' bs s'.heap → dp' ≤ dp + 2 → ∃ q : List Cu, ps[i]? = some q ∧
      codeAny (model Challenge.rw_il0027_01.row.prog w) (Ar dp' un' gd' l') (.call (.ref 95) ⟨[v], []⟩) (Ends l' s' (ListPost s' (Paired cuIs q))) s')
    (c : Cx w p loose mean mg mb l bs s.heap) (hdp : dp + 40 < recursionLimit) :
    codeAny (model Challenge.rw_il0027_01.row.prog w) (Ar dp un gd l) (.call (.ref 95) ⟨[.ref a], []⟩) (Ends l s (CutPost s ps.flatten)) s := by
  have X : (hd.heap_39 w.params).In s.heap := c.Kh
  revert X
  k_fill
  intro X
  refine' enter c ?k6 ?k7 ?k8 ?k9 ?kB ?c5 ?_ ?c2 ?c3 ?c4
  case k6 => k_is
  case k7 => k_is
  case k8 => omega
  case k9 => exact BindsTo.of_eq rfl
  case kB => exact locs rfl
  case c5 => decide
  case c2 => rfl
  case c3 => rfl
  case c4 => rfl
  intro h₁ F N B X' T'
  clear X
  try dsimp only
  refine abs_post fun Q hQ => ?_
  have fin : ∀ tk, ∀ v s', (∃ (D : Addr) (out : List Value), v = .ref D ∧ h₁.get? D = none ∧ s'.heap.IsList D out.toArray ∧ Paired cuIs ps.flatten out ∧ Mv (s.heap.objs.size :: frs l) [] Same { s with heap := h₁, toks := tk } s') → Q (.ret v) s' := fun tk v s' h => by
    obtain ⟨D, out, rfl, hD, hl, hO, mv⟩ := h
    have ex : Ex (frs l) [] s.heap h₁ := .of_keeps F.keep
    refine hQ _ _ ⟨⟨((ex.mono (fun _ q => .tail _ q) fun _ q => q).trans mv.heap).drop (fun b hb => ?_) (by simp), mv.gens, mv.drawn, mv.os⟩, D, out, rfl, none_of_keeps F.keep hD, hl, hO⟩
    rcases List.mem_cons.mp hb with rfl | hb
    · exact .inr (Heap.get?_none_of_le (Nat.le_refl _))
    · exact .inl hb
  have exgw : Ex (s.heap.objs.size :: frs l) [] s.heap h₁ := .of_keeps F.keep
  clear hQ
  k_steps
  refine wpAny_mono (node_end (F := cuIs) (ps := ps) rfl (by decide) rfl (by decide) rfl rfl rfl (fun _ => rfl) (by k_is) (by k_is) (c.push F rfl rfl) (src_tuple rfl rfl F.ns rfl (Ex.tuple (fs := []) (ws := []) (.of_keeps F.keep) (by simp) ha)) hpl hlen (fun i v s' hP hi mv c' => hcall i v _ s' _ _ _ (exgw.trans mv.heap) hP c' (by show dp + 1 ≤ dp + 2; omega))) (fun v s' h => fin _ v s' h) fun _ _ f => f

theorem due_call : ∀ (d : Nat) (v : Value) (fl : List Leaf) (cu : List Cu) (l : List Env) (s : Shared) (dp un : Nat) (gd : Option (List Code)), T s.heap d v fl cu → cu.length ≤ 10000 →
    Cx w p loose mean mg mb l bs s.heap → dp + 2 * d + 50 < recursionLimit →
    codeAny (model Challenge.rw_il0027_01.row.prog w) (Ar dp un gd l) (.call (.ref 95) ⟨[v], []⟩) (Ends l s (CutPost s cu)) s
  | 0, v, fl, cu, l, s, dp, un, gd, ht, hfl, c, hdp => by
    cases ht with
    | none => exact due_leaf (.inl ⟨rfl, rfl⟩) c (by omega)
    | int => exact due_leaf (.inr (.inl ⟨_, _, rfl, rfl⟩)) c (by omega)
    | str => exact due_leaf (.inr (.inr (.inr ⟨_, _, rfl, by simpa [signs] using hfl, rfl⟩))) c (by omega)
  | d + 1, v, fl, cu, l, s, dp, un, gd, ht, hfl, c, hdp => by
    have ih := due_call d
    cases ht with
    | none => exact due_leaf (.inl ⟨rfl, rfl⟩) c (by omega)
    | int => exact due_leaf (.inr (.inl ⟨_, _, rfl, rfl⟩)) c (by omega)
    | str => exact due_leaf (.inr (.inr (.inr ⟨_, _, rfl, by simpa [signs] using hfl, rfl⟩))) c (by omega)
    | list hl hn ts => exact due_leaf (.inr (.inr (.inl ⟨_, _, rfl, hl, rfl⟩))) c (by omega)
    | tup hl hn ts =>
      obtain ⟨ps, rfl, rfl, hpl, hps⟩ := ts.parts
      refine due_tuple (dp := dp) (un := un) (gd := gd) (ps := ps.map (·.2)) hl (by simpa using hpl) hfl (fun i v l' s' dp' un' gd' ex hP c' hdp' => ?_) c (by omega)
      obtain ⟨q, hq, ht⟩ := hps i v hP
      have hq2 : (ps.map (·.2))[i]? = some q.2 := by rw [List.getElem?_map, hq]; rfl
      have hle : q.2.length ≤ 10000 := by
        have := flatten_take_le (ps.map (·.2)) (i + 1)
        rw [flatten_take_succ (ps.map (·.2)) i q.2 hq2, List.length_append] at this
        omega
      exact ⟨q.2, hq2, ih v q.1 q.2 l' s' dp' un' gd' (T.ex ex ht) hle c' (by omega)⟩
end

/-- the text a number lays -/
def sl (n : Int) : Str := Txt.slice (Str.ofString "abab") none (some ((n.fdiv 6).fmod 5))
def lf (n : Int) : Leaf := if n.fmod 6 = 2 then .inr (sl n) else .inl (n.fdiv 6)
def leafOf (n : Int) : List Leaf := if n.fmod 6 < 3 then [lf n] else []
def isLeafV : Value → Bool
  | .int n _ => decide (n.fmod 6 < 3)
  | _ => false
def leafF (v y : Value) : Prop := ∃ n t, v = .int n t ∧ leafIs (lf n) y
theorem keptAll (h : Heap) : KeptH fun h' => ∀ b o, h.get? b = some o → h'.get? b = some o := fun _ _ k b o e => Heap.get?_push_of_some _ (k b o e)
theorem keepsTrans {a b c : Shared} (x : Keeps a b) (y : Keeps b c) : Keeps a c := by
  obtain ⟨h1, t1, rfl, k1⟩ := x
  obtain ⟨h2, t2, rfl, k2⟩ := y
  exact ⟨h2, t2, rfl, fun b o e => k2 b o (k1 b o e)⟩
theorem keepsTok {s : Shared} (tk : Nat) : Keeps s { s with toks := tk } := ⟨_, _, rfl, fun _ _ e => e⟩
theorem keepsPush {s : Shared} (ob : Obj) : Keeps s { s with heap := s.heap.push ob } := ⟨_, s.toks, rfl, fun _ _ e => Heap.get?_push_of_some _ e⟩
section
variable {prog : Program} {w : World} {A : Around} {E : Value → Shared → Prop} {s : Shared} {env : Env} {Q : Value → Shared → Prop}
/-- x // 6 and x % 6 -/
theorem ev_div {x : Str} {p1 p2 pos : Pos} {n k : Int} {t : Tok} {kd : Nat} {m : Str → Option Value} (hk : env.scope.kind = .function) (hx : env.kindOf x = some .local) (hn : s.heap.Ns env.locals m) (hv : m x = some (.int n t))
    (h0 : k ≠ 0) (hs : k.natAbs < 1073741824) (h : ∀ t tk, Q (.int (n.fdiv k) t) { s with toks := tk }) (hd : (x == ("__debug__" : Str)) = false := by decide) :
    wpAny (model prog w) A (eval (.BinOp (.Name x p1) .FloorDiv (.Constant (.int k) kd p2) pos) env) Q E s :=
  wpAny_BinOp (ev_local hk hx hn hv (wpAny_Constant_int (floordiv_int h0 (h _ _) (Or.inl (PyProof.noPylong_small hs)))) hd)
theorem ev_mod {x : Str} {p1 p2 pos : Pos} {n k : Int} {t : Tok} {kd : Nat} {m : Str → Option Value} (hk : env.scope.kind = .function) (hx : env.kindOf x = some .local) (hn : s.heap.Ns env.locals m) (hv : m x = some (.int n t))
    (h0 : k ≠ 0) (h : ∀ t tk, Q (.int (n.fmod k) t) { s with toks := tk }) (hd : (x == ("__debug__" : Str)) = false := by decide) :
    wpAny (model prog w) A (eval (.BinOp (.Name x p1) .Mod (.Constant (.int k) kd p2) pos) env) Q E s :=
  wpAny_BinOp (ev_local hk hx hn hv (wpAny_Constant_int (mod_int' h0 (h _ _))) hd)
/-- 'abab'[:x // 6 % 5] -/
theorem ev_slice {e : Expr} {x : Str} {kd : Nat} {p1 p2 pos : Pos} {z : Int} (he : ∀ Q' : Value → Shared → Prop, ∀ s₁ : Shared, Keeps s s₁ → (∀ t tk, Q' (.int z t) { s₁ with toks := tk }) → wpAny (model prog w) A (eval e env) Q' E s₁) (hx : x.length ≤ sizeLine)
    (h : ∀ t s', Keeps s s' → Q (.str (Txt.slice x none (some z)) t) s') (hp : evalPart (some e) env = eval e env := by rfl) :
    wpAny (model prog w) A (eval (.Subscript (.Constant (.str x) kd p1) (.Slice none (some e) none p2) pos) env) Q E s := by
  refine Subscript_ (wpAny_Constant_str (wpAny_Slice ?_))
  rw [evalPart_none]
  refine wpAny_pure ?_
  rw [hp]
  refine he _ _ (keepsTok _) fun t tk => ?_
  refine wpAny_pure ?_
  refine tail_of_ItemOn (ops := [.ref s.heap.objs.size, .str x s.toks]) (SBH.sliceItem_ns (keptAll s.heap) (fun b o e => e) (fun h' t' k hk => h t' _ ⟨_, _, rfl, hk⟩) hx) ?_ ?_
  · with_unfolding_all rfl
  · intro _; with_unfolding_all rfl
theorem leaf_elt {x : Str} {n : Int} {t : Tok} {m : Str → Option Value} {kd k1 k2 k3 k4 k5 : Nat} {p1 p2 p3 p4 p5 p6 p7 p8 p9 pa pb pc pd pe pf pg ph pi pj : Pos} (hk : env.scope.kind = .function) (hx : env.kindOf x = some .local) (hn : s.heap.Ns env.locals m) (hv : m x = some (.int n t)) (hd : (x == ("__debug__" : Str)) = false) (hlt : n.fmod 6 < 3) :
    wpAny (model prog w) A (eval (.Subscript (.List [.BinOp (.Name x p1) .FloorDiv (.Constant (.int 6) k1 p2) p3, .BinOp (.Name x p4) .FloorDiv (.Constant (.int 6) k2 p5) p6,
      .Subscript (.Constant (.str "abab") kd p7) (.Slice none (some (.BinOp (.BinOp (.Name x p8) .FloorDiv (.Constant (.int 6) k3 p9) pa) .Mod (.Constant (.int 5) k4 pb) pc)) none pd) pe] pf) (.BinOp (.Name x pg) .Mod (.Constant (.int 6) k5 ph) pi) pj) env)
      (fun y s₃ => leafF (.int n t) y ∧ Keeps s s₃) E s := by
  have lift : ∀ s' : Shared, Keeps s s' → s'.heap.Ns env.locals m := fun s' k => by
    obtain ⟨h', tk, rfl, k⟩ := k
    exact hn.keeps k
  refine Subscript_ (wpAny_List_spliced ?_)
  refine spliced_more (ev_div hk hx hn hv (by decide) (by decide) (fun t1 tk1 => ?_) hd)
  refine spliced_more (ev_div hk hx (lift _ (keepsTok _)) hv (by decide) (by decide) (fun t2 tk2 => ?_) hd)
  refine spliced_more (ev_slice (z := (n.fdiv 6).fmod 5) (fun Q' s₁ k hq => ?_) (by decide) (fun t3 s₃ k3 => ?_))
  · refine wpAny_BinOp (ev_div hk hx (lift _ ?_) hv (by decide) (by decide) (fun t1 tk1 => ?_) hd)
    · obtain ⟨h', tk, rfl, k⟩ := k
      exact ⟨h', _, rfl, k⟩
    · exact wpAny_Constant_int (mod_int' (by decide) (hq _ _))
  · refine spliced_none ⟨by show 3 ≤ sizeLine; decide, ?_⟩
    have k4 : Keeps s { s₃ with heap := s₃.heap.push { cls := .type "list", data := .seq [Value.int (n.fdiv 6) t1, Value.int (n.fdiv 6) t2, Value.str (Txt.slice "abab" none (some ((n.fdiv 6).fmod 5))) t3].toArray } } :=
      keepsTrans (b := s₃) (by obtain ⟨h', tk, rfl, k⟩ := k3; exact ⟨h', _, rfl, k⟩) (keepsPush _)
    refine ev_mod hk hx (lift _ k4) hv (by decide) (fun t5 tk5 => ?_) hd
    have hL : (s₃.heap.push { cls := .type "list", data := .seq [Value.int (n.fdiv 6) t1, Value.int (n.fdiv 6) t2, Value.str (Txt.slice "abab" none (some ((n.fdiv 6).fmod 5))) t3].toArray }).IsList s₃.heap.objs.size [Value.int (n.fdiv 6) t1, Value.int (n.fdiv 6) t2, Value.str (Txt.slice "abab" none (some ((n.fdiv 6).fmod 5))) t3].toArray := ⟨_, Heap.get?_push_size _ rfl, rfl, 0, rfl⟩
    have h0 : 0 ≤ n.fmod 6 := Int.fmod_nonneg_of_pos _ (by decide)
    obtain ⟨y, hy, hl⟩ : ∃ y, [Value.int (n.fdiv 6) t1, Value.int (n.fdiv 6) t2, Value.str (Txt.slice "abab" none (some ((n.fdiv 6).fmod 5))) t3].toArray[(n.fmod 6).toNat]? = some y ∧ leafIs (lf n) y := by
      have : n.fmod 6 = 0 ∨ n.fmod 6 = 1 ∨ n.fmod 6 = 2 := by omega
      unfold lf sl
      rcases this with e | e | e <;> rw [e]
      · exact ⟨_, rfl, _, rfl⟩
      · exact ⟨_, rfl, _, rfl⟩
      · exact ⟨_, rfl, _, rfl⟩
    exact tail_any hL.typeIs slot_list_getitem.lookup (wpAny_getItem_list hL h0 (by omega) hy ⟨⟨n, t, rfl, hl⟩, keepsTrans k4 (keepsTok _)⟩) (by with_unfolding_all rfl)
end

section
variable {w : World} {p : Program} {loose : List Str} {mean : ExcName → Option Value} {mg mb : Str → Option Value} {bs : Heap}
theorem ints_mem {v : Value} : ∀ {vs : List Value} {ns : List Int}, IntsAre vs ns → v ∈ vs → ∃ n t, v = .int n t ∧ n ∈ ns
  | _, _, .nil, h => by simp at h
  | _, _, .cons n t hs, h => by
    rcases List.mem_cons.1 h with rfl | h
    · exact ⟨n, t, rfl, by simp⟩
    · obtain ⟨m, u, e, hm⟩ := ints_mem hs h
      exact ⟨m, u, e, by simp [hm]⟩
theorem ints_length : ∀ {vs : List Value} {ns : List Int}, IntsAre vs ns → vs.length = ns.length
  | _, _, .nil => rfl
  | _, _, .cons n t hs => by simp [ints_length hs]
theorem leaves_made : ∀ {vs ys : List Value} {ns : List Int}, IntsAre vs ns → Paired leafF (vs.filter isLeafV) ys → Paired leafIs (ns.flatMap leafOf) ys
  | _, _, _, .nil, h => by simpa using (by cases h; exact Paired.nil)
  | _, _, _, .cons n t hs, h => by
    rw [List.flatMap_cons]
    by_cases hn : n.fmod 6 < 3
    · rw [List.filter_cons_of_pos (by simpa [isLeafV] using hn)] at h
      obtain ⟨⟩ := h
      rename_i y ys hF hP
      obtain ⟨n', t', e, hy⟩ := hF
      injection e with e1 e2
      subst e1
      rw [leafOf, if_pos hn]
      exact .cons hy (leaves_made hs hP)
    · rw [List.filter_cons_of_neg (by simpa [isLeafV] using hn)] at h
      rw [leafOf, if_neg hn]
      exact leaves_made hs h
set_option maxHeartbeats 4000000 in
theorem leaves_call {a : Addr} {vs : List Value} {ns : List Int} {l : List Env} {s : Shared} {dp un : Nat} {gd : Option (List Code)} (ha : s.heap.IsList a vs.toArray) (hi : IntsAre vs ns) (hlen : ns.length ≤ 1000)
    (c : Cx w p loose mean mg mb l bs s.heap) (hdp : dp + 40 < recursionLimit) :
    codeAny (model Challenge.rw_il0027_01.row.prog w) (Ar dp un gd l) (.call (.ref 80) ⟨[.ref a], []⟩) (Ends l s (ListPost s (Paired leafIs (ns.flatMap leafOf)))) s := by
  have X : (hd.heap_39 w.params).In s.heap := c.Kh
  revert X
  k_fill
  intro X
  refine' enter c ?k6 ?k7 ?k8 ?k9 ?kB ?c5 ?_ ?c2 ?c3 ?c4
  case k6 => k_is
  case k7 => k_is
  case k8 => omega
  case k9 => exact BindsTo.of_eq rfl
  case kB => exact locs rfl
  case c5 => decide
  case c2 => rfl
  case c3 => rfl
  case c4 => rfl
  intro h₁ F N B X' T'
  clear X
  try dsimp only
  refine wpAny_execs_cons (wpAny_Return_some (wpAny_ListComp_map isLeafV leafF rfl (by decide) (by decide) rfl (by decide) rfl ?_))
  refine ev_local rfl rfl F.ns rfl ?_
  have ha₁ : h₁.IsList a vs.toArray := Ex.list (fs := []) (ws := []) (.of_keeps F.keep) (by simp) ha
  refine ⟨a, vs.toArray, rfl, ha₁, ?_, fun C v s₂ m₂ E' hv hn hm hk => ?_, fun C v s₂ m₂ E' hv hp hn hm hk => ?_, fun D h' tk ys hD hl hF hk => ?_⟩
  · have e := ints_length hi
    have : (1000 : Nat) ≤ sizeLine := by decide
    show vs.toArray.size ≤ sizeLine
    rw [List.size_toArray]; omega
  · obtain ⟨n, t, rfl, -⟩ := ints_mem hi (by simpa using hv)
    refine wpAny_tests_one ?_
    k_steps
    exact ⟨_, _, rfl, fun _ _ e => e⟩
  · obtain ⟨n, t, rfl, -⟩ := ints_mem hi (by simpa using hv)
    exact leaf_elt rfl rfl hn hm (by decide) (by simpa [isLeafV] using hp)
  · refine ⟨⟨.of_keeps fun b o e => hk b o (F.keep b o e), rfl, rfl, rfl⟩, D, ys.toList, rfl, none_of_keeps F.keep hD, by simpa using hl, leaves_made hi (by simpa using hF)⟩
end

section
variable {w : World} {p : Program} {loose : List Str} {mean : ExcName → Option Value} {mg mb : Str → Option Value} {bs : Heap}
theorem Fr.pushed' {h₀ h : Heap} {L : Addr} {m : Str → Option Value} (F : Fr h₀ L h m) (ob : Obj) : Fr h₀ L (h.push ob) m := ⟨F.ns.keeps fun _ _ e => Heap.get?_push_of_some _ e, fun b o e => Heap.get?_push_of_some _ (F.keep b o e), F.above⟩
theorem ns_lt {h : Heap} {L : Addr} {m : Str → Option Value} (n : h.Ns L m) : L < h.objs.size := by
  obtain ⟨o, _, _, ho, _⟩ := n
  exact Heap.lt_size ho
/-- the row after i numbers, its things in news -/
def RowAt (h₀ : Heap) (ns : List Int) (i : Nat) (m : Str → Option Value) (news : List (Addr × Obj)) : Prop :=
  ∃ (R : Addr) (vs : List Value) (k : Nat) (rest : List (Addr × Obj)), news = (R, W.listOf vs.toArray k) :: rest ∧ m "row" = some (.ref R) ∧ (∀ p ∈ rest, p.1 ≠ R) ∧
    (∀ h : Heap, (∀ b o, h₀.get? b = some o → h.get? b = some o) → (∀ p ∈ rest, h.get? p.1 = some p.2) → ∃ cu, Ts h i vs ((ns.take i).flatMap leafOf) cu ∧ cu.length ≤ 4 * i) ∧ vs.length ≤ i
theorem pick4 {h : Heap} {l : Addr} {a b c : Tok} {n : Int} (_hl : h.IsList l #[Value.int (n.fdiv 6) a, .int (n.fdiv 6) b, .str (Txt.slice "abab" none (some ((n.fdiv 6).fmod 5))) c, .none]) (h4 : n.fmod 6 < 4) :
    ∃ y cuY, #[Value.int (n.fdiv 6) a, .int (n.fdiv 6) b, .str (Txt.slice "abab" none (some ((n.fdiv 6).fmod 5))) c, .none][(n.fmod 6).toNat]? = some y ∧ (∀ h d, T h d y (leafOf n) cuY) ∧ cuY.length ≤ 4 := by
  have h0 : 0 ≤ n.fmod 6 := Int.fmod_nonneg_of_pos _ (by decide)
  have : n.fmod 6 = 0 ∨ n.fmod 6 = 1 ∨ n.fmod 6 = 2 ∨ n.fmod 6 = 3 := by omega
  unfold leafOf lf
  rcases this with e | e | e | e <;> rw [e]
  · exact ⟨_, _, rfl, fun _ _ => .int, by simp⟩
  · exact ⟨_, _, rfl, fun _ _ => .int, by simp⟩
  · refine ⟨_, _, rfl, fun _ _ => .str, ?_⟩
    have := Txt.slice_le (Str.ofString "abab") none (some ((n.fdiv 6).fmod 5))
    have e4 : (Str.ofString "abab").length = 4 := by decide
    rw [signs, List.length_map, Array.length_toList]
    show (sl n).length ≤ 4
    unfold sl; omega
  · exact ⟨_, _, rfl, fun _ _ => .none, by simp⟩
theorem slice_split (rs : List Value) {z : Int} (hz : 0 ≤ z) : ∃ q, slicePick rs.toArray none (some z) none = (rs.take q).toArray ∧ slicePick rs.toArray (some z) none none = (rs.drop q).toArray := by
  obtain ⟨q, rfl⟩ := Int.eq_ofNat_of_zero_le hz
  exact ⟨q, slicePick_upto' _ _, slicePick_from' _ _⟩
theorem row_add {h₀ : Heap} {ns : List Int} {i k : Nat} {n : Int} {m' : Str → Option Value} {R : Addr} {rs : List Value} {rest : List (Addr × Obj)} {cuY : List Cu} {y : Value} (hn : ns[i]? = some n) (hm : m' "row" = some (.ref R)) (hne : ∀ p ∈ rest, p.1 ≠ R)
    (hT : ∀ h : Heap, (∀ b o, h₀.get? b = some o → h.get? b = some o) → (∀ p ∈ rest, h.get? p.1 = some p.2) → ∃ cu, Ts h i rs ((ns.take i).flatMap leafOf) cu ∧ cu.length ≤ 4 * i) (hrs : rs.length ≤ i)
    (hy : ∀ h d, T h d y (leafOf n) cuY) (hc : cuY.length ≤ 4) : RowAt h₀ ns (i + 1) m' ((R, W.listOf (rs ++ [y]).toArray k) :: rest) := by
  refine ⟨R, rs ++ [y], k, rest, rfl, hm, hne, fun h h1 h2 => ?_, ?_⟩
  · obtain ⟨cu, ht, hcu⟩ := hT h h1 h2
    refine ⟨cu ++ cuY, ?_, ?_⟩
    · have := ht.up.append (.cons (hy h _) .nil)
      rw [List.take_add_one, hn]
      simpa using this
    · simp; omega
  · simp; omega
theorem row_cut {h₀ : Heap} {ns : List Int} {i : Nat} {n z : Int} {m' : Str → Option Value} {D S : Addr} {so : Obj} {rs : List Value} {rest : List (Addr × Obj)} (hn : ns[i]? = some n) (h6 : ¬ n.fmod 6 < 4) (hm : m' "row" = some (.ref D)) (hD : ∀ p ∈ (S, so) :: rest, p.1 ≠ D)
    (hT : ∀ h : Heap, (∀ b o, h₀.get? b = some o → h.get? b = some o) → (∀ p ∈ rest, h.get? p.1 = some p.2) → ∃ cu, Ts h i rs ((ns.take i).flatMap leafOf) cu ∧ cu.length ≤ 4 * i) (hrs : rs.length ≤ i) (hr : rs.length ≤ 1000)
    (hz : 0 ≤ z) (hso : so = { cls := .type "list", data := .seq (slicePick rs.toArray (some z) none none) } ∨ so = { cls := .type "tuple", data := .seq (slicePick rs.toArray (some z) none none).toList.toArray }) :
    RowAt h₀ ns (i + 1) m' ((D, W.listOf ((slicePick rs.toArray none (some z) none).toList ++ [Value.ref S]).toArray 0) :: (S, so) :: rest) := by
  obtain ⟨q, e1, e2⟩ := slice_split rs hz
  have hl : leafOf n = [] := by rw [leafOf, if_neg (by omega)]
  rw [e2] at hso
  rw [e1]
  refine ⟨D, rs.take q ++ [Value.ref S], 0, (S, so) :: rest, rfl, hm, hD, fun h h1 h2 => ?_, ?_⟩
  · obtain ⟨cu, ht, hcu⟩ := hT h h1 fun p hp => h2 p (.tail _ hp)
    have hs := h2 (S, so) (.head _)
    obtain ⟨f1, f2, c1, c2, ef, ec, t1, t2⟩ := Ts.split q ht
    have hlen : (rs.drop q).length ≤ 1000 := by rw [List.length_drop]; omega
    have e : (ns.take (i + 1)).flatMap leafOf = f1 ++ (f2 ++ []) := by rw [List.take_add_one, hn]; simp [hl, ef]
    rw [e]
    rw [ec, List.length_append] at hcu
    rcases hso with rfl | rfl
    · refine ⟨c1 ++ ([.list S] ++ []), t1.up.append (.cons (.list ⟨_, hs, rfl, 0, rfl⟩ hlen t2) .nil), ?_⟩
      simp; omega
    · refine ⟨c1 ++ (c2 ++ []), t1.up.append (.cons (.tup ⟨_, hs, rfl, 0, by simp⟩ hlen t2) .nil), ?_⟩
      simp; omega
  · rw [List.length_append, List.length_take]; simp; omega
end

section
variable {w : World} {p : Program} {loose : List Str} {mean : ExcName → Option Value} {mg mb : Str → Option Value} {bs : Heap}
def TreePost (s : Shared) (ns : List Int) : Value → Heap → Prop := fun r h' => ∃ (R : Addr) (vs : List Value) (cu : List Cu), r = .ref R ∧ s.heap.get? R = none ∧ h'.IsList R vs.toArray ∧ Ts h' ns.length vs (ns.flatMap leafOf) cu ∧ cu.length ≤ 4 * ns.length ∧ vs.length ≤ ns.length
set_option maxHeartbeats 4000000 in
theorem tree_call {a : Addr} {vs : List Value} {ns : List Int} {l : List Env} {s : Shared} {dp un : Nat} {gd : Option (List Code)} (ha : s.heap.IsList a vs.toArray) (hi : IntsAre vs ns) (hlen : ns.length ≤ 1000)
    (c : Cx w p loose mean mg mb l bs s.heap) (hdp : dp + 40 < recursionLimit) :
    codeAny (model Challenge.rw_il0027_01.row.prog w) (Ar dp un gd l) (.call (.ref 75) ⟨[.ref a], []⟩) (Ends l s (TreePost s ns)) s := by
  have X : (hd.heap_39 w.params).In s.heap := c.Kh
  revert X
  k_fill
  intro X
  refine' enter c ?k6 ?k7 ?k8 ?k9 ?kB ?c5 ?_ ?c2 ?c3 ?c4
  case k6 => k_is
  case k7 => k_is
  case k8 => omega
  case k9 => exact BindsTo.of_eq rfl
  case kB => exact locs rfl
  case c5 => decide
  case c2 => rfl
  case c3 => rfl
  case c4 => rfl
  intro h₁ F N B X' T'
  clear X
  try dsimp only
  refine wpAny_execs_cons (wpAny_Assign_Name (wpAny_List_spliced (spliced_none ⟨by show 0 ≤ sizeLine; decide, ?_⟩)))
  have F1 := Fr.pushed' F { cls := .type "list", data := .seq ([] : List Value).toArray }
  refine wpAny_storeName_local rfl F1.ns (fun h₂ hn₂ hs₂ => ?_) rfl
  have F2 := F1.set hn₂ hs₂
  have hL : s.heap.objs.size < h₁.objs.size := ns_lt F.ns
  have hR : h₂.get? h₁.objs.size = some (W.listOf ([] : List Value).toArray 0) := (hs₂.2 _ (Nat.ne_of_gt hL)).trans (Heap.get?_push_size _ rfl)
  have hRn : s.heap.get? h₁.objs.size = none := Heap.get?_none_of_le (Nat.le_of_lt hL)
  refine wpAny_execs_cons (For_invV s.heap rfl rfl ?_)
  refine ev_local rfl rfl F2.ns rfl ?_
  have ha₂ : h₂.IsList a vs.toArray := Ex.list (fs := []) (ws := []) (.of_keeps F2.keep) (by simp) ha
  refine wpAny_pyIter_list ha₂ ?_
  have hLR : h₁.objs.size < h₂.objs.size := Heap.lt_size hR
  have haI : a < h₂.objs.size := by obtain ⟨_, ho, _⟩ := ha₂; exact Heap.lt_size ho
  have haS : a < s.heap.objs.size := by obtain ⟨_, ho, _⟩ := ha; exact Heap.lt_size ho
  have hl0 : vs.length ≤ 1000 := by rw [ints_length hi]; exact hlen
  have F3 := Fr.pushed' F2 { cls := .type "list_iterator", data := .fields #[.ref a, .int 0 0] }
  refine ⟨h₂.objs.size, _, _, _, _, _, _, [(h₁.objs.size, W.listOf ([] : List Value).toArray 0)], fun i m news => RowAt s.heap ns i m news, rfl,
    Walks.list rfl h₂.objs.size a (Nat.ne_of_lt haI) vs.toArray, ?_, ?_, ?_, ⟨⟨_, Heap.get?_push_size _ rfl, rfl, rfl⟩, ?_⟩, F3, ?_, ?_, ?_, ?_⟩
  · show s.heap.objs.size ∉ [h₂.objs.size, a]
    intro hq
    rcases List.mem_cons.1 hq with hq | hq
    · exact absurd hq (Nat.ne_of_lt (Nat.lt_trans hL hLR))
    · have : s.heap.objs.size = a := by simpa using hq
      exact absurd this.symm (Nat.ne_of_lt haS)
  · intro b hb
    obtain rfl : b = h₂.objs.size := by simpa using hb
    exact Heap.get?_none_of_le (Nat.le_of_lt (Nat.lt_trans hL hLR))
  · intro q hq hw
    obtain rfl : q = _ := by simpa using hq
    have : h₁.objs.size = h₂.objs.size := by simpa using hw
    exact absurd this (Nat.ne_of_lt hLR)
  · exact Ex.list (fs := []) (ws := []) (.of_keeps fun b o e => Heap.get?_push_of_some _ e) (by simp) ha₂
  · intro q hq
    obtain rfl : q = _ := by simpa using hq
    exact ⟨Heap.get?_push_of_some _ hR, Nat.ne_of_gt hL, hRn⟩
  · exact ⟨h₁.objs.size, [], 0, [], rfl, rfl, by simp, fun h _ _ => ⟨[], by simpa using Ts.nil, by simp⟩, by simp⟩
  · intro i v m₁ news₁ s₁ own hs₁ hlt hP hJ hnw hown hownh hfp hst F₁ N₁
    obtain ⟨R, rs, k, rest, rfl, hm, hne, hT, hrs⟩ := hJ
    obtain ⟨h3, tk3, rfl⟩ := hs₁
    obtain ⟨n, t, rfl, hn⟩ := hi.at i v (by simpa using hP)
    clear ha₂ hi hn₂ hs₂ F2 F1 N F F3 hR
    refine abs_post fun Q hQ => ?_
    dsimp only at F₁ N₁ hm
    have F₂ : Fr s.heap s.heap.objs.size h3 (fun y => if y = "x" then some (.int n t) else if y = "row" then some (.ref R) else m₁ y) := by
      have e : (fun y : Str => if y = "x" then some (Value.int n t) else if y = "row" then some (.ref R) else m₁ y) = fun y : Str => if y = "x" then some (Value.int n t) else m₁ y := by
        funext y
        by_cases hy : y = "row"
        · subst hy; rw [if_pos rfl, hm]
        · rw [if_neg (c := y = "row") hy]
      rw [e]; exact F₁
    obtain ⟨ext, hext⟩ : ∃ e, e = own ++ rest := ⟨_, rfl⟩
    have N₂ : News s.heap s.heap.objs.size h3 ((R, W.listOf rs.toArray k) :: ext) := fun q hq => by
      refine N₁ q ?_
      rw [hext] at hq
      simp only [List.mem_append, List.mem_cons] at hq ⊢
      rcases hq with h | h | h
      · exact .inr (.inl h)
      · exact .inl h
      · exact .inr (.inr h)
    have kOff : OwnOff ext [R] := fun q hq b hb => by
      obtain rfl : b = R := by simpa using hb
      rw [hext] at hq
      rcases List.mem_append.1 hq with hq | hq
      · have hw := hnw _ (.head _)
        have hN := (N₁ (b, _) (List.mem_append_right _ (.head _))).2.2
        have hf := hown q hq
        rintro rfl
        rcases List.mem_cons.1 hf with e | hf
        · exact hw (by rw [← e]; exact .head _)
        · obtain rfl : q.1 = a := by simpa using hf
          obtain ⟨_, ho, _⟩ := ha
          rw [ho] at hN; cases hN
      · exact hne q hq
    have hrl : rs.length ≤ 1000 := by
      have : i < vs.length := by simpa using hlt
      omega
    obtain ⟨oI, hoI, hcI⟩ : ∃ oI, (h₂.objs.size, oI) ∈ ext ∧ oI.cls = .type "list_iterator" := by
      obtain ⟨oI, ho, hc, _⟩ := hst.1
      exact ⟨oI, hext ▸ List.mem_append_left _ (hfp _ (.head _) (Heap.get?_none_of_le (Nat.le_of_lt (Nat.lt_trans hL hLR))) _ ho), hc⟩
    have fin : ∀ h' tk m' news5 D so rest2, Fr s.heap s.heap.objs.size h' m' → News s.heap s.heap.objs.size h' news5 → (∀ p ∈ (D, so) :: rest2, p ∈ news5) → (∀ p ∈ ext, p ∈ news5) → so.cls = .type "list" → (∀ p ∈ rest2, p ∈ rest ∨ p.2.cls ≠ .type "list_iterator") →
        RowAt s.heap ns (i + 1) m' ((D, so) :: rest2) → Q .next { s with heap := h', toks := tk } := fun h' tk m' news5 D so rest2 F5 N5 e1 e2 hc e3 hr => by
      refine hQ _ _ ⟨rfl, h', tk, m', (D, so) :: rest2, rfl, F5, fun q hq => N5 q ?_, fun q hq hw => ?_, hr⟩
      · rcases List.mem_append.1 hq with hq | hq
        · exact e2 q (by rw [hext]; exact List.mem_append_left _ hq)
        · exact e1 q hq
      · have hw' : q.1 = h₂.objs.size := by simpa using hw
        have h5 := (N5 q (e1 q hq)).1
        rw [hw', (N5 _ (e2 _ hoI)).1] at h5
        injection h5 with h5
        replace h5 : oI = q.2 := h5
        rcases List.mem_cons.1 hq with rfl | hq
        · rw [h5] at hcI
          have := hc.symm.trans hcI
          simp at this
        · rcases e3 q hq with e | e
          · exact hnw q (.tail _ e) hw
          · rw [h5] at hcI; exact e hcI
    have hrx : ∀ p ∈ rest, p ∈ ext := fun p hp => by rw [hext]; exact List.mem_append_right _ hp
    clear F₁ hm N₁ hfp hnw hown hownh hst hext hQ hP ha
    k_steps
    · (with_reducible rename News _ _ _ _ => N4)
      have hL := (show Heap.IsList _ _ _ from ⟨_, (N4 _ (.head _)).1, rfl, _, rfl⟩)
      dsimp only at hL
      have h0 : 0 ≤ n.fmod 6 := Int.fmod_nonneg_of_pos _ (by decide)
      have h4 : n.fmod 6 < 4 := by assumption
      have : n.fmod 6 = 0 ∨ n.fmod 6 = 1 ∨ n.fmod 6 = 2 ∨ n.fmod 6 = 3 := by omega
      obtain ⟨y, cuY, hy, hyT, hyc⟩ := pick4 hL h4
      refine tail_any hL.typeIs slot_list_getitem.lookup (wpAny_getItem_list hL h0 (by omega) hy ?_) (by with_unfolding_all rfl)
      clear hL hy
      k_steps
      (with_reducible rename Fr _ _ _ _ => F5); (with_reducible rename News _ _ _ _ => N5)
      have e5 : rs.toArray.push y = (rs ++ [y]).toArray := by simp
      rw [e5] at N5
      exact fin _ _ _ _ R _ rest F5 N5 (fun p hp => by
        rcases List.mem_cons.1 hp with rfl | hp
        · exact .tail _ (.head _)
        · exact .tail _ (.tail _ (hrx p hp))) (fun p hp => .tail _ (.tail _ hp)) rfl (fun p hp => .inl hp) (row_add hn (by rfl) hne hT hrs hyT hyc)
    · (with_reducible rename News _ _ _ _ => N4)
      have hL := (show Heap.IsList _ _ _ from ⟨_, (N4 _ (.head _)).1, rfl, _, rfl⟩)
      dsimp only at hL
      refine call_len_list hL ?_ ?_
      · show ((rs.toArray.size : Nat) : Int) < 2 ^ 63
        rw [List.size_toArray]; omega
      · clear hL
        have h6 : ¬ n.fmod 6 < 4 := by assumption
        have szt : ∀ lo hi st, (slicePick rs.toArray lo hi st).size ≤ 1000 := fun lo hi st => Nat.le_trans (slicePick_size_le _ _ _ _) (by rw [List.size_toArray]; exact hrl)
        have szl : ∀ lo hi st (x : Value), (slicePick rs.toArray lo hi st).toList.length + #[x].toList.length ≤ sizeLine := fun lo hi st x => by
          have h1 := szt lo hi st
          have h2 : (2000 : Nat) ≤ sizeLine := by decide
          rw [Array.length_toList]
          show _ + 1 ≤ _
          omega
        have finC : ∀ h' tk m' D S so (z : Int) q1 tl, Fr s.heap s.heap.objs.size h' m' → News s.heap s.heap.objs.size h' ((D, W.listOf ((slicePick rs.toArray none (some z) none).toList ++ [Value.ref S]).toArray 0) :: q1 :: (S, so) :: tl) → m' "row" = some (.ref D) → (∀ p ∈ ext, p ∈ tl) → (∀ p ∈ q1 :: (S, so) :: tl, p.1 ≠ D) → 0 ≤ z →
            (so = { cls := .type "list", data := .seq (slicePick rs.toArray (some z) none none) } ∨ so = { cls := .type "tuple", data := .seq (slicePick rs.toArray (some z) none none).toList.toArray }) → Q .next { s with heap := h', toks := tk } := fun h' tk m' D S so z q1 tl F5 N5 hm' htl hne' hz hso => by
          refine fin _ _ _ _ D _ ((S, so) :: rest) F5 N5 (fun p hp => ?_) (fun p hp => .tail _ (.tail _ (.tail _ (htl _ hp)))) rfl (fun p hp => ?_) (row_cut hn h6 hm' (fun p hp => hne' p ?_) hT hrs hrl hz hso)
          · rcases List.mem_cons.1 hp with rfl | hp
            · exact .head _
            · rcases List.mem_cons.1 hp with rfl | hp
              · exact .tail _ (.tail _ (.head _))
              · exact .tail _ (.tail _ (.tail _ (htl _ (hrx p hp))))
          · rcases List.mem_cons.1 hp with rfl | hp
            · rcases hso with rfl | rfl
              · exact .inr (by simp)
              · exact .inr (by simp)
            · exact .inl hp
          · rcases List.mem_cons.1 hp with rfl | hp
            · exact .tail _ (.head _)
            · exact .tail _ (.tail _ (htl _ (hrx p hp)))
        k_steps
        · (with_reducible rename Fr _ _ _ _ => F5); (with_reducible rename News _ _ _ _ => N5)
          refine kmk_add_lit F5 N5 ⟨_, (N5 _ (.tail _ (.tail _ (.head _)))).1, rfl, _, rfl⟩ ⟨_, (N5 _ (.head _)).1, rfl, _, rfl⟩ rfl (fun D h6 F6 N6 hlt6 => ?_) (szl _ _ _ _)
          clear F5 N5
          have hD6 := fun p hp => Nat.ne_of_lt (hlt6 p hp)
          clear hlt6
          k_steps
          (with_reducible rename Fr _ _ _ _ => F5); (with_reducible rename News _ _ _ _ => N5)
          exact finC _ _ _ _ _ _ _ _ _ F5 N5 (by rfl) (fun p hp => .tail _ (.tail _ hp)) hD6 (by split <;> omega) (.inl rfl)
        · (with_reducible rename Fr _ _ _ _ => F5); (with_reducible rename News _ _ _ _ => N5)
          refine kde_tupleOf F5 N5 ⟨_, (N5 _ (.head _)).1, rfl, _, rfl⟩ (Nat.le_trans (szt _ _ _) (by decide)) rfl (fun S h6 F6 N6 hlt6 => ?_)
          clear F5 N5 hlt6
          k_steps
          (with_reducible rename Fr _ _ _ _ => F5); (with_reducible rename News _ _ _ _ => N5)
          refine kmk_add_lit F5 N5 ⟨_, (N5 _ (.tail _ (.tail _ (.tail _ (.head _))))).1, rfl, _, rfl⟩ ⟨_, (N5 _ (.head _)).1, rfl, _, rfl⟩ rfl (fun D h6 F6 N6 hlt6 => ?_) (szl _ _ _ _)
          clear F5 N5
          have hD6 := fun p hp => Nat.ne_of_lt (hlt6 p hp)
          clear hlt6
          k_steps
          (with_reducible rename Fr _ _ _ _ => F5); (with_reducible rename News _ _ _ _ => N5)
          exact finC _ _ _ _ _ _ _ _ _ F5 N5 (by rfl) (fun p hp => .tail _ (.tail _ (.tail _ hp))) hD6 (by split <;> omega) (.inr rfl)
  · intro h' tk m' news' F5 N5 hw hr
    obtain ⟨R, rs, k, rest, rfl, hm, hne, hT, hrs⟩ := hr
    have e := ints_length hi
    obtain ⟨cu, ht, hcu⟩ := hT h' F5.keep fun p hp => (N5 p (.tail _ hp)).1
    have e1 : vs.toArray.size = ns.length := by rw [List.size_toArray]; exact e
    rw [e1] at ht hcu hrs
    rw [List.take_length] at ht
    refine wpAny_execs_cons (wpAny_Return_some (ev_local rfl rfl F5.ns hm ?_))
    exact ⟨⟨.of_keeps F5.keep, rfl, rfl, rfl⟩, R, rs, cu, rfl, (N5 _ (.head _)).2.2, ⟨_, (N5 _ (.head _)).1, rfl, _, rfl⟩, ht, hcu, hrs⟩
end

/-- a kind of key: what value it is, and that == tells them apart -/
structure KeyKind (κ : Type) [DecidableEq κ] where
  K : Heap → κ → Value → Prop
  keep : ∀ {h h' : Heap} {k : κ} {v : Value}, (∀ b o, h.get? b = some o → h'.get? b = some o) → K h k v → K h' k v
  uniq : ∀ {h : Heap} {k k' : κ} {v : Value}, K h k v → K h k' v → k = k'
  eq : ∀ {A : Around} {s : Shared} {k k' : κ} {v v' : Value}, A.units + 2 < cLine → K s.heap k v → K s.heap k' v' → SeqAt.EqAt A s v v' (decide (k = k'))
def leafKind : KeyKind Leaf where
  K := fun _ k v => leafIs k v
  keep := fun _ h => h
  uniq := fun {h k k' v} x y => by
    rcases k with i | i <;> rcases k' with j | j <;> obtain ⟨t, rfl⟩ := x <;> obtain ⟨u, e⟩ := y <;> cases e <;> rfl
  eq := fun {A s k k' v v'} _ x y => by
    rcases k with i | i <;> rcases k' with j | j <;> obtain ⟨t, rfl⟩ := x <;> obtain ⟨u, rfl⟩ := y
    · have := SeqAt.EqAt.int_int (A := A) (s := s) i t j u
      rw [show decide ((Sum.inl i : Leaf) = Sum.inl j) = (i == j) by by_cases h : i = j <;> simp [h]]
      exact this
    · exact SeqAt.EqAt.int_str i t j u
    · exact SeqAt.EqAt.str_int i t j u
    · have := SeqAt.EqAt.str_str (A := A) (s := s) i t j u
      rw [show decide ((Sum.inr i : Leaf) = Sum.inr j) = (i == j) by by_cases h : i = j <;> simp [h]]
      exact this
def pairKind : KeyKind (Str × Int) where
  K := fun h k v => ∃ a t u, v = .ref a ∧ h.IsList a #[.str k.1 t, .int k.2 u]
  keep := fun {h h' k v} hk ⟨a, t, u, e, hl⟩ => ⟨a, t, u, e, Ex.list (fs := []) (ws := []) (.of_keeps hk) (by simp) hl⟩
  uniq := fun {h k k' v} x y => by
    obtain ⟨a, t, u, rfl, o, ho, _, n, hd⟩ := x
    obtain ⟨a', t', u', e, o', ho', _, n', hd'⟩ := y
    cases e
    rw [ho] at ho'
    cases ho'
    rw [hd] at hd'
    injection hd' with e1 e2
    rcases k with ⟨x, i⟩
    rcases k' with ⟨y, j⟩
    simp at e1
    simp [e1]
  eq := fun {A s k k' v v'} hu x y => by
    obtain ⟨a, t, u, rfl, hl⟩ := x
    obtain ⟨a', t', u', rfl, hl'⟩ := y
    by_cases e : a = a'
    · subst e
      have hk : k = k' := by
        obtain ⟨o, ho, _, n, hd⟩ := hl
        obtain ⟨o', ho', _, n', hd'⟩ := hl'
        rw [ho] at ho'
        cases ho'
        rw [hd] at hd'
        injection hd' with e1 e2
        rcases k with ⟨x, i⟩
        rcases k' with ⟨y, j⟩
        simp at e1
        simp [e1]
      rw [decide_eq_true hk]
      exact SeqAt.EqAt.same _
    · have h := SeqAt.RcAt.lists (A := A) (e := fun j => if j = 0 then k.1 == k'.1 else k.2 == k'.2) hl hl' rfl (by omega) (fun j h1 h2 => by
        match j, h1 with
        | 0, _ => exact SeqAt.EqAt.str_str k.1 t k'.1 t'
        | 1, _ => exact SeqAt.EqAt.int_int k.2 u k'.2 u')
      have e2 : decide (k = k') = (List.range #[Value.str k.1 t, Value.int k.2 u].size).all (fun j => if j = 0 then k.1 == k'.1 else k.2 == k'.2) := by
        rcases k with ⟨x, i⟩
        rcases k' with ⟨y, j⟩
        show _ = ((x == y) && ((i == j) && true))
        by_cases h1 : x = y <;> by_cases h2 : i = j <;> simp [h1, h2]
      rw [e2]
      exact .of_refs e h
def isFirst {κ : Type} [DecidableEq κ] (ks : List κ) (k : Nat) : Bool := match ks[k]? with | some x => !((ks.take k).contains x) | none => false
def firstsOf {κ : Type} [DecidableEq κ] (ks : List κ) (vs : List Value) : List Value := ((List.range ks.length).filter (isFirst ks)).filterMap (vs[·]?)
section
variable {w : World} {p : Program} {loose : List Str} {mean : ExcName → Option Value} {mg mb : Str → Option Value} {bs : Heap}
theorem enterC {l : List Env} {s : Shared} {dp un : Nat} {gd : Option (List Code)} {name qual : Str} {params : Arguments} {body : List Stmt} {scope : Scope} {dV kV doc pm cdv ct oc : Value} {an od : Option Addr} {osl : Array (Option Value)} {f : Addr} {args : List Value} {binds : List (Str × Value)} {Post : Value → Heap → Prop}
    (c : Cx w p loose mean mg mb l bs s.heap)
    (ho : (hd.heap_39 w.params).lookup f = some ⟨oc, od, .func (fnOf name qual params body scope dV kV doc pm an cdv ct), osl⟩) (hcd : codeIn (hd.heap_39 w.params) cdv qual = true) (hroom : dp < recursionLimit)
    (hbind : bindArgs (fnOf name qual params body scope dV kV doc pm an cdv ct) ⟨args, []⟩ = pure binds) (hkind : (binds.all fun y => scope.names.lookup y.1 == some .local || scope.names.lookup y.1 == some .cell) = true)
    (h : ∀ h₁ tk, Fr s.heap s.heap.objs.size h₁ (bindL (envOfC qual scope s.heap.objs.size f cdv).kindOf binds fun _ => none) →
      Cl s.heap.objs.size (cellsFrom (s.heap.objs.size + 1) scope.names []) h₁ (bindC (envOfC qual scope s.heap.objs.size f cdv).kindOf binds fun _ => none) →
      wpAny (model Challenge.rw_il0027_01.row.prog w) ((Ar dp un gd l).deeper (envOfC qual scope s.heap.objs.size f cdv)) (execs body (envOfC qual scope s.heap.objs.size f cdv))
        (fun fl s' => Mv (frs l) [] Same s s' ∧ Post (match fl with | .ret v => v | _ => .none) s'.heap) noErr { s with heap := h₁, toks := tk })
    (hco : scope.isCoroutine = false := by rfl) (hgen : scope.isGenerator = false := by rfl) (hk : scope.kind = .function := by rfl) :
    codeAny (model Challenge.rw_il0027_01.row.prog w) (Ar dp un gd l) (.call (.ref f) ⟨args, []⟩) (Ends l s Post) s := by
  refine codeAny_call_cells (fd := fnOf name qual params body scope dV kV doc pm an cdv ct) hroom (c.Kh _ _ ho) rfl c.Th.nolimit (codeRec_of c.Kh hcd) rfl hbind rfl (kindsX hkind _) (fun s₁ X => ?_) hco hgen hk
  obtain ⟨h₁, tk, rfl, _⟩ := X.done
  refine wpAny_mono (h h₁ tk ⟨X.toInCall.ns, X.toInCall.keep, X.toInCall.fresh⟩ ⟨X.cell, X.apart, X.above⟩) (fun fl s' q => ⟨_, rfl, q⟩) fun _ _ f => f.elim
theorem Paired.take' {α β : Type} {F : α → β → Prop} : ∀ {l₁ : List α} {l₂ : List β} (n : Nat), Paired F l₁ l₂ → Paired F (l₁.take n) (l₂.take n)
  | _, _, _, .nil => by simpa using Paired.nil
  | _, _, 0, .cons _ _ => by simpa using Paired.nil
  | _, _, n + 1, .cons h t => by simpa using Paired.cons h (Paired.take' n t)
theorem Paired.at' {α β : Type} {F : α → β → Prop} : ∀ {l₁ : List α} {l₂ : List β}, Paired F l₁ l₂ → ∀ {i : Nat} {y : β}, l₂[i]? = some y → ∃ x, l₁[i]? = some x ∧ F x y
  | _, _, .nil, i, y, e => by simp at e
  | _, _, .cons h t, 0, y, e => by simp at e; subst e; exact ⟨_, rfl, h⟩
  | _, _, .cons h t, i + 1, y, e => by simpa using Paired.at' t (by simpa using e)
theorem Paired.at1 {α β : Type} {F : α → β → Prop} : ∀ {l₁ : List α} {l₂ : List β}, Paired F l₁ l₂ → ∀ {i : Nat} {x : α}, l₁[i]? = some x → ∃ y, l₂[i]? = some y ∧ F x y
  | _, _, .nil, i, y, e => by simp at e
  | _, _, .cons h t, 0, y, e => by simp at e; subst e; exact ⟨_, rfl, h⟩
  | _, _, .cons h t, i + 1, y, e => by simpa using Paired.at1 t (by simpa using e)
theorem Paired.mono' {α β : Type} {F G : α → β → Prop} (h : ∀ a b, F a b → G a b) : ∀ {l₁ : List α} {l₂ : List β}, Paired F l₁ l₂ → Paired G l₁ l₂
  | _, _, .nil => .nil
  | _, _, .cons x t => .cons (h _ _ x) (Paired.mono' h t)
open Classical in
noncomputable def isKey {κ : Type} [DecidableEq κ] (KK : KeyKind κ) (h : Heap) (k : κ) (v : Value) : Bool := decide (KK.K h k v)
theorem isKey_eq {κ : Type} [DecidableEq κ] (KK : KeyKind κ) {h : Heap} {k k' : κ} {v : Value} (x : KK.K h k' v) : isKey KK h k v = decide (k' = k) := by
  unfold isKey
  by_cases e : k' = k
  · subst e; simp [x]
  · simp only [e, decide_false, decide_eq_false_iff_not]
    exact fun y => e (KK.uniq x y)
theorem any_contains {κ : Type} [DecidableEq κ] (KK : KeyKind κ) {h : Heap} {k : κ} : ∀ {ks : List κ} {vs : List Value}, Paired (KK.K h) ks vs → vs.any (isKey KK h k) = ks.contains k
  | _, _, .nil => rfl
  | _, _, .cons (a := x) hx t => by
    rw [List.any_cons, List.contains_cons, any_contains KK t, isKey_eq KK hx]
    congr 1
    by_cases e : x = k
    · subst e; simp
    · have e' : ¬ k = x := fun q => e q.symm
      simp [e, e']
/-- the items at the places where the test holds -/
theorem firsts_made {κ : Type} [DecidableEq κ] (ks : List κ) (vs : List Value) : ∀ (vl : List Value) (off : Nat) (ys : List Value), off + vl.length = ks.length → ks.length = vs.length → (∀ (j : Nat) (v : Value), vl[j]? = some v → ∃ t, v = .int (0 + ((off + j : Nat) : Int) * 1) t) →
    Paired (fun v y => ∃ (k : Nat) (t : Tok), v = .int k t ∧ vs[k]? = some y) (vl.filter (fun v => match v with | .int n _ => isFirst ks n.toNat | _ => false)) ys → ys = ((List.range' off vl.length).filter (isFirst ks)).filterMap (vs[·]?)
  | [], _, _, _, _, _, h => by cases h; rfl
  | v :: vl, off, ys, hl, hv, hP, h => by
    obtain ⟨t, rfl⟩ := hP 0 v rfl
    have e0 : (0 + ((off + 0 : Nat) : Int) * 1) = (off : Int) := by simp
    rw [e0] at h
    have ih := fun ys => firsts_made ks vs vl (off + 1) ys (by simp at hl; omega) hv fun j v hj => by
      obtain ⟨t, e⟩ := hP (j + 1) v hj
      exact ⟨t, by rw [e, show off + (j + 1) = off + 1 + j by omega]⟩
    rw [List.length_cons, List.range'_succ]
    by_cases hf : isFirst ks off = true
    · rw [List.filter_cons_of_pos (by simpa using hf)] at h
      rw [List.filter_cons_of_pos hf]
      cases h with
      | cons hF hP' =>
        obtain ⟨k, u, e, hy⟩ := hF
        injection e with e1 e2
        have : off = k := by omega
        subst this
        rw [List.filterMap_cons_some hy, ih _ hP']
    · rw [List.filter_cons_of_neg (by simpa using hf)] at h
      rw [List.filter_cons_of_neg hf]
      exact ih _ h
theorem walks_bound {prog : Program} {w : World} {A : Around} {I : Addr} {fp wr : List Addr} {n : Nat} {P : Nat → Value → Prop} {St : Nat → Heap → Prop} (W : Walks prog w A I fp wr n P St) : Walks prog w A I fp wr n (fun i v => i < n ∧ P i v) St :=
  { sub := W.sub, frame := W.frame, item := fun i s Q E hi st hQ => W.item i s Q E hi st fun v h' tk hp => hQ v h' tk ⟨hi, hp⟩, done := W.done, self := W.self }
theorem part_int {k : Int} {t : Tok} : IsPart (.int k t) (some k) := by constructor
set_option maxHeartbeats 4000000 in
theorem firsts_call {κ : Type} [DecidableEq κ] (KK : KeyKind κ) {a b : Addr} {vs kvs : List Value} {ks : List κ} {l : List Env} {s : Shared} {dp un : Nat} {gd : Option (List Code)} (ha : s.heap.IsList a vs.toArray) (hb : s.heap.IsList b kvs.toArray) (hp : Paired (KK.K s.heap) ks kvs) (hlen : vs.length = ks.length) (hmax : ks.length ≤ 1000)
    (c : Cx w p loose mean mg mb l bs s.heap) (hdp : dp + 40 < recursionLimit) (hun : un + 100 < cLine) :
    codeAny (model Challenge.rw_il0027_01.row.prog w) (Ar dp un gd l) (.call (.ref 100) ⟨[.ref a, .ref b], []⟩) (Ends l s (ListPost s fun out => out = firstsOf ks vs)) s := by
  have X : (hd.heap_39 w.params).In s.heap := c.Kh
  revert X
  k_fill
  intro X
  refine' enterC c ?k6 ?k7 ?k8 ?k9 ?kB ?_ ?c2 ?c3 ?c4
  case k6 => k_is
  case k7 => k_is
  case k8 => omega
  case k9 => rfl
  case kB => rfl
  case c2 => rfl
  case c3 => rfl
  case c4 => rfl
  intro h₁ tk F C
  clear X
  try dsimp only
  have hcr : h₁.IsCell _ (some (.ref a)) := C.cell "row" _ rfl
  have hck : h₁.IsCell _ (some (.ref b)) := C.cell "keys" _ rfl
  have ha₁ : h₁.IsList a vs.toArray := Ex.list (fs := []) (ws := []) (.of_keeps F.keep) (by simp) ha
  have hb₁ : h₁.IsList b kvs.toArray := Ex.list (fs := []) (ws := []) (.of_keeps F.keep) (by simp) hb
  have c₁ : Cx w p loose mean mg mb l bs h₁ := c.keeps F.keep
  refine wpAny_execs_cons (wpAny_Return_some (wpAny_ListComp_free (fun v => match v with | .int n _ => isFirst ks n.toNat | _ => false) (fun v y => ∃ (k : Nat) (t : Tok), v = .int k t ∧ vs[k]? = some y) rfl (by decide) rfl (by decide) rfl ?_))
  refine Call_ (ev_builtin c₁ rfl rfl rfl rfl (by k_is) PyProof.Rows.boot_range ?_)
  refine PyProof.Rows.callWith_type rfl (evalArgs_plain (spliced_cons ?_))
  refine Call_ (ev_builtin c₁ rfl rfl rfl rfl (by k_is) boot_len ?_)
  refine callWith_builtin rfl (evalArgs_plain (spliced_cons ?_))
  refine wpAny_Name (wpAny_loadName_cell rfl rfl rfl hcr ?_) (by decide)
  refine spliced_nil (call_len_list ha₁ ?_ (spliced_nil (call_range_1 ?_)))
  · show ((vs.toArray.size : Nat) : Int) < 2 ^ 63
    rw [List.size_toArray]; omega
  have hsz : ((vs.toArray.size : Nat) : Int) = (vs.length : Nat) := by rw [List.size_toArray]
  refine wpAny_pyIter_range (IsRange.new ..) (small_one (by decide) (by decide) ?_ ?_) ?_
  · rw [hsz]; omega
  · rw [hsz]; omega
  have hr : Builtin.Range.rangeSize 0 (vs.toArray.size : Int) 1 = (vs.length : Int) := by rw [rangeSize_one, hsz]; split <;> omega
  rw [hr]
  have keep2 : ∀ (x y : Obj) b' o, h₁.get? b' = some o → ((h₁.push x).push y).get? b' = some o := fun x y b' o e => Heap.get?_push_of_some _ (Heap.get?_push_of_some _ e)
  have low : ∀ b' o (x : Obj), h₁.get? b' = some o → b' ≠ (h₁.push x).objs.size := fun b' o x e => Nat.ne_of_lt (Nat.lt_trans (Heap.lt_size e) (by rw [Heap.size_push]; exact Nat.lt_succ_self _))
  have hpl : ks.length = kvs.length := hp.length
  refine ⟨_, [_], [_], vs.length, _, _, rfl, walks_bound (Walks.range rfl _ 0 1 vs.length), ?_, ?_, ?_, ⟨fun C' i v s₃ m₃ E' hC hP hn hm hk htk => ?_, fun C' i v s₃ m₃ E' hC hP hpv hn hm hk htk => ?_⟩, fun D h' tk' ys vl hD hl _ hvl hP hF hk => ?_⟩
  · have : (2000 : Nat) ≤ sizeLine := by decide
    omega
  · have e1 : (0 + ((0 : Nat) : Int) * 1) = 0 := by simp
    have e2 : ((vs.length : Nat) : Int) - ((0 : Nat) : Int) = (vs.length : Nat) := by simp
    rw [e1, e2]
    exact Heap.get?_push_size _ rfl
  · intro b' hb'
    obtain rfl : b' = _ := by simpa using hb'
    simp [Heap.size_push]
  · obtain ⟨hi, t, rfl⟩ := hP
    have hk3 : ∀ b' o, h₁.get? b' = some o → s₃.heap.get? b' = some o := fun b' o e => hk b' o (fun q => low b' o _ e (List.mem_singleton.1 q)) (keep2 _ _ b' o e)
    have e1 : (0 + ((i : Nat) : Int) * 1) = (i : Nat) := by simp
    rw [e1] at hm ⊢
    have hp3 : Paired (KK.K s₃.heap) ks kvs := Paired.mono' (fun _ _ x => KK.keep (fun b' o e => hk3 b' o (F.keep b' o e)) x) hp
    obtain ⟨kx, hkx⟩ : ∃ kx, ks[i]? = some kx := ⟨_, List.getElem?_eq_getElem (by omega)⟩
    obtain ⟨vx, hvx, hKx⟩ := Paired.at1 hp3 hkx
    have hbl : s₃.heap.IsList b kvs.toArray := Ex.list (fs := []) (ws := []) (.of_keeps hk3) (by simp) hb₁
    refine wpAny_tests_one (wpAny_isTrue_Compare1 (Subscript_ (wpAny_Name (wpAny_loadName_cell rfl rfl rfl (hck.keeps hk3) (ev_local rfl rfl hn hm ?_)) (by decide))))
    refine tail_any hbl.typeIs slot_list_getitem.lookup (wpAny_getItem_list hbl (by omega) (by omega) (x := vx) (by simpa using hvx) ?_) (by with_unfolding_all rfl)
    refine wpAny_Subscript_list_slice (wpAny_Name (wpAny_loadName_cell rfl rfl rfl (hck.keeps hk3) ?_) (by decide))
    rw [evalPart_none]
    refine wpAny_pure (ev_local rfl rfl hn hm ?_)
    refine ⟨b, kvs.toArray, none, some i, rfl, hbl, ?_, by constructor, part_int, ?_⟩
    · rw [List.size_toArray]
      have : (2000 : Nat) ≤ sizeLine := by decide
      omega
    have hN : ((s₃.heap.push { cls := .type "slice", data := .fields #[.none, .int (i : Nat) t, .none] }).push { cls := .type "list", data := .seq (slicePick kvs.toArray none (some ((i : Nat) : Int)) none) }).IsList (s₃.heap.objs.size + 1) (slicePick kvs.toArray none (some ((i : Nat) : Int)) none) :=
      ⟨{ cls := .type "list", data := .seq (slicePick kvs.toArray none (some ((i : Nat) : Int)) none) }, by rw [show s₃.heap.objs.size + 1 = (s₃.heap.push { cls := .type "slice", data := .fields #[.none, .int (i : Nat) t, .none] }).objs.size from (Heap.size_push _ _).symm]; exact Heap.get?_push_size _ rfl, rfl, 0, rfl⟩
    have hpk : slicePick kvs.toArray none (some ((i : Nat) : Int)) none = (kvs.take i).toArray := slicePick_upto' _ _
    have hk5 : ∀ b' o, s₃.heap.get? b' = some o → ((s₃.heap.push { cls := .type "slice", data := .fields #[.none, .int (i : Nat) t, .none] }).push { cls := .type "list", data := .seq (slicePick kvs.toArray none (some ((i : Nat) : Int)) none) }).get? b' = some o := fun b' o e => Heap.get?_push_of_some _ (Heap.get?_push_of_some _ e)
    refine SeqAt.notIn_listAt (isKey KK s₃.heap kx) hN (fun y hy => ?_) (wpAny_truthy_bool ⟨?_, _, _, rfl, hk5⟩)
    · rw [hpk] at hy
      obtain ⟨j, hj⟩ := List.mem_iff_getElem?.1 (show y ∈ kvs.take i by simpa using hy)
      obtain ⟨kj, hkj, hKj⟩ := Paired.at' (Paired.take' i hp3) hj
      rw [isKey_eq KK hKj]
      exact KK.eq (show un + 3 + 1 + 2 < cLine by omega) (KK.keep hk5 hKj) (KK.keep hk5 hKx)
    · rw [hpk]
      show (!((kvs.take i).toArray.any (isKey KK s₃.heap kx))) = isFirst ks ((i : Nat) : Int).toNat
      rw [List.any_toArray, any_contains KK (Paired.take' i hp3)]
      simp [isFirst, hkx]
  · obtain ⟨hi, t, rfl⟩ := hP
    have hk3 : ∀ b' o, h₁.get? b' = some o → s₃.heap.get? b' = some o := fun b' o e => hk b' o (fun q => low b' o _ e (List.mem_singleton.1 q)) (keep2 _ _ b' o e)
    have e1 : (0 + ((i : Nat) : Int) * 1) = (i : Nat) := by simp
    rw [e1] at hm ⊢
    obtain ⟨vx, hvx⟩ : ∃ vx, vs[i]? = some vx := ⟨_, List.getElem?_eq_getElem hi⟩
    have hal : s₃.heap.IsList a vs.toArray := Ex.list (fs := []) (ws := []) (.of_keeps hk3) (by simp) ha₁
    refine Subscript_ (wpAny_Name (wpAny_loadName_cell rfl rfl rfl (hcr.keeps hk3) (ev_local rfl rfl hn hm ?_)) (by decide))
    exact tail_any hal.typeIs slot_list_getitem.lookup (wpAny_getItem_list hal (by omega) (by omega) (x := vx) (by simpa using hvx) ⟨⟨i, t, rfl, hvx⟩, _, _, rfl, fun _ _ e => e⟩) (by with_unfolding_all rfl)
  · have hkk : ∀ b' o, h₁.get? b' = some o → h'.get? b' = some o := fun b' o e => hk b' o (fun q => low b' o _ e (List.mem_singleton.1 q)) (keep2 _ _ b' o e)
    refine ⟨⟨.of_keeps fun b' o e => hkk b' o (F.keep b' o e), rfl, rfl, rfl⟩, D, ys.toList, rfl, none_of_keeps (fun b' o e => keep2 _ _ b' o (F.keep b' o e)) hD, by simpa using hl, ?_⟩
    have := firsts_made ks vs vl 0 ys.toList (by omega) hlen.symm (fun j v hj => by
      obtain ⟨_, t, e⟩ := hP j v hj
      exact ⟨t, by simpa using e⟩) hF
    rw [this, firstsOf, List.range_eq_range']
    rw [hvl, hlen]
end

theorem entry_set_getattribute : entryFor table "set.__getattribute__" = some Builtin.«object.__getattribute__» :=
  entryFor_alias (id' := "object.__getattribute__") (by kernel_rfl) (by decide +kernel) (by decide +kernel) (by kernel_rfl)
theorem slot_md_get : Slot "method_descriptor" "__get__" "method_descriptor.__get__" :=
  .of (owner := "method_descriptor") (n := "__get__") (by rw [typeLookup_type, builtinLookup_eq_fast]; kernel_rfl) (by decide +kernel) (by decide +kernel) (by decide +kernel)
    (by first | exact .inl (by decide +kernel) | exact .inr (by decide +kernel)) (by rw [isSubtype_type]; kernel_rfl)
theorem entry_md_get : entryFor table "method_descriptor.__get__" = some Builtin.«method_descriptor.__get__» := entryFor_of_tree (by kernel_rfl)
theorem args_md_get (a b c : Value) : argsOk "method_descriptor.__get__" ⟨[a, b, c], []⟩ := by unfold argsOk; kernel_rfl
theorem md_set_none : typeLookup (.type "method_descriptor") "__set__" = pure none := by rw [typeLookup_type, builtinLookup_eq_fast]; kernel_rfl
theorem md_delete_none : typeLookup (.type "method_descriptor") "__delete__" = pure none := by rw [typeLookup_type, builtinLookup_eq_fast]; kernel_rfl
section
variable {prog : Program} {w : World} {A : Around} {E : Value → Shared → Prop} {s : Shared}
abbrev boundTo (id : String) (a : Addr) : Obj := { cls := .type "builtin_function_or_method", data := .fields #[.builtin id, .ref a] }
theorem run_md_get {a : Addr} {o : Obj} {id : String} {P : Fin → Shared → Prop} (hid : id = "set.add" ∨ id = "set.__contains__") (hx : s.heap.get? a = some o) (hc : o.cls = .type "set") (h : ∀ tk, P (.done (.ret (.ref s.heap.objs.size))) { s with heap := s.heap.push (boundTo id a), toks := tk }) :
    wpAny (model prog w) A (Builtin.«method_descriptor.__get__» ⟨[.builtin id, .ref a, .type "set"], []⟩) P E s := by
  unfold Builtin.«method_descriptor.__get__»
  refine wpAny_bind (wpAny_of_eq (a := (.builtin id, some (.ref a), some (.type "set"))) (by rcases hid with rfl | rfl <;> rfl) ?_)
  have hT : s.TypeIs (.ref a) "set" := ⟨_, hx, hc⟩
  have f1 : isSubtype (.type "set") (.type "set") = pure true := by rw [isSubtype_type]; kernel_rfl
  dsimp only
  have fin : ∀ nm : Str, wpAny (model prog w) A (isInstance (.ref a) (.type "set")) (fun b s₁ => b = true ∧ s₁ = s) E s := fun nm => wpAny_isInstance hT f1 ⟨rfl, rfl⟩
  rcases hid with rfl | rfl
  · rw [show Manifest.toldItsClass.contains "set.add" = false by decide +kernel, if_neg Bool.false_ne_true]
    refine wpAny_bind (wpAny_bind (wpAny_of_eq (a := (("add" : Str), Value.type "set")) (by first | rfl | kernel_rfl) ?_))
    refine wpAny_bind (wpAny_mono (fin "add") (fun b s₁ hb => ?_) fun _ _ x => x)
    obtain ⟨rfl, rfl⟩ := hb
    exact wpAny_pure (wpAny_bind (wpAny_newObj_type (wpAny_pure (h _)) (by size_fits)))
  · rw [show Manifest.toldItsClass.contains "set.__contains__" = false by decide +kernel, if_neg Bool.false_ne_true]
    refine wpAny_bind (wpAny_bind (wpAny_of_eq (a := (("__contains__" : Str), Value.type "set")) (by first | rfl | kernel_rfl) ?_))
    refine wpAny_bind (wpAny_mono (fin "add") (fun b s₁ hb => ?_) fun _ _ x => x)
    obtain ⟨rfl, rfl⟩ := hb
    exact wpAny_pure (wpAny_bind (wpAny_newObj_type (wpAny_pure (h _)) (by size_fits)))
set_option maxHeartbeats 4000000 in
theorem getAttr_set_add {a : Addr} {es : Array (Int × Value)} {ep : Nat} {t : SetTable} {Q : Value → Shared → Prop}
    (hx : s.heap.get? a = some { cls := .type "set", data := .set es ep t }) (hA : A.handled = none)
    (h : ∀ tk, Q (.ref s.heap.objs.size) { s with heap := s.heap.push { cls := .type "builtin_function_or_method", data := .fields #[.builtin "set.add", .ref a] }, toks := tk }) :
    wpAny (model prog w) A (getAttr (.ref a) "add" true) Q E s := by
  obtain ⟨hp, g, d, tk, os⟩ := s
  have hT : ∀ tk', (⟨hp, g, d, tk', os⟩ : Shared).TypeIs (.ref a) "set" := fun _ => ⟨_, hx, rfl⟩
  have f3 := F.slot_set_getattribute.lookup
  have f4 := F.slot_set_getattribute.bind (.ref a)
  have f6 := F.slot_set_add.lookup
  have f7 := F.type_set_add
  have f8 := slot_md_get.lookup
  have f9 := md_set_none
  have f10 := md_delete_none
  unfold getAttr getAttrBy
  repeat (any_goals (first | assumption | exact hT _ | ((with_reducible show wpAny _ _ (call (Value.builtin "set.__getattribute__") _ _) _ _ _); refine wpAny_call_entry F.slot_set_getattribute (hT _) entry_set_getattribute ?_ (F.args_set_getattribute_2 _ _)) | ((with_reducible show wpAny _ _ (call (Value.builtin "method_descriptor.__get__") _ _) _ _ _); refine wpAny_call_entry slot_md_get f7 entry_md_get (run_md_get (.inl rfl) hx rfl fun tk => ⟨_, rfl, ?_⟩) (args_md_get _ _ _)) | wp_step))
  exact ⟨_, rfl, wpAny_pure (h _)⟩
set_option maxHeartbeats 4000000 in
theorem getAttr_set_contains {a : Addr} {es : Array (Int × Value)} {ep : Nat} {t : SetTable} {Q : Value → Shared → Prop}
    (hx : s.heap.get? a = some { cls := .type "set", data := .set es ep t }) (hA : A.handled = none)
    (h : ∀ tk, Q (.ref s.heap.objs.size) { s with heap := s.heap.push (boundTo "set.__contains__" a), toks := tk }) :
    wpAny (model prog w) A (getAttr (.ref a) "__contains__" true) Q E s := by
  obtain ⟨hp, g, d, tk, os⟩ := s
  have hT : ∀ tk', (⟨hp, g, d, tk', os⟩ : Shared).TypeIs (.ref a) "set" := fun _ => ⟨_, hx, rfl⟩
  have f3 := F.slot_set_getattribute.lookup
  have f4 := F.slot_set_getattribute.bind (.ref a)
  have f6 := F.slot_set_contains.lookup
  have f7 := F.type_set_contains
  have f8 := slot_md_get.lookup
  have f9 := md_set_none
  have f10 := md_delete_none
  unfold getAttr getAttrBy
  repeat (any_goals (first | assumption | exact hT _ | ((with_reducible show wpAny _ _ (call (Value.builtin "set.__getattribute__") _ _) _ _ _); refine wpAny_call_entry F.slot_set_getattribute (hT _) entry_set_getattribute ?_ (F.args_set_getattribute_2 _ _)) | ((with_reducible show wpAny _ _ (call (Value.builtin "method_descriptor.__get__") _ _) _ _ _); refine wpAny_call_entry slot_md_get f7 entry_md_get (run_md_get (.inr rfl) hx rfl fun tk => ⟨_, rfl, ?_⟩) (args_md_get _ _ _)) | wp_step))
  exact ⟨_, rfl, wpAny_pure (h _)⟩
end

section
variable {prog : Program} {w : World} {A : Around} {E : Value → Shared → Prop} {s : Shared}
set_option maxHeartbeats 4000000 in
theorem check_add {a : Addr} {x : Value} {Q : Unit → Shared → Prop} {es : Array (Int × Value)} {ep : Nat} {t : SetTable} (hx : s.heap.get? a = some { cls := .type "set", data := .set es ep t }) (h : Q () s) : wpAny (model prog w) A (checkBoundCall "set.add" ⟨[.ref a, x], []⟩) Q E s := by
  have hT : s.TypeIs (.ref a) "set" := ⟨_, hx, rfl⟩
  have f1 : isSubtype (.type "set") (.type "module") = pure false := by rw [isSubtype_type]; kernel_rfl
  unfold checkBoundCall
  rw [show Manifest.signature? "set.add" = some ((Manifest.signature? "set.add").get (by decide +kernel)) by simp]
  dsimp only
  rw [show builtinKind "set.add" = some .method by kernel_rfl]
  dsimp only
  refine KFB.if_not rfl ?_
  refine wpAny_bind (wpAny_isInstance hT f1 ?_)
  refine KFB.if_not (by decide +kernel) ?_
  refine wpAny_bind ?_
  repeat (any_goals (first | assumption | wp_step))
set_option maxHeartbeats 4000000 in
theorem check_contains {a : Addr} {x : Value} {Q : Unit → Shared → Prop} {es : Array (Int × Value)} {ep : Nat} {t : SetTable} (hx : s.heap.get? a = some { cls := .type "set", data := .set es ep t }) (h : Q () s) : wpAny (model prog w) A (checkBoundCall "set.__contains__" ⟨[.ref a, x], []⟩) Q E s := by
  have hT : s.TypeIs (.ref a) "set" := ⟨_, hx, rfl⟩
  have f1 : isSubtype (.type "set") (.type "module") = pure false := by rw [isSubtype_type]; kernel_rfl
  unfold checkBoundCall
  rw [show Manifest.signature? "set.__contains__" = some ((Manifest.signature? "set.__contains__").get (by decide +kernel)) by simp]
  dsimp only
  rw [show builtinKind "set.__contains__" = some .method by kernel_rfl]
  dsimp only
  refine KFB.if_not rfl ?_
  refine wpAny_bind (wpAny_isInstance hT f1 ?_)
  refine KFB.if_not (by decide +kernel) ?_
  refine wpAny_bind ?_
  repeat (any_goals (first | assumption | wp_step))
theorem call_bound {q a : Addr} {id : String} {x : Value} {b : Builtin} {Q : Value → Shared → Prop} (hq : s.heap.get? q = some (boundTo id a)) (hb : entryFor table id = some b) (hpl : plainId id = true)
    (hchk : wpAny (model prog w) A.in1 (checkBoundCall id ⟨[.ref a, x], []⟩) (fun _ s' => s' = s) E s)
    (h : wpAny (model prog w) A.in1 (b ⟨[.ref a, x], []⟩) (fun fin s' => ∃ v, fin = .done (.ret v) ∧ Q v s') E s) :
    wpAny (model prog w) A (call (.ref q) [x]) Q E s := by
  refine wpAny_call (codeAny_of_tree ?_)
  show wpAny _ A.in1 (callAny (.ref q) ⟨[x], []⟩) _ _ s
  simp only [callAny]
  refine wpAny_bind (wpAny_load hq ?_)
  simp only [boundTo, show (Value.type "builtin_function_or_method" == Value.type "method" || Value.type "builtin_function_or_method" == Value.type "builtin_function_or_method" || Value.type "builtin_function_or_method" == Value.type "method-wrapper") = true by decide, if_true]
  refine KFB.if_so (by decide) ?_
  refine wpAny_bind (wpAny_mono hchk (fun _ s' e => ?_) fun _ _ x => x)
  subst e
  refine wpAny_bind (wpAny_pure (wpAny_pure ?_))
  refine ⟨plainId_quiet hpl _, codeAny_builtin hb ?_⟩
  rw [Around.under_plainId hpl _]
  refine wpAny_mono h (fun fin s₂ h₂ => ?_) fun _ _ x => x
  obtain ⟨v, rfl, hq⟩ := h₂
  exact hq
theorem sum_dec (a b : Leaf) (i : Bool) (h : (a = b) ↔ i = true) : decide (a = b) = i := by
  by_cases e : a = b
  · rw [decide_eq_true e]; exact (h.1 e).symm
  · rw [decide_eq_false e]
    cases i with
    | false => rfl
    | true => exact absurd (h.2 rfl) e
/-- texts and numbers as the keys of one set -/
def leafK (prog : Program) (w : World) : PySem.KeyKind prog w Leaf where
  is := fun k v => match k with | .inl i => v.isInt i | .inr x => v.isStrOf x
  hash := fun k => match k with | .inl i => hashInt i | .inr x => hashStr w x
  inj := fun v a b ha hb => by
    rcases a with i | i <;> rcases b with j | j
    · exact congrArg _ (Value.isInt_inj v i j ha hb)
    · obtain ⟨t, rfl⟩ := Value.isInt_shape ha; simp [Value.isStrOf] at hb
    · obtain ⟨t, rfl⟩ := Value.isStrOf_shape ha; simp [Value.isInt] at hb
    · exact congrArg _ (Value.isStrOf_inj v i j ha hb)
  byValue := fun k v h => by
    rcases k with i | i
    · obtain ⟨t, rfl⟩ := Value.isInt_shape h; rfl
    · obtain ⟨t, rfl⟩ := Value.isStrOf_shape h; rfl
  pyHash := fun {A E s k v Q} hv h => by
    rcases k with i | i
    · obtain ⟨t, rfl⟩ := Value.isInt_shape hv; exact wpAny_pyHash_int h
    · obtain ⟨t, rfl⟩ := Value.isStrOf_shape hv; exact wpAny_pyHash_str h
  eqBool := fun {A E s a b u v Q} hu hv h => by
    rcases a with i | i <;> rcases b with j | j
    · obtain ⟨t, rfl⟩ := Value.isInt_shape hu
      obtain ⟨t', rfl⟩ := Value.isInt_shape hv
      refine SeqAt.EqAt.int_int i t j t' prog w E Q ?_
      rw [← sum_dec (.inl i) (.inl j) (i == j) (by simp)]; exact h
    · obtain ⟨t, rfl⟩ := Value.isInt_shape hu
      obtain ⟨t', rfl⟩ := Value.isStrOf_shape hv
      exact SeqAt.EqAt.int_str i t j t' prog w E Q (by simpa using h)
    · obtain ⟨t, rfl⟩ := Value.isStrOf_shape hu
      obtain ⟨t', rfl⟩ := Value.isInt_shape hv
      exact SeqAt.EqAt.str_int i t j t' prog w E Q (by simpa using h)
    · obtain ⟨t, rfl⟩ := Value.isStrOf_shape hu
      obtain ⟨t', rfl⟩ := Value.isStrOf_shape hv
      refine SeqAt.EqAt.str_str i t j t' prog w E Q ?_
      rw [← sum_dec (.inr i) (.inr j) (i == j) (by simp)]; exact h
  «strs» := fun k x t v h => by
    rcases k with i | i
    · simp [Value.isInt] at h
    · obtain ⟨u, hu⟩ := Value.isStrOf_shape h
      injection hu with hx
      subst hx
      cases v <;> rfl
section
variable {prog : Program} {w : World} {A : Around} {E : Value → Shared → Prop} {s : Shared} {K : Type} [DecidableEq K] {knd : PySem.KeyKind prog w K} {a q : Addr} {k : K} {key : Value}
theorem setObj {h : Heap} {S : K → Bool} {n : Nat} (hS : h.SetOf knd a S n) : ∃ es ep t, h.get? a = some { cls := .type "set", data := .set es ep t } := by
  obtain ⟨⟨c, dd, dat, sl⟩, es, ep, t, ho, ⟨h1, h2, h3⟩, hd, _⟩ := hS
  simp only at h1 h2 h3 hd
  subst h1 h2 h3 hd
  exact ⟨es, ep, t, ho⟩
theorem call_bound_add {S : K → Bool} {n : Nat} {Q : Value → Shared → Prop} (hq : s.heap.get? q = some (boundTo "set.add" a)) (hkey : knd.is k key = true) (hsc : key.scannable = true) (hS : s.heap.SetOf knd a S n) (hroom : n + 1 < scanBound)
    (h : ∀ h', Heap.SameBut a s.heap h' → h'.SetOf knd a (fun k' => S k' || decide (k' = k)) (if S k then n else n + 1) → Q .none { s with heap := h', toks := s.toks + 1 }) :
    wpAny (model prog w) A (call (.ref q) [key]) Q E s := by
  obtain ⟨es, ep, t, ho⟩ := setObj hS
  refine call_bound hq F.entry_set_add (by decide +kernel) (check_add ho rfl) ?_
  unfold Builtin.«set.add» Builtin.Frozenset.oneOther
  simp only [List.isEmpty_nil, bind_assoc]
  unfold Builtin.Frozenset.addrOf setAdd
  refine wpAny_bind (wpAny_pure ?_)
  try dsimp only
  refine wpAny_bind (wpAny_pure ?_)
  try dsimp only
  refine wpAny_bind ?_
  refine wpAny_holding ?_
  refine wpAny_bind (knd.pyHash hkey ?_)
  refine wpAny_setAddHashed_of (s := { s with toks := s.toks + 1 }) hkey hsc hS hroom fun h' hsb hS' => ?_
  show wpAny _ _ (ret Value.none) _ _ _
  exact wpAny_pure ⟨_, rfl, h h' hsb hS'⟩
theorem call_bound_contains {S : K → Bool} {n : Nat} {Q : Value → Shared → Prop} (hq : s.heap.get? q = some (boundTo "set.__contains__" a)) (hkey : knd.is k key = true) (hsc : key.scannable = true) (hS : s.heap.SetOf knd a S n)
    (h : Q (.bool (S k)) { s with toks := s.toks + 1 }) : wpAny (model prog w) A (call (.ref q) [key]) Q E s := by
  obtain ⟨es, ep, t, ho⟩ := setObj hS
  refine call_bound hq entry_set_contains (by decide +kernel) (check_contains ho rfl) ?_
  unfold Builtin.«frozenset.__contains__» Builtin.Frozenset.oneOther
  simp only [List.isEmpty_nil, bind_assoc]
  unfold Builtin.Frozenset.addrOf Builtin.Frozenset.withSetAsKey setContains
  refine wpAny_bind (wpAny_pure ?_)
  try dsimp only
  refine wpAny_bind (wpAny_pure ?_)
  try dsimp only
  refine wpAny_bind (wpAny_tryCatch ?_)
  refine wpAny_holding ?_
  refine wpAny_bind (knd.pyHash hkey ?_)
  refine wpAny_bind (wpAny_setFind_of (s := { s with toks := s.toks + 1 }) hkey hsc hS fun r hr => ?_)
  refine wpAny_pure ?_
  show wpAny _ _ (ret (Value.bool r.isSome)) _ _ _
  rw [hr]
  exact wpAny_pure ⟨_, rfl, h⟩
end
end

/-- what stays of a heap at the places KS; the frames fs up to their slots -/
def ExOn (fs : List Addr) (KS : Addr → Prop) (h h' : Heap) : Prop :=
  ∀ b o, KS b → h.get? b = some o → (b ∉ fs → h'.get? b = some o) ∧ ∃ sl, h'.get? b = some { o with slots := sl }
theorem ExOn.of_ex {fs ws : List Addr} {KS : Addr → Prop} {h h' : Heap} (x : Ex fs ws h h') (n : ∀ b, KS b → b ∉ ws) : ExOn fs KS h h' := fun b o k e => x b o e (n b k)
theorem ExOn.refl (fs : List Addr) (KS : Addr → Prop) (h : Heap) : ExOn fs KS h h := .of_ex (ws := []) (.refl _ _ _) (by simp)
theorem ExOn.trans {fs : List Addr} {KS : Addr → Prop} {h₁ h₂ h₃ : Heap} (x : ExOn fs KS h₁ h₂) (y : ExOn fs KS h₂ h₃) : ExOn fs KS h₁ h₃ := fun b o n e => by
  obtain ⟨x1, sl, x2⟩ := x b o n e
  obtain ⟨_, sl', y2⟩ := y b _ n x2
  exact ⟨fun hf => (y b o n (x1 hf)).1 hf, sl', y2⟩
theorem ExOn.mono {fs : List Addr} {KS KS' : Addr → Prop} {h h' : Heap} (x : ExOn fs KS h h') (n : ∀ b, KS' b → KS b) : ExOn fs KS' h h' := fun b o k e => x b o (n b k) e
theorem ExOn.list {fs : List Addr} {KS : Addr → Prop} {h h' : Heap} {a : Addr} {vs : Array Value} (x : ExOn fs KS h h') (n : KS a) (e : h.IsList a vs) : h'.IsList a vs := by
  obtain ⟨o, ho, hc, k, hd⟩ := e
  obtain ⟨_, sl, h'⟩ := x a o n ho
  exact ⟨_, h', hc, k, hd⟩
theorem ExOn.ns {fs : List Addr} {KS : Addr → Prop} {h h' : Heap} {a : Addr} {m : Str → Option Value} (x : ExOn fs KS h h') (n : KS a) (e : h.Ns a m) : h'.Ns a m := by
  obtain ⟨o, es, ep, ho, hd, r⟩ := e
  obtain ⟨_, sl, h'⟩ := x a o n ho
  exact ⟨_, es, ep, h', hd, r⟩
section
variable {w : World} {p : Program} {loose : List Str} {mean : ExcName → Option Value} {mg mb : Str → Option Value} {l : List Env} {bs h h' : Heap}
theorem Cx.exOn {KS : Addr → Prop} (c : Cx w p loose mean mg mb l bs h) (x : ExOn (frs l) KS h h') (hb : ∀ b o, bs.get? b = some o → KS b) (hf : ∀ b ∈ frs l, KS b) : Cx w p loose mean mg mb l bs h' where
  stays := fun b o e => (x b o (hb b o e) (c.stays b o e)).1 fun q => by rw [c.nofrs q] at e; cases e
  ff := by
    have : ∀ {l' : List Env}, (∀ b ∈ frs l', b ∈ frs l) → h.FunFrames bs l' → h'.FunFrames bs l' := fun {l'} => by
      induction l' with
      | nil => intro _ _; trivial
      | cons env rest ih =>
        intro hin ⟨hk, ⟨L, o, hf', hn, ho, hd⟩, hr⟩
        have hL : L ∈ frs l := hin L (frs_in env (.head _) L hf')
        obtain ⟨_, sl, hs⟩ := x L o (hf L hL) ho
        exact ⟨hk, ⟨L, _, hf', hn, hs, hd⟩, ih (fun b hb => hin b (by
          obtain ⟨e', he', hf''⟩ := List.mem_filterMap.mp hb
          exact List.mem_filterMap.mpr ⟨e', .tail _ he', hf''⟩)) hr⟩
    exact this (fun _ q => q) c.ff
  K := c.K
  T := c.T
end
section
variable {prog : Program} {w : World} {A : Around} {E : Value → Shared → Prop} {s : Shared}
theorem pyNext_genQ {a : Addr} {g n : Nat} {gs : GenState} {P : Nat → Shared → Shared → Prop} {Y : Protocol} {Q : Option Value → Shared → Prop} (hh : A.handled = none)
    (hl : s.heap.NoLimit) (hroom : A.depth < recursionLimit) (hg : s.heap.IsGen a g) (hgs : s.gens[g]? = some gs)
    (hgo : gs.Goes (model prog w) A.in1 (fun n s₀ r s₁ => r = .ok (.ret .none) ∧ P n s₀ s₁) Y n (.send .none) (s.setGen g .running))
    (hY : ∀ v s₁ gs', gs'.bare = true → Y (n - 1) (s.setGen g .running) v s₁ (fun r' s'' => match n with
        | 0 => False
        | m + 1 => gs'.Goes (model prog w) A.in1 (fun n s₀ r s₁ => r = .ok (.ret .none) ∧ P n s₀ s₁) Y m r' s'') → Q (some v) (s₁.setGen g gs'))
    (hP : ∀ s₁, P n (s.setGen g .running) s₁ → ∀ h', (∀ b o, s₁.heap.get? b = some o → h'.get? b = some o) → Q none { s₁.setGen g .finished with heap := h' }) :
    wpAny (model prog w) A (pyNext (.ref a)) Q E s := by
  unfold pyNext
  refine wpAny_bind (wpAny_attempt (wpAny_callSpecial?_slot (name := Str.ofString "__next__") hg.typeIs slot_gen_next (wpAny_call_entry slot_gen_next hg.typeIs entry_gen_next ?_ (args_gen_next _))))
  show wpAny _ A.in1 (Builtin.Generator.genWake (.ref a) (.send .none)) _ _ s
  unfold Builtin.Generator.genWake
  refine wpAny_bind (wpAny_holding (wpAny_genNumber hg (wpAny_bind (wpAny_genState hgs ?_))))
  cases gs with
  | running => exact hgo.elim
  | finished => exact hgo.elim
  | _ =>
    refine wpAny_bind (wpAny_roomToWake hl hroom ?_)
    show wpAny _ A.in1 (.resume g (.send .none) [] _) _ _ s
    refine wpAny_resumeQ hgs hgo (fun x s₁ hx => ?_) (fun v s₁ gs' hb hv => ?_)
    · obtain ⟨rfl, hp⟩ := hx
      show wpAny _ A.in1 (newExc (.type "StopIteration") [] >>= _) _ _ _
      refine wpAny_bind ?_
      simp only [newExc, newTuple]
      refine wpAny_bind (wpAny_newObj_type ?_ (by size_fits))
      refine wpAny_bind (m := firstArgMember _ _) (wpAny_of_eq (a := Value.none) (by first | rfl | (simp only [firstArgMember]; rfl)) ?_)
      refine wpAny_newObj_type ?_ (by size_fits)
      simp only [raiseNew]
      refine wpAny_bind (wpAny_bind (wpAny_handled ?_))
      first | rw [show A.in1.handled = none from hh] | rw [hh]
      refine wpAny_throw ?_
      refine wpAny_bind (wpAny_isInstance (T := "StopIteration") (b := true) ⟨_, Heap.get?_push_size _ rfl, rfl⟩ isSubtype_stop ?_)
      exact wpAny_pure (hP s₁ hp _ fun b o hb => Heap.get?_push_of_some _ (Heap.get?_push_of_some _ hb))
    · exact wpAny_pure ⟨v, rfl, wpAny_pure (hY v s₁ gs' hb hv)⟩
end
section
variable {M : Model} {A : Around} {R : GenEnd} {Y : Protocol} {n : Nat} {s₀ : Shared} {c : Code} {fs : List Frame} {s : Shared} {env : Env}
  {K : Flow → Sem Fin} {H : Value → Sem Fin} {gd : Bool → Bool} {lv : List Value → List Value}
theorem seg_If {test : Expr} {body orelse : List Stmt} {pos : Pos}
    (h : wpAny M (A.over c fs) (isTrue test env (eval test env)) (fun b s' => if b = true then Seg M A R Y n s₀ c ((execs body env).wrap K H gd lv) fs s' else Seg M A R Y n s₀ c ((execs orelse env).wrap K H gd lv) fs s')
      (fun x s' => Seg M A R Y n s₀ c (H x) fs s') s) :
    Seg M A R Y n s₀ c ((exec (.If test body orelse pos) env).wrap K H gd lv) fs s := by
  rw [exec_If]
  refine seg_bind_wrap (wpAny_standAt ?_)
  refine seg_bind_wrap (wpAny_mono h (fun b s' hb => ?_) fun _ _ x => x)
  cases b with
  | true => rw [if_pos rfl] at hb; exact hb
  | false => rw [if_neg Bool.false_ne_true] at hb; exact hb
theorem seg_exec {st : Stmt} (h : wpAny M (A.over c fs) (exec st env) (fun f s' => Seg M A R Y n s₀ c (K f) fs s') (fun x s' => Seg M A R Y n s₀ c (H x) fs s') s) :
    Seg M A R Y n s₀ c ((exec st env).wrap K H gd lv) fs s := seg_wrap h
theorem seg_For {target iter : Expr} {body orelse : List Stmt} {pos : Pos}
    (h : wpAny M (A.over c fs) (eval iter env) (fun x s₁ => wpAny M (A.over c fs) (pyIter x) (fun it s₂ => ∀ p, Seg M A R Y n s₀ (.forLoop target it body orelse env) (M.den (.forLoop target it body orelse env))
      (.ret (fun r => ((match r with | .ok f => (.pure f : Sem Flow) | .error e => .raise e).onRaise fun (x : Value) => do
        if (← field x 1) == Value.none then unsupported "frame.own-activation:exception-without-traceback"
        setFlight x env.frame).wrap K H gd lv) none (gd false) (lv []) c p [] :: fs) s₂) (fun x s' => Seg M A R Y n s₀ c (H x) fs s') s₁) (fun x s' => Seg M A R Y n s₀ c (H x) fs s') s)
    (hs : ∀ x, foldedSetIterable iter env x = pure x := by intro _; rfl) :
    Seg M A R Y n s₀ c ((exec (.For target iter body orelse pos) env).wrap K H gd lv) fs s := by
  rw [exec_For]
  refine seg_bind_wrap (wpAny_standAt ?_)
  refine seg_bind_wrap (wpAny_mono h (fun x s₁ h₁ => ?_) fun _ _ x => x)
  rw [hs]
  refine seg_bind_wrap (wpAny_pure ?_)
  refine seg_bind_wrap (wpAny_standAt ?_)
  refine seg_bind_wrap (wpAny_holding (wpAny_mono h₁ (fun it s₂ h₂ => ?_) fun _ _ x => x))
  exact seg_call h₂
end
section
variable {prog : Program} {w : World} {A : Around} {R : GenEnd} {Y : Protocol} {n : Nat} {s₀ : Shared} {fs : List Frame} {s : Shared} {env : Env}
abbrev loopK (c : Code) (f : Flow) : Sem Fin := match f with
  | .next | .cont => .pure (.again c)
  | .brk => .pure (.done .next)
  | .ret v => .pure (.done (.ret v))
abbrev loopH (env : Env) (e : Value) : Sem Fin := (do noteFrame e env; theTreesLotGoes e : Sem Unit).bind fun _ => .raise e
theorem seg_forLoop {x : Str} {px : Pos} {body : List Stmt} {I : Addr}
    (h : wpAny (model prog w) (A.over (.forLoop (.Name x px) (.ref I) body [] env) fs) (pyNext (.ref I)) (fun r s₁ => match r with
      | none => Seg (model prog w) A R Y n s₀ (.block [] env) ((model prog w).den (.block [] env)) fs s₁
      | some v => wpAny (model prog w) (A.over (.forLoop (.Name x px) (.ref I) body [] env) fs) (assign (.Name x px) env v) (fun _ s₂ =>
          Seg (model prog w) A R Y n s₀ (.forLoop (.Name x px) (.ref I) body [] env) ((execs body env).wrap (loopK (.forLoop (.Name x px) (.ref I) body [] env)) (loopH env) id id) fs s₂) noErr s₁) noErr s) :
    Seg (model prog w) A R Y n s₀ (.forLoop (.Name x px) (.ref I) body [] env) ((model prog w).den (.forLoop (.Name x px) (.ref I) body [] env)) fs s := by
  show Seg _ A R Y n s₀ _ ((forTurn (.Name x px) (.ref I) body [] env).onRaise (fun x => do noteFrame x env; theTreesLotGoes x)) fs s
  unfold forTurn
  rw [Sem.onRaise_eq_wrap]
  refine seg_bind_wrap (wpAny_standAt ?_)
  refine seg_bind_wrap (wpAny_onRaise (wpAny_mono h (fun r s₁ h₁ => ?_) fun _ _ f => f.elim))
  cases r with
  | none => exact seg_again rfl h₁
  | some v =>
    refine seg_bind_wrap (wpAny_of_eq (rfl : letOwnedTupleGo (.Name x px) (.ref I) v = pure ()) ?_)
    refine seg_bind_wrap (wpAny_mono h₁ (fun _ s₂ h₂ => ?_) fun _ _ f => f.elim)
    rw [Sem.bind_eq_wrap', Sem.wrap_wrap]
    refine (congrArg (fun t => Seg (model prog w) A R Y n s₀ (.forLoop (.Name x px) (.ref I) body [] env) t fs s₂) (Sem.wrap_congr (execs body env) (K' := loopK (.forLoop (.Name x px) (.ref I) body [] env)) (H' := loopH env) id id (fun f => by cases f <;> rfl) (fun e => ?_))).mpr h₂
    rfl
end

structure GSince (fs : List Addr) (KS : Addr → Prop) (s₀ s : Shared) : Prop where
  heap : ExOn fs KS s₀.heap s.heap
  gens : s.gens = s₀.gens
  drawn : s.drawn = s₀.drawn
  os : s.os = s₀.os
theorem GSince.refl (fs : List Addr) (KS : Addr → Prop) (s : Shared) : GSince fs KS s s := ⟨.refl _ _ _, rfl, rfl, rfl⟩
theorem GSince.trans {fs : List Addr} {KS : Addr → Prop} {a b c : Shared} (x : GSince fs KS a b) (y : GSince fs KS b c) : GSince fs KS a c := ⟨x.heap.trans y.heap, y.gens.trans x.gens, y.drawn.trans x.drawn, y.os.trans x.os⟩
theorem GSince.of_mv {fs ws : List Addr} {KS : Addr → Prop} {a b : Shared} (x : Mv fs ws Same a b) (n : ∀ b, KS b → b ∉ ws) : GSince fs KS a b := ⟨.of_ex x.heap n, x.gens, x.drawn, x.os⟩
structure GMv (fs : List Addr) (KS : Addr → Prop) (g : Nat) (s s' : Shared) : Prop where
  heap : ExOn fs KS s.heap s'.heap
  gens : GenOnlyQ g s.gens s'.gens
  drawn : s'.drawn = s.drawn
  os : s'.os = s.os
theorem GMv.refl (fs : List Addr) (KS : Addr → Prop) (g : Nat) (s : Shared) : GMv fs KS g s s := ⟨.refl _ _ _, .inl rfl, rfl, rfl⟩
theorem GMv.trans {fs : List Addr} {KS : Addr → Prop} {g : Nat} {a b c : Shared} (x : GMv fs KS g a b) (y : GMv fs KS g b c) : GMv fs KS g a c := ⟨x.heap.trans y.heap, x.gens.trans y.gens, y.drawn.trans x.drawn, y.os.trans x.os⟩
theorem GMv.mono {fs : List Addr} {KS KS' : Addr → Prop} {g : Nat} {a b : Shared} (x : GMv fs KS g a b) (n : ∀ b, KS' b → KS b) : GMv fs KS' g a b := ⟨x.heap.mono n, x.gens, x.drawn, x.os⟩
theorem GMv.of_mv {fs ws : List Addr} {KS : Addr → Prop} {g : Nat} {a b : Shared} (x : Mv fs ws Same a b) (n : ∀ b, KS b → b ∉ ws) : GMv fs KS g a b := ⟨.of_ex x.heap n, .inl x.gens, x.drawn, x.os⟩

/-- D and C are there -/
def Pr (D C : Addr) (h : Heap) : Prop := (∃ o, h.get? D = some o) ∧ ∃ o, h.get? C = some o
def gY (fs : List Addr) (KS : Addr → Prop) (D C : Addr) (pz : Nat → Bool) (n₀ : Nat) (F : Nat → Value → Prop) : Protocol := fun m s₀ v s kap =>
  (∃ i, (passing pz n₀ 0)[(passing pz n₀ 0).length - 1 - m]? = some i ∧ F i v) ∧ GSince fs KS s₀ s ∧ ∀ s'' : Shared, Ex fs [D, C] s.heap s''.heap → Pr D C s''.heap → kap (.send .none) s''
abbrev gP (fs : List Addr) (KS : Addr → Prop) : Nat → Shared → Shared → Prop := fun n s₀ s₁ => n = 0 ∧ GSince fs KS s₀ s₁
abbrev gR (fs : List Addr) (KS : Addr → Prop) : GenEnd := fun n s₀ r s₁ => r = .ok (.ret .none) ∧ gP fs KS n s₀ s₁

section
variable {w : World} {p : Program} {loose : List Str} {mean : ExcName → Option Value} {mg mb : Str → Option Value} {l : List Env} {bs : Heap}
/-- a generator that stands before its item j -/
def Rd (w : World) (p : Program) (loose : List Str) (mean : ExcName → Option Value) (mg mb : Str → Option Value) (l : List Env) (bs : Heap) (A : Around) (KS : Addr → Prop) (D C G : Addr) (g : Nat) (pz : Nat → Bool) (n₀ : Nat) (F : Nat → Value → Prop) (j : Nat) (s : Shared) : Prop :=
  s.heap.IsGen G g ∧ Cx w p loose mean mg mb l bs s.heap ∧ ∃ gs, s.gens[g]? = some gs ∧ gs.bare = true ∧ ∀ s'' : Shared, Ex (frs l) [D, C] s.heap s''.heap → Pr D C s''.heap →
    gs.Goes (model Challenge.rw_il0027_01.row.prog w) A.in1 (gR (frs l) KS) (gY (frs l) KS D C pz n₀ F) ((passing pz n₀ 0).length - j) (.send .none) s''
variable {A : Around} {KS : Addr → Prop} {D C G : Addr} {g : Nat} {pz : Nat → Bool} {n₀ : Nat} {F : Nat → Value → Prop}
theorem IsGen.exOn {fs : List Addr} {h h' : Heap} (x : h.IsGen G g) (e : ExOn fs KS h h') (k : KS G) (n : G ∉ fs) : h'.IsGen G g :=
  let ⟨o, nm, qn, ho, r⟩ := x; ⟨o, nm, qn, (e G o k ho).1 n, r⟩
theorem Rd.frame {j : Nat} {s s' : Shared} (x : Rd w p loose mean mg mb l bs A KS D C G g pz n₀ F j s) (m : Mv (frs l) [D, C] Same s s') (hG : G ∉ frs l) (hGD : G ∉ [D, C]) (hb : ∀ b ∈ [D, C], bs.get? b = none ∧ b ∉ frs l) : Rd w p loose mean mg mb l bs A KS D C G g pz n₀ F j s' := by
  obtain ⟨h1, h2, gs, h3, hbr, h4⟩ := x
  refine ⟨IsGen.exOn (KS := fun b => b ∉ [D, C]) h1 (.of_ex m.heap fun b k => k) hGD hG, h2.ex m.heap hb, gs, (by rw [m.gens]; exact h3), hbr, fun s'' e pr => h4 s'' (m.heap.trans e) pr⟩
theorem Rd.item {j : Nat} {s : Shared} {Q : Option Value → Shared → Prop} {E : Value → Shared → Prop} (hh : A.handled = none) (hroom : A.depth < recursionLimit) (hG : G ∉ frs l) (hKG : KS G) (hKb : ∀ b o, bs.get? b = some o → KS b) (hKf : ∀ b ∈ frs l, KS b)
    (hj : j < (passing pz n₀ 0).length) (hpr : Pr D C s.heap) (x : Rd w p loose mean mg mb l bs A KS D C G g pz n₀ F j s)
    (hQ : ∀ v s', (∃ i, (passing pz n₀ 0)[j]? = some i ∧ F i v) → Rd w p loose mean mg mb l bs A KS D C G g pz n₀ F (j + 1) s' → GMv (frs l) KS g s s' → Q (some v) s') :
    wpAny (model Challenge.rw_il0027_01.row.prog w) A (pyNext (.ref G)) Q E s := by
  obtain ⟨hg, hc, gs, hgs, hbr, hgo⟩ := x
  obtain ⟨m, hm⟩ : ∃ m, (passing pz n₀ 0).length - j = m + 1 := ⟨(passing pz n₀ 0).length - j - 1, by omega⟩
  rw [hm] at hgo
  refine pyNext_genQ (P := gP (frs l) KS) hh hc.Th.nolimit hroom hg hgs (hgo _ (.refl _ _ _) hpr) (fun v s₁ gs' hb hv => ?_) (fun s₁ hp h' hk => absurd hp.1 (Nat.succ_ne_zero m))
  obtain ⟨⟨i, hi, hF⟩, hsi, hkap⟩ := hv
  have hidx : (passing pz n₀ 0).length - 1 - (m + 1 - 1) = j := by omega
  rw [hidx] at hi
  have e : (passing pz n₀ 0).length - (j + 1) = m := by omega
  have hx : ExOn (frs l) KS s.heap s₁.heap := hsi.heap
  have hg1 : s₁.gens[g]? = some .running := by rw [hsi.gens]; exact setGen_self hgs
  refine hQ v _ ⟨i, hi, hF⟩ ⟨IsGen.exOn hg hx hKG hG, hc.exOn hx hKb hKf, gs', setGen_self hg1, hb, fun s'' hal hpr' => ?_⟩ ⟨hx, ?_, hsi.drawn, hsi.os⟩
  · rw [e]
    exact hkap s'' hal hpr'
  · have h1 : GenOnly g s.gens s₁.gens := by rw [hsi.gens]; exact GenOnly.setGen s g .running
    exact GenOnlyQ.of (h1.trans (GenOnly.setGen _ g gs')) (setGen_self hg1) hb
theorem Rd.done {s : Shared} {Q : Option Value → Shared → Prop} {E : Value → Shared → Prop} (hh : A.handled = none) (hroom : A.depth < recursionLimit) (hpr : Pr D C s.heap) (hKD : KS D) (hKC : KS C)
    (x : Rd w p loose mean mg mb l bs A KS D C G g pz n₀ F (passing pz n₀ 0).length s)
    (hQ : ∀ s', GMv (frs l) KS g s s' → Q none s') :
    wpAny (model Challenge.rw_il0027_01.row.prog w) A (pyNext (.ref G)) Q E s := by
  obtain ⟨hg, hc, gs, hgs, hbr, hgo⟩ := x
  rw [Nat.sub_self] at hgo
  refine pyNext_genQ (P := gP (frs l) KS) hh hc.Th.nolimit hroom hg hgs (hgo _ (.refl _ _ _) hpr) (fun v s₁ gs' hb hv => ?_) (fun s₁ hp h' hk => ?_)
  · obtain ⟨_, hsi, hkap⟩ := hv
    obtain ⟨⟨o, ho⟩, o', ho'⟩ := hpr
    obtain ⟨_, sl, e1⟩ := hsi.heap D o hKD ho
    obtain ⟨_, sl', e2⟩ := hsi.heap C o' hKC ho'
    exact False.elim (hkap s₁ (.refl _ _ _) ⟨⟨_, e1⟩, _, e2⟩)
  · obtain ⟨_, hsi⟩ := hp
    have hg1 : s₁.gens[g]? = some .running := by rw [hsi.gens]; exact setGen_self hgs
    have hx : ExOn (frs l) KS s.heap s₁.heap := hsi.heap
    refine hQ _ ⟨hx.trans (.of_ex (ws := []) (.of_keeps hk) (by simp)), ?_, hsi.drawn, hsi.os⟩
    have h1 : GenOnly g s.gens s₁.gens := by rw [hsi.gens]; exact GenOnly.setGen s g .running
    exact GenOnlyQ.of (h1.trans (GenOnly.setGen _ g .finished)) (setGen_self hg1) rfl

theorem pr_of {h : Heap} {vs : Array Value} {m : Str → Option Value} (x : h.IsList D vs) (y : h.Ns C m) : Pr D C h := by
  obtain ⟨o, ho, _⟩ := x
  obtain ⟨o', _, _, ho', _⟩ := y
  exact ⟨⟨o, ho⟩, o', ho'⟩
/-- [leaf for leaf in G]: the comprehension's loop -/
theorem gen_loop {iter : Expr} {x : Str} {px px' pos : Pos} {scope : Scope} {cenv : Env} {s₀ : Shared} {m₀ : Str → Option Value} (hh : A.handled = none) (hroom : A.depth < recursionLimit) (hG : G ∉ frs l) (hGD : G ∉ [D, C]) (hKG : KS G) (hKb : ∀ b o, bs.get? b = some o → KS b) (hKf : ∀ b ∈ frs l, KS b)
    (hb : ∀ b ∈ [D, C], bs.get? b = none ∧ b ∉ frs l) (hKD : KS D) (hKC : KS C) (hDC : D ≠ C) (hC : cenv.locals = C) (hx : cenv.kindOf x = some .local) (hp : cenv.scope.kind = .function)
    (hd : (x == ("__debug__" : Str)) = false) (hmax : (passing pz n₀ 0).length ≤ 10000)
    (st : Rd w p loose mean mg mb l bs A KS D C G g pz n₀ F 0 s₀) (hn : s₀.heap.Ns C m₀) (hl : s₀.heap.IsList D #[]) :
    codeAny (model Challenge.rw_il0027_01.row.prog w) A (.compLoop (.ListComp (.Name x px') [⟨.Name x px, iter, [], 0⟩] scope pos) 0 (.ref G) (.ref D) cenv) (fun r s' => r = .ok .next ∧ ∃ (ys : List Value) (m' : Str → Option Value), ys.length = (passing pz n₀ 0).length ∧
      (∀ (j : Nat) (y : Value), ys[j]? = some y → ∃ i, (passing pz n₀ 0)[j]? = some i ∧ F i y) ∧ s'.heap.IsList D ys.toArray ∧ s'.heap.Ns C m' ∧ GMv (frs l) (fun b => KS b ∧ b ∉ [D, C]) g s₀ s') s₀ := by
  refine codeAny_loop rfl (fun k s => ∃ (j : Nat) (ys : List Value) (m : Str → Option Value), j ≤ (passing pz n₀ 0).length ∧ k = (passing pz n₀ 0).length - j ∧ ys.length = j ∧ (∀ (j : Nat) (y : Value), ys[j]? = some y → ∃ i, (passing pz n₀ 0)[j]? = some i ∧ F i y) ∧
    Rd w p loose mean mg mb l bs A KS D C G g pz n₀ F j s ∧ s.heap.IsList D ys.toArray ∧ s.heap.Ns C m ∧ GMv (frs l) (fun b => KS b ∧ b ∉ [D, C]) g s₀ s) (fun k s hI => ?_) (passing pz n₀ 0).length
    ⟨0, [], m₀, Nat.zero_le _, rfl, rfl, by simp, st, hl, hn, .refl _ _ _ _⟩
  obtain ⟨j, ys, m, hj, rfl, hys, hF, st, hl, hn, mv⟩ := hI
  rw [under_loop, den_loop _ _ _ _ _ ⟨_, _, _, _, rfl⟩, turn1]
  refine wpAny_onRaise ?_
  refine wpAny_mono (E := fun _ _ => False) (Q := fun fin s' => (∃ f, fin = .done f ∧ (Except.ok f : Result) = .ok .next ∧ ∃ (ys : List Value) (m' : Str → Option Value), ys.length = (passing pz n₀ 0).length ∧
      (∀ (j : Nat) (y : Value), ys[j]? = some y → ∃ i, (passing pz n₀ 0)[j]? = some i ∧ F i y) ∧ s'.heap.IsList D ys.toArray ∧ s'.heap.Ns C m' ∧ GMv (frs l) (fun b => KS b ∧ b ∉ [D, C]) g s₀ s')
      ∨ (fin = .again (.compLoop (.ListComp (.Name x px') [⟨.Name x px, iter, [], 0⟩] scope pos) 0 (.ref G) (.ref D) cenv) ∧ ∃ k, k < (passing pz n₀ 0).length - j ∧ ∃ (j : Nat) (ys : List Value) (m : Str → Option Value), j ≤ (passing pz n₀ 0).length ∧ k = (passing pz n₀ 0).length - j ∧ ys.length = j ∧ (∀ (j : Nat) (y : Value), ys[j]? = some y → ∃ i, (passing pz n₀ 0)[j]? = some i ∧ F i y) ∧
    Rd w p loose mean mg mb l bs A KS D C G g pz n₀ F j s' ∧ s'.heap.IsList D ys.toArray ∧ s'.heap.Ns C m ∧ GMv (frs l) (fun b => KS b ∧ b ∉ [D, C]) g s₀ s')) ?_ (fun fin s' h => ?_) (fun _ _ h => h.elim)
  · refine wpAny_bind (wpAny_standAt (wpAny_bind ?_))
    by_cases hlt : j < (passing pz n₀ 0).length
    · refine Rd.item hh hroom hG hKG hKb hKf hlt (pr_of hl hn) st fun v s₁ hP st₁ mv₁ => ?_
      have hn₁ : s₁.heap.Ns C m := mv₁.heap.ns hKC hn
      have hl₁ := mv₁.heap.list hKD hl
      show wpAny _ _ (letOwnedTupleGo (.Name x px) (.ref G) v >>= fun _ => assign (.Name x px) cenv v >>= fun _ => _) _ _ s₁
      refine wpAny_bind (wpAny_of_eq (a := ()) (by rfl) ?_)
      refine wpAny_bind (wpAny_assign_Name (wpAny_storeName_local hx (hC ▸ hn₁) (fun h₂ hn₂ hs₂ => ?_) (by rw [hp]; rfl)))
      rw [hC] at hn₂ hs₂
      have mv₂ : Mv (frs l) [D, C] Same s₁ { s₁ with heap := h₂, toks := s₁.toks + 1 } := ⟨Ex.sameBut hs₂ (by simp), rfl, rfl, rfl⟩
      have hl₂ : h₂.IsList D ys.toArray := (Ex.sameBut (fs := []) (ws := [C]) hs₂ (by simp)).list (by simpa using hDC) hl₁
      refine tail1_nil (wpAny_mono (emit (fs := frs l) (Φ := fun y s₃ => y = v ∧ s₃ = { s₁ with heap := h₂, toks := s₁.toks + 1 }) hl₂ (by
        have : (20000 : Nat) ≤ sizeLine := by decide
        omega) (ev_local hp hx (hC ▸ hn₂) (by simp) ⟨.refl Same.refl _, rfl, rfl⟩ hd)) (fun fin s₃ h₃ => ?_) fun _ _ f => f)
      obtain ⟨rfl, y, s₂, ⟨rfl, rfl⟩, hl₃, mv₃, mv₃'⟩ := h₃
      have mvD : Mv (frs l) [D, C] Same { s₁ with heap := h₂, toks := s₁.toks + 1 } s₃ := mv₃.mono (fun _ q => q) (fun b q => by simp at q; simp [q]) fun _ _ q => q
      refine .inr ⟨rfl, (passing pz n₀ 0).length - (j + 1), by omega, j + 1, ys ++ [y], _, hlt, rfl, by simp [hys], fun k z hz => ?_, (st₁.frame mv₂ hG hGD hb).frame mvD hG hGD hb, hl₃, mv₃.heap.ns (by simpa using Ne.symm hDC) hn₂, ?_⟩
      · by_cases hk : k < ys.length
        · rw [List.getElem?_append_left hk] at hz; exact hF k z hz
        · rw [List.getElem?_append_right (by omega)] at hz
          have hk0 : k - ys.length = 0 := by
            rcases Nat.eq_zero_or_pos (k - ys.length) with h | h
            · exact h
            · rw [List.getElem?_eq_none (by simp; omega)] at hz; cases hz
          rw [hk0] at hz
          simp at hz
          subst hz
          have : k = j := by omega
          rw [this]; exact hP
      · exact (mv.trans (mv₁.mono fun b q => q.1)).trans ((GMv.of_mv mv₂ fun b q => q.2).trans (GMv.of_mv mvD fun b q => q.2))
    · obtain rfl : j = (passing pz n₀ 0).length := by omega
      refine Rd.done hh hroom (pr_of hl hn) hKD hKC st fun s₁ mv₁ => ?_
      exact wpAny_pure (.inl ⟨_, rfl, rfl, ys, m, hys, hF, mv₁.heap.list hKD hl, mv₁.heap.ns hKC hn, mv.trans (mv₁.mono fun b q => q.1)⟩)
  · rcases h with ⟨f, rfl, h⟩ | ⟨rfl, h⟩
    · exact h
    · exact ⟨rfl, h⟩
end

section
variable {M : Model} {A : Around} {E : Value → Shared → Prop} {s : Shared}
theorem callWith_bnd {pos : Pos} {q a : Addr} {id : String} {first : List Value} {args : List (Bool × Sem Value)} {Q : Value → Shared → Prop} (hplain : args.any (·.1) = false)
    (h : wpAny M A (evalArgs (.ref q) true args []) (fun x s₁ => s₁.heap.get? q = some (boundTo id a) ∧ wpAny M A (call (.ref q) (first ++ x.pos) x.kw) Q E s₁) E s) : wpAny M A (callWith pos (.ref q) first args []) Q E s := by
  unfold callWith
  refine wpAny_bind (wpAny_holding (wpAny_mono h (fun x s₁ h₁ => wpAny_bind (wpAny_standAt ?_)) fun _ _ x => x))
  obtain ⟨ho, hcall⟩ := h₁
  simp only [hplain, List.any_nil, Bool.or_false]
  refine wpAny_bind (m := keeperOf (.ref q)) ?_
  unfold keeperOf
  refine wpAny_bind (wpAny_load ho ?_)
  simp only [show (Value.type "builtin_function_or_method" != Value.type "method") = true by decide, show (Value.type "builtin_function_or_method" == Value.type "builtin_function_or_method" || Value.type "builtin_function_or_method" == Value.type "method-wrapper") = true by decide, if_true]
  refine wpAny_pure ?_
  exact wpAny_bind (wpAny_mono hcall (fun r s₂ hr => wpAny_bind (wpAny_holding (wpAny_point (wpAny_pure hr)))) fun _ _ x => x)
end
section
variable {prog : Program} {w : World} {K : Type} [DecidableEq K] {knd : PySem.KeyKind prog w K}
theorem setOf_ex {fs ws : List Addr} {h h' : Heap} {S : Addr} {f : K → Bool} {n : Nat} (x : h.SetOf knd S f n) (e : Ex fs ws h h') (h1 : S ∉ fs) (h2 : S ∉ ws) : h'.SetOf knd S f n :=
  let ⟨o, es, ep, t, ho, r⟩ := x; ⟨o, es, ep, t, (e S o ho h2).1 h1, r⟩
theorem setOf_congr {h : Heap} {S : Addr} {f f' : K → Bool} {n : Nat} (x : h.SetOf knd S f n) (e : ∀ k, f k = f' k) : h.SetOf knd S f' n := by
  rw [← funext e]; exact x
end
/-- the addresses of a generator at work, and what they may not be -/
structure Geo (KS : Addr → Prop) (l : List Env) (bs : Heap) (env : Env) (D C : Addr) (xs : List Addr) : Prop where
  ks : ∀ b ∈ env.locals :: xs, ¬ KS b
  dc : ∀ b ∈ env.locals :: xs, b ∉ [D, C]
  bz : ∀ b ∈ env.locals :: xs, bs.get? b = none
  fr : ∀ b ∈ xs, b ∉ frs (env :: l)
  loc : env.locals ∉ xs
  lf : env.locals ∉ frs l
  nd : xs.Nodup
  ff : env.frame = some env.locals
  dcb : ∀ b ∈ [D, C], bs.get? b = none ∧ b ∉ frs (env :: l)
theorem look0 {m : Str → Option Value} {x : Str} {v : Value} : (fun z => if z = x then some v else m z) x = some v := if_pos rfl
theorem look1 {m : Str → Option Value} {x y : Str} {v u : Value} (h : y ≠ x) (e : m y = some u) : (fun z => if z = x then some v else m z) y = some u := (if_neg h).trans e
theorem look2 {m : Str → Option Value} {x₁ x₂ y : Str} {v₁ v₂ u : Value} (h₁ : y ≠ x₁) (h₂ : y ≠ x₂) (e : m y = some u) : (fun z => if z = x₁ then some v₁ else if z = x₂ then some v₂ else m z) y = some u := (if_neg h₁).trans ((if_neg h₂).trans e)
theorem look01 {m : Str → Option Value} {x₁ x₂ : Str} {v₁ v₂ : Value} (h : x₂ ≠ x₁) : (fun z => if z = x₁ then some v₁ else if z = x₂ then some v₂ else m z) x₂ = some v₂ := (if_neg h).trans (if_pos rfl)
theorem frs_cons {env : Env} {l : List Env} {L : Addr} (hf : env.frame = some L) : frs (env :: l) = L :: frs l := by simp [frs, hf]
theorem GSince.of_mv' {KS : Addr → Prop} {l : List Env} {env : Env} {ws : List Addr} {a b : Shared} (hf : env.frame = some env.locals) (x : Mv (frs (env :: l)) ws Same a b) (n : ∀ b, KS b → b ∉ ws ∧ b ≠ env.locals) : GSince (frs l) KS a b :=
  ⟨fun c o k e => ⟨fun q => (x.heap c o e (n c k).1).1 (by
    rw [frs_cons hf]
    exact fun q' => (List.mem_cons.1 q').elim (n c k).2 q), (x.heap c o e (n c k).1).2⟩, x.gens, x.drawn, x.os⟩
section
variable {w : World} {p : Program} {loose : List Str} {mean : ExcName → Option Value} {mg mb : Str → Option Value} {l : List Env} {bs : Heap}
variable {K : Type} [DecidableEq K] (knd : PySem.KeyKind Challenge.rw_il0027_01.row.prog w K)
theorem Cx.tail {env : Env} {h : Heap} (c : Cx w p loose mean mg mb (env :: l) bs h) : Cx w p loose mean mg mb l bs h := ⟨c.stays, c.ff.2.2, c.K, c.T⟩
theorem Cx.own {env : Env} {h h' : Heap} {ws : List Addr} {m : Str → Option Value} (c : Cx w p loose mean mg mb (env :: l) bs h) (hf : env.frame = some env.locals) (hk : env.scope.kind = .function) (hL : env.locals ∉ frs l) (hb : bs.get? env.locals = none)
    (x : Ex (frs (env :: l)) (env.locals :: ws) h h') (hw : ∀ b ∈ ws, bs.get? b = none ∧ b ∉ frs l) (hn : h'.Ns env.locals m) : Cx w p loose mean mg mb (env :: l) bs h' := by
  have x' : Ex (frs l) (env.locals :: ws) h h' := fun b o e n => ⟨fun q => (x b o e n).1 (by
    rw [frs_cons hf]
    exact fun q' => (List.mem_cons.1 q').elim (fun e => n (by simp [e])) q), (x b o e n).2⟩
  have c' := c.tail.ex x' (fun b q => by
    rcases List.mem_cons.1 q with rfl | q
    · exact ⟨hb, hL⟩
    · exact hw b q)
  exact ⟨c'.stays, Heap.FunFrames.cons (by rw [hk]; decide) hf hn hb c'.ff, c.K, c.T⟩
/-- the loop with a key, i items taken -/
structure LI (w : World) (p : Program) (loose : List Str) (mean : ExcName → Option Value) (mg mb : Str → Option Value) (l : List Env) (bs : Heap) (env : Env) (S q I a lam : Addr) (lamo : Obj) (vs : List Value) (ks : List K) (i : Nat) (h : Heap) : Prop where
  cx : Cx w p loose mean mg mb (env :: l) bs h
  ns : ∃ m, h.Ns env.locals m ∧ m "seen" = some (.ref S) ∧ m "seen_add" = some (.ref q) ∧ m "key" = some (.ref lam)
  lst : h.IsList a vs.toArray
  it : h.IsListIter I a i
  set : ∃ n', n' ≤ i ∧ h.SetOf knd S (fun k => (ks.take i).contains k) n'
  bnd : h.get? q = some (boundTo "set.add" S)
  lam : h.get? lam = some lamo
variable {env : Env} {S q I a lam : Addr} {lamo : Obj} {vs : List Value} {ks : List K} {KS : Addr → Prop} {D C G : Addr}
variable {knd}
theorem LI.ex {i : Nat} {h h' : Heap} (x : LI knd w p loose mean mg mb l bs env S q I a lam lamo vs ks i h) (g : Geo KS l bs env D C [S, q, I]) (e : Ex (frs l) [D, C] h h') (ha : KS a ∧ a ∉ [D, C]) (hl : KS lam ∧ lam ∉ [D, C] ∧ lam ∉ frs (env :: l)) : LI knd w p loose mean mg mb l bs env S q I a lam lamo vs ks i h' := by
  have e' : Ex (frs (env :: l)) [D, C] h h' := e.mono (fun b hb => by
    rw [frs_cons g.ff]
    exact .tail _ hb) fun _ q => q
  obtain ⟨m, hn, h1, h2, h3⟩ := x.ns
  obtain ⟨n', hle, hs⟩ := x.set
  exact ⟨x.cx.ex e' g.dcb, ⟨m, e'.ns (g.dc _ (.head _)) hn, h1, h2, h3⟩, e'.list ha.2 x.lst, e'.listiter (g.dc I (by simp)) x.it, ⟨n', hle, setOf_ex hs e' (g.fr S (by simp)) (g.dc S (by simp))⟩,
    (e' q _ x.bnd (g.dc q (by simp))).1 (g.fr q (by simp)), (e' lam _ x.lam hl.2.1).1 hl.2.2⟩
/-- the loop's end: what stays of h₀ -/
theorem segB {A : Around} {dp un : Nat} {gd : Option (List Code)} {x kx : Str} {px pk p1 p2 p3 p4 p5 p6 p7 p8 p9 pa pb pc pd pe pf : Pos} {fsr : List Frame} {c₁ : Code} {kk : Result → Sem Fin} {g' : Bool} {l' : List Value} {pp : Pos} {kp : List Value}
    {c : Code} {body : List Stmt} (hc : c = .forLoop (.Name "element" px) (.ref I) body [] env)
    (hbody : body = [.Assign [.Name "k" p1] (.Call (.Name "key" p2) [.Name "element" p3] [] p4) p5, .If (.Compare (.Name "k" p6) [.NotIn] [.Name "seen" p7] p8) [.Expr (.Call (.Name "seen_add" p9) [.Name "k" pa] [] pb) pc, .Expr (.Yield (some (.Name "element" pd)) pe) pf] [] pk])
    (hfs : fsr = [.ret kk none false l' c₁ pp kp])
    (hA : A.over c fsr = Ar dp un gd (env :: l)) (hAb : A.over (.block [] env) fsr = Ar dp un gd (env :: l)) (hdp : dp + 20 < recursionLimit)
    (geo : Geo KS l bs env D C [S, q, I]) (haI : a ≠ I ∧ a ≠ S ∧ a ≠ env.locals) (ha : KS a ∧ a ∉ [D, C]) (hl : KS lam ∧ lam ∉ [D, C] ∧ lam ∉ frs (env :: l))
    (hk : env.scope.kind = .function) (hco : env.scope.isCoroutine = false) (hi : interactive env = false)
    (hn1 : env.kindOf "element" = some .local) (hn2 : env.kindOf "k" = some .local) (hn3 : env.kindOf "key" = some .local) (hn4 : env.kindOf "seen" = some .local) (hn5 : env.kindOf "seen_add" = some .local)
    (hsz : vs.length = ks.length) (hmax : vs.length ≤ 1000)
    (hkey : ∀ (i : Nat) (v : Value), vs[i]? = some v → ∀ s : Shared, Cx w p loose mean mg mb (env :: l) bs s.heap → s.heap.get? lam = some lamo →
      codeAny (model Challenge.rw_il0027_01.row.prog w) (Ar dp un gd (env :: l)) (.call (.ref lam) ⟨[v], []⟩) (Ends (env :: l) s (fun r _ => ∃ k, ks[i]? = some k ∧ knd.is k r = true ∧ r.scannable = true)) s)
    (hfd : ∃ fd, lamo.data = .func fd)
    (hend : ∀ s₀ s₁, GSince (frs l) KS s₀ s₁ → Seg (model Challenge.rw_il0027_01.row.prog w) A (gR (frs l) KS) (gY (frs l) KS D C (isFirst ks) vs.length (fun i v => vs[i]? = some v)) 0 s₀ c₁ (kk (.ok .next)) [] s₁) :
    ∀ (k i : Nat) (s₀ s : Shared), vs.length - i = k → i ≤ vs.length → LI knd w p loose mean mg mb l bs env S q I a lam lamo vs ks i s.heap → GSince (frs l) KS s₀ s →
      Seg (model Challenge.rw_il0027_01.row.prog w) A (gR (frs l) KS) (gY (frs l) KS D C (isFirst ks) vs.length (fun i v => vs[i]? = some v)) (passing (isFirst ks) vs.length i).length s₀ c ((model Challenge.rw_il0027_01.row.prog w).den c) fsr s := by
  have hWS : ∀ b, KS b → b ∉ [env.locals, S, I] ∧ b ≠ env.locals := fun b hb => by
    have h1 : b ≠ env.locals := fun e => geo.ks _ (.head _) (e ▸ hb)
    have h2 : b ≠ S := fun e => geo.ks S (by simp) (e ▸ hb)
    have h3 : b ≠ I := fun e => geo.ks I (by simp) (e ▸ hb)
    exact ⟨by simp [h1, h2, h3], h1⟩
  intro k
  induction k with
  | zero =>
    intro i s₀ s hki hile li hs
    have hin : i = vs.length := by omega
    subst hin
    subst hc
    refine seg_forLoop ?_
    rw [hA]
    refine (Walks.list (prog := Challenge.rw_il0027_01.row.prog) (w := w) (A := Ar dp un gd (env :: l)) rfl I a haI.1 vs.toArray).done s _ _ ⟨by simpa using li.it, li.lst⟩ fun h' tk hk' => ?_
    rw [passing_end]
    show Seg _ A _ _ 0 s₀ _ _ fsr _
    subst hfs
    exact seg_leaf (.ok .next) (hend _ _ (hs.trans (.of_mv' geo.ff (ws := [I]) ⟨.of_ext hk', rfl, rfl, rfl⟩ fun b hb => ⟨by
      have := (hWS b hb).1
      simp at this
      simp [this], (hWS b hb).2⟩)))
  | succ k ih =>
    intro i s₀ s hki hile li hs
    have hlt : i < vs.length := by omega
    obtain ⟨v, hv⟩ : ∃ v, vs[i]? = some v := ⟨_, List.getElem?_eq_getElem hlt⟩
    have nCI : env.locals ≠ I := fun e => geo.loc (by simp [e])
    have nCS : env.locals ≠ S := fun e => geo.loc (by simp [e])
    have nCq : env.locals ≠ q := fun e => geo.loc (by simp [e])
    have nd := geo.nd
    simp only [List.nodup_cons, List.mem_cons, List.not_mem_nil, or_false, not_or, List.nodup_nil, and_true, not_false_eq_true] at nd
    obtain ⟨⟨nSq, nSI⟩, nqI⟩ := nd
    have hla : lam ≠ env.locals ∧ lam ≠ S ∧ lam ≠ I := ⟨fun e => geo.ks _ (.head _) (e ▸ hl.1), fun e => geo.ks S (by simp) (e ▸ hl.1), fun e => geo.ks I (by simp) (e ▸ hl.1)⟩
    have hbs : ∀ b ∈ [env.locals, S, I], bs.get? b = none := fun b hb => geo.bz b (by
      simp only [List.mem_cons, List.not_mem_nil, or_false] at hb ⊢
      rcases hb with h | h | h
      · exact .inl h
      · exact .inr (.inl h)
      · exact .inr (.inr (.inr h)))
    obtain ⟨m, hn, m1, m2, m3⟩ := li.ns
    obtain ⟨fd, hfd⟩ := hfd
    have hp : (env.scope.kind == .class || (env.scope.kind == .module && env.locals != env.globals)) = false := by rw [hk]; rfl
    subst hc
    refine seg_forLoop ?_
    rw [hA]
    refine (Walks.list (prog := Challenge.rw_il0027_01.row.prog) (w := w) (A := Ar dp un gd (env :: l)) rfl I a haI.1 vs.toArray).item i s _ _ (by simpa using hlt) ⟨li.it, li.lst⟩ fun v' h₁ tk₁ hv' hst₁ hk₁ => ?_
    obtain rfl : v' = v := by
      have : vs[i]? = some v' := by simpa using hv'
      rw [hv] at this; exact (Option.some.inj this).symm
    have ex₁ : Ex (frs (env :: l)) [I] s.heap h₁ := .of_ext hk₁
    show wpAny _ (Ar dp un gd (env :: l)) (assign (.Name "element" px) env v') _ _ _
    refine wpAny_assign_Name (wpAny_storeName_local hn1 (ex₁.ns (by simpa using nCI) hn) (fun h₂ hn₂ hs₂ => ?_) hp)
    have ex₂ : Ex (frs (env :: l)) [env.locals, S, I] s.heap h₂ := (ex₁.mono (fun _ q => q) (by simp)).trans (Ex.sameBut hs₂ (by simp))
    have exC : Ex (frs (env :: l)) [env.locals] h₁ h₂ := Ex.sameBut hs₂ (by simp)
    have hI₂ : h₂.IsListIter I a (i + 1) := exC.listiter (by simpa using Ne.symm nCI) hst₁.1
    have cx₂ : Cx w p loose mean mg mb (env :: l) bs h₂ := li.cx.own geo.ff hk geo.lf (hbs _ (by simp)) (ex₂.mono (fun _ q => q) (fun b q => q)) (fun b q => ⟨hbs b (.tail _ q), fun q' => geo.fr b (by simp at q ⊢; rcases q with h | h <;> simp [h]) (by rw [frs_cons geo.ff]; exact .tail _ q')⟩) hn₂
    subst hbody
    have hlam₂ : h₂.get? lam = some lamo := (ex₂ lam _ li.lam (by simp [hla.1, hla.2.1, hla.2.2])).1 hl.2.2
    refine seg_execs_cons (seg_exec ?_)
    rw [hA]
    refine wpAny_Assign_Name (Call_ (ev_local hk hn3 hn₂ (look1 (by decide) m3) (callWith_function_kw (evalArgs_plain (spliced_cons (ev_local hk hn1 hn₂ look0 (spliced_nil ⟨⟨hlam₂, hfd⟩, ?_⟩)))))))
    refine wpAny_call (codeAny_mono (hkey i v' hv _ cx₂ hlam₂) fun r s₃ hr => ?_)
    obtain ⟨kv, rfl, mv₃, kx', hkx, hkis, hksc⟩ := hr
    have hn₃ := mv₃.heap.ns (ws := []) (by simp) hn₂
    refine wpAny_storeName_local hn2 hn₃ (fun h₄ hn₄ hs₄ => ?_) hp
    have ex₃ : Ex (frs (env :: l)) [env.locals, S, I] h₂ s₃.heap := mv₃.heap.mono (fun _ q => q) (by simp)
    have ex₄ : Ex (frs (env :: l)) [env.locals, S, I] s.heap h₄ := (ex₂.trans ex₃).trans (Ex.sameBut hs₄ (by simp))
    have exD : Ex (frs (env :: l)) [env.locals] h₂ h₄ := (mv₃.heap.mono (fun _ q => q) (by simp)).trans (Ex.sameBut hs₄ (by simp))
    have mvA : Mv (frs (env :: l)) [env.locals, S, I] Same s { s₃ with heap := h₄, toks := s₃.toks + 1 } := ⟨ex₄, mv₃.gens, mv₃.drawn, mv₃.os⟩
    have hI₄ : h₄.IsListIter I a (i + 1) := exD.listiter (by simpa using Ne.symm nCI) hI₂
    obtain ⟨n', hle, hset⟩ := li.set
    have exS : Ex (frs (env :: l)) [env.locals, I] s.heap h₄ := ((ex₁.mono (fun _ q => q) (by simp)).trans (exC.mono (fun _ q => q) (by simp))).trans (exD.mono (fun _ q => q) (by simp))
    have hset₄ := setOf_ex hset exS (geo.fr S (by simp)) (by simp [Ne.symm nCS, nSI])
    have cx₄ : Cx w p loose mean mg mb (env :: l) bs h₄ := li.cx.own geo.ff hk geo.lf (hbs _ (by simp)) ex₄ (fun b q => ⟨hbs b (.tail _ q), fun q' => geo.fr b (by simp at q ⊢; rcases q with h | h <;> simp [h]) (by rw [frs_cons geo.ff]; exact .tail _ q')⟩) hn₄
    have hlst₄ : h₄.IsList a vs.toArray := ex₄.list (by simp [haI.1, haI.2.1, haI.2.2]) li.lst
    have hbnd₄ : h₄.get? q = some (boundTo "set.add" S) := (ex₄ q _ li.bnd (by simp [Ne.symm nCq, Ne.symm nSq, nqI])).1 (geo.fr q (by simp))
    have hlam₄ : h₄.get? lam = some lamo := (ex₄ lam _ li.lam (by simp [hla.1, hla.2.1, hla.2.2])).1 hl.2.2
    have take : ∀ k, ((ks.take (i + 1)).contains k) = ((ks.take i).contains k || decide (k = kx')) := fun k => by
      rw [List.take_add_one, hkx]
      simp [List.contains_eq_any_beq, List.any_append]
    refine seg_execs_cons (seg_If ?_)
    rw [hA]
    refine wpAny_isTrue_Compare1 (ev_local hk hn2 hn₄ look0 (ev_local hk hn4 hn₄ (look2 (by decide) (by decide) m1) (wpAny_notInSet_of hkis hksc hset₄ (wpAny_truthy_bool ?_))))
    by_cases hin : (ks.take i).contains kx' = true
    · have hpz : isFirst ks i = false := by simp only [isFirst, hkx, hin]; rfl
      rw [hin, passing_false hlt hpz]
      show (if false = true then _ else _)
      rw [if_neg Bool.false_ne_true]
      refine seg_execs_nil (seg_execs_nil (seg_again rfl (ih (i + 1) s₀ _ (by omega) hlt ⟨cx₄, ⟨_, hn₄, look2 (by decide) (by decide) m1, look2 (by decide) (by decide) m2, look2 (by decide) (by decide) m3⟩, hlst₄, hI₄, ⟨n', by omega, setOf_congr hset₄ fun k => ?_⟩, hbnd₄, hlam₄⟩ (hs.trans (.of_mv' geo.ff (ws := [env.locals, S, I]) ⟨ex₄, mv₃.gens, mv₃.drawn, mv₃.os⟩ hWS)))))
      rw [take]
      by_cases e : k = kx'
      · subst e
        have h := hin
        simp only [hin, Bool.true_or]
      · simp [e]
    · have hin' : (ks.take i).contains kx' = false := by simpa using hin
      have hpz : isFirst ks i = true := by simp only [isFirst, hkx, hin']; rfl
      rw [hin', passing_true hlt hpz, List.length_cons]
      show (if true = true then _ else _)
      rw [if_pos rfl]
      refine seg_execs_cons (seg_exec ?_)
      rw [hA]
      refine wpAny_Expr (Call_ (ev_local hk hn5 hn₄ (look2 (by decide) (by decide) m2) (callWith_bnd rfl (evalArgs_plain (spliced_cons (ev_local hk hn2 hn₄ look0 (spliced_nil ⟨hbnd₄, ?_⟩))))))) hi rfl
      refine call_bound_add hbnd₄ hkis hksc hset₄ (by
        have : (4096 : Nat) ≤ scanBound := by decide
        omega) fun h₅ hs₅ hset₅ => ?_
      have ex₅ : Ex (frs (env :: l)) [env.locals, S, I] s.heap h₅ := ex₄.trans (Ex.sameBut hs₅ (by simp))
      have exE : Ex (frs (env :: l)) [S] h₄ h₅ := Ex.sameBut hs₅ (by simp)
      have hn₅ := exE.ns (by simpa using nCS) hn₄
      have li₅ : LI knd w p loose mean mg mb l bs env S q I a lam lamo vs ks (i + 1) h₅ :=
        ⟨li.cx.own geo.ff hk geo.lf (hbs _ (by simp)) ex₅ (fun b q => ⟨hbs b (.tail _ q), fun q' => geo.fr b (by simp at q ⊢; rcases q with h | h <;> simp [h]) (by rw [frs_cons geo.ff]; exact .tail _ q')⟩) hn₅,
          ⟨_, hn₅, look2 (by decide) (by decide) m1, look2 (by decide) (by decide) m2, look2 (by decide) (by decide) m3⟩, exE.list (by simp [haI.2.1]) hlst₄, exE.listiter (by simpa using Ne.symm nSI) hI₄,
          ⟨_, by rw [hin']; simp; omega, setOf_congr hset₅ fun k => (take k).symm⟩, (exE q _ hbnd₄ (by simp [Ne.symm nSq])).1 (geo.fr q (by simp)), (exE lam _ hlam₄ (by simp [hla.2.1])).1 hl.2.2⟩
      have hs₅' : GSince (frs l) KS s₀ { s₃ with heap := h₅, toks := s₃.toks + 1 + 1 + 1 } := hs.trans (.of_mv' geo.ff (ws := [env.locals, S, I]) ⟨ex₅, mv₃.gens, mv₃.drawn, mv₃.os⟩ hWS)
      refine seg_execs_cons (seg_Expr_Yield (by rw [hfs]; rfl) rfl (by rw [hfs]; rfl) ?_ hco hi)
      rw [hA]
      refine ev_local hk hn1 hn₅ (look01 (by decide)) fun kap hkap => ?_
      refine ⟨⟨i, passing_here hlt hpz, hv⟩, hs₅', fun s'' hal _ => hkap .none s'' ?_⟩
      exact seg_execs_nil (seg_execs_nil (seg_again rfl (ih (i + 1) s'' s'' (by omega) hlt (li₅.ex geo hal ha hl) (.refl _ _ _))))
end

section
variable {w : World} {p : Program} {loose : List Str} {mean : ExcName → Option Value} {mg mb : Str → Option Value} {l : List Env} {bs : Heap}
/-- into a def that may raise -/
theorem enterE {s : Shared} {dp un : Nat} {gd : Option (List Code)} {name qual : Str} {params : Arguments} {body : List Stmt} {scope : Scope} {dV kV doc pm cdv ct oc : Value} {an od : Option Addr} {osl : Array (Option Value)} {f : Addr} {args : Args} {binds : List (Str × Value)} {R : Result → Shared → Prop}
    (c : Cx w p loose mean mg mb l bs s.heap)
    (ho : (hd.heap_39 w.params).lookup f = some ⟨oc, od, .func (fnOf name qual params body scope dV kV doc pm an cdv ct), osl⟩) (hcd : codeIn (hd.heap_39 w.params) cdv qual = true) (hroom : dp < recursionLimit)
    (hbind : BindsTo s (fnOf name qual params body scope dV kV doc pm an cdv ct) args binds) (hloc : ∀ y ∈ binds, scope.names.lookup y.1 = some .local)
    (hcell : ∀ x ∈ scope.names, x.2 ≠ .cell)
    (h : ∀ h₁, Fr s.heap s.heap.objs.size h₁ (fun y => binds.reverse.lookup y) →
      wpAny (model Challenge.rw_il0027_01.row.prog w) ((Ar dp un gd l).deeper (envOf qual scope s.heap.objs.size f cdv)) (execs body (envOf qual scope s.heap.objs.size f cdv))
        (fun fl s' => R (.ok (.ret (match fl with | .ret v => v | _ => .none))) s')
        (fun e s' => wpAny (model Challenge.rw_il0027_01.row.prog w) ((Ar dp un gd l).deeper (envOf qual scope s.heap.objs.size f cdv)) (leaving (envOf qual scope s.heap.objs.size f cdv) e) (fun _ s'' => R (.error e) s'') (fun e' s'' => R (.error e') s'') s')
        { s with heap := h₁, toks := s.toks + binds.length })
    (hco : scope.isCoroutine = false := by rfl) (hgen : scope.isGenerator = false := by rfl) (hk : scope.kind = .function := by rfl) :
    codeAny (model Challenge.rw_il0027_01.row.prog w) (Ar dp un gd l) (.call (.ref f) args) R s :=
  codeAny_call_def (fd := fnOf name qual params body scope dV kV doc pm an cdv ct) hroom (c.Kh _ _ ho) rfl c.Th.nolimit (codeRec_of c.Kh hcd) rfl hbind hcell hloc (fun h₁ hns hk₁ => h h₁ ⟨hns, hk₁, Nat.le_refl _⟩) hco hgen hk
/-- the filterfalse object once made -/
abbrev ffo (dx I q : Addr) : Obj := { instObj 47 dx with slots := #[some (.ref q), some (.ref I)] }
set_option maxHeartbeats 4000000 in
theorem init_call {FF dx q a : Addr} {vs : List Value} {g : Heap} {s : Shared} {dp un : Nat} {gd : Option (List Code)} (cg : Cx w p loose mean mg mb l bs g) (c : Cx w p loose mean mg mb l bs s.heap) (hdp : dp + 20 < recursionLimit) {R : Result → Shared → Prop}
    (hg : ∀ b o, g.get? b = some o → s.heap.get? b = some o) (hsz : g.objs.size ≤ s.heap.objs.size)
    (hff : s.heap.get? FF = some (instObj 47 dx)) (hdx : s.heap.get? dx = some emptyDict) (nff : g.get? FF = none) (ndx : g.get? dx = none) (hne : dx < FF) (ha : g.IsList a vs.toArray)
    (hR : ∀ I h' tk m L, @LT.lt Nat _ FF I → Fr g L h' m → News g L h' [(FF, ffo dx I q), (dx, emptyDict), (I, { cls := .type "list_iterator", data := .fields #[.ref a, .int 0 0] })] → R (.ok (.ret .none)) { s with heap := h', toks := tk }) :
    codeAny (model Challenge.rw_il0027_01.row.prog w) (Ar dp un gd l) (.call (.ref 29) ⟨[.ref FF, .ref q, .ref a], []⟩) R s := by
  have X : (hd.heap_39 w.params).In s.heap := c.Kh
  revert X
  k_fill
  intro X
  refine' enterE c ?k6 ?k7 ?k8 ?k9 ?kB ?c5 ?_ ?c2 ?c3 ?c4
  case k6 => k_is
  case k7 => k_is
  case k8 => omega
  case k9 => exact BindsTo.of_eq rfl
  case kB => exact locs rfl
  case c5 => decide
  case c2 => rfl
  case c3 => rfl
  case c4 => rfl
  intro h₁ F0
  clear X
  try dsimp only
  have F : Fr g s.heap.objs.size h₁ _ := ⟨F0.ns, fun b o e => F0.keep b o (hg b o e), hsz⟩
  have N : News g s.heap.objs.size h₁ [(FF, instObj 47 dx), (dx, emptyDict)] := fun q hq => by
    rcases List.mem_cons.1 hq with rfl | hq
    · exact ⟨F0.keep _ _ hff, Nat.ne_of_lt (Heap.lt_size hff), nff⟩
    · obtain rfl : q = _ := by simpa using hq
      exact ⟨F0.keep _ _ hdx, Nat.ne_of_lt (Heap.lt_size hdx), ndx⟩
  have B : Below (Ar dp un gd l) bs l g := cg.below
  have X' := cg.Kh
  have T' := cg.Th
  refine wpAny_mono (Q := fun fl s' => R (.ok (.ret (match fl with | .ret v => v | _ => .none))) s') (E := noErr) ?_ (fun _ _ q => q) (fun _ _ f => f.elim)
  refine abs_post fun Q hQ => ?_
  clear F0
  k_steps
  (with_reducible rename Fr g _ _ _ => F'); (with_reducible rename News g _ _ _ => N')
  refine call_iter_of (wpAny_pyIter_list (Ex.list (fs := []) (ws := []) (.of_keeps F'.keep) (by simp) ha) ?_)
  have F2 := F'.push { cls := .type "list_iterator", data := .fields #[.ref a, .int 0 0] }
  have N2 := News.push F' N' { cls := .type "list_iterator", data := .fields #[.ref a, .int 0 0] }
  have q1 : @LT.lt Nat _ FF h₁.objs.size := Heap.lt_size (N' _ (.head _)).1
  have q2 : @LT.lt Nat _ dx h₁.objs.size := Heap.lt_size (N' _ (.tail _ (.head _))).1
  have q3 : @LT.lt Nat _ dx FF := hne
  clear F' N' hff hdx hg
  dsimp only at F2 N2 ⊢
  generalize h₁.push { cls := .type "list_iterator", data := .fields #[.ref a, .int 0 0] } = H at F2 N2 ⊢
  generalize h₁.objs.size = I at N2 q1 q2 ⊢
  k_steps
  (with_reducible rename Fr g _ _ _ => F'); (with_reducible rename News g _ _ _ => N')
  refine hQ _ _ (hR I _ _ _ _ q1 F' fun p hp => ?_)
  rcases List.mem_cons.1 hp with rfl | hp
  · exact N' _ (.tail _ (.head _))
  · rcases List.mem_cons.1 hp with rfl | hp
    · exact N' _ (.tail _ (.tail _ (.head _)))
    · obtain rfl : p = _ := by simpa using hp
      exact N' _ (.head _)
theorem ff_make {q a : Addr} {vs : List Value} {s : Shared} {dp un : Nat} {gd : Option (List Code)} (c : Cx w p loose mean mg mb l bs s.heap) (hdp : dp + 30 < recursionLimit) {Q : Value → Shared → Prop} {E : Value → Shared → Prop}
    (ha : s.heap.IsList a vs.toArray)
    (hQ : ∀ FF dx I h' tk, (∀ b o, s.heap.get? b = some o → h'.get? b = some o) → h'.get? FF = some (ffo dx I q) → h'.get? dx = some emptyDict → h'.IsListIter I a 0 → s.heap.get? FF = none → s.heap.get? dx = none → s.heap.get? I = none → FF ≠ I → FF ≠ dx → dx ≠ I → @LE.le Nat _ s.heap.objs.size FF → @LE.le Nat _ s.heap.objs.size dx → @LE.le Nat _ s.heap.objs.size I → Q (.ref FF) { s with heap := h', toks := tk }) :
    wpAny (model Challenge.rw_il0027_01.row.prog w) (Ar dp un gd l) (call (.ref 47) [.ref q, .ref a]) Q E s := by
  have X : (hd.heap_39 w.params).In s.heap := c.Kh
  obtain ⟨h, g, d, t, os⟩ := s
  have X1 : makesIn (hd.heap_39 w.params) 47 = true ∧ findIn (hd.heap_39 w.params) (.ref 47) "__init__" = some (some (.ref 29)) ∧ typeIn (hd.heap_39 w.params) (.ref 29) = some (.type "function") := by
    have Y := X
    revert Y
    k_fill
    intro Y
    refine ⟨?_, ?_, ?_⟩
    · k_is
    · k_is
    · k_is
  refine wpAny_call (make_core (init := .ref 29) (makes_of X X1.1) (looks_findIn X X1.2.1) (fun self => bind_fn X self X1.2.2) (.inl rfl) ?_)
  have k1 : ∀ b o, h.get? b = some o → ((h.push emptyDict).push (instObj 47 h.objs.size)).get? b = some o := fun b o e => Heap.get?_push_of_some _ (Heap.get?_push_of_some _ e)
  have e1 : h.objs.size + 1 = (h.push emptyDict).objs.size := (Heap.size_push _ _).symm
  have kff : ((h.push emptyDict).push (instObj 47 h.objs.size)).get? (h.objs.size + 1) = some (instObj 47 h.objs.size) := by rw [e1]; exact Heap.get?_push_size _ rfl
  have kdx : ((h.push emptyDict).push (instObj 47 h.objs.size)).get? h.objs.size = some emptyDict := Heap.get?_push_of_some _ (Heap.get?_push_size _ rfl)
  have hw : (Code.builtin "type.__call__" ⟨[.ref 47, .ref q, .ref a], []⟩).weight ≤ 2 := by
    have : (Code.builtin "type.__call__" ⟨[.ref 47, .ref q, .ref a], []⟩).weight = 1 := by kernel_rfl
    omega
  refine init_call (g := h) c (c.keeps k1) (by show dp + _ + 20 < _; omega) k1 (by show h.objs.size ≤ ((h.push _).push _).objs.size; rw [Heap.size_push, Heap.size_push]; omega) kff kdx (Heap.get?_none_of_le (Nat.le_succ _)) (Heap.get?_none_of_le (Nat.le_refl _)) (Nat.lt_succ_self _) ha fun I h' tk m L hFI F N => ?_
  refine ⟨rfl, ?_⟩
  have n1 := N _ (.head _)
  have n2 := N _ (.tail _ (.head _))
  have n3 := N _ (.tail _ (.tail _ (.head _)))
  exact hQ (h.objs.size + 1) h.objs.size I h' tk F.keep n1.1 n2.1 ⟨_, n3.1, rfl, rfl⟩ n1.2.2 n2.2.2 n3.2.2 (fun e => by rw [e, n3.1] at n1; have := n1.1; cases this) (fun e => absurd e (Nat.succ_ne_self _)) (fun e => by have := n2.1; rw [e, n3.1] at this; simp [emptyDict] at this) (Nat.le_succ _) (Nat.le_refl _) (Nat.le_of_lt (Nat.lt_of_le_of_lt (Nat.le_succ _) hFI))
end

section
variable {prog : Program} {w : World} {A : Around} {E : Value → Shared → Prop} {s : Shared}
theorem next_item {it l : Addr} {i : Nat} {items : Array Value} {x : Value} {Q : Value → Shared → Prop} (hit : s.heap.IsListIter it l i) (hl : s.heap.IsList l items) (hx : items[i]? = some x)
    (hQ : ∀ h', h'.IsListIter it l (i + 1) → Heap.SameBut it s.heap h' → Q x { s with heap := h' }) : wpAny (model prog w) A (call (.builtin "next") [.ref it]) Q E s := by
  refine call_function_entry (by decide +kernel) (by decide +kernel) kdk_entry_next (kdk_args_next _) ?_
  unfold Builtin.«next»
  refine wpAny_bind (m := someArgs "next" 1 2 _) (wpAny_of_eq (a := [Value.ref it]) (by first | rfl | kernel_rfl) ?_)
  dsimp only
  refine wpAny_bind (wpAny_specialOf (name := Str.ofString "__next__") hit.typeIs slot_listiter_next.lookup ?_)
  refine wpAny_ite_split (fun hab => absurd hab (by decide)) (fun _ => ?_)
  obtain ⟨o, ho, hc, hd⟩ := id hit
  obtain ⟨ol, hol, _, nl, hdl⟩ := hl
  refine wpAny_bind (wpAny_callSpecial?_slot (name := Str.ofString "__next__") hit.typeIs slot_listiter_next
    (wpAny_call_entry slot_listiter_next hit.typeIs entry_listiter_next ?_ (args_listiter_next _)))
  show wpAny _ _ (field (.ref it) 0 >>= _) _ _ s
  refine wpAny_bind (wpAny_field ho hd (x := .ref l) rfl ?_)
  show wpAny _ _ (if (Value.ref l == Value.none) = true then _ else _) _ _ s
  rw [if_neg (show ¬ ((Value.ref l == Value.none) = true) from Bool.false_ne_true)]
  show wpAny _ _ (field (.ref it) 1 >>= _) _ _ s
  refine wpAny_bind (wpAny_field ho hd (x := .int i 0) rfl ?_)
  show wpAny _ _ (seqItems? (.ref l) >>= _) _ _ s
  refine wpAny_bind (wpAny_seqItems hol hdl ?_)
  simp only [Int.toNat_natCast, hx]
  refine wpAny_bind (wpAny_setField ho hd (by simp) (wpAny_pure ⟨x, rfl, wpAny_pure ⟨_, rfl, hQ _ ?_ (Heap.SameBut.update ..)⟩⟩))
  exact ⟨_, Heap.get?_update_self _ ho (Obj.isFreed_of_fields (Obj.data_mapFields hd _)), (Obj.cls_mapFields ..).trans hc, by
    rw [Obj.data_mapFields hd]; simp [rawInt]⟩
theorem next_end {it l : Addr} {i : Nat} {items : Array Value} {Q : Value → Shared → Prop} (hh : A.handled = none) (hit : s.heap.IsListIter it l i) (hl : s.heap.IsList l items) (hx : items[i]? = none)
    (hE : ∀ h₁ h' e, Heap.SameBut it s.heap h₁ → Heap.NewExc h₁ h' e "StopIteration" → E (.ref e) { s with heap := h' }) : wpAny (model prog w) A (call (.builtin "next") [.ref it]) Q E s := by
  refine call_function_entry (by decide +kernel) (by decide +kernel) kdk_entry_next (kdk_args_next _) ?_
  unfold Builtin.«next»
  refine wpAny_bind (m := someArgs "next" 1 2 _) (wpAny_of_eq (a := [Value.ref it]) (by first | rfl | kernel_rfl) ?_)
  dsimp only
  refine wpAny_bind (wpAny_specialOf (name := Str.ofString "__next__") hit.typeIs slot_listiter_next.lookup ?_)
  refine wpAny_ite_split (fun hab => absurd hab (by decide)) (fun _ => ?_)
  obtain ⟨o, ho, hc, hd⟩ := id hit
  obtain ⟨ol, hol, _, nl, hdl⟩ := hl
  refine wpAny_bind (wpAny_callSpecial?_slot (name := Str.ofString "__next__") hit.typeIs slot_listiter_next
    (wpAny_call_entry slot_listiter_next hit.typeIs entry_listiter_next ?_ (args_listiter_next _)))
  show wpAny _ _ (field (.ref it) 0 >>= _) _ _ s
  refine wpAny_bind (wpAny_field ho hd (x := .ref l) rfl ?_)
  show wpAny _ _ (if (Value.ref l == Value.none) = true then _ else _) _ _ s
  rw [if_neg (show ¬ ((Value.ref l == Value.none) = true) from Bool.false_ne_true)]
  show wpAny _ _ (field (.ref it) 1 >>= _) _ _ s
  refine wpAny_bind (wpAny_field ho hd (x := .int i 0) rfl ?_)
  show wpAny _ _ (seqItems? (.ref l) >>= _) _ _ s
  refine wpAny_bind (wpAny_seqItems hol hdl ?_)
  simp only [Int.toNat_natCast, hx]
  refine wpAny_bind (wpAny_rule (wpAny_bind (wpAny_setField ho hd (by simp) ?_)))
  show wpAny _ _ (newExc (.type "StopIteration") [] >>= _) _ _ _
  refine wpAny_bind ?_
  simp only [newExc, newTuple]
  refine wpAny_bind (wpAny_newObj_type ?_ (by size_fits))
  refine wpAny_bind (m := firstArgMember _ _) (wpAny_of_eq (a := Value.none) (by first | rfl | (simp only [firstArgMember]; rfl)) ?_)
  refine wpAny_newObj_type ?_ (by size_fits)
  simp only [raiseNew]
  refine wpAny_bind (wpAny_handled ?_)
  first | rw [show A.in1.in1.handled = none from hh] | rw [show A.in1.handled = none from hh] | rw [hh]
  refine wpAny_bind (wpAny_pure (wpAny_throw ?_))
  refine hE _ _ _ (Heap.SameBut.update ..) ⟨fun b o e => Heap.get?_push_of_some _ (Heap.get?_push_of_some _ e), ?_, _, _, Heap.get?_push_size _ rfl, rfl, rfl⟩
  exact Heap.get?_none_of_le (by rw [Heap.size_push]; exact Nat.le_succ _)
end

section
variable {prog : Program} {w : World} {A : Around} {E : Value → Shared → Prop} {s : Shared} {K : Frag} {x C p : Addr} {ox od : Obj} {name : Str} {i : Nat} {v : Value}
theorem get_slot' {expr : Bool} {Q : Value → Shared → Prop} (X : K.In s.heap) (I : InstAt s.heap x ox C (some od)) (hg : plainGet K C name = true) (hc : isClsIn K C = true)
    (ha : findIn K (.ref C) name = some (some (.ref p))) (hn : specialIn K (.ref p) "__get__" = some (some (.builtin "member_descriptor.__get__"))) (ht : takesIn K (.ref p) = some true) (hp : slotIn K p C = some i)
    (hv : (ox.slots[i]?).join = some v) (hh : handedIn v = true) (h : Q v { s with toks := s.toks + 1 }) : wpAny (model prog w) A (getAttr (.ref x) name expr) Q E s :=
  get_bind X I (plainGet_of hg).1 (findObj_data hc ha hn ht) (plainGet_of hg).2 (wpAny_call (slot_get (s := { s with toks := s.toks + 1 }) X I hp hv (handed_on hh h)))
end
section
variable {w : World}
theorem ffK {h : Heap} (X : (hd.heap_39 w.params).In h) : (plainGet (hd.heap_39 w.params) 47 "_func" = true ∧ isClsIn (hd.heap_39 w.params) 47 = true ∧ findIn (hd.heap_39 w.params) (.ref 47) "_func" = some (some (.ref 48)) ∧ specialIn (hd.heap_39 w.params) (.ref 48) "__get__" = some (some (.builtin "member_descriptor.__get__")) ∧ takesIn (hd.heap_39 w.params) (.ref 48) = some true ∧ slotIn (hd.heap_39 w.params) 48 47 = some 0) ∧
    (plainGet (hd.heap_39 w.params) 47 "_it" = true ∧ isClsIn (hd.heap_39 w.params) 47 = true ∧ findIn (hd.heap_39 w.params) (.ref 47) "_it" = some (some (.ref 49)) ∧ specialIn (hd.heap_39 w.params) (.ref 49) "__get__" = some (some (.builtin "member_descriptor.__get__")) ∧ takesIn (hd.heap_39 w.params) (.ref 49) = some true ∧ slotIn (hd.heap_39 w.params) 49 47 = some 1) ∧
    (findIn (hd.heap_39 w.params) (.ref 47) "__next__" = some (some (.ref 43)) ∧ typeIn (hd.heap_39 w.params) (.ref 43) = some (.type "function")) ∧ (findIn (hd.heap_39 w.params) (.ref 47) "__iter__" = some (some (.ref 36)) ∧ typeIn (hd.heap_39 w.params) (.ref 36) = some (.type "function")) := by
  have hrow : Challenge.rw_il0027_01.row = Challenge.rw_il0027_01.row := rfl
  revert hrow X
  k_fill
  intro X _
  refine ⟨⟨?_, ?_, ?_, ?_, ?_, ?_⟩, ⟨?_, ?_, ?_, ?_, ?_, ?_⟩, ⟨?_, ?_⟩, ⟨?_, ?_⟩⟩ <;> k_is
end
section
variable {w : World} {p : Program} {loose : List Str} {mean : ExcName → Option Value} {mg mb : Str → Option Value} {l : List Env} {bs : Heap}
variable {K : Type} [DecidableEq K]
/-- what filterfalse's __next__ gives, from place i: the first whose key is not in f, or StopIteration -/
def NR (l : List Env) (s : Shared) (I a : Addr) (vs : List Value) (ks : List K) (f : K → Bool) (i : Nat) : Result → Shared → Prop := fun r s' =>
  (∃ j v, i ≤ j ∧ vs[j]? = some v ∧ (∀ t k, i ≤ t → t < j → ks[t]? = some k → f k = true) ∧ (∀ k, ks[j]? = some k → f k = false) ∧ r = .ok (.ret v) ∧ s'.heap.IsListIter I a (j + 1) ∧ Mv (frs l) [I] Same s s') ∨
  ((∀ t k, i ≤ t → ks[t]? = some k → f k = true) ∧ ∃ e o, r = .error (.ref e) ∧ s'.heap.get? e = some o ∧ o.cls = .type "StopIteration" ∧ Mv (frs l) [I] Same s s')
set_option maxHeartbeats 4000000 in
theorem next_call {knd : PySem.KeyKind Challenge.rw_il0027_01.row.prog w K} {FF dx I q S a : Addr} {vs : List Value} {ks : List K} {f : K → Bool} {n' i : Nat} {s : Shared} {dp un : Nat} {gd : Option (List Code)} (c : Cx w p loose mean mg mb l bs s.heap) (hdp : dp < recursionLimit)
    (hff : s.heap.get? FF = some (ffo dx I q)) (hdx : s.heap.get? dx = some emptyDict) (hI : s.heap.IsListIter I a i) (hl : s.heap.IsList a vs.toArray) (hq : s.heap.get? q = some (boundTo "set.__contains__" S)) (hS : s.heap.SetOf knd S f n')
    (hne : FF ≠ I ∧ dx ≠ I ∧ a ≠ I ∧ q ≠ I ∧ S ≠ I) (hIb : bs.get? I = none ∧ I ∉ frs l) (hsz : vs.length = ks.length) (hile : i ≤ vs.length)
    (hk : ∀ (j : Nat) (v : Value), vs[j]? = some v → ∃ k, ks[j]? = some k ∧ knd.is k v = true ∧ v.scannable = true) :
    codeAny (model Challenge.rw_il0027_01.row.prog w) (Ar dp un gd l) (.call (.ref 43) ⟨[.ref FF], []⟩) (NR l s I a vs ks f i) s := by
  have X : (hd.heap_39 w.params).In s.heap := c.Kh
  obtain ⟨⟨a1, a2, a3, a4, a5, a6⟩, ⟨b1, b2, b3, b4, b5, b6⟩, -, -⟩ := ffK X
  revert X
  k_fill
  intro X
  refine' enterE c ?k6 ?k7 ?k8 ?k9 ?kB ?c5 ?_ ?c2 ?c3 ?c4
  case k6 => k_is
  case k7 => k_is
  case k8 => exact hdp
  case k9 => exact BindsTo.of_eq rfl
  case kB => exact locs rfl
  case c5 => decide
  case c2 => rfl
  case c3 => rfl
  case c4 => rfl
  intro h₁ F
  try dsimp only
  have inst : ∀ h', h'.get? FF = some (ffo dx I q) → h'.get? dx = some emptyDict → InstAt h' FF (ffo dx I q) 47 (some emptyDict) := fun h' e1 e2 => ⟨e1, rfl, rfl, e2⟩
  refine wpAny_execs_cons (wpAny_Assign_Name (Attribute_name (ev_local rfl rfl F.ns rfl (get_slot' (v := .ref q) (c.keeps F.keep).Kh (inst _ (F.keep _ _ hff) (F.keep _ _ hdx)) a1 a2 a3 a4 a5 a6 rfl rfl ?_))))
  refine wpAny_storeName_local rfl F.ns (fun h₂ hn₂ hs₂ => ?_) rfl
  have F2 := F.set hn₂ hs₂
  have hIL : I ≠ s.heap.objs.size := by
    obtain ⟨o, ho, _⟩ := hI
    exact Nat.ne_of_lt (Heap.lt_size ho)
  have cxI : ∀ h', (∀ b o, b ≠ I → s.heap.get? b = some o → h'.get? b = some o) → Cx w p loose mean mg mb l bs h' := fun h' k => c.ex (ws := [I]) (.of_ext fun b o n e => k b o (by simpa using n) e) (fun b hb => by
    obtain rfl : b = I := by simpa using hb
    exact hIb)
  refine wpAny_execs_cons (wpAny_While (codeAny_whileLoop (fun k s' => ∃ (j : Nat) (h' : Heap) (tk : Nat) (m : Str → Option Value), k = vs.length + 1 - j ∧ i ≤ j ∧ j ≤ vs.length ∧ s' = { s with heap := h', toks := tk } ∧ (∀ b o, b ≠ I → s.heap.get? b = some o → h'.get? b = some o) ∧ h'.IsListIter I a j ∧ h'.Ns s.heap.objs.size m ∧ m "self" = some (.ref FF) ∧ m "func" = some (.ref q) ∧ (∀ t k, i ≤ t → t < j → ks[t]? = some k → f k = true))
    (fun k s' hW => ?_) (vs.length + 1 - i) ⟨i, h₂, _, _, rfl, Nat.le_refl _, hile, rfl, fun b o _ e => F2.keep b o e, Ex.listiter (fs := []) (ws := []) (.of_keeps F2.keep) (by simp) hI, hn₂, rfl, rfl, fun t k h1 h2 => absurd h2 (Nat.not_lt.2 h1)⟩))
  obtain ⟨j, h', tk, m, rfl, hij, hjn, rfl, kp, hit, hn, ms, mf, hseen⟩ := hW
  have hl' : h'.IsList a vs.toArray := Ex.list (fs := []) (ws := [I]) (.of_ext fun b o n e => kp b o (by simpa using n) e) (by simpa using hne.2.2.1) hl
  have cx := cxI h' kp
  refine wpAny_isTrue_value (wpAny_Constant_bool (wpAny_truthy_bool ?_))
  show (if true = true then _ else _)
  rw [if_pos rfl]
  refine wpAny_passesOwn PySem.PassesOwn.leaving ?_
  refine wpAny_execs_cons (wpAny_Assign_Name (Call_ (ev_builtin cx rfl rfl rfl rfl (by k_is) PyProof.Rows.boot_next ?_)))
  refine callWith_builtin rfl (evalArgs_plain (spliced_cons (Attribute_name (ev_local rfl rfl hn ms (get_slot' (v := .ref I) cx.Kh (inst _ (kp _ _ hne.1 hff) (kp _ _ hne.2.1 hdx)) b1 b2 b3 b4 b5 b6 rfl rfl (spliced_nil ?_))))))
  by_cases hlt : j < vs.length
  · obtain ⟨v, hv⟩ : ∃ v, vs[j]? = some v := ⟨_, List.getElem?_eq_getElem hlt⟩
    obtain ⟨kx, hkx, hkis, hksc⟩ := hk j v hv
    refine next_item hit hl' (by simpa using hv) fun h₃ hit₃ hs₃ => ?_
    have hn₃ : h₃.Ns s.heap.objs.size m := hn.sameBut hs₃ (Ne.symm hIL)
    refine wpAny_storeName_local rfl hn₃ (fun h₄ hn₄ hs₄ => ?_) rfl
    have kp₄ : ∀ b o, b ≠ I → s.heap.get? b = some o → h₄.get? b = some o := fun b o n e => (hs₄.2 b (Nat.ne_of_lt (Heap.lt_size e))).trans ((hs₃.2 b n).trans (kp b o n e))
    have hit₄ : h₄.IsListIter I a (j + 1) := Ex.listiter (fs := []) (ws := [s.heap.objs.size]) (Ex.sameBut hs₄ (List.mem_singleton.2 rfl)) (by simpa using hIL) hit₃
    have hq₄ := kp₄ _ _ hne.2.2.2.1 hq
    have hS₄ : h₄.SetOf knd S f n' := setOf_ex (fs := []) (ws := [I]) hS (.of_ext fun b o n e => kp₄ b o (by simpa using n) e) (by simp) (by simpa using hne.2.2.2.2)
    have cx₄ := cxI h₄ kp₄
    refine wpAny_execs_cons (wpAny_If (wpAny_isTrue_BoolOp (wpAny_allTrue_Or_cons (wpAny_isTrue_Compare1 (ev_local rfl rfl hn₄ (look1 (by decide) mf) (wpAny_Constant_none (is_ref_none (wpAny_truthy_bool ?_))))))))
    show (if false = true then _ else _)
    rw [if_neg Bool.false_ne_true]
    refine wpAny_allTrue_Or_cons (wpAny_isTrue_Compare1 (ev_local rfl rfl hn₄ (look1 (by decide) mf) (ev_builtin cx₄ rfl rfl rfl rfl (by k_is) (v := .type "bool") (by decide +kernel) (wpAny_is_other rfl (by intro e; cases e) (wpAny_truthy_bool ?_)))))
    show (if false = true then _ else _)
    rw [if_neg Bool.false_ne_true]
    refine wpAny_allTrue_Or_nil ?_
    show (if false = true then _ else _)
    rw [if_neg Bool.false_ne_true]
    refine wpAny_execs_cons (wpAny_If (wpAny_isTrue_Not (wpAny_isTrue_value (Call_ (ev_local rfl rfl hn₄ (look1 (by decide) mf) (callWith_bnd rfl (evalArgs_plain (spliced_cons (ev_local rfl rfl hn₄ look0 (spliced_nil ⟨hq₄, call_bound_contains hq₄ hkis hksc hS₄ (wpAny_truthy_bool ?_)⟩))))))))))
    cases hf : f kx with
    | true =>
      show (if false = true then _ else _)
      rw [if_neg Bool.false_ne_true]
      refine wpAny_execs_nil (wpAny_execs_nil (wpAny_execs_nil ?_))
      refine ⟨vs.length + 1 - (j + 1), by omega, j + 1, h₄, _, _, rfl, Nat.le_succ_of_le hij, hlt, rfl, kp₄, hit₄, hn₄, look1 (by decide) ms, look1 (by decide) mf, fun t k h1 h2 h3 => ?_⟩
      by_cases ht : t < j
      · exact hseen t k h1 ht h3
      · obtain rfl : t = j := by omega
        rw [hkx] at h3
        cases h3
        exact hf
    | false =>
      show (if true = true then _ else _)
      rw [if_pos rfl]
      refine wpAny_execs_cons (wpAny_Return_some (ev_local rfl rfl hn₄ look0 ?_))
      refine .inl ⟨j, v, hij, hv, hseen, fun k h3 => ?_, rfl, hit₄, ⟨.of_ext fun b o n e => kp₄ b o (by simpa using n) e, rfl, rfl, rfl⟩⟩
      rw [hkx] at h3
      cases h3
      exact hf
  · obtain rfl : j = vs.length := by omega
    refine next_end rfl hit hl' (by simp) fun h₃ h₅ e hs₃ hx => ?_
    have kp₃ : ∀ b o, b ≠ I → s.heap.get? b = some o → h₃.get? b = some o := fun b o n e => (hs₃.2 b n).trans (kp b o n e)
    have cx₃ := cxI h₃ kp₃
    have hn₃ : h₃.Ns s.heap.objs.size m := hn.sameBut hs₃ (Ne.symm hIL)
    obtain ⟨ob, tp, he, hcls, hdat⟩ := hx.there
    have hLn : bs.get? s.heap.objs.size = none := none_of_keeps c.stays (Heap.get?_none_of_le (Nat.le_refl _))
    generalize hv43 : envOf _ _ s.heap.objs.size 43 _ = env43
    have hf43 : env43.frame = some s.heap.objs.size := by rw [← hv43]; rfl
    have hk43 : env43.scope.kind = .function := by rw [← hv43]; rfl
    have hff₃ : h₃.FunFrames bs (env43 :: l) := Heap.FunFrames.cons (by rw [hk43]; decide) hf43 hn₃ hLn cx₃.ff
    have hffB : h₃.FunFrames (hideAll h₃ (frs (env43 :: l))) (env43 :: l) := funFrames_hide hff₃ frs_in
    have hff' : h₅.FunFrames (hideAll h₃ (frs (env43 :: l))) (env43 :: l) := hffB.of_keeps fun b o q _ => ⟨o, hx.keeps b o q, rfl⟩
    have hstB : (hideAll h₃ (frs (env43 :: l))).StaysIn h₅ := fun b o q => hx.keeps b o (of_hideAll _ q)
    have henB : (hideAll h₃ (frs (env43 :: l))).get? e = none := by
      cases q : (hideAll h₃ (frs (env43 :: l))).get? e with
      | none => rfl
      | some o => have := of_hideAll _ q; rw [hx.new] at this; cases this
    refine wpAny_leaving_firstW (A := (Ar dp un gd l).deeper env43) (outer := l) rfl hff' hf43 he hstB henB hdat rfl rfl fun h₆ hL => ?_
    obtain ⟨k1, k2, ⟨oe, vs', T, oT, ts, he', ⟨hcls', _⟩, _⟩, k4⟩ := hL
    have ex₆ : Ex (frs (env43 :: l)) [] h₃ h₆ := ex_of_stays hff₃ k1 ((Heap.UpToSlots.of_keeps hx.keeps).trans k4)
    refine .inr ⟨fun t k h1 h3 => hseen t k h1 ?_ h3, e, oe, rfl, he', hcls'.trans hcls, ⟨fun b o hb n => ?_, rfl, rfl, rfl⟩⟩
    · rcases Nat.lt_or_ge t vs.length with h | h
      · exact h
      · rw [List.getElem?_eq_none (by omega)] at h3; cases h3
    · obtain ⟨y1, y2⟩ := ex₆ b o (kp₃ b o (by simpa using n) hb) (by simp)
      exact ⟨fun hb' => y1 (by
        rw [frs_cons hf43]
        intro hm
        rcases List.mem_cons.1 hm with e | hm
        · exact absurd e (Nat.ne_of_lt (Heap.lt_size hb))
        · exact hb' hm), y2⟩
end

theorem passing_skip {pz : Nat → Bool} {n : Nat} : ∀ (d i : Nat), i + d ≤ n → (∀ t, i ≤ t → t < i + d → pz t = false) → passing pz n i = passing pz n (i + d)
  | 0, i, _, _ => rfl
  | d + 1, i, hle, h => by
    rw [passing_false (by omega) (h i (Nat.le_refl _) (by omega)), passing_skip d (i + 1) (by omega) (fun t h1 h2 => h t (by omega) (by omega))]
    congr 1; omega
theorem take_ext {κ : Type} [DecidableEq κ] {ks : List κ} {i : Nat} : ∀ (d : Nat), (∀ t k, i ≤ t → t < i + d → ks[t]? = some k → (ks.take i).contains k = true) → ∀ k, (ks.take (i + d)).contains k = (ks.take i).contains k
  | 0, _, _ => rfl
  | d + 1, h, k => by
    have ih := take_ext d (fun t k h1 h2 => h t k h1 (by omega)) k
    rw [show i + (d + 1) = (i + d) + 1 by omega, List.take_add_one]
    cases hk : ks[i + d]? with
    | none => simpa using ih
    | some kx =>
      have hx := h (i + d) kx (by omega) (by omega) hk
      by_cases e : k = kx
      · subst e
        rw [hx]; simp
      · simp only [List.contains_eq_mem, List.mem_append, Option.toList_some, List.mem_singleton, e, or_false] at ih ⊢
        exact ih
section
variable {w : World} {p : Program} {loose : List Str} {mean : ExcName → Option Value} {mg mb : Str → Option Value} {l : List Env} {bs : Heap}
variable {K : Type} [DecidableEq K]
theorem ff_next {knd : PySem.KeyKind Challenge.rw_il0027_01.row.prog w K} {FF dx I q S a : Addr} {vs : List Value} {ks : List K} {f : K → Bool} {n' i : Nat} {s : Shared} {dp un : Nat} {gd : Option (List Code)} {Q : Option Value → Shared → Prop} {E : Value → Shared → Prop} (c : Cx w p loose mean mg mb l bs s.heap) (hdp : dp < recursionLimit)
    (hff : s.heap.get? FF = some (ffo dx I q)) (hdx : s.heap.get? dx = some emptyDict) (hI : s.heap.IsListIter I a i) (hl : s.heap.IsList a vs.toArray) (hq : s.heap.get? q = some (boundTo "set.__contains__" S)) (hS : s.heap.SetOf knd S f n')
    (hne : FF ≠ I ∧ dx ≠ I ∧ a ≠ I ∧ q ≠ I ∧ S ≠ I) (hIb : bs.get? I = none ∧ I ∉ frs l) (hsz : vs.length = ks.length) (hile : i ≤ vs.length)
    (hk : ∀ (j : Nat) (v : Value), vs[j]? = some v → ∃ k, ks[j]? = some k ∧ knd.is k v = true ∧ v.scannable = true)
    (hQ1 : ∀ j v s', i ≤ j → vs[j]? = some v → (∀ t k, i ≤ t → t < j → ks[t]? = some k → f k = true) → (∀ k, ks[j]? = some k → f k = false) → s'.heap.IsListIter I a (j + 1) → Mv (frs l) [I] Same s s' → Q (some v) s')
    (hQ2 : ∀ s', (∀ t k, i ≤ t → ks[t]? = some k → f k = true) → Mv (frs l) [I] Same s s' → Q none s') :
    wpAny (model Challenge.rw_il0027_01.row.prog w) (Ar dp un gd l) (pyNext (.ref FF)) Q E s := by
  have X := c.Kh
  obtain ⟨-, -, ⟨n1, n2⟩, -⟩ := ffK X
  unfold pyNext
  refine wpAny_bind (wpAny_attempt (special_fn (name := "__next__") (args := []) (od := some emptyDict) X ⟨hff, rfl, rfl, hdx⟩ n1 n2 (wpAny_call (codeAny_mono (next_call c hdp hff hdx hI hl hq hS hne hIb hsz hile hk) fun r s' hr => ?_))))
  rcases hr with ⟨j, v, h1, h2, h3, h4, rfl, h5, h6⟩ | ⟨h1, e, o, rfl, h2, h3, h4⟩
  · exact wpAny_pure (hQ1 j v s' h1 h2 h3 h4 h5 h6)
  · refine wpAny_bind (wpAny_isInstance (T := "StopIteration") (b := true) ⟨_, h2, h3⟩ isSubtype_stop ?_)
    exact wpAny_pure (hQ2 s' h1 h4)
set_option maxHeartbeats 1000000 in
theorem iter_call {FF : Addr} {s : Shared} {dp un : Nat} {gd : Option (List Code)} (c : Cx w p loose mean mg mb l bs s.heap) (hdp : dp + 20 < recursionLimit) :
    codeAny (model Challenge.rw_il0027_01.row.prog w) (Ar dp un gd l) (.call (.ref 36) ⟨[.ref FF], []⟩) (Ends l s fun r _ => r = .ref FF) s := by
  have X : (hd.heap_39 w.params).In s.heap := c.Kh
  revert X
  k_fill
  intro X
  refine' enter c ?k6 ?k7 ?k8 ?k9 ?kB ?c5 ?_ ?c2 ?c3 ?c4
  case k6 => k_is
  case k7 => k_is
  case k8 => omega
  case k9 => exact BindsTo.of_eq rfl
  case kB => exact locs rfl
  case c5 => decide
  case c2 => rfl
  case c3 => rfl
  case c4 => rfl
  intro h₁ F N B X' T'
  try dsimp only
  refine wpAny_execs_cons (wpAny_Return_some (ev_local rfl rfl F.ns rfl ?_))
  exact ⟨⟨.of_keeps F.keep, rfl, rfl, rfl⟩, rfl⟩
theorem ff_iter {FF dx I q : Addr} {s : Shared} {dp un : Nat} {gd : Option (List Code)} {Q : Value → Shared → Prop} {E : Value → Shared → Prop} (c : Cx w p loose mean mg mb l bs s.heap) (hdp : dp + 20 < recursionLimit)
    (hff : s.heap.get? FF = some (ffo dx I q)) (hdx : s.heap.get? dx = some emptyDict) (nff : FF ∉ frs l) (ndx : dx ∉ frs l) (hQ : ∀ s', Mv (frs l) [] Same s s' → Q (.ref FF) s') :
    wpAny (model Challenge.rw_il0027_01.row.prog w) (Ar dp un gd l) (pyIter (.ref FF)) Q E s := by
  have X := c.Kh
  obtain ⟨-, -, ⟨m1, m2⟩, ⟨n1, n2⟩⟩ := ffK X
  have I1 : InstAt s.heap FF (ffo dx I q) 47 (some emptyDict) := ⟨hff, rfl, rfl, hdx⟩
  have fin : wpAny (model Challenge.rw_il0027_01.row.prog w) (Ar dp un gd l) (call (.ref 36) [.ref FF] >>= fun v => pure (some v)) (fun r s' => r = some (.ref FF) ∧ Mv (frs l) [] Same s s') E s :=
    wpAny_bind (wpAny_call (codeAny_mono (iter_call (FF := FF) c hdp) fun r s' hr => by
      obtain ⟨v, rfl, mv, rfl⟩ := hr
      exact wpAny_pure ⟨rfl, mv⟩))
  have one : ∀ refuse : Sem Value, wpAny (model Challenge.rw_il0027_01.row.prog w) (Ar dp un gd l) (callSpecialIfBoundUnlessNone? (.ref FF) "__iter__" refuse) (fun r s' => r = some (.ref FF) ∧ Mv (frs l) [] Same s s') E s := by
    intro refuse
    simp only [callSpecialIfBoundUnlessNone?, bindSpecialIfBound?]
    refine wpAny_holding (wpAny_bind (wpAny_bind (wpAny_bind (I1.type.here ((looks_findIn X n1).here ?_)))))
    refine wpAny_bind (wpAny_askSetting (wpAny_ite ?_))
    have fin2 : wpAny (model Challenge.rw_il0027_01.row.prog w) (Ar dp un gd l) (if (Value.ref 36 == Value.none) = true then (refuse >>= fun v => pure (some v)) else (call (.ref 36) [.ref FF] >>= fun v => pure (some v))) (fun r s' => r = some (.ref FF) ∧ Mv (frs l) [] Same s s') E s := by
      rw [if_neg (show ¬ ((Value.ref 36 == Value.none) = true) from Bool.false_ne_true)]
      exact fin
    split
    · exact wpAny_bind ((bind_fn X _ n2).here (wpAny_pure (by exact fin2)))
    · exact wpAny_tryCatch (wpAny_bind ((bind_fn X _ n2).here (wpAny_pure (by exact fin2))))
  unfold pyIter
  refine wpAny_bind (wpAny_bind (I1.type.here ((looks_findIn X n1).here ?_)))
  show wpAny _ _ (callSpecialIfBoundUnlessNone? (.ref FF) "__iter__" _ >>= _) Q E s
  refine wpAny_bind (wpAny_mono (one _) (fun r s' hr => ?_) fun _ _ z => z)
  obtain ⟨rfl, mv⟩ := hr
  have X2 := (c.ex mv.heap (by simp)).Kh
  have I2 : InstAt s'.heap FF (ffo dx I q) 47 (some emptyDict) := ⟨(mv.heap FF _ hff (by simp)).1 nff, rfl, rfl, (mv.heap dx _ hdx (by simp)).1 ndx⟩
  refine wpAny_bind (wpAny_bind (I2.type.here ((looks_findIn X2 m1).here ?_)))
  exact wpAny_pure (hQ s' mv)
end

section
variable {w : World} {p : Program} {loose : List Str} {mean : ExcName → Option Value} {mg mb : Str → Option Value} {l : List Env} {bs : Heap}
variable {K : Type} [DecidableEq K] (knd : PySem.KeyKind Challenge.rw_il0027_01.row.prog w K)
/-- the loop with no key, i items taken -/
structure LIA (w : World) (p : Program) (loose : List Str) (mean : ExcName → Option Value) (mg mb : Str → Option Value) (l : List Env) (bs : Heap) (knd : PySem.KeyKind Challenge.rw_il0027_01.row.prog w K) (env : Env) (S q I qc FF dx a : Addr) (vs : List Value) (ks : List K) (i : Nat) (h : Heap) : Prop where
  cx : Cx w p loose mean mg mb (env :: l) bs h
  ns : ∃ m, h.Ns env.locals m ∧ m "seen_add" = some (.ref q)
  lst : h.IsList a vs.toArray
  it : h.IsListIter I a i
  set : ∃ n', n' ≤ i ∧ h.SetOf knd S (fun k => (ks.take i).contains k) n'
  bnd : h.get? q = some (boundTo "set.add" S)
  con : h.get? qc = some (boundTo "set.__contains__" S)
  ff : h.get? FF = some (ffo dx I qc)
  dx : h.get? dx = some emptyDict
variable {env : Env} {S q I qc FF dx a : Addr} {vs : List Value} {ks : List K} {KS : Addr → Prop} {D C G : Addr}
variable {knd}
theorem LIA.ex {i : Nat} {h h' : Heap} (x : LIA w p loose mean mg mb l bs knd env S q I qc FF dx a vs ks i h) (g : Geo KS l bs env D C [S, q, I, qc, FF, dx]) (e : Ex (frs l) [D, C] h h') (ha : KS a ∧ a ∉ [D, C]) : LIA w p loose mean mg mb l bs knd env S q I qc FF dx a vs ks i h' := by
  have e' : Ex (frs (env :: l)) [D, C] h h' := e.mono (fun b hb => by
    rw [frs_cons g.ff]
    exact .tail _ hb) fun _ q => q
  obtain ⟨m, hn, h2⟩ := x.ns
  obtain ⟨n', hle, hs⟩ := x.set
  exact ⟨x.cx.ex e' g.dcb, ⟨m, e'.ns (g.dc _ (.head _)) hn, h2⟩, e'.list ha.2 x.lst, e'.listiter (g.dc I (by simp)) x.it, ⟨n', hle, setOf_ex hs e' (g.fr S (by simp)) (g.dc S (by simp))⟩,
    (e' q _ x.bnd (g.dc q (by simp))).1 (g.fr q (by simp)), (e' qc _ x.con (g.dc qc (by simp))).1 (g.fr qc (by simp)), (e' FF _ x.ff (g.dc FF (by simp))).1 (g.fr FF (by simp)), (e' dx _ x.dx (g.dc dx (by simp))).1 (g.fr dx (by simp))⟩
theorem segA {A : Around} {dp un : Nat} {gd : Option (List Code)} {px p1 p2 p3 p4 p5 p6 p7 : Pos} {fsr : List Frame} {c₁ : Code} {kk : Result → Sem Fin} {l' : List Value} {pp : Pos} {kp : List Value}
    {c : Code} {body : List Stmt} (hc : c = .forLoop (.Name "element" px) (.ref FF) body [] env)
    (hbody : body = [.Expr (.Call (.Name "seen_add" p1) [.Name "element" p2] [] p3) p4, .Expr (.Yield (some (.Name "element" p5)) p6) p7])
    (hfs : fsr = [.ret kk none false l' c₁ pp kp])
    (hA : A.over c fsr = Ar dp un gd (env :: l)) (hdp : dp + 20 < recursionLimit)
    (geo : Geo KS l bs env D C [S, q, I, qc, FF, dx]) (haI : a ≠ I ∧ a ≠ S ∧ a ≠ env.locals) (ha : KS a ∧ a ∉ [D, C])
    (hk : env.scope.kind = .function) (hco : env.scope.isCoroutine = false) (hi : interactive env = false)
    (hn1 : env.kindOf "element" = some .local) (hn5 : env.kindOf "seen_add" = some .local)
    (hsz : vs.length = ks.length) (hmax : vs.length ≤ 1000)
    (hkey : ∀ (j : Nat) (v : Value), vs[j]? = some v → ∃ k, ks[j]? = some k ∧ knd.is k v = true ∧ v.scannable = true)
    (hend : ∀ s₀ s₁, GSince (frs l) KS s₀ s₁ → Seg (model Challenge.rw_il0027_01.row.prog w) A (gR (frs l) KS) (gY (frs l) KS D C (isFirst ks) vs.length (fun i v => vs[i]? = some v)) 0 s₀ c₁ (kk (.ok .next)) [] s₁) :
    ∀ (k i : Nat) (s₀ s : Shared), vs.length - i < k → i ≤ vs.length → LIA w p loose mean mg mb l bs knd env S q I qc FF dx a vs ks i s.heap → GSince (frs l) KS s₀ s →
      Seg (model Challenge.rw_il0027_01.row.prog w) A (gR (frs l) KS) (gY (frs l) KS D C (isFirst ks) vs.length (fun i v => vs[i]? = some v)) (passing (isFirst ks) vs.length i).length s₀ c ((model Challenge.rw_il0027_01.row.prog w).den c) fsr s := by
  have hWS : ∀ b, KS b → b ∉ [env.locals, S, I] ∧ b ≠ env.locals := fun b hb => by
    have h1 : b ≠ env.locals := fun e => geo.ks _ (.head _) (e ▸ hb)
    have h2 : b ≠ S := fun e => geo.ks S (by simp) (e ▸ hb)
    have h3 : b ≠ I := fun e => geo.ks I (by simp) (e ▸ hb)
    exact ⟨by simp [h1, h2, h3], h1⟩
  have nC : ∀ b ∈ [S, q, I, qc, FF, dx], env.locals ≠ b := fun b hb e => geo.loc (e ▸ hb)
  have nd := geo.nd
  simp only [List.nodup_cons, List.mem_cons, List.not_mem_nil, or_false, not_or, List.nodup_nil, and_true, not_false_eq_true] at nd
  obtain ⟨⟨Sq, SI, Sqc, SF, Sd⟩, ⟨qI, qqc, qF, qd⟩, ⟨Iqc, IF, Id⟩, ⟨qcF, qcd⟩, Fd⟩ := nd
  have hbs : ∀ b ∈ [env.locals, S, I], bs.get? b = none := fun b hb => geo.bz b (by
    simp only [List.mem_cons, List.not_mem_nil, or_false] at hb ⊢
    rcases hb with h | h | h
    · exact .inl h
    · exact .inr (.inl h)
    · exact .inr (.inr (.inr (.inl h))))
  have hfr : ∀ b ∈ [S, I], b ∉ frs l := fun b hb q' => geo.fr b (by
    simp only [List.mem_cons, List.not_mem_nil, or_false] at hb ⊢
    rcases hb with h | h
    · exact .inl h
    · exact .inr (.inr (.inl h))) (by rw [frs_cons geo.ff]; exact .tail _ q')
  have hp : (env.scope.kind == .class || (env.scope.kind == .module && env.locals != env.globals)) = false := by rw [hk]; rfl
  intro k
  induction k with
  | zero => intro i s₀ s h; omega
  | succ k ih =>
    intro i s₀ s hki hile li hs
    obtain ⟨m, hn, m2⟩ := li.ns
    obtain ⟨n', hle, hset⟩ := li.set
    subst hc
    refine seg_forLoop ?_
    rw [hA]
    refine ff_next li.cx (by omega) li.ff li.dx li.it li.lst li.con hset ⟨Ne.symm IF, Ne.symm Id, haI.1, Ne.symm Iqc, SI⟩ ⟨hbs I (by simp), geo.fr I (by simp)⟩ hsz hile hkey (fun j v s₁ hij hv hskip hnew hst₁ mv₁ => ?_) (fun s₁ hall mv₁ => ?_)
    · obtain ⟨kx, hkx, hkis, hksc⟩ := hkey j v hv
      have hlt : j < vs.length := (List.getElem?_eq_some_iff.1 hv).1
      obtain ⟨d, rfl⟩ : ∃ d, j = i + d := ⟨j - i, by omega⟩
      have hext := take_ext (ks := ks) (i := i) d (fun t k h1 h2 h3 => hskip t k h1 h2 h3)
      have hnk : (ks.take (i + d)).contains kx = false := by rw [hext]; exact hnew kx hkx
      have hpz : isFirst ks (i + d) = true := by simp only [isFirst, hkx, hnk]; rfl
      have hskp : passing (isFirst ks) vs.length i = passing (isFirst ks) vs.length (i + d) := passing_skip d i (by omega) fun t h1 h2 => by
        obtain ⟨kt, hkt⟩ : ∃ kt, ks[t]? = some kt := ⟨_, List.getElem?_eq_getElem (by omega)⟩
        have h3 := hskip t kt h1 h2 hkt
        have h4 : (ks.take t).contains kt = true := by
          obtain ⟨d', rfl⟩ : ∃ d', t = i + d' := ⟨t - i, by omega⟩
          rw [take_ext (ks := ks) (i := i) d' (fun t k h1' h2' h3' => hskip t k h1' (by omega) h3')]
          exact h3
        simp only [isFirst, hkt, h4]; rfl
      show wpAny _ (Ar dp un gd (env :: l)) (assign (.Name "element" px) env v) _ _ _
      refine wpAny_assign_Name (wpAny_storeName_local hn1 (mv₁.heap.ns (by simpa using nC I (by simp)) hn) (fun h₂ hn₂ hs₂ => ?_) hp)
      have exC : Ex (frs (env :: l)) [env.locals] s₁.heap h₂ := Ex.sameBut hs₂ (by simp)
      have ex₂ : Ex (frs (env :: l)) [env.locals, I] s.heap h₂ := (mv₁.heap.mono (fun _ q => q) (by simp)).trans (exC.mono (fun _ q => q) (by simp))
      have hset₂ := setOf_ex hset ex₂ (geo.fr S (by simp)) (by simp [Ne.symm (nC S (by simp)), SI])
      have keep2 : ∀ b o, b ∈ [q, qc, FF, dx] → s.heap.get? b = some o → h₂.get? b = some o := fun b o hb e => (ex₂ b o e (by
        have h1 := nC b (by simp only [List.mem_cons, List.not_mem_nil, or_false] at hb ⊢; rcases hb with h | h | h | h <;> simp [h])
        simp only [List.mem_cons, List.not_mem_nil, or_false] at hb ⊢
        rcases hb with rfl | rfl | rfl | rfl <;> simp [Ne.symm h1, qI, Ne.symm Iqc, Ne.symm IF, Ne.symm Id])).1 (geo.fr b (by simp only [List.mem_cons, List.not_mem_nil, or_false] at hb ⊢; rcases hb with h | h | h | h <;> simp [h]))
      have hbnd₂ := keep2 q _ (by simp) li.bnd
      subst hbody
      refine seg_execs_cons (seg_exec ?_)
      rw [hA]
      refine wpAny_Expr (Call_ (ev_local hk hn5 hn₂ (look1 (by decide) m2) (callWith_bnd rfl (evalArgs_plain (spliced_cons (ev_local hk hn1 hn₂ look0 (spliced_nil ⟨hbnd₂, ?_⟩))))))) hi rfl
      refine call_bound_add hbnd₂ hkis hksc hset₂ (by
        have : (4096 : Nat) ≤ scanBound := by decide
        omega) fun h₅ hs₅ hset₅ => ?_
      have exE : Ex (frs (env :: l)) [S] h₂ h₅ := Ex.sameBut hs₅ (by simp)
      have ex₅ : Ex (frs (env :: l)) [env.locals, S, I] s.heap h₅ := (ex₂.mono (fun _ q => q) (by simp)).trans (exE.mono (fun _ q => q) (by simp))
      have hn₅ := exE.ns (by simpa using nC S (by simp)) hn₂
      have keep5 : ∀ b o, b ∈ [q, qc, FF, dx] → s.heap.get? b = some o → h₅.get? b = some o := fun b o hb e => (exE b o (keep2 b o hb e) (by
        simp only [List.mem_cons, List.not_mem_nil, or_false] at hb ⊢
        rcases hb with rfl | rfl | rfl | rfl
        · exact Ne.symm Sq
        · exact Ne.symm Sqc
        · exact Ne.symm SF
        · exact Ne.symm Sd)).1 (geo.fr b (by simp only [List.mem_cons, List.not_mem_nil, or_false] at hb ⊢; rcases hb with h | h | h | h <;> simp [h]))
      have li₅ : LIA w p loose mean mg mb l bs knd env S q I qc FF dx a vs ks (i + d + 1) h₅ :=
        ⟨li.cx.own geo.ff hk geo.lf (hbs _ (by simp)) ex₅ (fun b q => ⟨hbs b (.tail _ q), hfr b q⟩) hn₅, ⟨_, hn₅, look1 (by decide) m2⟩,
          exE.list (by simp [haI.2.1]) (exC.list (by simp [haI.2.2]) (mv₁.heap.list (by simp [haI.1]) li.lst)), exE.listiter (by simpa using Ne.symm SI) (exC.listiter (by simpa using Ne.symm (nC I (by simp))) hst₁),
          ⟨_, by rw [← hext kx, hnk]; simp; omega, setOf_congr hset₅ fun k => ?_⟩, keep5 q _ (by simp) li.bnd, keep5 qc _ (by simp) li.con, keep5 FF _ (by simp) li.ff, keep5 dx _ (by simp) li.dx⟩
      · have hs₅' : GSince (frs l) KS s₀ { s₁ with heap := h₅, toks := s₁.toks + 1 + 1 } := hs.trans (.of_mv' geo.ff (ws := [env.locals, S, I]) ⟨ex₅, mv₁.gens, mv₁.drawn, mv₁.os⟩ hWS)
        rw [hskp, passing_true hlt hpz, List.length_cons]
        refine seg_execs_cons (seg_Expr_Yield (by rw [hfs]; rfl) rfl (by rw [hfs]; rfl) ?_ hco hi)
        rw [hA]
        refine ev_local hk hn1 hn₅ look0 fun kap hkap => ?_
        refine ⟨⟨i + d, passing_here hlt hpz, hv⟩, hs₅', fun s'' hal _ => hkap .none s'' ?_⟩
        exact seg_execs_nil (seg_again rfl (ih (i + d + 1) s'' s'' (by omega) hlt (li₅.ex geo hal ha) (.refl _ _ _)))
      · rw [List.take_add_one, hkx, ← hext k]
        simp
    · have hskp : passing (isFirst ks) vs.length i = passing (isFirst ks) vs.length (i + (vs.length - i)) := passing_skip _ i (by omega) fun t h1 h2 => by
        obtain ⟨kt, hkt⟩ : ∃ kt, ks[t]? = some kt := ⟨_, List.getElem?_eq_getElem (by omega)⟩
        have h4 : (ks.take t).contains kt = true := by
          obtain ⟨d', rfl⟩ : ∃ d', t = i + d' := ⟨t - i, by omega⟩
          rw [take_ext (ks := ks) (i := i) d' (fun t k h1' _ h3' => hall t k h1' h3')]
          exact hall _ _ h1 hkt
        simp only [isFirst, hkt, h4]; rfl
      rw [hskp, show i + (vs.length - i) = vs.length by omega, passing_end]
      show Seg _ A _ _ 0 s₀ _ _ fsr _
      subst hfs
      exact seg_leaf (.ok .next) (hend _ _ (hs.trans (.of_mv' geo.ff mv₁ fun b hb => ⟨by
        have := (hWS b hb).1
        simp at this
        simp [this], (hWS b hb).2⟩)))
end

section
variable {w : World} {p : Program} {loose : List Str} {mean : ExcName → Option Value} {mg mb : Str → Option Value} {l : List Env} {bs : Heap}
variable {K : Type} [DecidableEq K]
set_option maxHeartbeats 4000000 in
theorem startA {knd : PySem.KeyKind Challenge.rw_il0027_01.row.prog w K} {KS : Addr → Prop} {D C a : Addr} {vs : List Value} {ks : List K} {env : Env} {s : Shared} {m : Str → Option Value} {dp un : Nat} {gd : Option (List Code)}
    {p1 p2 p3 p4 p5 p6 p7 p8 p9 pa pb pc pd pe pf pg ph pi pj pk pl pm pn po px py : Pos} {k1 : Nat} {els : List Stmt}
    (hdp : dp + 90 < recursionLimit) (cx : Cx w p loose mean mg mb l bs s.heap) (hn : s.heap.Ns env.locals m) (mi : m "iterable" = some (.ref a)) (mk : m "key" = some .none)
    (hk : env.scope.kind = .function) (hco : env.scope.isCoroutine = false) (hi : interactive env = false) (hg : env.globals = mainGlobals) (hb : env.builtins = builtinsNs) (hf : env.frame = some env.locals)
    (q1 : env.kindOf "seen" = some .local) (q2 : env.kindOf "seen_add" = some .local) (q3 : env.kindOf "key" = some .local) (q4 : env.kindOf "element" = some .local) (q5 : env.kindOf "iterable" = some .local) (q6 : env.kindOf "set" = some .globalImplicit) (q7 : env.kindOf "filterfalse" = some .globalImplicit)
    (hKS : ∀ b, KS b → @LT.lt Nat _ b s.heap.objs.size) (hKL : ¬ KS env.locals) (hdcl : ∀ b ∈ [D, C], @LT.lt Nat _ b s.heap.objs.size) (hLdc : env.locals ∉ [D, C]) (hbL : bs.get? env.locals = none) (hLf : env.locals ∉ frs l) (hdcb : ∀ b ∈ [D, C], bs.get? b = none ∧ b ∉ frs (env :: l))
    (ha : KS a ∧ a ∉ [D, C]) (hl : s.heap.IsList a vs.toArray) (haL : a ≠ env.locals) (hsz : vs.length = ks.length) (hmax : vs.length ≤ 1000)
    (hkey : ∀ (j : Nat) (v : Value), vs[j]? = some v → ∃ k, ks[j]? = some k ∧ knd.is k v = true ∧ v.scannable = true) :
    Seg (model Challenge.rw_il0027_01.row.prog w) (Ar dp un gd l).in1 (gR (frs l) KS) (gY (frs l) KS D C (isFirst ks) vs.length (fun i v => vs[i]? = some v)) (passing (isFirst ks) vs.length 0).length s
      (.func [.Assign [.Name "seen" p1] (.Call (.Name "set" p2) [] [] p3) p4, .Assign [.Name "seen_add" p5] (.Attribute (.Name "seen" p6) "add" p7) p8,
        .If (.Compare (.Name "key" p9) [.Is] [.Constant .none k1 pa] pb) [.For (.Name "element" pc) (.Call (.Name "filterfalse" pd) [.Attribute (.Name "seen" pe) "__contains__" pf, .Name "iterable" pg] [] ph)
          [.Expr (.Call (.Name "seen_add" pi) [.Name "element" pj] [] pk) pl, .Expr (.Yield (some (.Name "element" pm)) pn) po] [] px] els py] env)
      ((model Challenge.rw_il0027_01.row.prog w).den (.func [.Assign [.Name "seen" p1] (.Call (.Name "set" p2) [] [] p3) p4, .Assign [.Name "seen_add" p5] (.Attribute (.Name "seen" p6) "add" p7) p8,
        .If (.Compare (.Name "key" p9) [.Is] [.Constant .none k1 pa] pb) [.For (.Name "element" pc) (.Call (.Name "filterfalse" pd) [.Attribute (.Name "seen" pe) "__contains__" pf, .Name "iterable" pg] [] ph)
          [.Expr (.Call (.Name "seen_add" pi) [.Name "element" pj] [] pk) pl, .Expr (.Yield (some (.Name "element" pm)) pn) po] [] px] els py] env)) [] s := by
  have hp : (env.scope.kind == .class || (env.scope.kind == .module && env.locals != env.globals)) = false := by rw [hk]; rfl
  have Xs : nsIn (hd.heap_39 w.params) mainGlobals "set" = some none ∧ nsIn (hd.heap_39 w.params) mainGlobals "filterfalse" = some (some (.ref 47)) ∧ keepIn (hd.heap_39 w.params) (.ref 47) = true := by
    have X := cx.Kh
    have hrow : Challenge.rw_il0027_01.row = Challenge.rw_il0027_01.row := rfl
    revert hrow X
    k_fill
    intro X _
    refine ⟨?_, ?_, ?_⟩ <;> k_is
  have hLs : @LT.lt Nat _ env.locals s.heap.objs.size := ns_lt hn
  have has : @LT.lt Nat _ a s.heap.objs.size := hKS a ha.1
  refine seg_func ?_
  refine seg_execs_cons (seg_exec ?_)
  refine wpAny_Assign_Name (Call_ (ev_builtin cx hg hb hk q6 Xs.1 (v := .type "set") (by decide +kernel) ?_))
  refine PyProof.Rows.callWith_type rfl (PyProof.Rows.evalArgs_none (call_set_0 fun led => ?_))
  have hS := (show (s.heap.push { cls := .type "set", dict := none, data := .set #[] 0 (.fresh 0 0 led) }).SetOf knd s.heap.objs.size (fun _ => false) 0 from
    ⟨_, #[], 0, _, Heap.get?_push_size _ rfl, ⟨rfl, rfl, rfl⟩, rfl, fun e he => by simp at he, fun k => by simp, by decide, by rfl, rfl⟩)
  refine wpAny_storeName_local q1 (hn.push _) (fun h₁ hn₁ hs₁ => ?_) hp
  have hx₁ : h₁.get? s.heap.objs.size = some { cls := .type "set", data := .set #[] 0 (.fresh 0 0 led) } := (hs₁.2 _ (Nat.ne_of_gt hLs)).trans (Heap.get?_push_size _ rfl)
  refine seg_execs_cons (seg_exec ?_)
  refine wpAny_Assign_Name (Attribute_name (ev_local hk q1 hn₁ look0 (getAttr_set_add hx₁ rfl fun tk => ?_)))
  have hS1 : @LT.lt Nat _ s.heap.objs.size h₁.objs.size := Heap.lt_size hx₁
  refine wpAny_storeName_local q2 (hn₁.push _) (fun h₂ hn₂ hs₂ => ?_) hp
  have hL1 : @LT.lt Nat _ env.locals h₁.objs.size := Nat.lt_trans hLs hS1
  have hx₂ : h₂.get? s.heap.objs.size = some { cls := .type "set", data := .set #[] 0 (.fresh 0 0 led) } := (hs₂.2 _ (Nat.ne_of_gt hLs)).trans (Heap.get?_push_of_some _ hx₁)
  have hq₂ : h₂.get? h₁.objs.size = some (boundTo "set.add" s.heap.objs.size) := (hs₂.2 _ (Nat.ne_of_gt hL1)).trans (Heap.get?_push_size _ rfl)
  have hS2 : @LT.lt Nat _ h₁.objs.size h₂.objs.size := Heap.lt_size hq₂
  refine seg_execs_cons (seg_If ?_)
  refine wpAny_isTrue_Compare1 (ev_local hk q3 hn₂ (look2 (by decide) (by decide) mk) (wpAny_Constant_none (wpAny_is_self rfl (wpAny_truthy_bool ?_))))
  rw [if_pos rfl]
  have e02 : Ex (frs (env :: l)) [env.locals] s.heap h₂ := ((Ex.of_keeps fun b o e => Heap.get?_push_of_some _ e).trans (Ex.sameBut hs₁ (by simp))).trans ((Ex.of_keeps fun b o e => Heap.get?_push_of_some _ e).trans (Ex.sameBut hs₂ (by simp)))
  have eP2 : Ex ([] : List Addr) [env.locals] (s.heap.push { cls := .type "set", dict := none, data := .set #[] 0 (.fresh 0 0 led) }) h₂ := (Ex.sameBut hs₁ (by simp)).trans ((Ex.of_keeps fun b o e => Heap.get?_push_of_some _ e).trans (Ex.sameBut hs₂ (by simp)))
  have cx₂ : Cx w p loose mean mg mb l bs h₂ := by
    refine cx.ex (ws := [env.locals]) (fun b o e n => ⟨fun q => (e02 b o e n).1 (by
      rw [frs_cons hf]
      exact fun q' => (List.mem_cons.1 q').elim (fun e => n (by simp [e])) q), (e02 b o e n).2⟩) (fun b hb => ?_)
    obtain rfl : b = env.locals := by simpa using hb
    exact ⟨hbL, hLf⟩
  refine seg_execs_cons (seg_For (Call_ (ev_global cx₂ hg hk q7 Xs.2.1 (callWith_K cx₂.Kh Xs.2.2 (spliced_cons (Attribute_name (ev_local hk q1 hn₂ (look01 (by decide)) (getAttr_set_contains hx₂ rfl fun tk₃ => ?_))))))))
  have e23 : ∀ b o, h₂.get? b = some o → (h₂.push (boundTo "set.__contains__" s.heap.objs.size)).get? b = some o := fun b o e => Heap.get?_push_of_some _ e
  refine spliced_cons (ev_local hk q5 (hn₂.push _) (look2 (by decide) (by decide) mi) (spliced_nil ⟨(cx₂.keeps e23).Kh, ?_⟩))
  generalize hh₃ : h₂.push (boundTo "set.__contains__" s.heap.objs.size) = h₃ at e23 ⊢
  have hn₃ := (hn₂.keeps e23)
  have hqc₃ : h₃.get? h₂.objs.size = some (boundTo "set.__contains__" s.heap.objs.size) := by rw [← hh₃]; exact Heap.get?_push_size _ rfl
  have hS3 : @LT.lt Nat _ h₂.objs.size h₃.objs.size := Heap.lt_size hqc₃
  have cx₃ : Cx w p loose mean mg mb (env :: l) bs h₃ := ⟨(cx₂.keeps e23).stays, Heap.FunFrames.cons (by rw [hk]; decide) hf hn₃ hbL (cx₂.keeps e23).ff, cx.K, cx.T⟩
  have hl₃ : h₃.IsList a vs.toArray := (e02.trans (.of_keeps e23)).list (by simpa using haL) hl
  refine ff_make (dp := dp + 1) (l := env :: l) (s := { heap := h₃, gens := _, drawn := _, toks := _, os := _ }) cx₃ (by omega) hl₃ fun FF dx I h₄ tk₄ e34 hff hdx hit nFF ndx nI n1 n2 n3 z1 z2 z3 => ?_
  have frl : ∀ b, h₃.get? b = none → b ∉ frs (env :: l) := fun b hb hm => by
    obtain ⟨_, o, ho, _⟩ := cx₃.ff.mem hm
    rw [hb] at ho; cases ho
  have cx₄ := cx₃.keeps e34
  refine ff_iter (dp := dp + 1) (l := env :: l) cx₄ (by omega) hff hdx (frl _ nFF) (frl _ ndx) fun s₅ mv₅ pp => ?_
  have lo : ∀ b, @LE.le Nat _ s.heap.objs.size b → ¬ KS b ∧ b ∉ [D, C] := fun b hb => ⟨fun q => Nat.lt_irrefl _ (Nat.lt_of_lt_of_le (hKS b q) hb), fun q => Nat.lt_irrefl _ (Nat.lt_of_lt_of_le (hdcl b q) hb)⟩
  have s0 : @LE.le Nat _ s.heap.objs.size s.heap.objs.size := Nat.le_refl _
  have s1 : @LE.le Nat _ s.heap.objs.size h₁.objs.size := Nat.le_of_lt hS1
  have s2 : @LE.le Nat _ s.heap.objs.size h₂.objs.size := Nat.le_trans s1 (Nat.le_of_lt hS2)
  have s3 : @LE.le Nat _ s.heap.objs.size h₃.objs.size := Nat.le_trans s2 (Nat.le_of_lt hS3)
  have zF : @LE.le Nat _ s.heap.objs.size FF := Nat.le_trans s3 z1
  have zd : @LE.le Nat _ s.heap.objs.size dx := Nat.le_trans s3 z2
  have zI : @LE.le Nat _ s.heap.objs.size I := Nat.le_trans s3 z3
  have hx₃ := e23 _ _ hx₂
  have hq₃ := e23 _ _ hq₂
  have bsn : ∀ b, h₃.get? b = none → bs.get? b = none := fun b hb => none_of_keeps cx₃.stays hb
  have bsz : ∀ b, @LE.le Nat _ s.heap.objs.size b → bs.get? b = none := fun b hb => none_of_keeps cx.stays (Heap.get?_none_of_le hb)
  have frz : ∀ b, @LE.le Nat _ s.heap.objs.size b → b ∉ frs (env :: l) := fun b hb hm => by
    rw [frs_cons hf] at hm
    rcases List.mem_cons.1 hm with rfl | hm
    · exact Nat.lt_irrefl _ (Nat.lt_of_lt_of_le hLs hb)
    · obtain ⟨_, o, ho, _⟩ := cx.ff.mem hm
      exact Nat.lt_irrefl _ (Nat.lt_of_lt_of_le (Heap.lt_size ho) hb)
  have Lz : ∀ b, @LE.le Nat _ s.heap.objs.size b → env.locals ≠ b := fun b hb e => Nat.lt_irrefl _ (Nat.lt_of_lt_of_le hLs (e ▸ hb))
  have geo : Geo KS l bs env D C [s.heap.objs.size, h₁.objs.size, I, h₂.objs.size, FF, dx] := by
    have all : ∀ b ∈ [s.heap.objs.size, h₁.objs.size, I, h₂.objs.size, FF, dx], @LE.le Nat _ s.heap.objs.size b := fun b hb => by
      simp only [List.mem_cons, List.not_mem_nil, or_false] at hb
      rcases hb with rfl | rfl | rfl | rfl | rfl | rfl <;> assumption
    refine ⟨fun b hb => ?_, fun b hb => ?_, fun b hb => ?_, fun b hb => frz b (all b hb), fun hb => Lz _ (all _ hb) rfl, hLf, ?_, hf, hdcb⟩
    · rcases List.mem_cons.1 hb with rfl | hb
      · exact hKL
      · exact (lo b (all b hb)).1
    · rcases List.mem_cons.1 hb with rfl | hb
      · exact hLdc
      · exact (lo b (all b hb)).2
    · rcases List.mem_cons.1 hb with rfl | hb
      · exact hbL
      · exact bsz b (all b hb)
    · have d3 : ∀ b c, @LT.lt Nat _ b h₃.objs.size → @LE.le Nat _ h₃.objs.size c → b ≠ c := fun b c h1 h2 e => Nat.lt_irrefl _ (Nat.lt_of_lt_of_le h1 (e ▸ h2))
      have t0 : @LT.lt Nat _ s.heap.objs.size h₃.objs.size := Nat.lt_trans hS1 (Nat.lt_trans hS2 hS3)
      have t1 : @LT.lt Nat _ h₁.objs.size h₃.objs.size := Nat.lt_trans hS2 hS3
      have u1 := Nat.ne_of_lt hS1
      have u2 := Nat.ne_of_lt (Nat.lt_trans hS1 hS2)
      have u3 := Nat.ne_of_lt hS2
      have v1 := d3 _ _ t0 z3
      have v2 := d3 _ _ t0 z1
      have v3 := d3 _ _ t0 z2
      have v4 := d3 _ _ t1 z3
      have v5 := d3 _ _ t1 z1
      have v6 := d3 _ _ t1 z2
      have v7 := d3 _ _ hS3 z3
      have v8 := d3 _ _ hS3 z1
      have v9 := d3 _ _ hS3 z2
      simp only [List.nodup_cons, List.mem_cons, List.not_mem_nil, or_false, not_or, List.nodup_nil, and_true, not_false_eq_true]
      exact ⟨⟨u1, v1, u2, v2, v3⟩, ⟨v4, u3, v5, v6⟩, ⟨Ne.symm v7, Ne.symm n1, Ne.symm n3⟩, ⟨v8, v9⟩, n2⟩
  have e45 := mv₅.heap
  have k45 : ∀ b o, b ∉ frs (env :: l) → h₃.get? b = some o → s₅.heap.get? b = some o := fun b o hb e => (e45 b o (e34 b o e) (by simp)).1 hb
  have e05 : Ex (frs (env :: l)) [env.locals] s.heap s₅.heap := (e02.trans (.of_keeps e23)).trans ((Ex.of_keeps e34).trans (e45.mono (fun _ q => q) (by simp)))
  refine segA (p := p) (loose := loose) (mean := mean) (mg := mg) (mb := mb) (knd := knd) (dp := dp + 1) rfl rfl rfl rfl (by omega) geo ⟨?_, ?_, haL⟩ ha hk hco hi q4 q2 hsz hmax hkey (fun s₀ s₁ hs => seg_end (.ok (.ret .none)) ⟨rfl, rfl, hs⟩) (vs.length + 1) 0 s s₅ (by omega) (Nat.zero_le _) ?_ ?_
  · exact fun e => Nat.lt_irrefl _ (Nat.lt_of_lt_of_le has (e ▸ zI))
  · exact fun e => Nat.lt_irrefl _ (e ▸ has)
  · refine ⟨cx₄.ex e45 (by simp), ⟨_, e45.ns (by simp) (hn₃.keeps e34), look0⟩, e05.list (by simpa using haL) hl, ?_, ⟨0, Nat.le_refl _, ?_⟩, k45 _ _ (frz _ s1) hq₃, k45 _ _ (frz _ s2) hqc₃, (e45 _ _ hff (by simp)).1 (frz _ zF), (e45 _ _ hdx (by simp)).1 (frz _ zd)⟩
    · exact e45.listiter (by simp) hit
    · refine setOf_congr (setOf_ex (setOf_ex (setOf_ex hS eP2 (by simp) (by simpa using Ne.symm (Lz _ s0))) (fs := []) (ws := []) (.of_keeps fun b o e => e34 b o (e23 b o e)) (by simp) (by simp)) e45 (frz _ s0) (by simp)) fun k => ?_
      simp
  · exact .of_mv' hf (ws := [env.locals]) ⟨e05, mv₅.gens, mv₅.drawn, mv₅.os⟩ fun b hb => ⟨by
      have : b ≠ env.locals := fun e => hKL (e ▸ hb)
      simpa using this, fun e => hKL (e ▸ hb)⟩
end

/-- what a consumer looks at -/
abbrev KSf (Cg G D C : Addr) : Addr → Prop := fun b => @LT.lt Nat _ b Cg ∨ b = G ∨ b = D ∨ b = C
section
variable {w : World} {p : Program} {loose : List Str} {mean : ExcName → Option Value} {mg mb : Str → Option Value} {l : List Env} {bs : Heap}
variable {K : Type} [DecidableEq K]
/-- a generator just made -/
def Made59 (w : World) (p : Program) (loose : List Str) (mean : ExcName → Option Value) (mg mb : Str → Option Value) (l : List Env) (bs : Heap) (ks : List K) (vs : List Value) (s s' : Shared) (r : Result) : Prop :=
  ∃ (Cg G : Addr), r = .ok (.ret (.ref G)) ∧ Cg = s.heap.objs.size ∧ s.heap.get? G = none ∧ G ≠ Cg ∧ (∀ b o, s.heap.get? b = some o → s'.heap.get? b = some o) ∧ s'.heap.IsGen G s.gens.size ∧ s'.drawn = s.drawn ∧ s'.os = s.os ∧ (∃ gs, gs.bare = true ∧ s'.gens = s.gens.push gs) ∧
    ∀ (D C : Addr) (s₂ : Shared) (dp un : Nat) (gd : Option (List Code)), dp + 100 < recursionLimit → D ≠ C → s'.heap.get? D = none → s'.heap.get? C = none → (∀ b o, s'.heap.get? b = some o → s₂.heap.get? b = some o) → s₂.gens = s'.gens →
      Rd w p loose mean mg mb l bs (Ar dp un gd l) (KSf Cg G D C) D C G s.gens.size (isFirst ks) vs.length (fun i v => vs[i]? = some v) 0 s₂
set_option maxHeartbeats 4000000 in
theorem uniqA_call {knd : PySem.KeyKind Challenge.rw_il0027_01.row.prog w K} {a : Addr} {vs : List Value} {ks : List K} {s : Shared} {dp un : Nat} {gd : Option (List Code)} (c : Cx w p loose mean mg mb l bs s.heap) (hdp : dp + 20 < recursionLimit) (ha : s.heap.IsList a vs.toArray) (hsz : vs.length = ks.length) (hmax : vs.length ≤ 1000)
    (hkey : ∀ (j : Nat) (v : Value), vs[j]? = some v → ∃ k, ks[j]? = some k ∧ knd.is k v = true ∧ v.scannable = true) :
    codeAny (model Challenge.rw_il0027_01.row.prog w) (Ar dp un gd l) (.call (.ref 59) ⟨[.ref a], []⟩) (fun r s' => Made59 w p loose mean mg mb l bs ks vs s s' r) s := by
  have X : (hd.heap_39 w.params).In s.heap := c.Kh
  revert X
  k_fill
  intro X
  refine codeAny_call_generator (by show dp < _; omega) (c.Kh _ _ (show _ = some _ by k_is)) rfl rfl rfl rfl (codeRec_of c.Kh (by k_is)) ?_
  refine (binds_Kx X rfl (by k_is) rfl rfl rfl) _ _ _ _ ?_
  refine wpAny_newFunctionEnv (by decide) (locs rfl) (fun h₁ hns hsb => ⟨?_, ?_⟩) rfl
  · exact c.Th.nolimit.keeps fun b o e => hsb.extBut b o (Nat.ne_of_lt (Heap.lt_size e)) (Heap.get?_push_of_some _ e)
  · have old : ∀ b o, s.heap.get? b = some o → h₁.get? b = some o := fun b o e => hsb.extBut b o (Nat.ne_of_lt (Heap.lt_size e)) (Heap.get?_push_of_some _ e)
    have hCg : s.heap.objs.size < h₁.objs.size := ns_lt hns
    have oldG : ∀ b o (x : Obj), s.heap.get? b = some o → (h₁.push x).get? b = some o := fun b o x e => Heap.get?_push_of_some _ (old b o e)
    refine ⟨s.heap.objs.size, h₁.objs.size, rfl, rfl, Heap.get?_none_of_le (Nat.le_of_lt hCg), Nat.ne_of_gt hCg, fun b o e => oldG b o _ e, ⟨_, _, _, Heap.get?_push_size _ rfl, rfl, rfl, rfl⟩, rfl, rfl, ⟨_, rfl, rfl⟩, fun D C s₂ dp' un' gd' hdp' hDC hD hC hk₂ hg₂ => ?_⟩
    have hgs := (congrArg (fun x : Array GenState => x[s.gens.size]?) hg₂).trans (Array.getElem?_push_size ..)
    dsimp only at hgs
    refine ⟨⟨_, _, _, hk₂ _ _ (Heap.get?_push_size _ rfl), rfl, rfl, rfl⟩, c.keeps fun b o e => hk₂ _ _ (oldG b o _ e), _, hgs, rfl, fun s'' hal hpr => ⟨rfl, ?_⟩⟩
    have keep₂ : ∀ b o, h₁.get? b = some o → s₂.heap.get? b = some o := fun b o e => hk₂ b o (Heap.get?_push_of_some _ e)
    have hns₂ := hns.keeps keep₂
    have cx₂ : Cx w p loose mean mg mb l bs s₂.heap := c.keeps fun b o e => keep₂ b o (old b o e)
    have nDC : ∀ b o, (h₁.push _).get? b = some o → b ∉ [D, C] := fun b o hb hm => by
      rcases List.mem_cons.1 hm with rfl | hm
      · rw [hD] at hb; cases hb
      · obtain rfl : b = C := by simpa using hm
        rw [hC] at hb; cases hb
    have hCgDC : s.heap.objs.size ∉ [D, C] := by
      obtain ⟨o, _, _, ho, _⟩ := hns
      exact nDC _ o (Heap.get?_push_of_some _ ho)
    have hGDC : h₁.objs.size ∉ [D, C] := nDC _ _ (Heap.get?_push_size _ rfl)
    have hDCbs : ∀ b ∈ [D, C], bs.get? b = none ∧ b ∉ frs l := fun b hb => by
      refine ⟨?_, fun hm => ?_⟩
      · cases e : bs.get? b with
        | none => rfl
        | some o => exact absurd hb (nDC b o (oldG b o _ (c.stays b o e)))
      · obtain ⟨_, o, ho, _⟩ := c.ff.mem hm
        exact nDC b o (oldG b o _ ho) hb
    have hns'' := hal.ns hCgDC hns₂
    have cx'' : Cx w p loose mean mg mb l bs s''.heap := cx₂.ex hal hDCbs
    have haDC : a ∉ [D, C] := by
      obtain ⟨o, ho, _⟩ := ha
      exact nDC a o (oldG a o _ ho)
    have has : @LT.lt Nat _ a s.heap.objs.size := by
      obtain ⟨o, ho, _⟩ := ha
      exact Heap.lt_size ho
    have ha'' : s''.heap.IsList a vs.toArray := hal.list haDC (Ex.list (fs := []) (ws := []) (.of_keeps fun b o e => keep₂ b o (old b o e)) (by simp) ha)
    have hCgs : @LT.lt Nat _ s.heap.objs.size s''.heap.objs.size := ns_lt hns''
    have hLf : s.heap.objs.size ∉ frs l := fun hm => by
      obtain ⟨_, o, ho, _⟩ := c.ff.mem hm
      exact Nat.lt_irrefl _ (Heap.lt_size ho)
    have hLb : bs.get? s.heap.objs.size = none := none_of_keeps c.stays (Heap.get?_none_of_le (Nat.le_refl _))
    have hGs : @LT.lt Nat _ h₁.objs.size s''.heap.objs.size := by
      obtain ⟨_, sl, e⟩ := hal _ _ (hk₂ _ _ (Heap.get?_push_size _ rfl)) hGDC
      exact Heap.lt_size e
    obtain ⟨⟨oD, hoD⟩, oC, hoC⟩ := hpr
    refine startA (knd := knd) (w := w) (p := p) (loose := loose) (mean := mean) (mg := mg) (mb := mb) (a := a) (by omega) cx'' hns'' (by rfl) (by rfl) rfl rfl rfl rfl rfl rfl rfl rfl rfl rfl rfl rfl rfl ?_ ?_ ?_ hCgDC hLb hLf ?_ ⟨.inl has, haDC⟩ ha'' (Nat.ne_of_lt has) hsz hmax hkey
    · rintro b (h | rfl | rfl | rfl)
      · exact Nat.lt_trans h hCgs
      · exact hGs
      · exact Heap.lt_size hoD
      · exact Heap.lt_size hoC
    · rintro (h | h | h | h)
      · exact Nat.lt_irrefl _ h
      · exact absurd h (Nat.ne_of_lt hCg)
      · exact hCgDC (by rw [show ([D, C] : List Addr) = [s.heap.objs.size, C] by rw [← h]; rfl]; simp)
      · exact hCgDC (by rw [show ([D, C] : List Addr) = [D, s.heap.objs.size] by rw [← h]; rfl]; simp)
    · intro b hb
      rcases List.mem_cons.1 hb with rfl | hb
      · exact Heap.lt_size hoD
      · obtain rfl : b = C := by simpa using hb
        exact Heap.lt_size hoC
    · intro b hb
      refine ⟨(hDCbs b hb).1, ?_⟩
      rw [frs_cons (L := s.heap.objs.size) rfl]
      intro hm
      rcases List.mem_cons.1 hm with e | hm
      · exact hCgDC (e ▸ hb)
      · exact (hDCbs b hb).2 hm
end

section
variable {w : World} {p : Program} {loose : List Str} {mean : ExcName → Option Value} {mg mb : Str → Option Value} {l : List Env} {bs : Heap}
variable {K : Type} [DecidableEq K]
set_option maxHeartbeats 4000000 in
theorem startB {knd : PySem.KeyKind Challenge.rw_il0027_01.row.prog w K} {KS : Addr → Prop} {D C a lam : Addr} {lamo : Obj} {vs : List Value} {ks : List K} {env : Env} {s : Shared} {m : Str → Option Value} {dp un : Nat} {gd : Option (List Code)}
    {p1 p2 p3 p4 p5 p6 p7 p8 p9 pa pb pc pd pe pf pg ph pi pj pk pl pm pn po px py pz1 pz2 pz3 pz4 pz5 : Pos} {k1 : Nat} {els : List Stmt}
    (hdp : dp + 90 < recursionLimit) (cx : Cx w p loose mean mg mb l bs s.heap) (hn : s.heap.Ns env.locals m) (mi : m "iterable" = some (.ref a)) (mk : m "key" = some (.ref lam))
    (hk : env.scope.kind = .function) (hco : env.scope.isCoroutine = false) (hi : interactive env = false) (hg : env.globals = mainGlobals) (hb : env.builtins = builtinsNs) (hf : env.frame = some env.locals)
    (q1 : env.kindOf "seen" = some .local) (q2 : env.kindOf "seen_add" = some .local) (q3 : env.kindOf "key" = some .local) (q4 : env.kindOf "element" = some .local) (q5 : env.kindOf "iterable" = some .local) (q6 : env.kindOf "set" = some .globalImplicit) (q7 : env.kindOf "k" = some .local)
    (hKS : ∀ b, KS b → @LT.lt Nat _ b s.heap.objs.size) (hKL : ¬ KS env.locals) (hdcl : ∀ b ∈ [D, C], @LT.lt Nat _ b s.heap.objs.size) (hLdc : env.locals ∉ [D, C]) (hbL : bs.get? env.locals = none) (hLf : env.locals ∉ frs l) (hdcb : ∀ b ∈ [D, C], bs.get? b = none ∧ b ∉ frs (env :: l))
    (ha : KS a ∧ a ∉ [D, C]) (hl : s.heap.IsList a vs.toArray) (haL : a ≠ env.locals) (hsz : vs.length = ks.length) (hmax : vs.length ≤ 1000)
    (hlam : s.heap.get? lam = some lamo) (hlam2 : KS lam ∧ lam ∉ [D, C] ∧ lam ∉ frs (env :: l)) (hlamL : lam ≠ env.locals) (hfd : ∃ fd, lamo.data = .func fd)
    (hkey : ∀ (i : Nat) (v : Value), vs[i]? = some v → ∀ (s : Shared) (dp' un' : Nat) (gd' : Option (List Code)), dp' < dp + 10 → Cx w p loose mean mg mb (env :: l) bs s.heap → s.heap.get? lam = some lamo →
      codeAny (model Challenge.rw_il0027_01.row.prog w) (Ar dp' un' gd' (env :: l)) (.call (.ref lam) ⟨[v], []⟩) (Ends (env :: l) s (fun r _ => ∃ k, ks[i]? = some k ∧ knd.is k r = true ∧ r.scannable = true)) s) :
    Seg (model Challenge.rw_il0027_01.row.prog w) (Ar dp un gd l).in1 (gR (frs l) KS) (gY (frs l) KS D C (isFirst ks) vs.length (fun i v => vs[i]? = some v)) (passing (isFirst ks) vs.length 0).length s
      (.func [.Assign [.Name "seen" p1] (.Call (.Name "set" p2) [] [] p3) p4, .Assign [.Name "seen_add" p5] (.Attribute (.Name "seen" p6) "add" p7) p8,
        .If (.Compare (.Name "key" p9) [.Is] [.Constant .none k1 pa] pb) els [.For (.Name "element" pc) (.Name "iterable" pd)
          [.Assign [.Name "k" pe] (.Call (.Name "key" pf) [.Name "element" pg] [] ph) pi, .If (.Compare (.Name "k" pj) [.NotIn] [.Name "seen" pk] pl) [.Expr (.Call (.Name "seen_add" pm) [.Name "k" pn] [] po) pz1, .Expr (.Yield (some (.Name "element" pz2)) pz3) pz4] [] pz5] [] px] py] env)
      ((model Challenge.rw_il0027_01.row.prog w).den (.func [.Assign [.Name "seen" p1] (.Call (.Name "set" p2) [] [] p3) p4, .Assign [.Name "seen_add" p5] (.Attribute (.Name "seen" p6) "add" p7) p8,
        .If (.Compare (.Name "key" p9) [.Is] [.Constant .none k1 pa] pb) els [.For (.Name "element" pc) (.Name "iterable" pd)
          [.Assign [.Name "k" pe] (.Call (.Name "key" pf) [.Name "element" pg] [] ph) pi, .If (.Compare (.Name "k" pj) [.NotIn] [.Name "seen" pk] pl) [.Expr (.Call (.Name "seen_add" pm) [.Name "k" pn] [] po) pz1, .Expr (.Yield (some (.Name "element" pz2)) pz3) pz4] [] pz5] [] px] py] env)) [] s := by
  have hp : (env.scope.kind == .class || (env.scope.kind == .module && env.locals != env.globals)) = false := by rw [hk]; rfl
  have Xs : nsIn (hd.heap_39 w.params) mainGlobals "set" = some none ∧ True := by
    have X := cx.Kh
    have hrow : Challenge.rw_il0027_01.row = Challenge.rw_il0027_01.row := rfl
    revert hrow X
    k_fill
    intro X _
    exact ⟨by k_is, trivial⟩
  have hLs : @LT.lt Nat _ env.locals s.heap.objs.size := ns_lt hn
  have has : @LT.lt Nat _ a s.heap.objs.size := hKS a ha.1
  refine seg_func ?_
  refine seg_execs_cons (seg_exec ?_)
  refine wpAny_Assign_Name (Call_ (ev_builtin cx hg hb hk q6 Xs.1 (v := .type "set") (by decide +kernel) ?_))
  refine PyProof.Rows.callWith_type rfl (PyProof.Rows.evalArgs_none (call_set_0 fun led => ?_))
  have hS := (show (s.heap.push { cls := .type "set", dict := none, data := .set #[] 0 (.fresh 0 0 led) }).SetOf knd s.heap.objs.size (fun _ => false) 0 from
    ⟨_, #[], 0, _, Heap.get?_push_size _ rfl, ⟨rfl, rfl, rfl⟩, rfl, fun e he => by simp at he, fun k => by simp, by decide, by rfl, rfl⟩)
  refine wpAny_storeName_local q1 (hn.push _) (fun h₁ hn₁ hs₁ => ?_) hp
  have hx₁ : h₁.get? s.heap.objs.size = some { cls := .type "set", data := .set #[] 0 (.fresh 0 0 led) } := (hs₁.2 _ (Nat.ne_of_gt hLs)).trans (Heap.get?_push_size _ rfl)
  refine seg_execs_cons (seg_exec ?_)
  refine wpAny_Assign_Name (Attribute_name (ev_local hk q1 hn₁ look0 (getAttr_set_add hx₁ rfl fun tk => ?_)))
  have hS1 : @LT.lt Nat _ s.heap.objs.size h₁.objs.size := Heap.lt_size hx₁
  refine wpAny_storeName_local q2 (hn₁.push _) (fun h₂ hn₂ hs₂ => ?_) hp
  have hL1 : @LT.lt Nat _ env.locals h₁.objs.size := Nat.lt_trans hLs hS1
  have hx₂ : h₂.get? s.heap.objs.size = some { cls := .type "set", data := .set #[] 0 (.fresh 0 0 led) } := (hs₂.2 _ (Nat.ne_of_gt hLs)).trans (Heap.get?_push_of_some _ hx₁)
  have hq₂ : h₂.get? h₁.objs.size = some (boundTo "set.add" s.heap.objs.size) := (hs₂.2 _ (Nat.ne_of_gt hL1)).trans (Heap.get?_push_size _ rfl)
  have hS2 : @LT.lt Nat _ h₁.objs.size h₂.objs.size := Heap.lt_size hq₂
  refine seg_execs_cons (seg_If ?_)
  refine wpAny_isTrue_Compare1 (ev_local hk q3 hn₂ (look2 (by decide) (by decide) mk) (wpAny_Constant_none (is_ref_none (wpAny_truthy_bool ?_))))
  rw [if_neg Bool.false_ne_true]
  have e02 : Ex (frs (env :: l)) [env.locals] s.heap h₂ := ((Ex.of_keeps fun b o e => Heap.get?_push_of_some _ e).trans (Ex.sameBut hs₁ (by simp))).trans ((Ex.of_keeps fun b o e => Heap.get?_push_of_some _ e).trans (Ex.sameBut hs₂ (by simp)))
  have eP2 : Ex ([] : List Addr) [env.locals] (s.heap.push { cls := .type "set", dict := none, data := .set #[] 0 (.fresh 0 0 led) }) h₂ := (Ex.sameBut hs₁ (by simp)).trans ((Ex.of_keeps fun b o e => Heap.get?_push_of_some _ e).trans (Ex.sameBut hs₂ (by simp)))
  have cx₂ : Cx w p loose mean mg mb l bs h₂ := by
    refine cx.ex (ws := [env.locals]) (fun b o e n => ⟨fun q => (e02 b o e n).1 (by
      rw [frs_cons hf]
      exact fun q' => (List.mem_cons.1 q').elim (fun e => n (by simp [e])) q), (e02 b o e n).2⟩) (fun b hb => ?_)
    obtain rfl : b = env.locals := by simpa using hb
    exact ⟨hbL, hLf⟩
  have hl₂ : h₂.IsList a vs.toArray := e02.list (by simpa using haL) hl
  refine seg_execs_cons (seg_For (ev_local hk q5 hn₂ (look2 (by decide) (by decide) mi) (wpAny_pyIter_list hl₂ fun pp => ?_)))
  have e23 : ∀ b o, h₂.get? b = some o → (h₂.push { cls := .type "list_iterator", data := .fields #[.ref a, .int 0 0] }).get? b = some o := fun b o e => Heap.get?_push_of_some _ e
  have hI₃ : (h₂.push { cls := .type "list_iterator", data := .fields #[.ref a, .int 0 0] }).get? h₂.objs.size = some { cls := .type "list_iterator", data := .fields #[.ref a, .int 0 0] } := Heap.get?_push_size _ rfl
  have hn₃ := (hn₂.keeps e23)
  have lo : ∀ b, @LE.le Nat _ s.heap.objs.size b → ¬ KS b ∧ b ∉ [D, C] := fun b hb => ⟨fun q => Nat.lt_irrefl _ (Nat.lt_of_lt_of_le (hKS b q) hb), fun q => Nat.lt_irrefl _ (Nat.lt_of_lt_of_le (hdcl b q) hb)⟩
  have s0 : @LE.le Nat _ s.heap.objs.size s.heap.objs.size := Nat.le_refl _
  have s1 : @LE.le Nat _ s.heap.objs.size h₁.objs.size := Nat.le_of_lt hS1
  have s2 : @LE.le Nat _ s.heap.objs.size h₂.objs.size := Nat.le_trans s1 (Nat.le_of_lt hS2)
  have bsz : ∀ b, @LE.le Nat _ s.heap.objs.size b → bs.get? b = none := fun b hb => none_of_keeps cx.stays (Heap.get?_none_of_le hb)
  have frz : ∀ b, @LE.le Nat _ s.heap.objs.size b → b ∉ frs (env :: l) := fun b hb hm => by
    rw [frs_cons hf] at hm
    rcases List.mem_cons.1 hm with rfl | hm
    · exact Nat.lt_irrefl _ (Nat.lt_of_lt_of_le hLs hb)
    · obtain ⟨_, o, ho, _⟩ := cx.ff.mem hm
      exact Nat.lt_irrefl _ (Nat.lt_of_lt_of_le (Heap.lt_size ho) hb)
  have Lz : ∀ b, @LE.le Nat _ s.heap.objs.size b → env.locals ≠ b := fun b hb e => Nat.lt_irrefl _ (Nat.lt_of_lt_of_le hLs (e ▸ hb))
  have geo : Geo KS l bs env D C [s.heap.objs.size, h₁.objs.size, h₂.objs.size] := by
    have all : ∀ b ∈ [s.heap.objs.size, h₁.objs.size, h₂.objs.size], @LE.le Nat _ s.heap.objs.size b := fun b hb => by
      simp only [List.mem_cons, List.not_mem_nil, or_false] at hb
      rcases hb with rfl | rfl | rfl <;> assumption
    refine ⟨fun b hb => ?_, fun b hb => ?_, fun b hb => ?_, fun b hb => frz b (all b hb), fun hb => Lz _ (all _ hb) rfl, hLf, ?_, hf, hdcb⟩
    · rcases List.mem_cons.1 hb with rfl | hb
      · exact hKL
      · exact (lo b (all b hb)).1
    · rcases List.mem_cons.1 hb with rfl | hb
      · exact hLdc
      · exact (lo b (all b hb)).2
    · rcases List.mem_cons.1 hb with rfl | hb
      · exact hbL
      · exact bsz b (all b hb)
    · have u1 := Nat.ne_of_lt hS1
      have u2 := Nat.ne_of_lt (Nat.lt_trans hS1 hS2)
      have u3 := Nat.ne_of_lt hS2
      simp only [List.nodup_cons, List.mem_cons, List.not_mem_nil, or_false, not_or, List.nodup_nil, and_true, not_false_eq_true]
      exact ⟨⟨u1, u2⟩, u3⟩
  have e03 : Ex (frs (env :: l)) [env.locals] s.heap (h₂.push { cls := .type "list_iterator", data := .fields #[.ref a, .int 0 0] }) := e02.trans (.of_keeps e23)
  refine segB (p := p) (loose := loose) (mean := mean) (mg := mg) (mb := mb) (knd := knd) (lam := lam) (lamo := lamo) (dp := dp + 1) (x := "k") (kx := "k") (g' := false) rfl rfl rfl rfl rfl (by omega) geo ⟨?_, ?_, haL⟩ ha hlam2 hk hco hi q4 q7 q3 q1 q2 hsz hmax (fun i v hv s' c' hl' => hkey i v hv s' _ _ _ (by omega) c' hl') hfd (fun s₀ s₁ hs => seg_end (.ok (.ret .none)) ⟨rfl, rfl, hs⟩) vs.length 0 s _ (by omega) (Nat.zero_le _) ?_ ?_
  · exact fun e => Nat.lt_irrefl _ (Nat.lt_of_lt_of_le has (e ▸ s2))
  · exact fun e => Nat.lt_irrefl _ (e ▸ has)
  · refine ⟨⟨(cx₂.keeps e23).stays, Heap.FunFrames.cons (by rw [hk]; decide) hf hn₃ hbL (cx₂.keeps e23).ff, cx.K, cx.T⟩, ⟨_, hn₃, look01 (by decide), look0, look2 (by decide) (by decide) mk⟩, e03.list (by simpa using haL) hl, ⟨_, hI₃, rfl, rfl⟩, ⟨0, Nat.le_refl _, ?_⟩, e23 _ _ hq₂, (e03 _ _ hlam (by simpa using hlamL)).1 hlam2.2.2⟩
    refine setOf_congr (setOf_ex (setOf_ex hS eP2 (by simp) (by simpa using Ne.symm (Lz _ s0))) (fs := []) (ws := []) (.of_keeps e23) (by simp) (by simp)) fun k => ?_
    simp
  · exact .of_mv' hf (ws := [env.locals]) ⟨e03, rfl, rfl, rfl⟩ fun b hb => ⟨by
      have : b ≠ env.locals := fun e => hKL (e ▸ hb)
      simpa using this, fun e => hKL (e ▸ hb)⟩
end

section
variable {w : World} {p : Program} {loose : List Str} {mean : ExcName → Option Value} {mg mb : Str → Option Value} {l : List Env} {bs : Heap}
variable {K : Type} [DecidableEq K]
set_option maxHeartbeats 4000000 in
theorem uniqB_call {knd : PySem.KeyKind Challenge.rw_il0027_01.row.prog w K} {a lam : Addr} {lamo : Obj} {vs : List Value} {ks : List K} {s : Shared} {dp un : Nat} {gd : Option (List Code)} (c : Cx w p loose mean mg mb l bs s.heap) (hdp : dp + 20 < recursionLimit) (ha : s.heap.IsList a vs.toArray) (hsz : vs.length = ks.length) (hmax : vs.length ≤ 1000)
    (hlam : s.heap.get? lam = some lamo) (hlamf : lam ∉ frs l) (hfd : ∃ fd, lamo.data = .func fd)
    (hkey : ∀ (env : Env) (i : Nat) (v : Value), vs[i]? = some v → ∀ (s : Shared) (dp' un' : Nat) (gd' : Option (List Code)), dp' + 60 < recursionLimit → Cx w p loose mean mg mb (env :: l) bs s.heap → s.heap.get? lam = some lamo →
      codeAny (model Challenge.rw_il0027_01.row.prog w) (Ar dp' un' gd' (env :: l)) (.call (.ref lam) ⟨[v], []⟩) (Ends (env :: l) s (fun r _ => ∃ k, ks[i]? = some k ∧ knd.is k r = true ∧ r.scannable = true)) s) :
    codeAny (model Challenge.rw_il0027_01.row.prog w) (Ar dp un gd l) (.call (.ref 59) ⟨[.ref a, .ref lam], []⟩) (fun r s' => Made59 w p loose mean mg mb l bs ks vs s s' r) s := by
  have X : (hd.heap_39 w.params).In s.heap := c.Kh
  revert X
  k_fill
  intro X
  refine codeAny_call_generator (by show dp < _; omega) (c.Kh _ _ (show _ = some _ by k_is)) rfl rfl rfl rfl (codeRec_of c.Kh (by k_is)) ?_
  refine (binds_Kx X rfl (by k_is) rfl rfl rfl) _ _ _ _ ?_
  refine wpAny_newFunctionEnv (by decide) (locs rfl) (fun h₁ hns hsb => ⟨?_, ?_⟩) rfl
  · exact c.Th.nolimit.keeps fun b o e => hsb.extBut b o (Nat.ne_of_lt (Heap.lt_size e)) (Heap.get?_push_of_some _ e)
  · have old : ∀ b o, s.heap.get? b = some o → h₁.get? b = some o := fun b o e => hsb.extBut b o (Nat.ne_of_lt (Heap.lt_size e)) (Heap.get?_push_of_some _ e)
    have hCg : s.heap.objs.size < h₁.objs.size := ns_lt hns
    have oldG : ∀ b o (x : Obj), s.heap.get? b = some o → (h₁.push x).get? b = some o := fun b o x e => Heap.get?_push_of_some _ (old b o e)
    refine ⟨s.heap.objs.size, h₁.objs.size, rfl, rfl, Heap.get?_none_of_le (Nat.le_of_lt hCg), Nat.ne_of_gt hCg, fun b o e => oldG b o _ e, ⟨_, _, _, Heap.get?_push_size _ rfl, rfl, rfl, rfl⟩, rfl, rfl, ⟨_, rfl, rfl⟩, fun D C s₂ dp' un' gd' hdp' hDC hD hC hk₂ hg₂ => ?_⟩
    have hgs := (congrArg (fun x : Array GenState => x[s.gens.size]?) hg₂).trans (Array.getElem?_push_size ..)
    dsimp only at hgs
    refine ⟨⟨_, _, _, hk₂ _ _ (Heap.get?_push_size _ rfl), rfl, rfl, rfl⟩, c.keeps fun b o e => hk₂ _ _ (oldG b o _ e), _, hgs, rfl, fun s'' hal hpr => ⟨rfl, ?_⟩⟩
    have keep₂ : ∀ b o, h₁.get? b = some o → s₂.heap.get? b = some o := fun b o e => hk₂ b o (Heap.get?_push_of_some _ e)
    have hns₂ := hns.keeps keep₂
    have cx₂ : Cx w p loose mean mg mb l bs s₂.heap := c.keeps fun b o e => keep₂ b o (old b o e)
    have nDC : ∀ b o, (h₁.push _).get? b = some o → b ∉ [D, C] := fun b o hb hm => by
      rcases List.mem_cons.1 hm with rfl | hm
      · rw [hD] at hb; cases hb
      · obtain rfl : b = C := by simpa using hm
        rw [hC] at hb; cases hb
    have hCgDC : s.heap.objs.size ∉ [D, C] := by
      obtain ⟨o, _, _, ho, _⟩ := hns
      exact nDC _ o (Heap.get?_push_of_some _ ho)
    have hGDC : h₁.objs.size ∉ [D, C] := nDC _ _ (Heap.get?_push_size _ rfl)
    have hDCbs : ∀ b ∈ [D, C], bs.get? b = none ∧ b ∉ frs l := fun b hb => by
      refine ⟨?_, fun hm => ?_⟩
      · cases e : bs.get? b with
        | none => rfl
        | some o => exact absurd hb (nDC b o (oldG b o _ (c.stays b o e)))
      · obtain ⟨_, o, ho, _⟩ := c.ff.mem hm
        exact nDC b o (oldG b o _ ho) hb
    have hns'' := hal.ns hCgDC hns₂
    have cx'' : Cx w p loose mean mg mb l bs s''.heap := cx₂.ex hal hDCbs
    have haDC : a ∉ [D, C] := by
      obtain ⟨o, ho, _⟩ := ha
      exact nDC a o (oldG a o _ ho)
    have has : @LT.lt Nat _ a s.heap.objs.size := by
      obtain ⟨o, ho, _⟩ := ha
      exact Heap.lt_size ho
    have ha'' : s''.heap.IsList a vs.toArray := hal.list haDC (Ex.list (fs := []) (ws := []) (.of_keeps fun b o e => keep₂ b o (old b o e)) (by simp) ha)
    have hCgs : @LT.lt Nat _ s.heap.objs.size s''.heap.objs.size := ns_lt hns''
    have hLf : s.heap.objs.size ∉ frs l := fun hm => by
      obtain ⟨_, o, ho, _⟩ := c.ff.mem hm
      exact Nat.lt_irrefl _ (Heap.lt_size ho)
    have hLb : bs.get? s.heap.objs.size = none := none_of_keeps c.stays (Heap.get?_none_of_le (Nat.le_refl _))
    have hGs : @LT.lt Nat _ h₁.objs.size s''.heap.objs.size := by
      obtain ⟨_, sl, e⟩ := hal _ _ (hk₂ _ _ (Heap.get?_push_size _ rfl)) hGDC
      exact Heap.lt_size e
    obtain ⟨⟨oD, hoD⟩, oC, hoC⟩ := hpr
    have hlams : @LT.lt Nat _ lam s.heap.objs.size := Heap.lt_size hlam
    have hlamDC : lam ∉ [D, C] := nDC lam lamo (oldG lam lamo _ hlam)
    have hlam'' : s''.heap.get? lam = some lamo := (hal lam lamo (keep₂ _ _ (old _ _ hlam)) hlamDC).1 hlamf
    have hlamF : ∀ env : Env, env.frame = some s.heap.objs.size → lam ∉ frs (env :: l) := fun env hf hm => by
      rw [frs_cons hf] at hm
      rcases List.mem_cons.1 hm with e | hm
      · exact absurd e (Nat.ne_of_lt hlams)
      · exact hlamf hm
    refine startB (lam := lam) (lamo := lamo) (knd := knd) (w := w) (p := p) (loose := loose) (mean := mean) (mg := mg) (mb := mb) (a := a) (by omega) cx'' hns'' (by rfl) (by rfl) rfl rfl rfl rfl rfl rfl rfl rfl rfl rfl rfl rfl rfl ?_ ?_ ?_ hCgDC hLb hLf ?_ ⟨.inl has, haDC⟩ ha'' (Nat.ne_of_lt has) hsz hmax hlam'' ⟨.inl hlams, hlamDC, hlamF _ rfl⟩ (Nat.ne_of_lt hlams) hfd (fun i v hv s' dp' un' gd' hdp'' c' hl' => hkey _ i v hv s' dp' un' gd' (by omega) c' hl')
    · rintro b (h | rfl | rfl | rfl)
      · exact Nat.lt_trans h hCgs
      · exact hGs
      · exact Heap.lt_size hoD
      · exact Heap.lt_size hoC
    · rintro (h | h | h | h)
      · exact Nat.lt_irrefl _ h
      · exact absurd h (Nat.ne_of_lt hCg)
      · exact hCgDC (by rw [show ([D, C] : List Addr) = [s.heap.objs.size, C] by rw [← h]; rfl]; simp)
      · exact hCgDC (by rw [show ([D, C] : List Addr) = [D, s.heap.objs.size] by rw [← h]; rfl]; simp)
    · intro b hb
      rcases List.mem_cons.1 hb with rfl | hb
      · exact Heap.lt_size hoD
      · obtain rfl : b = C := by simpa using hb
        exact Heap.lt_size hoC
    · intro b hb
      refine ⟨(hDCbs b hb).1, ?_⟩
      rw [frs_cons (L := s.heap.objs.size) rfl]
      intro hm
      rcases List.mem_cons.1 hm with e | hm
      · exact hCgDC (e ▸ hb)
      · exact (hDCbs b hb).2 hm
end

theorem picked_eq {vs : List Value} : ∀ (L : List Nat) (ys : List Value), ys.length = L.length → (∀ (j : Nat) (y : Value), ys[j]? = some y → ∃ i, L[j]? = some i ∧ vs[i]? = some y) → ys = L.filterMap (vs[·]?)
  | [], ys, h, _ => by simpa using h
  | i :: L, [], h, _ => by simp at h
  | i :: L, y :: ys, h, hp => by
    obtain ⟨i', e1, e2⟩ := hp 0 y rfl
    have : i = i' := by simpa using e1
    subst this
    rw [List.filterMap_cons_some e2, ← picked_eq L ys (by simpa using h) fun j z hz => by simpa using hp (j + 1) z (by simpa using hz)]
/-- what comes out of unique_everseen is what _law_firsts picks -/
theorem told_eq {κ : Type} [DecidableEq κ] {ks : List κ} {vs ys : List Value} (hsz : vs.length = ks.length) (hl : ys.length = (passing (isFirst ks) vs.length 0).length)
    (h : ∀ (j : Nat) (y : Value), ys[j]? = some y → ∃ i, (passing (isFirst ks) vs.length 0)[j]? = some i ∧ vs[i]? = some y) : ys = firstsOf ks vs := by
  have := picked_eq _ ys hl h
  rw [this, firstsOf, passing, List.drop_zero, hsz]
/-- two lists with like items: == says True -/
theorem paired_eqAt {F : Leaf → Value → Prop} {A : Around} {s : Shared} : ∀ {fl : List Leaf} {xs ys : List Value}, Paired leafIs fl xs → Paired leafIs fl ys → xs.length = ys.length
  | _, _, _, .nil, .nil => rfl
  | _, _, _, .cons _ a, .cons _ b => by simp [paired_eqAt (F := F) (A := A) (s := s) a b]

theorem part_const {M : Model} {A : Around} {E : Value → Shared → Prop} {s : Shared} {env : Env} {Q : Value → Shared → Prop} {i : Int} {k : Nat} {pos : Pos} (h : Q (.int i s.toks) { s with toks := s.toks + 1 }) :
    wpAny M A (evalPart (some (.Constant (.int i) k pos)) env) Q E s := wpAny_Constant_int (env := env) (k := k) (pos := pos) h
/-- a display of literal numbers -/
inductive Lits : List Expr → List Int → Prop
  | nil : Lits [] []
  | cons {i : Int} {k : Nat} {p : Pos} {es : List Expr} {ns : List Int} : Lits es ns → Lits (.Constant (.int i) k p :: es) (i :: ns)
theorem lits_eval {M : Model} {A : Around} {E : Value → Shared → Prop} {env : Env} {pos : Pos} : ∀ {es : List Expr} {ns : List Int}, Lits es ns → ∀ (s : Shared) (Q : List Value → Shared → Prop), (∀ vs tk, IntsAre vs ns → Q vs { s with toks := tk }) → wpAny M A (spliced (backTo pos (starEach es env))) Q E s
  | _, _, .nil, s, _, hQ => spliced_none (hQ [] s.toks .nil)
  | _, _, .cons h, _, _, hQ => spliced_more (wpAny_Constant_int (lits_eval h _ _ fun _ _ hv => hQ _ _ (.cons _ _ hv)))
section
variable {prog : Program} {w : World} {A : Around} {E : Value → Shared → Prop} {s : Shared} {env : Env} {Q : Flow → Shared → Prop}
/-- script = script[:30] -/
theorem st_cut {x : Str} {p1 p2 p3 p4 p5 : Pos} {kd : Nat} {m : Str → Option Value} {a : Addr} {vs : List Value} {c : Nat} (hk : env.scope.kind = .function) (hx : env.kindOf x = some .local) (hn : s.heap.Ns env.locals m) (hm : m x = some (.ref a)) (hl : s.heap.IsList a vs.toArray) (hsz : vs.length ≤ 1000) (hd : (x == ("__debug__" : Str)) = false)
    (h : ∀ D h' tk, s.heap.get? D = none → h'.IsList D (vs.take c).toArray → h'.Ns env.locals (fun z => if z = x then some (.ref D) else m z) → Ex ([] : List Addr) [env.locals] s.heap h' → Q .next { s with heap := h', toks := tk }) :
    wpAny (model prog w) A (exec (.Assign [.Name x p1] (.Subscript (.Name x p2) (.Slice none (some (.Constant (.int c) kd p3)) none p4) p5) p1) env) Q E s := by
  refine wpAny_Assign_Name (wpAny_Subscript_list_slice (ev_local hk hx hn hm ?_ hd))
  rw [evalPart_none]
  refine wpAny_pure (part_const ⟨_, _, none, some c, rfl, hl, ?_, by constructor, part_int, ?_⟩)
  · rw [List.size_toArray]
    have : (2000 : Nat) ≤ sizeLine := by decide
    omega
  have e1 := slicePick_upto' vs.toArray c
  refine wpAny_storeName_local hx ((hn.push _).push _) (fun h₂ hn₂ hs₂ => ?_) (by rw [hk]; rfl)
  have hL := ns_lt hn
  have hD : h₂.get? (s.heap.objs.size + 1) = some { cls := .type "list", data := .seq (slicePick vs.toArray none (some (c : Int)) none) } := by
    refine (hs₂.2 _ (Nat.ne_of_gt (Nat.lt_succ_of_lt hL))).trans ?_
    show ((s.heap.push { cls := .type "slice", data := .fields #[.none, .int (c : Int) s.toks, .none] }).push _).get? (s.heap.objs.size + 1) = _
    rw [show s.heap.objs.size + 1 = (s.heap.push { cls := .type "slice", data := .fields #[.none, .int (c : Int) s.toks, .none] }).objs.size from (Heap.size_push _ _).symm]
    exact Heap.get?_push_size _ rfl
  refine h _ _ _ (Heap.get?_none_of_le (Nat.le_succ _)) ⟨_, hD, rfl, 0, by simpa using e1⟩ hn₂ ((Ex.of_keeps fun b o e => Heap.get?_push_of_some _ (Heap.get?_push_of_some _ e)).trans (Ex.sameBut hs₂ (by simp)))
theorem add_ls {l b : Addr} {vs ws : List Value} {Q : Value → Shared → Prop} (hl : s.heap.IsList l vs.toArray) (hb : s.heap.IsList b ws.toArray)
    (h : Q (.ref s.heap.objs.size) { s with heap := s.heap.push { cls := .type "list", data := .seq (vs ++ ws).toArray } }) (hsz : vs.length + ws.length ≤ sizeLine) : wpAny (model prog w) A (binaryOp .Add (.ref l) (.ref b)) Q E s := by
  obtain ⟨⟨cls, dd, data, sl⟩, ho, hc, n, hd⟩ := id hl
  obtain ⟨⟨cls2, dd2, data2, sl2⟩, ho2, hc2, n2, hd2⟩ := id hb
  simp only at hc hd hc2 hd2
  subst hc hd hc2 hd2
  have e : vs.toArray ++ ws.toArray = (vs ++ ws).toArray := by simp
  refine concat_meets ⟨_, ho, rfl⟩ ⟨_, ho2, rfl⟩ noFill_list_add seq_list_add PySem.F.slot_list_add PySem.F.entry_list_add (PySem.F.args_list_add_2 _ _) (list_addW l b vs.toArray ws.toArray n n2 dd dd2 sl sl2 (by simpa using hsz)) ⟨ho, ho2, ?_⟩
  rw [e]
  exact h
/-- numbers = script + [..] -/
theorem st_add {x y : Str} {p1 p2 p3 p4 p5 : Pos} {es : List Expr} {ks : List Int} {m : Str → Option Value} {a : Addr} {vs : List Value} (L : Lits es ks) (hks : ks.length ≤ 1000) (hk : env.scope.kind = .function) (hx : env.kindOf x = some .local) (hy : env.kindOf y = some .local) (hn : s.heap.Ns env.locals m) (hm : m x = some (.ref a)) (hl : s.heap.IsList a vs.toArray) (hsz : vs.length ≤ 1000) (hd : (x == ("__debug__" : Str)) = false)
    (h : ∀ D h' tk lits, IntsAre lits ks → s.heap.get? D = none → h'.IsList D (vs ++ lits).toArray → h'.Ns env.locals (fun z => if z = y then some (.ref D) else m z) → Ex ([] : List Addr) [env.locals] s.heap h' → Q .next { s with heap := h', toks := tk }) :
    wpAny (model prog w) A (exec (.Assign [.Name y p1] (.BinOp (.Name x p2) .Add (.List es p3) p4) p5) env) Q E s := by
  have h2000 : (2000 : Nat) ≤ sizeLine := by decide
  refine wpAny_Assign_Name (wpAny_BinOp (ev_local hk hx hn hm (wpAny_List_spliced (lits_eval L _ _ fun lits tk hlits => ⟨by rw [ints_length hlits]; omega, ?_⟩)) hd))
  have hgA : (s.heap.push { cls := .type "list", data := .seq lits.toArray }).IsList a vs.toArray := Ex.list (fs := []) (ws := []) (.of_keeps fun b o e => Heap.get?_push_of_some _ e) (by simp) hl
  refine add_ls hgA ⟨_, Heap.get?_push_size _ rfl, rfl, 0, rfl⟩ ?_ (by rw [ints_length hlits]; omega)
  refine wpAny_storeName_local hy ((hn.push _).push _) (fun h₂ hn₂ hs₂ => ?_) (by rw [hk]; rfl)
  have hL := ns_lt hn
  have hLp : @LT.lt Nat _ env.locals (s.heap.push { cls := .type "list", data := .seq lits.toArray }).objs.size := by rw [Heap.size_push]; exact Nat.lt_succ_of_lt hL
  refine h (s.heap.push { cls := .type "list", data := .seq lits.toArray }).objs.size h₂ _ lits hlits (Heap.get?_none_of_le (by rw [Heap.size_push]; exact Nat.le_succ _)) ⟨_, (hs₂.2 _ (Nat.ne_of_gt hLp)).trans (Heap.get?_push_size _ rfl), rfl, 0, rfl⟩ hn₂ ((Ex.of_keeps fun b o e => Heap.get?_push_of_some _ (Heap.get?_push_of_some _ e)).trans (Ex.sameBut hs₂ (by simp)))
end

section
variable {prog : Program} {w : World} {A : Around} {E : Value → Shared → Prop} {s : Shared} {env : Env} {Q : Flow → Shared → Prop}
theorem ns_old {h : Heap} {L a : Addr} {m : Str → Option Value} (n : h.Ns L m) : L < h.objs.size := ns_lt n
/-- x, y = (e1, e2), the stores in order -/
theorem st_pair {x y : Str} {e1 e2 : Expr} {k k2 : Nat} {p1 p2 p3 p4 p5 : Pos} (hh : A.handled = none) (hk : env.scope.kind = .function) (hx : env.kindOf x = some .local) (hy : env.kindOf y = some .local)
    (he : eval (.Tuple [e1, e2] k2 p4) env = eval (.Tuple [e1, e2] k2 p4) env)
    (h : wpAny (model prog w) A (eval (.Tuple [e1, e2] k2 p4) env) (fun v s₁ => ∃ t v1 v2 m, v = .ref t ∧ IsTup s₁.heap t #[v1, v2] ∧ s₁.heap.Ns env.locals m ∧
      ∀ h' tk, h'.Ns env.locals (fun z => if z = y then some v2 else if z = x then some v1 else m z) → Ex ([] : List Addr) [env.locals] s₁.heap h' → Q .next { s₁ with heap := h', toks := tk }) E s)
    (hs : swapsWithSole [.Tuple [.Name x p1, .Name y p2] k p3] (.Tuple [e1, e2] k2 p4) p5.line env = pure false)
    (hw : swappedStores [.Tuple [.Name x p1, .Name y p2] k p3] (.Tuple [e1, e2] k2 p4) env = pure none) :
    wpAny (model prog w) A (exec (.Assign [.Tuple [.Name x p1, .Name y p2] k p3] (.Tuple [e1, e2] k2 p4) p5) env) Q E s := by
  refine Assign_Tuple (wpAny_mono h (fun v s₁ h₁ => ?_) fun _ _ e => e) hs hw
  obtain ⟨t, v1, v2, m, rfl, ht, hn, hq⟩ := h₁
  have hp : (env.scope.kind == .class || (env.scope.kind == .module && env.locals != env.globals)) = false := by rw [hk]; rfl
  have hL := ns_lt hn
  refine wpAny_assign_Tuple hh ht rfl rfl (fun h' he' => ?_)
  have hn' : h'.Ns env.locals m := by
    obtain ⟨o, es, ep, ho, r⟩ := hn
    exact ⟨o, es, ep, he' _ o (Nat.ne_of_lt hL) ho, r⟩
  show wpAny _ _ (holding [v2] (assign (.Name x p1) env v1) >>= fun _ => holding [] (assign (.Name y p2) env v2) >>= fun _ => pure ()) _ _ _
  refine wpAny_bind (wpAny_holding (wpAny_assign_Name (wpAny_storeName_local hx hn' (fun h₂ hn₂ hs₂ => ?_) hp)))
  refine wpAny_bind (wpAny_holding (wpAny_assign_Name (wpAny_storeName_local hy hn₂ (fun h₃ hn₃ hs₃ => ?_) hp)))
  refine wpAny_pure (hq h₃ _ hn₃ ?_)
  exact ((Ex.of_keeps fun b o e => he' b o (Nat.ne_of_lt (Heap.lt_size e)) e).trans (Ex.sameBut hs₂ (by simp))).trans (Ex.sameBut hs₃ (by simp))
/-- x, y = (e1, e2), the stores exchanged: y first -/
theorem st_pairS {x y : Str} {e1 e2 : Expr} {k k2 : Nat} {p1 p2 p3 p4 p5 : Pos} (hh : A.handled = none) (hk : env.scope.kind = .function) (hx : env.kindOf x = some .local) (hy : env.kindOf y = some .local)
    (h : wpAny (model prog w) A (eval (.Tuple [e1, e2] k2 p4) env) (fun v s₁ => ∃ t v1 v2 m, v = .ref t ∧ IsTup s₁.heap t #[v1, v2] ∧ s₁.heap.Ns env.locals m ∧
      ∀ h' tk, h'.Ns env.locals (fun z => if z = x then some v1 else if z = y then some v2 else m z) → Ex ([] : List Addr) [env.locals] s₁.heap h' → Q .next { s₁ with heap := h', toks := tk }) E s)
    (hs : swapsWithSole [.Tuple [.Name x p1, .Name y p2] k p3] (.Tuple [e1, e2] k2 p4) p5.line env = pure false)
    (hw : swappedStores [.Tuple [.Name x p1, .Name y p2] k p3] (.Tuple [e1, e2] k2 p4) env = pure (some [x, y])) :
    wpAny (model prog w) A (exec (.Assign [.Tuple [.Name x p1, .Name y p2] k p3] (.Tuple [e1, e2] k2 p4) p5) env) Q E s := by
  refine Assign_Tuple_swapped (names := [x, y]) (wpAny_mono h (fun v s₁ h₁ => ?_) fun _ _ e => e) hs hw
  obtain ⟨t, v1, v2, m, rfl, ht, hn, hq⟩ := h₁
  have hp : (env.scope.kind == .class || (env.scope.kind == .module && env.locals != env.globals)) = false := by rw [hk]; rfl
  have hL := ns_lt hn
  refine unpackItems_tuple (items := #[v1, v2]) hh ht (fun h' he' => ?_)
  have hn' : h'.Ns env.locals m := by
    obtain ⟨o, es, ep, ho, r⟩ := hn
    exact ⟨o, es, ep, he' _ o (Nat.ne_of_lt hL) ho, r⟩
  simp only [List.reverse_cons, List.reverse_nil, List.nil_append, List.cons_append, List.map_cons, List.map_nil, assignInOrder]
  refine wpAny_bind (wpAny_holding (bindName_ (wpAny_storeName_local hy hn' (fun h₂ hn₂ hs₂ => ?_) hp)))
  refine wpAny_bind (wpAny_holding (bindName_ (wpAny_storeName_local hx hn₂ (fun h₃ hn₃ hs₃ => ?_) hp)))
  refine wpAny_pure (hq h₃ _ hn₃ ?_)
  exact ((Ex.of_keeps fun b o e => he' b o (Nat.ne_of_lt (Heap.lt_size e)) e).trans (Ex.sameBut hs₂ (by simp))).trans (Ex.sameBut hs₃ (by simp))
end

theorem paired_len {fl : List Leaf} {xs ys : List Value} (h1 : Paired leafIs fl xs) (h2 : Paired leafIs fl ys) : xs.length = ys.length := h1.length.symm.trans h2.length
theorem leaf_same {A : Around} {s : Shared} {k : Leaf} {x y : Value} (hu : A.units + 2 < cLine) (h1 : leafIs k x) (h2 : leafIs k y) : SeqAt.EqAt A s x y true := by
  have := leafKind.eq (A := A) (s := s) (k := k) (k' := k) hu h1 h2
  simpa using this
section
variable {prog : Program} {w : World} {A : Around} {E : Value → Shared → Prop} {s : Shared} {Q : Value → Shared → Prop}
/-- two lists with like leaves: != says False -/
theorem ne_leaves {l b : Addr} {fl : List Leaf} {xs ys : List Value} (hl : s.heap.IsList l xs.toArray) (hb : s.heap.IsList b ys.toArray) (h1 : Paired leafIs fl xs) (h2 : Paired leafIs fl ys) (hu : A.units + 10 < cLine) (h : Q (.bool false) s) :
    wpAny (model prog w) A (compareOp .NotEq (.ref l) (.ref b)) Q E s := by
  have hsz : xs.toArray.size = ys.toArray.size := by rw [List.size_toArray, List.size_toArray]; exact paired_len h1 h2
  have hall : ∀ j (p1 : j < xs.toArray.size) (p2 : j < ys.toArray.size), SeqAt.EqAt A.in1 s xs.toArray[j] ys.toArray[j] true := fun j p1 p2 => by
    have q1 : xs[j]? = some xs.toArray[j] := by simpa using List.getElem?_eq_getElem (show j < xs.length by simpa using p1)
    obtain ⟨k, hk, hx⟩ := Paired.at' h1 q1
    obtain ⟨y, hy, hyk⟩ := Paired.at1 h2 hk
    have q2 : ys[j]? = some ys.toArray[j] := by simpa using List.getElem?_eq_getElem (show j < ys.length by simpa using p2)
    rw [hy] at q2
    cases q2
    exact leaf_same (show A.units + 1 + 2 < cLine by omega) hx hyk
  refine SeqAt.RcNeAt.lists (A := A) (e := fun _ => true) hl hb hsz (by omega) hall prog w E Q ?_
  rw [show ((List.range xs.toArray.size).all fun _ => true) = true by simp]
  exact h
end

section
variable {prog : Program} {w : World} {A : Around} {E : Value → Shared → Prop} {s : Shared} {Q : Value → Shared → Prop}
/-- two lists of the very same values -/
theorem eq_same {l b : Addr} {xs : List Value} (hl : s.heap.IsList l xs.toArray) (hb : s.heap.IsList b xs.toArray) (hu : A.units < cLine) (h : Q (.bool true) s) : wpAny (model prog w) A (compareOp .Eq (.ref l) (.ref b)) Q E s := by
  refine SeqAt.eq_listAt (e := fun _ => true) hl hb rfl hu (fun j _ _ => SeqAt.EqAt.same _) ?_
  rw [show ((List.range xs.toArray.size).all fun _ => true) = true by simp]
  exact h
theorem ne_same {l b : Addr} {xs : List Value} (hl : s.heap.IsList l xs.toArray) (hb : s.heap.IsList b xs.toArray) (hu : A.units < cLine) (h : Q (.bool false) s) : wpAny (model prog w) A (compareOp .NotEq (.ref l) (.ref b)) Q E s := by
  refine SeqAt.RcNeAt.lists (A := A) (e := fun _ => true) hl hb rfl hu (fun j _ _ => SeqAt.EqAt.same _) prog w E Q ?_
  rw [show ((List.range xs.toArray.size).all fun _ => true) = true by simp]
  exact h
end

/-- lists and tuples stay -/
def Ls (h h' : Heap) : Prop := (∀ a vs, h.IsList a vs → h'.IsList a vs) ∧ ∀ a vs, h.IsTuple a vs → h'.IsTuple a vs
theorem Ls.refl (h : Heap) : Ls h h := ⟨fun _ _ e => e, fun _ _ e => e⟩
theorem Ls.trans {h₁ h₂ h₃ : Heap} (x : Ls h₁ h₂) (y : Ls h₂ h₃) : Ls h₁ h₃ := ⟨fun a vs e => y.1 a vs (x.1 a vs e), fun a vs e => y.2 a vs (x.2 a vs e)⟩
mutual
theorem T.ls {h h' : Heap} (x : Ls h h') : ∀ {d : Nat} {v : Value} {fl : List Leaf} {cu : List Cu}, T h d v fl cu → T h' d v fl cu
  | _, _, _, _, .none => .none
  | _, _, _, _, .int => .int
  | _, _, _, _, .str => .str
  | _, _, _, _, .list hl hn ts => .list (x.1 _ _ hl) hn (Ts.ls x ts)
  | _, _, _, _, .tup hl hn ts => .tup (x.2 _ _ hl) hn (Ts.ls x ts)
theorem Ts.ls {h h' : Heap} (x : Ls h h') : ∀ {d : Nat} {vs : List Value} {fl : List Leaf} {cu : List Cu}, Ts h d vs fl cu → Ts h' d vs fl cu
  | _, _, _, _, .nil => .nil
  | _, _, _, _, .cons t ts => .cons (T.ls x t) (Ts.ls x ts)
end
theorem Ls.of_ex {fs ws : List Addr} {h h' : Heap} (x : Ex fs ws h h') (hw : ∀ b ∈ ws, ∀ o, h.get? b = some o → ∀ es n, o.data ≠ .seq es n) : Ls h h' := by
  refine ⟨fun a vs e => x.list (fun q => ?_) e, fun a vs e => x.tuple (fun q => ?_) e⟩
  · obtain ⟨o, ho, _, n, hd⟩ := e
    exact hw a q o ho _ _ hd
  · obtain ⟨o, ho, _, n, hd⟩ := e
    exact hw a q o ho _ _ hd
theorem ns_noseq {h : Heap} {L : Addr} {m : Str → Option Value} (n : h.Ns L m) : ∀ b ∈ [L], ∀ o, h.get? b = some o → ∀ es n, o.data ≠ .seq es n := fun b hb o ho es k hd => by
  obtain rfl : b = L := by simpa using hb
  obtain ⟨o', es', ep, ho', hd', _⟩ := n
  rw [ho] at ho'
  cases ho'
  rw [hd] at hd'
  cases hd'
theorem cell_noseq {h : Heap} {L : Addr} {v : Option Value} (n : h.IsCell L v) : ∀ b ∈ [L], ∀ o, h.get? b = some o → ∀ es n, o.data ≠ .seq es n := fun b hb o ho es k hd => by
  obtain rfl : b = L := by simpa using hb
  obtain ⟨o', ho', hd'⟩ := n
  rw [ho] at ho'
  cases ho'
  rw [hd] at hd'
  cases hd'
theorem ns_cell {h : Heap} {L a : Addr} {m : Str → Option Value} {v : Option Value} (n : h.Ns L m) (c : h.IsCell a v) : a ≠ L := fun e => by
  subst e
  obtain ⟨o', es', ep, ho', hd', _⟩ := n
  obtain ⟨o, ho, hd⟩ := c
  rw [ho] at ho'
  cases ho'
  rw [hd] at hd'
  cases hd'
theorem ns_tab {h : Heap} {L a : Addr} {m : Str → Option Value} {ps : Array Value} (n : h.Ns L m) (c : h.get? a = some (tabObj ps)) : a ≠ L := fun e => by
  subst e
  obtain ⟨o', es', ep, ho', hd', _⟩ := n
  rw [c] at ho'
  cases ho'
  cases hd'
theorem cell_tab {h : Heap} {L a : Addr} {v : Option Value} {ps : Array Value} (n : h.IsCell L v) (c : h.get? a = some (tabObj ps)) : a ≠ L := fun e => by
  subst e
  obtain ⟨o', ho', hd'⟩ := n
  rw [c] at ho'
  cases ho'
  cases hd'
theorem frs_one {env : Env} {L : Addr} (hf : env.frame = some L) : frs [env] = [L] := by
  show List.filterMap (·.frame) [env] = [L]
  simp [hf]
/-- law's state: names m, the cells of cut and due, the table of its lambda -/
structure Bd (g : Heap) (L : Addr) (os : OsState × Array Value) (m : Str → Option Value) (cu du : Option Value) (s : Shared) : Prop where
  F : Fr g L s.heap m
  c1 : s.heap.IsCell (L + 1) cu
  c2 : s.heap.IsCell (L + 1 + 1) du
  tab : s.heap.get? 102 = some (tabObj os.2)
  bare : AllBare s.gens
  os : s.os = os.1
section
variable {w : World} {p : Program} {loose : List Str} {mean : ExcName → Option Value} {mg mb : Str → Option Value} {g : Heap} {L : Addr} {os : OsState × Array Value} {m m' : Str → Option Value} {cu du : Option Value} {s s' : Shared} {env : Env}
theorem Bd.cx (B : Bd g L os m cu du s) (K : (hd.heap_39 w.params).In g) (T : Top p loose mean mg mb g) (hf : env.frame = some L) (hk : env.scope.kind = .function) : Cx w p loose mean mg mb [env] g s.heap :=
  Cx.push (l := []) ⟨fun _ _ e => e, trivial, K, T⟩ B.F hf hk
theorem cell_up {fs ws : List Addr} {h h' : Heap} {a : Addr} {v : Option Value} (x : Ex fs ws h h') (n : a ∉ ws) (c : h.IsCell a v) : h'.IsCell a v := by
  obtain ⟨o, ho, hd⟩ := c
  obtain ⟨sl, e⟩ := x.up ho n
  exact ⟨_, e, hd⟩
theorem Bd.own (B : Bd g L os m cu du s) {h' : Heap} {tk : Nat} {gs : Array GenState} (hg : AllBare gs) (x : Ex [L] [L] s.heap h') (hn : h'.Ns L m') : Bd g L os m' cu du { s with heap := h', toks := tk, gens := gs } where
  F := ⟨hn, fun b o e => by
    have hb : b ∉ [L] := by
      intro q
      obtain rfl : b = L := by simpa using q
      exact Nat.lt_irrefl _ (Nat.lt_of_lt_of_le (Heap.lt_size e) B.F.above)
    exact (x b o (B.F.keep b o e) hb).1 hb, B.F.above⟩
  c1 := cell_up x (by simpa using ns_cell B.F.ns B.c1) B.c1
  c2 := cell_up x (by simpa using ns_cell B.F.ns B.c2) B.c2
  tab := by
    have : (102 : Addr) ∉ [L] := by simpa using ns_tab B.F.ns B.tab
    exact (x _ _ B.tab this).1 this
  bare := hg
  os := B.os
theorem Bd.own' (B : Bd g L os m cu du s) {h' : Heap} {tk : Nat} (x : Ex [] [L] s.heap h') (hn : h'.Ns L m') : Bd g L os m' cu du { s with heap := h', toks := tk } :=
  B.own B.bare (x.mono (by simp) fun _ q => q) hn
theorem Bd.keeps (B : Bd g L os m cu du s) {h' : Heap} {tk : Nat} (x : ∀ b o, s.heap.get? b = some o → h'.get? b = some o) : Bd g L os m cu du { s with heap := h', toks := tk } :=
  B.own' (.of_keeps x) (B.F.ns.keeps x)
theorem Bd.ls_own {fs : List Addr} (B : Bd g L os m cu du s) {h' : Heap} (x : Ex fs [L] s.heap h') : Ls s.heap h' := Ls.of_ex x (ns_noseq B.F.ns)
theorem ls_keeps {h h' : Heap} (x : ∀ b o, h.get? b = some o → h'.get? b = some o) : Ls h h' := Ls.of_ex (fs := []) (ws := []) (.of_keeps x) (by simp)
theorem Bd.call (B : Bd g L os m cu du s) (hf : env.frame = some L) (mv : Mv (frs [env]) [] Same s s') : Bd g L os m cu du s' ∧ Ls s.heap s'.heap := by
  rw [frs_one hf] at mv
  have hx := mv.heap
  obtain ⟨hp, gs, dr, tk, o'⟩ := s'
  have e1 : gs = s.gens := mv.gens
  have e2 : o' = s.os := mv.os
  subst e1 e2
  have b := B.own (tk := tk) B.bare (hx.mono (fun _ q => q) (by simp)) (hx.ns (by simp) B.F.ns)
  exact ⟨⟨b.F, b.c1, b.c2, b.tab, b.bare, B.os⟩, Ls.of_ex hx (by simp)⟩
theorem sameBut_ns {h h' : Heap} {a : Addr} (x : Heap.SameBut a h h') (n : h.Ns L m) (hne : a ≠ L) : h'.Ns L m := n.sameBut x (Ne.symm hne)
theorem sameBut_cell {h h' : Heap} {a b : Addr} {v : Option Value} (x : Heap.SameBut a h h') (n : h.IsCell b v) (hne : b ≠ a) : h'.IsCell b v := by
  obtain ⟨o, ho, hd⟩ := n
  exact ⟨o, (x.2 b hne).trans ho, hd⟩
theorem Bd.cell1 (B : Bd g L os m cu du s) {h' : Heap} {tk : Nat} {v : Option Value} (x : Heap.SameBut (L + 1) s.heap h') (hc : h'.IsCell (L + 1) v) : Bd g L os m v du { s with heap := h', toks := tk } ∧ Ls s.heap h' :=
  ⟨⟨⟨sameBut_ns x B.F.ns (ns_cell B.F.ns B.c1), fun b o e => (x.2 b (fun q => by
      subst q
      exact Nat.lt_irrefl _ (Nat.lt_of_lt_of_le (Nat.lt_of_succ_lt (Heap.lt_size e)) B.F.above))).trans (B.F.keep b o e), B.F.above⟩, hc, sameBut_cell x B.c2 (Nat.succ_ne_self _), (x.2 _ (cell_tab B.c1 B.tab)).trans B.tab, B.bare, B.os⟩,
    Ls.of_ex (fs := []) (ws := [L + 1]) (.sameBut x (by simp)) (cell_noseq B.c1)⟩
theorem Bd.cell2 (B : Bd g L os m cu du s) {h' : Heap} {tk : Nat} {v : Option Value} (x : Heap.SameBut (L + 1 + 1) s.heap h') (hc : h'.IsCell (L + 1 + 1) v) : Bd g L os m cu v { s with heap := h', toks := tk } ∧ Ls s.heap h' :=
  ⟨⟨⟨sameBut_ns x B.F.ns (ns_cell B.F.ns B.c2), fun b o e => (x.2 b (fun q => by
      subst q
      exact Nat.lt_irrefl _ (Nat.lt_of_lt_of_le (Nat.lt_of_succ_lt (Nat.lt_of_succ_lt (Heap.lt_size e))) B.F.above))).trans (B.F.keep b o e), B.F.above⟩, sameBut_cell x B.c1 (Ne.symm (Nat.succ_ne_self _)), hc, (x.2 _ (cell_tab B.c2 B.tab)).trans B.tab, B.bare, B.os⟩,
    Ls.of_ex (fs := []) (ws := [L + 1 + 1]) (.sameBut x (by simp)) (cell_noseq B.c2)⟩
/-- f(x), f a def of the text with a contract -/
theorem bd_call {E : Value → Shared → Prop} {Q : Value → Shared → Prop} {Post : Value → Heap → Prop} {f x : Str} {fp xp pos : Pos} {a : Addr} {v : Value} {dp un : Nat} {gd : Option (List Code)} (B : Bd g L os m cu du s) (K : (hd.heap_39 w.params).In g) (T : Top p loose mean mg mb g)
    (hfr : env.frame = some L) (hL : env.locals = L) (hg : env.globals = mainGlobals) (hk : env.scope.kind = .function) (hf : env.kindOf f = some .globalImplicit) (hx : env.kindOf x = some .local) (hv : m x = some v)
    (e : nsIn (hd.heap_39 w.params) mainGlobals f = some (some (.ref a))) (ke : keepIn (hd.heap_39 w.params) (.ref a) = true)
    (h1 : Cx w p loose mean mg mb [env] g s.heap → codeAny (model Challenge.rw_il0027_01.row.prog w) (Ar dp un gd [env]) (.call (.ref a) ⟨[v], []⟩) (Ends [env] s Post) s)
    (h2 : ∀ r s', Bd g L os m cu du s' → Ls s.heap s'.heap → Post r s'.heap → Q r s')
    (hd1 : (f == ("__debug__" : Str)) = false := by decide) (hd2 : (x == ("__debug__" : Str)) = false := by decide) :
    wpAny (model Challenge.rw_il0027_01.row.prog w) (Ar dp un gd [env]) (eval (.Call (.Name f fp) [.Name x xp] [] pos) env) Q E s := by
  have c := B.cx K T hfr hk
  refine call1 c hg hk hf hx e ke (hL.symm ▸ B.F.ns) hv (wpAny_call (codeAny_mono (h1 c) fun r s' hr => ?_)) hd1 hd2
  obtain ⟨r, rfl, mv, hp⟩ := hr
  obtain ⟨b, l⟩ := B.call hfr mv
  exact h2 r s' b l hp
end

theorem flat_len : ∀ ns : List Int, (ns.flatMap leafOf).length ≤ ns.length
  | [] => by simp
  | n :: ns => by
    have ih := flat_len ns
    have h : (leafOf n).length ≤ 1 := by
      unfold leafOf
      split <;> simp
    rw [List.flatMap_cons, List.length_append, List.length_cons]
    omega
section
variable {w : World} {p : Program} {loose : List Str} {mean : ExcName → Option Value} {mg mb : Str → Option Value} {g : Heap} {L : Addr} {os : OsState × Array Value} {m : Str → Option Value} {cu du : Option Value} {s : Shared} {env : Env}
variable {E : Value → Shared → Prop} {Q : Flow → Shared → Prop} {dp un : Nat} {gd : Option (List Code)}
/-- tree, leaves = (_law_tree(numbers), _law_leaves(numbers)) -/
theorem st_tree {x y f f' n : Str} {k k2 : Nat} {p1 p2 p3 p4 p5 fp xp cp fp' xp' cp' : Pos} {a : Addr} {vs : List Value} {ns : List Int} (B : Bd g L os m cu du s) (K : (hd.heap_39 w.params).In g) (T : Top p loose mean mg mb g)
    (hfr : env.frame = some L) (hL : env.locals = L) (hg : env.globals = mainGlobals) (hk : env.scope.kind = .function) (hx : env.kindOf x = some .local) (hy : env.kindOf y = some .local) (hn : env.kindOf n = some .local)
    (hf : env.kindOf f = some .globalImplicit) (hf' : env.kindOf f' = some .globalImplicit)
    (e : nsIn (hd.heap_39 w.params) mainGlobals f = some (some (.ref 75))) (ke : keepIn (hd.heap_39 w.params) (.ref 75) = true)
    (e' : nsIn (hd.heap_39 w.params) mainGlobals f' = some (some (.ref 80))) (ke' : keepIn (hd.heap_39 w.params) (.ref 80) = true)
    (hv : m n = some (.ref a)) (hl : s.heap.IsList a vs.toArray) (hi : IntsAre vs ns) (hlen : ns.length ≤ 1000) (hdp : dp + 40 < recursionLimit)
    (d1 : (f == ("__debug__" : Str)) = false) (d2 : (f' == ("__debug__" : Str)) = false) (d3 : (n == ("__debug__" : Str)) = false)
    (hs : swapsWithSole [.Tuple [.Name x p1, .Name y p2] k p3] (.Tuple [.Call (.Name f fp) [.Name n xp] [] cp, .Call (.Name f' fp') [.Name n xp'] [] cp'] k2 p4) p5.line env = pure false)
    (hw : swappedStores [.Tuple [.Name x p1, .Name y p2] k p3] (.Tuple [.Call (.Name f fp) [.Name n xp] [] cp, .Call (.Name f' fp') [.Name n xp'] [] cp'] k2 p4) env = pure (some [x, y]))
    (h : ∀ s' R tv cu0 R2 lv, Bd g L os (fun z => if z = x then some (.ref R) else if z = y then some (.ref R2) else m z) cu du s' → s'.heap.IsList R tv.toArray → Ts s'.heap ns.length tv (ns.flatMap leafOf) cu0 → cu0.length ≤ 4 * ns.length → tv.length ≤ ns.length →
      s'.heap.IsList R2 lv.toArray → Paired leafIs (ns.flatMap leafOf) lv → Q .next s') :
    wpAny (model Challenge.rw_il0027_01.row.prog w) (Ar dp un gd [env]) (exec (.Assign [.Tuple [.Name x p1, .Name y p2] k p3] (.Tuple [.Call (.Name f fp) [.Name n xp] [] cp, .Call (.Name f' fp') [.Name n xp'] [] cp'] k2 p4) p5) env) Q E s := by
  refine st_pairS rfl hk hx hy ?_ hs hw
  refine wpAny_Tuple_spliced (spliced_cons ?_)
  refine bd_call B K T hfr hL hg hk hf hn hv e ke (fun c => tree_call hl hi hlen c hdp) (fun r s1 B1 l1 hp1 => ?_) d1 d3
  obtain ⟨R, tv, cu0, rfl, -, hR, hT, hcu, htv⟩ := hp1
  refine spliced_cons ?_
  refine bd_call B1 K T hfr hL hg hk hf' hn hv e' ke' (fun c => leaves_call (l1.1 _ _ hl) hi hlen c hdp) (fun r s2 B2 l2 hp2 => ?_) d2 d3
  obtain ⟨R2, lv, rfl, -, hR2, hlv⟩ := hp2
  refine spliced_nil ⟨by show 2 ≤ sizeLine; decide, ?_⟩
  refine ⟨_, _, _, m, rfl, ⟨_, Heap.get?_push_size _ rfl, rfl, _, rfl⟩, hL.symm ▸ B2.F.ns.push _, fun h' tk hn' ex => ?_⟩
  rw [hL] at hn' ex
  have B3 := B2.keeps (h' := s2.heap.push { cls := .type "tuple", data := .seq #[.ref R, .ref R2] }) (tk := s2.toks) fun b o e => Heap.get?_push_of_some _ e
  have l3 : Ls s2.heap (s2.heap.push { cls := .type "tuple", data := .seq #[.ref R, .ref R2] }) := ls_keeps fun b o e => Heap.get?_push_of_some _ e
  have l4 := l3.trans (B3.ls_own ex)
  exact h _ R tv cu0 R2 lv (B3.own' ex hn') (l4.1 _ _ (l2.1 _ _ hR)) (Ts.ls (l2.trans l4) hT) hcu htv (l4.1 _ _ hR2) hlv
/-- if _law_flat(tree) != leaves -/
theorem st_flat {f x y : Str} {fp xp cp yp p1 p2 : Pos} {body : List Stmt} {R R2 : Addr} {tv lv : List Value} {d : Nat} {fl : List Leaf} {cu0 : List Cu} (B : Bd g L os m cu du s) (K : (hd.heap_39 w.params).In g) (T : Top p loose mean mg mb g)
    (hfr : env.frame = some L) (hL : env.locals = L) (hg : env.globals = mainGlobals) (hk : env.scope.kind = .function) (hx : env.kindOf x = some .local) (hy : env.kindOf y = some .local) (hf : env.kindOf f = some .globalImplicit)
    (e : nsIn (hd.heap_39 w.params) mainGlobals f = some (some (.ref 85))) (ke : keepIn (hd.heap_39 w.params) (.ref 85) = true)
    (hv : m x = some (.ref R)) (hv2 : m y = some (.ref R2)) (hl : s.heap.IsList R tv.toArray) (hn : tv.length ≤ 1000) (ht : Ts s.heap d tv fl cu0) (hfl : fl.length ≤ 10000) (hl2 : s.heap.IsList R2 lv.toArray) (hp : Paired leafIs fl lv)
    (hdp : dp + 2 * (d + 1) + 40 < recursionLimit) (hun : un + 10 < cLine)
    (d1 : (f == ("__debug__" : Str)) = false) (d2 : (x == ("__debug__" : Str)) = false) (d3 : (y == ("__debug__" : Str)) = false)
    (h : ∀ s', Bd g L os m cu du s' → Ls s.heap s'.heap → Q .next s') :
    wpAny (model Challenge.rw_il0027_01.row.prog w) (Ar dp un gd [env]) (exec (.If (.Compare (.Call (.Name f fp) [.Name x xp] [] cp) [.NotEq] [.Name y yp] p1) body [] p2) env) Q E s := by
  refine wpAny_If (wpAny_isTrue_Compare1 ?_)
  refine bd_call B K T hfr hL hg hk hf hx hv e ke (fun c => flat_call (d + 1) _ fl [.list R] _ _ _ _ _ (.list hl hn ht) hfl c hdp) (fun r s1 B1 l1 hp1 => ?_) d1 d2
  obtain ⟨D, fv, rfl, -, hD, hfv⟩ := hp1
  refine ev_local hk hy (hL.symm ▸ B1.F.ns) hv2 ?_ d3
  refine ne_leaves hD (l1.1 _ _ hl2) hfv hp hun (wpAny_truthy_bool ?_)
  rw [if_neg (by decide)]
  exact wpAny_execs_nil (h _ B1 l1)
end

section
variable {w : World} {p : Program} {loose : List Str} {mean : ExcName → Option Value} {mg mb : Str → Option Value} {g : Heap} {L : Addr} {os : OsState × Array Value} {m : Str → Option Value} {cu du : Option Value} {s : Shared} {env : Env}
variable {dp un : Nat} {gd : Option (List Code)}
/-- x, y = (e1, e2), x and y cells, the stores in order -/
theorem st_pairC {prog : Program} {A : Around} {E : Value → Shared → Prop} {Q : Flow → Shared → Prop} {x y : Str} {e1 e2 : Expr} {k k2 : Nat} {p1 p2 p3 p4 p5 : Pos} (hh : A.handled = none) (hk : env.scope.kind = .function) (hx : env.kindOf x = some .cell) (hy : env.kindOf y = some .cell)
    (hxc : env.cells.lookup x = some (L + 1)) (hyc : env.cells.lookup y = some (L + 1 + 1))
    (h : wpAny (model prog w) A (eval (.Tuple [e1, e2] k2 p4) env) (fun v s₁ => ∃ t v1 v2 cu du, v = .ref t ∧ IsTup s₁.heap t #[v1, v2] ∧ Bd g L os m cu du s₁ ∧
      ∀ s', Bd g L os m (some v1) (some v2) s' → Ls s₁.heap s'.heap → Q .next s') E s)
    (hs : swapsWithSole [.Tuple [.Name x p1, .Name y p2] k p3] (.Tuple [e1, e2] k2 p4) p5.line env = pure false)
    (hw : swappedStores [.Tuple [.Name x p1, .Name y p2] k p3] (.Tuple [e1, e2] k2 p4) env = pure none) :
    wpAny (model prog w) A (exec (.Assign [.Tuple [.Name x p1, .Name y p2] k p3] (.Tuple [e1, e2] k2 p4) p5) env) Q E s := by
  refine Assign_Tuple (wpAny_mono h (fun v s₁ h₁ => ?_) fun _ _ e => e) hs hw
  obtain ⟨t, v1, v2, cu, du, rfl, ht, B, hq⟩ := h₁
  refine wpAny_assign_Tuple hh ht rfl rfl (fun h' he' => ?_)
  have B1 : Bd g L os m cu du { s₁ with heap := h' } := B.keeps (tk := s₁.toks) fun b o e => he' b o (Nat.ne_of_lt (Heap.lt_size e)) e
  have l1 : Ls s₁.heap h' := ls_keeps fun b o e => he' b o (Nat.ne_of_lt (Heap.lt_size e)) e
  show wpAny _ _ (holding [v2] (assign (.Name x p1) env v1) >>= fun _ => holding [] (assign (.Name y p2) env v2) >>= fun _ => pure ()) _ _ _
  refine wpAny_bind (wpAny_holding (wpAny_assign_Name (wpAny_storeName_cell hk hx hxc B1.c1 fun h₂ hc₂ hs₂ => ?_)))
  obtain ⟨B2, l2⟩ := B1.cell1 (tk := s₁.toks) hs₂ hc₂
  refine wpAny_bind (wpAny_holding (wpAny_assign_Name (wpAny_storeName_cell hk hy hyc B2.c2 fun h₃ hc₃ hs₃ => ?_)))
  obtain ⟨B3, l3⟩ := B2.cell2 (tk := s₁.toks) hs₃ hc₃
  exact wpAny_pure (hq _ B3 ((l1.trans l2).trans l3))
/-- tuple(x), x a list -/
theorem bd_tuple {E : Value → Shared → Prop} {Q : Value → Shared → Prop} {tn x : Str} {tp xp cp : Pos} {R : Addr} {tv : List Value} (B : Bd g L os m cu du s) (K : (hd.heap_39 w.params).In g) (T : Top p loose mean mg mb g)
    (hfr : env.frame = some L) (hL : env.locals = L) (hg : env.globals = mainGlobals) (hb : env.builtins = builtinsNs) (hk : env.scope.kind = .function) (htn : env.kindOf tn = some .globalImplicit) (hx : env.kindOf x = some .local)
    (e : nsIn (hd.heap_39 w.params) mainGlobals tn = some none) (hbt : bootBuiltins tn = some (.type "tuple")) (hv : m x = some (.ref R)) (hl : s.heap.IsList R tv.toArray) (hn : tv.length ≤ 1000)
    (d0 : tn ≠ "__name__") (d1 : (tn == ("__debug__" : Str)) = false) (d2 : (x == ("__debug__" : Str)) = false)
    (h : ∀ t s', s'.heap.IsTuple t tv.toArray → Bd g L os m cu du s' → Ls s.heap s'.heap → Q (.ref t) s') :
    wpAny (model Challenge.rw_il0027_01.row.prog w) (Ar dp un gd [env]) (eval (.Call (.Name tn tp) [.Name x xp] [] cp) env) Q E s := by
  have c := B.cx K T hfr hk
  refine Call_ (ev_builtin c hg hb hk htn e hbt ?_ d0 d1)
  refine PyProof.Rows.callWith_type rfl (evalArgs_plain (spliced_cons (ev_local hk hx (hL.symm ▸ B.F.ns) hv (spliced_nil ?_) d2)))
  refine call_tuple_list hl (fun h' hk' => ?_) ?_
  · have hk2 : ∀ b o, s.heap.get? b = some o → (h'.push { cls := .type "tuple", data := .seq tv.toArray }).get? b = some o := fun b o e => Heap.get?_push_of_some _ (hk' b o e)
    exact h _ _ ⟨_, Heap.get?_push_size _ rfl, rfl, _, rfl⟩ (B.keeps (tk := s.toks) hk2) (ls_keeps hk2)
  · have : (2000 : Nat) ≤ sizeLine := by decide
    rw [List.size_toArray]; omega
/-- f(tuple(x)) -/
theorem bd_calltup {E : Value → Shared → Prop} {Q : Value → Shared → Prop} {Post : Shared → Value → Heap → Prop} {f tn x : Str} {fp tp xp cp pos : Pos} {a R : Addr} {tv : List Value} (B : Bd g L os m cu du s) (K : (hd.heap_39 w.params).In g) (T : Top p loose mean mg mb g)
    (hfr : env.frame = some L) (hL : env.locals = L) (hg : env.globals = mainGlobals) (hb : env.builtins = builtinsNs) (hk : env.scope.kind = .function) (hf : env.kindOf f = some .globalImplicit) (htn : env.kindOf tn = some .globalImplicit) (hx : env.kindOf x = some .local)
    (ef : nsIn (hd.heap_39 w.params) mainGlobals f = some (some (.ref a))) (ke : keepIn (hd.heap_39 w.params) (.ref a) = true)
    (e : nsIn (hd.heap_39 w.params) mainGlobals tn = some none) (hbt : bootBuiltins tn = some (.type "tuple")) (hv : m x = some (.ref R)) (hl : s.heap.IsList R tv.toArray) (hn : tv.length ≤ 1000)
    (d : (f == ("__debug__" : Str)) = false) (d0 : tn ≠ "__name__") (d1 : (tn == ("__debug__" : Str)) = false) (d2 : (x == ("__debug__" : Str)) = false)
    (h1 : ∀ t s', s'.heap.IsTuple t tv.toArray → Bd g L os m cu du s' → Ls s.heap s'.heap → Cx w p loose mean mg mb [env] g s'.heap → codeAny (model Challenge.rw_il0027_01.row.prog w) (Ar dp un gd [env]) (.call (.ref a) ⟨[.ref t], []⟩) (Ends [env] s' (Post s')) s')
    (h2 : ∀ r s₁ s', Bd g L os m cu du s' → Ls s.heap s'.heap → Post s₁ r s'.heap → Q r s') :
    wpAny (model Challenge.rw_il0027_01.row.prog w) (Ar dp un gd [env]) (eval (.Call (.Name f fp) [.Call (.Name tn tp) [.Name x xp] [] cp] [] pos) env) Q E s := by
  have c := B.cx K T hfr hk
  refine Call_ (ev_global c hg hk hf ef ?_ d)
  refine callWith_K c.Kh ke (spliced_cons (bd_tuple B K T hfr hL hg hb hk htn hx e hbt hv hl hn d0 d1 d2 fun t s1 ht B1 l1 => spliced_nil ⟨(B1.cx K T hfr hk).Kh, ?_⟩))
  refine wpAny_call (codeAny_mono (h1 t s1 ht B1 l1 (B1.cx K T hfr hk)) fun r s' hr => ?_)
  obtain ⟨r, rfl, mv, hp⟩ := hr
  obtain ⟨b, l⟩ := B1.call hfr mv
  exact h2 r s1 s' b (l1.trans l) hp
/-- cut, due = (_law_cut(tuple(tree)), _law_due(tuple(tree))) -/
theorem st_cuts {E : Value → Shared → Prop} {Q : Flow → Shared → Prop} {x y f f' tn n : Str} {k k2 : Nat} {p1 p2 p3 p4 p5 fp tp xp cq cp fp' tp' xp' cq' cp' : Pos} {R : Addr} {tv : List Value} {d : Nat} {fl : List Leaf} {cu0 : List Cu} (B : Bd g L os m cu du s) (K : (hd.heap_39 w.params).In g) (T : Top p loose mean mg mb g)
    (hfr : env.frame = some L) (hL : env.locals = L) (hg : env.globals = mainGlobals) (hb : env.builtins = builtinsNs) (hk : env.scope.kind = .function) (hx : env.kindOf x = some .cell) (hy : env.kindOf y = some .cell)
    (hxc : env.cells.lookup x = some (L + 1)) (hyc : env.cells.lookup y = some (L + 1 + 1)) (hn : env.kindOf n = some .local)
    (hf : env.kindOf f = some .globalImplicit) (hf' : env.kindOf f' = some .globalImplicit) (htn : env.kindOf tn = some .globalImplicit)
    (e : nsIn (hd.heap_39 w.params) mainGlobals f = some (some (.ref 90))) (ke : keepIn (hd.heap_39 w.params) (.ref 90) = true)
    (e' : nsIn (hd.heap_39 w.params) mainGlobals f' = some (some (.ref 95))) (ke' : keepIn (hd.heap_39 w.params) (.ref 95) = true)
    (et : nsIn (hd.heap_39 w.params) mainGlobals tn = some none) (hbt : bootBuiltins tn = some (.type "tuple"))
    (hv : m n = some (.ref R)) (hl : s.heap.IsList R tv.toArray) (hlen : tv.length ≤ 1000) (ht : Ts s.heap d tv fl cu0) (hcu : cu0.length ≤ 10000) (hdp : dp + 2 * (d + 1) + 50 < recursionLimit)
    (d1 : (f == ("__debug__" : Str)) = false) (d2 : (f' == ("__debug__" : Str)) = false) (d3 : (n == ("__debug__" : Str)) = false) (d4 : tn ≠ "__name__") (d5 : (tn == ("__debug__" : Str)) = false)
    (hs : swapsWithSole [.Tuple [.Name x p1, .Name y p2] k p3] (.Tuple [.Call (.Name f fp) [.Call (.Name tn tp) [.Name n xp] [] cq] [] cp, .Call (.Name f' fp') [.Call (.Name tn tp') [.Name n xp'] [] cq'] [] cp'] k2 p4) p5.line env = pure false)
    (hw : swappedStores [.Tuple [.Name x p1, .Name y p2] k p3] (.Tuple [.Call (.Name f fp) [.Call (.Name tn tp) [.Name n xp] [] cq] [] cp, .Call (.Name f' fp') [.Call (.Name tn tp') [.Name n xp'] [] cq'] [] cp'] k2 p4) env = pure none)
    (h : ∀ s' C1 C2 cvs dvs, Bd g L os m (some (.ref C1)) (some (.ref C2)) s' → Ls s.heap s'.heap → s'.heap.IsList C1 cvs.toArray → Paired cuIs cu0 cvs → s'.heap.IsList C2 dvs.toArray → Paired cuIs cu0 dvs → Q .next s') :
    wpAny (model Challenge.rw_il0027_01.row.prog w) (Ar dp un gd [env]) (exec (.Assign [.Tuple [.Name x p1, .Name y p2] k p3] (.Tuple [.Call (.Name f fp) [.Call (.Name tn tp) [.Name n xp] [] cq] [] cp, .Call (.Name f' fp') [.Call (.Name tn tp') [.Name n xp'] [] cq'] [] cp'] k2 p4) p5) env) Q E s := by
  refine st_pairC (g := g) (m := m) (os := os) rfl hk hx hy hxc hyc ?_ hs hw
  refine wpAny_Tuple_spliced (spliced_cons ?_)
  refine bd_calltup (Post := fun s1 => ListPost s1 (Paired cuIs cu0)) B K T hfr hL hg hb hk hf htn hn e ke et hbt hv hl hlen d1 d4 d5 d3 (fun t s1 ht1 B1 l1 c => ?_) fun r s1 s2 B2 l2 hp1 => ?_
  · exact cut_call (d + 1) _ fl cu0 _ _ _ _ _ (.tup ht1 hlen (Ts.ls l1 ht)) hcu c hdp
  obtain ⟨R1, cv, rfl, -, hR1, hcv⟩ := hp1
  refine spliced_cons ?_
  refine bd_calltup (Post := fun s1 => ListPost s1 (Paired cuIs cu0)) B2 K T hfr hL hg hb hk hf' htn hn e' ke' et hbt hv (l2.1 _ _ hl) hlen d2 d4 d5 d3 (fun t s1 ht1 B1 l1 c => ?_) fun r s1 s3 B3 l3 hp2 => ?_
  · exact due_call (d + 1) _ fl cu0 _ _ _ _ _ (.tup ht1 hlen (Ts.ls (l2.trans l1) ht)) hcu c hdp
  obtain ⟨R2, dv, rfl, -, hR2, hdv⟩ := hp2
  refine spliced_nil ⟨by show 2 ≤ sizeLine; decide, ?_⟩
  have kp : ∀ b o, s3.heap.get? b = some o → (s3.heap.push { cls := .type "tuple", data := .seq #[.ref R1, .ref R2] }).get? b = some o := fun b o e => Heap.get?_push_of_some _ e
  refine ⟨_, _, _, _, _, rfl, ⟨_, Heap.get?_push_size _ rfl, rfl, _, rfl⟩, B3.keeps (tk := s3.toks) kp, fun s' B' l' => ?_⟩
  have l4 := (ls_keeps kp).trans l'
  exact h s' R1 R2 cv dv B' ((l2.trans l3).trans l4) (l4.1 _ _ (l3.1 _ _ hR1)) hcv (l4.1 _ _ hR2) hdv
end

mutual
theorem T.lists {h : Heap} : ∀ {d : Nat} {v : Value} {fl : List Leaf} {cu : List Cu}, T h d v fl cu → ∀ a, Cu.list a ∈ cu → ∃ xs : List Value, h.IsList a xs.toArray
  | _, _, _, _, .none, a, hm => by simp at hm
  | _, _, _, _, .int, a, hm => by simp at hm
  | _, _, _, _, .str, a, hm => by simp [signs] at hm
  | _, _, _, _, .list hl _ _, a, hm => by
    have e : Cu.list a = Cu.list _ := List.mem_singleton.1 hm
    injection e with e
    subst e
    exact ⟨_, hl⟩
  | _, _, _, _, .tup _ _ ts, a, hm => Ts.lists ts a hm
theorem Ts.lists {h : Heap} : ∀ {d : Nat} {vs : List Value} {fl : List Leaf} {cu : List Cu}, Ts h d vs fl cu → ∀ a, Cu.list a ∈ cu → ∃ xs : List Value, h.IsList a xs.toArray
  | _, _, _, _, .nil, a, hm => by simp at hm
  | _, _, _, _, .cons t ts, a, hm => by
    rcases List.mem_append.1 hm with hm | hm
    · exact T.lists t a hm
    · exact Ts.lists ts a hm
end
section
variable {prog : Program} {w : World} {A : Around} {E : Value → Shared → Prop} {s : Shared}
theorem isi_int_list {i : Int} {t : Tok} {Q : Value → Shared → Prop} (h : Q (.bool false) { s with toks := s.toks + 1 }) : wpAny (model prog w) A (call (.builtin "isinstance") [.int i t, .type "list"]) Q E s :=
  call_isinstance (isinstance_false_int (by decide) (by rfl) (by rw [isSubtype_type]; kernel_rfl)) h
theorem isi_str_list {i : Str} {t : Tok} {Q : Value → Shared → Prop} (h : Q (.bool false) { s with toks := s.toks + 1 }) : wpAny (model prog w) A (call (.builtin "isinstance") [.str i t, .type "list"]) Q E s :=
  call_isinstance (isinstance_false_str (by decide) (by rfl) (by rw [isSubtype_type]; kernel_rfl)) h
theorem isi_list_list {a : Addr} {vs : Array Value} {Q : Value → Shared → Prop} (hl : s.heap.IsList a vs) (h : Q (.bool true) s) : wpAny (model prog w) A (call (.builtin "isinstance") [.ref a, .type "list"]) Q E s :=
  call_isinstance_yes hl.typeIs (by rfl) (by rw [isSubtype_type]; kernel_rfl) h
/-- x[k], x a list -/
theorem sub_at {cenv : Env} {ex : Expr} {kn : Str} {kp : Pos} {pos : Pos} {C i : Nat} {t : Tok} {xs : List Value} {v : Value} {Q : Value → Shared → Prop} (evx : ∀ Q : Value → Shared → Prop, Q (.ref C) s → wpAny (model prog w) A (eval ex cenv) Q E s)
    (evk : ∀ Q : Value → Shared → Prop, Q (.int (i : Nat) t) s → wpAny (model prog w) A (eval (.Name kn kp) cenv) Q E s) (hl : s.heap.IsList C xs.toArray) (hv : xs[i]? = some v) (hi : i < 100000) (h : Q v s) :
    wpAny (model prog w) A (eval (.Subscript ex (.Name kn kp) pos) cenv) Q E s := by
  refine Subscript_ (evx _ (evk _ ?_))
  exact tail_any hl.typeIs slot_list_getitem.lookup (wpAny_getItem_list hl (by omega) (by omega) (x := v) (by simpa using hv) h) (by with_unfolding_all rfl)
/-- cut[k] != due[k] or (isinstance(due[k], list) and cut[k] is not due[k]): False -/
theorem same_test {cenv : Env} {ex1 ex3 ey1 ey2 ey3 : Expr} {kn inn ln : Str} {k1 k2 k3 k4 k5 ip lp : Pos} {p1 p2 p3 p4 p5 p6 p7 p8 p9 p10 : Pos} {C1 C2 i : Nat} {t : Tok} {cvs dvs : List Value} {c : Cu} {cu0 : List Cu} {whole : Sem Value} {Q : Bool → Shared → Prop}
    (evx : ∀ (s' : Shared) (e : Expr) (Q : Value → Shared → Prop), e ∈ [ex1, ex3] → s'.heap = s.heap → Q (.ref C1) s' → wpAny (model prog w) A (eval e cenv) Q E s')
    (evy : ∀ (s' : Shared) (e : Expr) (Q : Value → Shared → Prop), e ∈ [ey1, ey2, ey3] → s'.heap = s.heap → Q (.ref C2) s' → wpAny (model prog w) A (eval e cenv) Q E s')
    (evk : ∀ (s' : Shared) (kp : Pos) (Q : Value → Shared → Prop), s'.heap = s.heap → Q (.int (i : Nat) t) s' → wpAny (model prog w) A (eval (.Name kn kp) cenv) Q E s')
    (evi : ∀ (s' : Shared) (Q : Value → Shared → Prop), s'.heap = s.heap → Q (.builtin "isinstance") s' → wpAny (model prog w) A (eval (.Name inn ip) cenv) Q E s')
    (evl : ∀ (s' : Shared) (Q : Value → Shared → Prop), s'.heap = s.heap → Q (.type "list") s' → wpAny (model prog w) A (eval (.Name ln lp) cenv) Q E s')
    (hl1 : s.heap.IsList C1 cvs.toArray) (hl2 : s.heap.IsList C2 dvs.toArray) (h1 : Paired cuIs cu0 cvs) (h2 : Paired cuIs cu0 dvs) (hc : cu0[i]? = some c) (hi : i < 100000) (hu : A.units + 10 < cLine)
    (hli : ∀ a, Cu.list a ∈ cu0 → ∃ xs : List Value, s.heap.IsList a xs.toArray)
    (hm1 : behindInMarks .NotEq (.Subscript ey1 (.Name kn k2) p2) = false) (hm2 : behindInMarks .IsNot (.Subscript ey3 (.Name kn k5) p5) = false)
    (h : ∀ tk, Q false { s with toks := tk }) :
    wpAny (model prog w) A (isTrue (.BoolOp .Or [.Compare (.Subscript ex1 (.Name kn k1) p1) [.NotEq] [.Subscript ey1 (.Name kn k2) p2] p6, .BoolOp .And [.Call (.Name inn ip) [.Subscript ey2 (.Name kn k3) p3, .Name ln lp] [] p7, .Compare (.Subscript ex3 (.Name kn k4) p4) [.IsNot] [.Subscript ey3 (.Name kn k5) p5] p8] p9] p10) cenv whole) Q E s := by
  obtain ⟨v1, hv1, hk1⟩ := Paired.at1 h1 hc
  obtain ⟨v2, hv2, hk2⟩ := Paired.at1 h2 hc
  have hcm : c ∈ cu0 := List.mem_of_getElem? hc
  refine isTrue_or (wpAny_isTrue_Compare1 ?_ hm1)
  refine sub_at (evx s _ · (by simp) rfl) (evk s _ · rfl) hl1 hv1 hi ?_
  refine sub_at (evy s _ · (by simp) rfl) (evk s _ · rfl) hl2 hv2 hi ?_
  have go : ∀ (r : Bool) , ((r = false ∧ ∀ Q : Value → Shared → Prop, (∀ tk, Q (.bool false) { s with toks := tk }) → wpAny (model prog w) A (call (.builtin "isinstance") [v2, .type "list"]) Q E s) ∨ (∃ a, v1 = .ref a ∧ v2 = .ref a ∧ ∃ xs : List Value, s.heap.IsList a xs.toArray)) →
      wpAny (model prog w) A (isTrue (.BoolOp .Or [.BoolOp .And [.Call (.Name inn ip) [.Subscript ey2 (.Name kn k3) p3, .Name ln lp] [] p7, .Compare (.Subscript ex3 (.Name kn k4) p4) [.IsNot] [.Subscript ey3 (.Name kn k5) p5] p8] p9] p10) cenv whole) Q E s := fun r hr => by
    refine isTrue_or (isTrue_and (isTrue_plain (Call_ (evi s _ rfl ?_))))
    refine callWith_builtin rfl (evalArgs_plain (spliced_cons ?_))
    refine sub_at (evy s _ · (by simp) rfl) (evk s _ · rfl) hl2 hv2 hi ?_
    refine spliced_cons (evl s _ rfl (spliced_nil ?_))
    rcases hr with ⟨-, hr⟩ | ⟨a, rfl, rfl, xs, hxs⟩
    · refine hr _ fun tk => wpAny_truthy_bool ?_
      rw [if_neg (by decide), if_neg (by decide)]
      exact isTrue_or_nil (h tk)
    · refine isi_list_list hxs (wpAny_truthy_bool ?_)
      rw [if_pos rfl]
      refine isTrue_and (wpAny_isTrue_Compare1 ?_ hm2)
      refine sub_at (evx s _ · (by simp) rfl) (evk s _ · rfl) hl1 hv1 hi ?_
      refine sub_at (evy s _ · (by simp) rfl) (evk s _ · rfl) hl2 hv2 hi ?_
      refine wpAny_isNot_ref_self (wpAny_truthy_bool ?_)
      rw [if_neg (by decide), if_neg (by decide)]
      exact isTrue_or_nil (h s.toks)
  cases c with
  | int i =>
    obtain ⟨t1, rfl⟩ := hk1
    obtain ⟨t2, rfl⟩ := hk2
    refine ne_int (wpAny_truthy_bool ?_)
    rw [if_neg (by simp)]
    exact go false (.inl ⟨rfl, fun Q hq => isi_int_list (hq _)⟩)
  | sign x =>
    obtain ⟨t1, rfl⟩ := hk1
    obtain ⟨t2, rfl⟩ := hk2
    refine ne_str (wpAny_truthy_bool ?_)
    rw [if_neg (by simp)]
    exact go false (.inl ⟨rfl, fun Q hq => isi_str_list (hq _)⟩)
  | list a =>
    obtain rfl : v1 = .ref a := hk1
    obtain rfl : v2 = .ref a := hk2
    obtain ⟨xs, hxs⟩ := hli a hcm
    refine ne_same hxs hxs (by omega) (wpAny_truthy_bool ?_)
    rw [if_neg (by decide)]
    exact go true (.inr ⟨a, rfl, rfl, xs, hxs⟩)
end

section
variable {w : World} {p : Program} {loose : List Str} {mean : ExcName → Option Value} {mg mb : Str → Option Value} {g : Heap} {L : Addr} {os : OsState × Array Value} {m : Str → Option Value} {s : Shared} {env : Env}
variable {dp un : Nat} {gd : Option (List Code)}
/-- len(x) of a list -/
theorem bd_len {E : Value → Shared → Prop} {Q : Value → Shared → Prop} {cu du : Option Value} {ln : Str} {q1 q3 : Pos} {ex : Expr} {C : Addr} {xs : List Value} (B : Bd g L os m cu du s) (K : (hd.heap_39 w.params).In g) (T : Top p loose mean mg mb g)
    (hfr : env.frame = some L) (hg : env.globals = mainGlobals) (hb : env.builtins = builtinsNs) (hk : env.scope.kind = .function) (hln : env.kindOf ln = some .globalImplicit)
    (e : nsIn (hd.heap_39 w.params) mainGlobals ln = some none) (hbl : bootBuiltins ln = some (.builtin "len")) (d0 : ln ≠ "__name__") (d1 : (ln == ("__debug__" : Str)) = false)
    (hst : starEach [ex] env = [(false, eval ex env)])
    (evx : ∀ Q : Value → Shared → Prop, Q (.ref C) s → wpAny (model Challenge.rw_il0027_01.row.prog w) (Ar dp un gd [env]) (eval ex env) Q E s)
    (hl : s.heap.IsList C xs.toArray) (hn : xs.length ≤ 100000) (h : ∀ tk t, Q (.int (xs.length : Nat) t) { s with toks := tk }) :
    wpAny (model Challenge.rw_il0027_01.row.prog w) (Ar dp un gd [env]) (eval (.Call (.Name ln q1) [ex] [] q3) env) Q E s := by
  have c := B.cx K T hfr hk
  refine Call_ (ev_builtin c hg hb hk hln e hbl ?_ d0 d1)
  rw [hst]
  refine callWith_builtin rfl (evalArgs_plain (spliced_cons (evx _ (spliced_nil (call_len_list hl ?_ ?_)))))
  · show ((xs.toArray.size : Nat) : Int) < 2 ^ 63
    rw [List.size_toArray]; omega
  · rw [List.size_toArray]
    exact h _ _
theorem cu_len {cu0 : List Cu} {xs ys : List Value} (h1 : Paired cuIs cu0 xs) (h2 : Paired cuIs cu0 ys) : xs.length = ys.length := h1.length.symm.trans h2.length
theorem none_picked {F : Value → Value → Prop} {vs ys : List Value} (h : Paired F (vs.filter fun _ => false) ys) : ys = [] := by
  have e : (vs.filter fun _ => false) = [] := by simp
  rw [e] at h
  cases h
  rfl
set_option maxHeartbeats 2000000 in
/-- if len(cut) != len(due) or [k for k in range(len(due)) if ..] != [] -/
theorem st_same {E : Value → Shared → Prop} {Q : Flow → Shared → Prop} {x y kn ln rn inn lsn : Str} {q1 q2 q3 q4 q5 q6 q7 q8 q9 r1 r2 r3 r4 r5 r6 r7 r8 r9 r10 : Pos} {x1 x3 y1 y2 y3 k1 k2 k3 k4 k5 ip lp p1 p2 p3 p4 p5 p6 p7 p8 p9 p10 : Pos} {body : List Stmt} {scope : Scope} {cl : List (Str × Addr)}
    {C1 C2 : Addr} {cvs dvs : List Value} {cu0 : List Cu} (B : Bd g L os m (some (.ref C1)) (some (.ref C2)) s) (K : (hd.heap_39 w.params).In g) (T : Top p loose mean mg mb g)
    (hfr : env.frame = some L) (hg : env.globals = mainGlobals) (hb : env.builtins = builtinsNs) (hk : env.scope.kind = .function) (hx : env.kindOf x = some .cell) (hy : env.kindOf y = some .cell)
    (hxc : env.cells.lookup x = some (L + 1)) (hyc : env.cells.lookup y = some (L + 1 + 1))
    (hln : env.kindOf ln = some .globalImplicit) (hrn : env.kindOf rn = some .globalImplicit)
    (eln : nsIn (hd.heap_39 w.params) mainGlobals ln = some none) (bln : bootBuiltins ln = some (.builtin "len")) (n0 : ln ≠ "__name__") (n1 : (ln == ("__debug__" : Str)) = false)
    (ern : nsIn (hd.heap_39 w.params) mainGlobals rn = some none) (brn : bootBuiltins rn = some (.type "range")) (n2 : rn ≠ "__name__") (n3 : (rn == ("__debug__" : Str)) = false)
    (ein : nsIn (hd.heap_39 w.params) mainGlobals inn = some none) (bin : bootBuiltins inn = some (.builtin "isinstance")) (n4 : inn ≠ "__name__") (n5 : (inn == ("__debug__" : Str)) = false)
    (els : nsIn (hd.heap_39 w.params) mainGlobals lsn = some none) (bls : bootBuiltins lsn = some (.type "list")) (n6 : lsn ≠ "__name__") (n7 : (lsn == ("__debug__" : Str)) = false)
    (n8 : (x == ("__debug__" : Str)) = false) (n9 : (y == ("__debug__" : Str)) = false) (n10 : (kn == ("__debug__" : Str)) = false)
    (hclos : closureFor scope env = pure cl) (hcell : ∀ y ∈ scope.names, y.2 ≠ .cell) (hkind : scope.kind = .function) (hnames : ∀ y ∈ scope.names, y.2 = .local → scope.names.lookup y.1 = some .local) (hkn : scope.names.lookup kn = some .local)
    (hxi : ∀ C, (compEnvC scope cl C env).kindOf x = some .cell) (hyi : ∀ C, (compEnvC scope cl C env).kindOf y = some .cell)
    (hxl : ∀ C, (compEnvC scope cl C env).cells.lookup x = some (L + 1)) (hyl : ∀ C, (compEnvC scope cl C env).cells.lookup y = some (L + 1 + 1))
    (hii : ∀ C, (compEnvC scope cl C env).kindOf inn = some .globalImplicit) (hli : ∀ C, (compEnvC scope cl C env).kindOf lsn = some .globalImplicit)
    (hl1 : s.heap.IsList C1 cvs.toArray) (hl2 : s.heap.IsList C2 dvs.toArray) (h1 : Paired cuIs cu0 cvs) (h2 : Paired cuIs cu0 dvs) (hmax : cu0.length ≤ 10000) (hun : un + 20 < cLine)
    (hlists : ∀ a, Cu.list a ∈ cu0 → ∃ xs : List Value, s.heap.IsList a xs.toArray)
    (h : ∀ s', Bd g L os m (some (.ref C1)) (some (.ref C2)) s' → Ls s.heap s'.heap → Q .next s') :
    wpAny (model Challenge.rw_il0027_01.row.prog w) (Ar dp un gd [env]) (exec (.If (.BoolOp .Or [.Compare (.Call (.Name ln q1) [.Name x q2] [] q3) [.NotEq] [.Call (.Name ln q4) [.Name y q5] [] q6] q7,
      .Compare (.ListComp (.Name kn r1) [⟨.Name kn r2, .Call (.Name rn r3) [.Call (.Name ln r4) [.Name y r5] [] r6] [] r7,
        [.BoolOp .Or [.Compare (.Subscript (.Name x x1) (.Name kn k1) p1) [.NotEq] [.Subscript (.Name y y1) (.Name kn k2) p2] p6, .BoolOp .And [.Call (.Name inn ip) [.Subscript (.Name y y2) (.Name kn k3) p3, .Name lsn lp] [] p7, .Compare (.Subscript (.Name x x3) (.Name kn k4) p4) [.IsNot] [.Subscript (.Name y y3) (.Name kn k5) p5] p8] p9] p10], 0⟩] scope r8) [.NotEq] [.List [] r9] r10] q8) body [] q9) env) Q E s := by
  have hlen1 : cvs.length = dvs.length := cu_len h1 h2
  have hlen2 : cu0.length = dvs.length := h2.length
  have evX : ∀ (s' : Shared) (pos : Pos) (Q : Value → Shared → Prop), Bd g L os m (some (.ref C1)) (some (.ref C2)) s' → Q (.ref C1) s' → wpAny (model Challenge.rw_il0027_01.row.prog w) (Ar dp un gd [env]) (eval (.Name x pos) env) Q E s' := fun s' pos Q B' hq => wpAny_Name (wpAny_loadName_cell hk hx hxc B'.c1 hq) n8
  have evY : ∀ (s' : Shared) (pos : Pos) (Q : Value → Shared → Prop), Bd g L os m (some (.ref C1)) (some (.ref C2)) s' → Q (.ref C2) s' → wpAny (model Challenge.rw_il0027_01.row.prog w) (Ar dp un gd [env]) (eval (.Name y pos) env) Q E s' := fun s' pos Q B' hq => wpAny_Name (wpAny_loadName_cell hk hy hyc B'.c2 hq) n9
  have tok : ∀ tk, Bd g L os m (some (.ref C1)) (some (.ref C2)) { s with toks := tk } := fun tk => B.keeps (h' := s.heap) fun _ _ e => e
  refine wpAny_If (isTrue_or (wpAny_isTrue_Compare1 ?_))
  refine bd_len B K T hfr hg hb hk hln eln bln n0 n1 rfl (fun Q hq => evX s _ Q B hq) hl1 (by omega) fun tk t => ?_
  refine bd_len (tok tk) K T hfr hg hb hk hln eln bln n0 n1 rfl (fun Q hq => evY _ _ Q (tok tk) hq) hl2 (by omega) fun tk2 t2 => ?_
  refine ne_int (wpAny_truthy_bool ?_)
  rw [if_neg (by simp [hlen1])]
  refine isTrue_or (wpAny_isTrue_Compare1 (wpAny_ListComp_free (fun _ => false) (fun _ _ => True) hclos hcell hkind hnames hkn ?_))
  have c2 : Cx w p loose mean mg mb [env] g s.heap := B.cx K T hfr hk
  refine Call_ (ev_builtin c2 hg hb hk hrn ern brn ?_ n2 n3)
  refine PyProof.Rows.callWith_type rfl (evalArgs_plain (spliced_cons ?_))
  refine bd_len (tok tk2) K T hfr hg hb hk hln eln bln n0 n1 rfl (fun Q hq => evY _ _ Q (tok tk2) hq) hl2 (by omega) fun tk3 t3 => ?_
  refine spliced_nil (call_range_1 ?_)
  refine wpAny_pyIter_range (IsRange.new ..) (small_one (by decide) (by decide) (by omega) (by omega)) ?_
  have hr : Builtin.Range.rangeSize 0 (dvs.length : Int) 1 = (dvs.length : Int) := by rw [rangeSize_one]; split <;> omega
  rw [hr]
  have keep2 : ∀ (x y : Obj) b' o, s.heap.get? b' = some o → ((s.heap.push x).push y).get? b' = some o := fun x y b' o e => Heap.get?_push_of_some _ (Heap.get?_push_of_some _ e)
  have low : ∀ b' o (x : Obj), s.heap.get? b' = some o → b' ≠ (s.heap.push x).objs.size := fun b' o x e => Nat.ne_of_lt (Nat.lt_trans (Heap.lt_size e) (by rw [Heap.size_push]; exact Nat.lt_succ_self _))
  refine ⟨_, [_], [_], dvs.length, _, _, rfl, walks_bound (Walks.range rfl _ 0 1 dvs.length), ?_, ?_, ?_, ⟨fun C' i v s₃ m₃ E' hC hP hn hm hk3 htk => ?_, fun C' i v s₃ m₃ E' hC hP hpv hn hm hk3 htk => by cases hpv⟩, fun D h' tk' ys vl hD hl _ hvl hP hF hk3 => ?_⟩
  · have : (20000 : Nat) ≤ sizeLine := by decide
    omega
  · have e1 : (0 + ((0 : Nat) : Int) * 1) = 0 := by simp
    have e2 : ((dvs.length : Nat) : Int) - ((0 : Nat) : Int) = (dvs.length : Nat) := by simp
    rw [e1, e2]
    exact Heap.get?_push_size _ rfl
  · intro b' hb'
    obtain rfl : b' = _ := by simpa using hb'
    simp [Heap.size_push]
  · obtain ⟨hi, t, rfl⟩ := hP
    have hkk : ∀ b' o, s.heap.get? b' = some o → s₃.heap.get? b' = some o := fun b' o e => hk3 b' o (fun q => low b' o _ e (List.mem_singleton.1 q)) (keep2 _ _ b' o e)
    have e1 : (0 + ((i : Nat) : Int) * 1) = (i : Nat) := by simp
    rw [e1] at hm
    have c3 : Cx w p loose mean mg mb [env] g s₃.heap := c2.keeps hkk
    have l3 : Ls s.heap s₃.heap := ls_keeps hkk
    have hks : (compEnvC scope cl C' env).scope.kind = .function := by simp [compEnvC, relabel, hkind]
    obtain ⟨c, hc⟩ : ∃ c, cu0[i]? = some c := ⟨_, List.getElem?_eq_getElem (by omega)⟩
    refine wpAny_tests_one (same_test (C1 := C1) (C2 := C2) (i := i) (t := t) (cvs := cvs) (dvs := dvs) (c := c) (cu0 := cu0) ?_ ?_ ?_ ?_ ?_ (l3.1 _ _ hl1) (l3.1 _ _ hl2) h1 h2 hc (by omega) (by show un + 10 < cLine; omega) ?_ ?_ ?_ ?_)
    · intro s' e Q' he hh hq
      have hcc : s'.heap.IsCell (L + 1) (some (.ref C1)) := hh ▸ B.c1.keeps hkk
      have : ∀ pos, wpAny (model Challenge.rw_il0027_01.row.prog w) (Ar dp un gd [env]) (eval (.Name x pos) (compEnvC scope cl C' env)) Q' E' s' := fun pos => wpAny_Name (wpAny_loadName_cell hks (hxi C') (hxl C') hcc hq) n8
      rcases List.mem_cons.1 he with rfl | he
      · exact this _
      · obtain rfl := List.mem_singleton.1 he
        exact this _
    · intro s' e Q' he hh hq
      have hcc : s'.heap.IsCell (L + 1 + 1) (some (.ref C2)) := hh ▸ B.c2.keeps hkk
      have : ∀ pos, wpAny (model Challenge.rw_il0027_01.row.prog w) (Ar dp un gd [env]) (eval (.Name y pos) (compEnvC scope cl C' env)) Q' E' s' := fun pos => wpAny_Name (wpAny_loadName_cell hks (hyi C') (hyl C') hcc hq) n9
      rcases List.mem_cons.1 he with rfl | he
      · exact this _
      · rcases List.mem_cons.1 he with rfl | he
        · exact this _
        · obtain rfl := List.mem_singleton.1 he
          exact this _
    · intro s' pos Q' hh hq
      exact ev_local hks (lookup_relabel_local hkn) (hh.symm ▸ hn) hm hq n10
    · intro s' Q' hh hq
      exact ev_builtin (l := [env]) (bs := g) (hh.symm ▸ c3) hg hb hks (hii C') ein bin hq n4 n5
    · intro s' Q' hh hq
      exact ev_builtin (l := [env]) (bs := g) (hh.symm ▸ c3) hg hb hks (hli C') els bls hq n6 n7
    · intro a ha
      obtain ⟨xs, hxs⟩ := hlists a ha
      exact ⟨xs, l3.1 _ _ hxs⟩
    · with_unfolding_all rfl
    · with_unfolding_all rfl
    · intro tk
      exact ⟨rfl, _, _, rfl, fun _ _ e => e⟩
  · have hkk : ∀ b' o, s.heap.get? b' = some o → h'.get? b' = some o := fun b' o e => hk3 b' o (fun q => low b' o _ e (List.mem_singleton.1 q)) (keep2 _ _ b' o e)
    have hy0 : ys = #[] := by
      have := none_picked hF
      simpa using this
    subst hy0
    refine wpAny_List_spliced (spliced_none ⟨by show 0 ≤ sizeLine; decide, ?_⟩)
    have kp : ∀ b o, h'.get? b = some o → (h'.push { cls := .type "list", data := .seq ([] : List Value).toArray }).get? b = some o := fun b o e => Heap.get?_push_of_some _ e
    refine ne_same (xs := []) ((ls_keeps kp).1 _ _ hl) ⟨_, Heap.get?_push_size _ rfl, rfl, 0, rfl⟩ (by show un < cLine; omega) (wpAny_truthy_bool ?_)
    rw [if_neg (by decide)]
    refine isTrue_or_nil ?_
    rw [if_neg (by decide)]
    refine wpAny_execs_nil ?_
    have k5 : ∀ b o, s.heap.get? b = some o → (h'.push { cls := .type "list", data := .seq ([] : List Value).toArray }).get? b = some o := fun b o e => kp b o (hkk b o e)
    exact h _ (B.keeps k5) (ls_keeps k5)
end

def pairOf : Leaf → Str × Int
  | .inl i => (Str.ofString "rest", i.fmod 3)
  | .inr x => (Str.ofString "sign", (x.length : Nat))
def keyOf : Leaf → Int
  | .inl i => -1 - i.fmod 3
  | .inr x => (x.length : Nat)
def isStr : Leaf → Bool
  | .inl _ => false
  | .inr _ => true
theorem key_pair (a b : Leaf) : keyOf a = keyOf b ↔ pairOf a = pairOf b := by
  have hne : Str.ofString "rest" ≠ Str.ofString "sign" := by decide
  rcases a with i | x <;> rcases b with j | y <;> simp only [keyOf, pairOf, Prod.mk.injEq]
  · constructor
    · intro h; exact ⟨trivial, by omega⟩
    · intro h; rw [h.2]
  · constructor
    · intro h
      have := Int.fmod_nonneg_of_pos i (show (0 : Int) < 3 by decide)
      omega
    · intro h; exact absurd h.1 hne
  · constructor
    · intro h
      have := Int.fmod_nonneg_of_pos j (show (0 : Int) < 3 by decide)
      omega
    · intro h; exact absurd h.1.symm hne
  · constructor
    · intro h; exact ⟨trivial, h⟩
    · intro h; exact h.2
theorem contains_map {α β γ : Type} [DecidableEq β] [DecidableEq γ] {f : α → β} {g : α → γ} (h : ∀ a b, f a = f b ↔ g a = g b) (x : α) : ∀ l : List α, (l.map f).contains (f x) = (l.map g).contains (g x)
  | [] => rfl
  | a :: l => by
    rw [List.map_cons, List.map_cons, List.contains_cons, List.contains_cons, contains_map h x l]
    congr 1
    by_cases e : f x = f a
    · rw [e, (h x a).1 e, beq_self_eq_true, beq_self_eq_true]
    · have e' : ¬ g x = g a := fun q => e ((h x a).2 q)
      rw [beq_false_of_ne e, beq_false_of_ne e']
theorem isFirst_map {α β γ : Type} [DecidableEq β] [DecidableEq γ] {f : α → β} {g : α → γ} (h : ∀ a b, f a = f b ↔ g a = g b) (l : List α) (k : Nat) : isFirst (l.map f) k = isFirst (l.map g) k := by
  unfold isFirst
  rw [List.getElem?_map, List.getElem?_map]
  cases e : l[k]? with
  | none => rfl
  | some x =>
    show (!((l.map f).take k).contains (f x)) = !((l.map g).take k).contains (g x)
    rw [← List.map_take, ← List.map_take, contains_map h]
theorem firstsOf_map {α β γ : Type} [DecidableEq β] [DecidableEq γ] {f : α → β} {g : α → γ} (h : ∀ a b, f a = f b ↔ g a = g b) (l : List α) (vs : List Value) : firstsOf (l.map f) vs = firstsOf (l.map g) vs := by
  unfold firstsOf
  rw [List.length_map, List.length_map]
  congr 1
  apply List.filter_congr
  intro k _
  exact isFirst_map h l k
section
variable {prog : Program} {w : World} {A : Around} {E : Value → Shared → Prop} {s : Shared}
theorem isi_int_str {i : Int} {t : Tok} {Q : Value → Shared → Prop} (h : Q (.bool false) { s with toks := s.toks + 1 }) : wpAny (model prog w) A (call (.builtin "isinstance") [.int i t, .type "str"]) Q E s :=
  call_isinstance (isinstance_false_int (by decide) (by rfl) (by rw [isSubtype_type]; kernel_rfl)) h
theorem isi_str_str {i : Str} {t : Tok} {Q : Value → Shared → Prop} (h : Q (.bool true) s) : wpAny (model prog w) A (call (.builtin "isinstance") [.str i t, .type "str"]) Q E s :=
  call_isinstance_yes (typeIs_str s i t) (by rfl) (by rw [isSubtype_type]; kernel_rfl) h
end
/-- what an env of the text is -/
structure Nm (w : World) (env : Env) : Prop where
  g : env.globals = mainGlobals
  b : env.builtins = builtinsNs
  k : env.scope.kind = .function
/-- a name of a builtin -/
structure Bn (w : World) (env : Env) (x : Str) (v : Value) : Prop where
  kind : env.kindOf x = some .globalImplicit
  none : nsIn (hd.heap_39 w.params) mainGlobals x = some none
  boot : bootBuiltins x = some v
  n0 : x ≠ "__name__"
  n1 : (x == ("__debug__" : Str)) = false
section
variable {w : World} {p : Program} {loose : List Str} {mean : ExcName → Option Value} {mg mb : Str → Option Value} {l : List Env} {bs : Heap} {s : Shared} {env : Env} {M : Model} {A : Around} {E : Value → Shared → Prop} {m : Str → Option Value}
theorem Bn.ev {x : Str} {v : Value} {pos : Pos} {Q : Value → Shared → Prop} (n : Bn w env x v) (e : Nm w env) (c : Cx w p loose mean mg mb l bs s.heap) (h : Q v s) : wpAny M A (eval (.Name x pos) env) Q E s :=
  ev_builtin c e.g e.b e.k n.kind n.none n.boot h n.n0 n.n1
/-- isinstance(leaf, str) -/
theorem leaf_test {x inn sn : Str} {xp ip sp cp : Pos} {k : Leaf} {v : Value} {Q : Bool → Shared → Prop} (e : Nm w env) (c : Cx w p loose mean mg mb l bs s.heap) (b1 : Bn w env inn (.builtin "isinstance")) (b2 : Bn w env sn (.type "str"))
    (hx : env.kindOf x = some .local) (hn : s.heap.Ns env.locals m) (hv : m x = some v) (hd : (x == ("__debug__" : Str)) = false) (hk : leafIs k v) (h : ∀ tk, Q (isStr k) { s with toks := tk }) :
    wpAny (model Challenge.rw_il0027_01.row.prog w) A (isTrue (.Call (.Name inn ip) [.Name x xp, .Name sn sp] [] cp) env (eval (.Call (.Name inn ip) [.Name x xp, .Name sn sp] [] cp) env)) Q E s := by
  refine isTrue_plain (Call_ (b1.ev e c (callWith_builtin rfl (evalArgs_plain (spliced_cons (ev_local e.k hx hn hv (spliced_cons (b2.ev e c (spliced_nil ?_))) hd))))))
  cases k with
  | inl i =>
    obtain ⟨t, rfl⟩ := hk
    exact isi_int_str (wpAny_truthy_bool (h _))
  | inr y =>
    obtain ⟨t, rfl⟩ := hk
    exact isi_str_str (wpAny_truthy_bool (h s.toks))
/-- len(leaf) of a text -/
theorem leaf_len {x ln : Str} {xp lp cp : Pos} {y : Str} {t : Tok} {Q : Value → Shared → Prop} (e : Nm w env) (c : Cx w p loose mean mg mb l bs s.heap) (b : Bn w env ln (.builtin "len"))
    (hx : env.kindOf x = some .local) (hn : s.heap.Ns env.locals m) (hv : m x = some (.str y t)) (hd : (x == ("__debug__" : Str)) = false) (hy : y.length ≤ 10000) (h : ∀ t tk, Q (.int (y.length : Nat) t) { s with toks := tk }) :
    wpAny (model Challenge.rw_il0027_01.row.prog w) A (eval (.Call (.Name ln lp) [.Name x xp] [] cp) env) Q E s := by
  refine Call_ (b.ev e c (callWith_builtin rfl (evalArgs_plain (spliced_cons (ev_local e.k hx hn hv (spliced_nil (PyProof.Rows.len_str ?_ (h _ _))) hd)))))
  omega
/-- ['sign', len(leaf)] if isinstance(leaf, str) else ['rest', leaf % 3] -/
theorem pair_elt {x inn sn ln : Str} {kd1 kd2 kd3 : Nat} {p1 p2 p3 p4 p5 p6 p7 p8 p9 pa pb pc pd pe pf : Pos} {k : Leaf} {v : Value} (e : Nm w env) (c : Cx w p loose mean mg mb l bs s.heap) (b1 : Bn w env inn (.builtin "isinstance")) (b2 : Bn w env sn (.type "str")) (b3 : Bn w env ln (.builtin "len"))
    (hx : env.kindOf x = some .local) (hn : s.heap.Ns env.locals m) (hv : m x = some v) (hd : (x == ("__debug__" : Str)) = false) (hk : leafIs k v) (hy : ∀ y, k = .inr y → y.length ≤ 10000) :
    wpAny (model Challenge.rw_il0027_01.row.prog w) A (eval (.IfExp (.Call (.Name inn p1) [.Name x p2, .Name sn p3] [] p4) (.List [.Constant (.str "sign") kd1 p5, .Call (.Name ln p6) [.Name x p7] [] p8] p9)
      (.List [.Constant (.str "rest") kd2 pa, .BinOp (.Name x pb) .Mod (.Constant (.int 3) kd3 pc) pd] pe) pf) env)
      (fun y s' => ∃ tk t u, y = .ref s.heap.objs.size ∧ s' = { s with heap := s.heap.push { cls := .type "list", data := .seq #[.str (pairOf k).1 t, .int (pairOf k).2 u] }, toks := tk }) E s := by
  refine IfExp_ (leaf_test e c b1 b2 hx hn hv hd hk fun tk => ?_)
  cases k with
  | inl i =>
    obtain ⟨t, rfl⟩ := hk
    rw [if_neg (show ¬ isStr (Sum.inl i) = true from Bool.false_ne_true)]
    refine wpAny_List_spliced (spliced_more (wpAny_Constant_str ?_))
    refine spliced_more (ev_mod e.k hx hn hv (by decide) (fun t tk => spliced_none ⟨by show 2 ≤ sizeLine; decide, ?_⟩) hd)
    exact ⟨_, _, _, rfl, rfl⟩
  | inr y =>
    obtain ⟨t, rfl⟩ := hk
    rw [if_pos (show isStr (Sum.inr y) = true from rfl)]
    refine wpAny_List_spliced (spliced_more (wpAny_Constant_str ?_))
    refine spliced_more (leaf_len e c b3 hx hn hv hd (hy y rfl) fun t tk => spliced_none ⟨by show 2 ≤ sizeLine; decide, ?_⟩)
    exact ⟨_, _, _, rfl, rfl⟩
/-- len(leaf) if isinstance(leaf, str) else -1 - leaf % 3 -/
theorem key_elt {x inn sn ln : Str} {kd1 kd3 : Nat} {p1 p2 p3 p4 p6 p7 p8 pa pb pc pd pe pf pg : Pos} {k : Leaf} {v : Value} (e : Nm w env) (c : Cx w p loose mean mg mb l bs s.heap) (b1 : Bn w env inn (.builtin "isinstance")) (b2 : Bn w env sn (.type "str")) (b3 : Bn w env ln (.builtin "len"))
    (hx : env.kindOf x = some .local) (hn : s.heap.Ns env.locals m) (hv : m x = some v) (hd : (x == ("__debug__" : Str)) = false) (hk : leafIs k v) (hy : ∀ y, k = .inr y → y.length ≤ 10000) :
    wpAny (model Challenge.rw_il0027_01.row.prog w) A (eval (.IfExp (.Call (.Name inn p1) [.Name x p2, .Name sn p3] [] p4) (.Call (.Name ln p6) [.Name x p7] [] p8)
      (.BinOp (.UnaryOp .USub (.Constant (.int 1) kd1 pa) pe) .Sub (.BinOp (.Name x pb) .Mod (.Constant (.int 3) kd3 pc) pd) pg) pf) env)
      (fun y s' => ∃ tk t, y = .int (keyOf k) t ∧ s' = { s with toks := tk }) E s := by
  refine IfExp_ (leaf_test e c b1 b2 hx hn hv hd hk fun tk => ?_)
  cases k with
  | inl i =>
    obtain ⟨t, rfl⟩ := hk
    rw [if_neg (show ¬ isStr (Sum.inl i) = true from Bool.false_ne_true)]
    refine wpAny_BinOp (UnaryOp_ (wpAny_Constant_int (neg_int ?_)))
    refine ev_mod e.k hx hn hv (by decide) (fun t tk => sub_int' ⟨_, _, rfl, rfl⟩) hd
  | inr y =>
    obtain ⟨t, rfl⟩ := hk
    rw [if_pos (show isStr (Sum.inr y) = true from rfl)]
    exact leaf_len e c b3 hx hn hv hd (hy y rfl) fun t tk => ⟨_, _, rfl, rfl⟩
theorem sl_len (n : Int) : (sl n).length ≤ 4 := by
  have := Txt.slice_le (Str.ofString "abab") none (some ((n.fdiv 6).fmod 5))
  have e4 : (Str.ofString "abab").length = 4 := by decide
  unfold sl
  omega
theorem leaf_short : ∀ {ns : List Int} {k : Leaf}, k ∈ ns.flatMap leafOf → ∀ y, k = .inr y → y.length ≤ 4 := fun {ns k} hk y hy => by
  obtain ⟨n, _, hn⟩ := List.mem_flatMap.1 hk
  unfold leafOf at hn
  split at hn
  · have e : k = lf n := List.mem_singleton.1 hn
    unfold lf at e
    split at e
    · rw [e] at hy
      injection hy with hy
      rw [← hy]
      exact sl_len n
    · rw [e] at hy; cases hy
  · simp at hn
end

theorem paired_of {α β : Type} {F : α → β → Prop} : ∀ {l : List α} {m : List β}, m.length = l.length → (∀ (i : Nat) (b : β), m[i]? = some b → ∃ a, l[i]? = some a ∧ F a b) → Paired F l m
  | [], [], _, _ => .nil
  | [], b :: m, h, _ => by simp at h
  | a :: l, [], h, _ => by simp at h
  | a :: l, b :: m, h, hp => by
    obtain ⟨a', e, hF⟩ := hp 0 b rfl
    have : a = a' := by simpa using e
    subst this
    exact .cons hF (paired_of (by simpa using h) fun i b hb => by
      obtain ⟨a, ha, h⟩ := hp (i + 1) b (by simpa using hb)
      exact ⟨a, by simpa using ha, h⟩)
section
variable {w : World} {p : Program} {loose : List Str} {mean : ExcName → Option Value} {mg mb : Str → Option Value} {g : Heap} {L : Addr} {os : OsState × Array Value} {m : Str → Option Value} {cu du : Option Value} {s : Shared} {env : Env}
variable {dp un : Nat} {gd : Option (List Code)}
/-- the names' table of a comprehension let go -/
theorem Bd.drop (B : Bd g L os m cu du s) {C : Addr} {h' : Heap} {tk : Nat} {mC : Str → Option Value} (hn : s.heap.Ns C mC) (hne : L ≠ C) (hg : g.get? C = none) (x : Heap.SameBut C s.heap h') : Bd g L os m cu du { s with heap := h', toks := tk } ∧ Ls s.heap h' :=
  ⟨⟨⟨B.F.ns.sameBut x hne, fun b o e => (x.2 b (fun q => by subst q; rw [hg] at e; cases e)).trans (B.F.keep b o e), B.F.above⟩, sameBut_cell x B.c1 (ns_cell hn B.c1), sameBut_cell x B.c2 (ns_cell hn B.c2), (x.2 _ (ns_tab hn B.tab)).trans B.tab, B.bare, B.os⟩,
    Ls.of_ex (fs := []) (ws := [C]) (.sameBut x (by simp)) (ns_noseq hn)⟩
set_option maxHeartbeats 2000000 in
/-- keys = [['sign', len(leaf)] if isinstance(leaf, str) else ['rest', leaf % 3] for leaf in leaves] -/
theorem st_keys {Q : Flow → Shared → Prop} {x y xl inn sn ln : Str} {px py pl pos spos : Pos} {kd1 kd2 kd3 : Nat} {p1 p2 p3 p4 p5 p6 p7 p8 p9 pa pb pc pd pe pf : Pos} {scope : Scope} {R : Addr} {lv : List Value} {fl : List Leaf}
    (B : Bd g L os m cu du s) (K : (hd.heap_39 w.params).In g) (T : Top p loose mean mg mb g) (hfr : env.frame = some L) (hL : env.locals = L) (e : Nm w env)
    (b1 : ∀ C, Bn w (compEnvC scope [] C env) inn (.builtin "isinstance")) (b2 : ∀ C, Bn w (compEnvC scope [] C env) sn (.type "str")) (b3 : ∀ C, Bn w (compEnvC scope [] C env) ln (.builtin "len"))
    (hsw : swapsWith (.ListComp (.IfExp (.Call (.Name inn p1) [.Name x p2, .Name sn p3] [] p4) (.List [.Constant (.str "sign") kd1 p5, .Call (.Name ln p6) [.Name x p7] [] p8] p9)
      (.List [.Constant (.str "rest") kd2 pa, .BinOp (.Name x pb) .Mod (.Constant (.int 3) kd3 pc) pd] pe) pf) [⟨.Name x px, .Name xl pl, [], 0⟩] scope pos) (some (.Name y py)) spos.line env = pure true)
    (hclos : closureFor scope env = pure []) (hcell : ∀ y ∈ scope.names, y.2 ≠ .cell) (hkind : scope.kind = .function) (hnames : ∀ y ∈ scope.names, y.2 = .local → scope.names.lookup y.1 = some .local)
    (hy : env.kindOf y = some .local) (hx : scope.names.lookup x = some .local) (hxl : env.kindOf xl = some .local) (hd : (x == ("__debug__" : Str)) = false) (hd2 : (xl == ("__debug__" : Str)) = false)
    (hv : m xl = some (.ref R)) (hl : s.heap.IsList R lv.toArray) (hp : Paired leafIs fl lv) (hmax : fl.length ≤ 1000) (hsh : ∀ k ∈ fl, ∀ y, k = .inr y → y.length ≤ 10000)
    (h : ∀ s' R2 kv, Bd g L os (fun z => if z = y then some (.ref R2) else m z) cu du s' → Ls s.heap s'.heap → s'.heap.IsList R2 kv.toArray → Paired (pairKind.K s'.heap) (fl.map pairOf) kv → Q .next s') :
    wpAny (model Challenge.rw_il0027_01.row.prog w) (Ar dp un gd [env]) (exec (.Assign [.Name y py] (.ListComp (.IfExp (.Call (.Name inn p1) [.Name x p2, .Name sn p3] [] p4) (.List [.Constant (.str "sign") kd1 p5, .Call (.Name ln p6) [.Name x p7] [] p8] p9)
      (.List [.Constant (.str "rest") kd2 pa, .BinOp (.Name x pb) .Mod (.Constant (.int 3) kd3 pc) pd] pe) pf) [⟨.Name x px, .Name xl pl, [], 0⟩] scope pos) spos) env) Q noErr s := by
  have hk := e.k
  have hn0 : s.heap.Ns env.locals m := hL.symm ▸ B.F.ns
  refine comp_assign hsw hclos hcell hkind hnames hy (by rw [hk]; rfl) (wpAny_mono (src_list (fs := [L]) hk hxl hn0 hv hl hd2) (fun xv s₂ h₂ => wpAny_mono h₂ (fun it s₃ h₃ => ?_) fun _ _ f => f) fun _ _ f => f) (fun _ => rfl)
  obtain ⟨mv₂, I, rfl, it, hI⟩ := h₃
  obtain ⟨fp, St, W, hst, hfp⟩ := it.iter (prog := Challenge.rw_il0027_01.row.prog) (w := w) (fs := [L])
  have hn₂ : s₃.heap.Ns env.locals m := mv₂.heap.ns (by simp) hn0
  refine ⟨hn₂.lt, fun h₁ k1 k2 k3 => ?_⟩
  have mv₃ : Mv [L] [] Same s₃ { s₃ with heap := h₁ } := Mv.of_keeps k1
  have st₃ : St 0 { s₃ with heap := h₁ } := (W (Ar dp un gd [env]) rfl).frame 0 s₃ _ [] (hst s₃ rfl) mv₃ (by simp)
  refine ⟨(W _ rfl).self 0 _ _ _ st₃ ⟨rfl, rfl⟩, ?_⟩
  have hDC : s₃.heap.objs.size ≠ s₃.heap.objs.size + 1 := Nat.ne_of_lt (Nat.lt_succ_self _)
  have hDf : s₃.heap.objs.size ∉ fp := fun q => Nat.lt_irrefl _ (hfp _ q)
  have hCf : s₃.heap.objs.size + 1 ∉ fp := fun q => Nat.lt_irrefl _ (Nat.lt_of_succ_lt (hfp _ q))
  have hIf : @LT.lt Nat _ I s₃.heap.objs.size := hfp _ ((W (Ar dp un gd [env]) rfl).sub _ (by simp))
  have c0 : Cx w p loose mean mg mb [env] g s.heap := B.cx K T hfr hk
  have ws : ∀ b ∈ (s₃.heap.objs.size :: (s₃.heap.objs.size + 1) :: [I] : List Addr), s.heap.get? b = none := fun b hb => by
    simp only [List.mem_cons, List.not_mem_nil, or_false] at hb
    rcases hb with rfl | rfl | rfl
    · exact ex_fresh mv₂.heap
    · cases q : s.heap.get? (s₃.heap.objs.size + 1) with
      | none => rfl
      | some o => obtain ⟨sl, e⟩ := mv₂.heap.up q (by simp); exact absurd (Nat.lt_of_succ_lt (Heap.lt_size e)) (Nat.lt_irrefl _)
    · exact hI
  have toOld : ∀ {s' : Shared}, Mv [L] (s₃.heap.objs.size :: (s₃.heap.objs.size + 1) :: [I]) Same { s₃ with heap := h₁ } s' → Mv [L] [] Same s s' := fun {s'} mv => by
    have a : Mv [L] (s₃.heap.objs.size :: (s₃.heap.objs.size + 1) :: [I]) Same s s' :=
      (mv₂.mono (fun _ q => q) (by simp) fun _ _ q => q).trans Same.trans ((mv₃.mono (fun _ q => q) (by simp) fun _ _ q => q).trans Same.trans mv)
    exact a.drop (fun _ q => .inl q) fun b hb => .inr (ws b hb)
  refine codeAny_mono (comp_loop1 (C := s₃.heap.objs.size + 1) (cenv := compEnvC scope [] (s₃.heap.objs.size + 1) env) (W _ rfl) rfl (lookup_relabel_local hx) (by simp [compEnvC, relabel, hkind]) hDC hDf hCf
    (fun (j : Nat) (ys : List Value) (s' : Shared) => ys.length = j ∧ ∀ (i : Nat) (v : Value), ys[i]? = some v → ∃ (k : Leaf) (T : Addr) (t u : Tok), fl[i]? = some k ∧ v = .ref T ∧ T ∉ (s₃.heap.objs.size :: (s₃.heap.objs.size + 1) :: [I] : List Addr) ∧ s'.heap.IsList T #[.str (pairOf k).1 t, .int (pairOf k).2 u]) { s₃ with heap := h₁ }
    (fun j ys s' s'' q mv => ⟨q.1, fun i v hv => ?_⟩) (fun j v s₄ m₄ ys hj hP hns hmx hlD inv mv => ?_) st₃ k3 k2 ⟨rfl, by simp⟩) fun r s' hr => ?_
  · obtain ⟨k, T, t, u, a, b, c, d⟩ := q.2 i v hv
    exact ⟨k, T, t, u, a, b, c, mv.heap.list c d⟩
  · have mvo := toOld mv
    have c4 : Cx w p loose mean mg mb [env] g s₄.heap := c0.ex (ws := []) ((frs_one hfr).symm ▸ mvo.heap) (by simp)
    obtain ⟨k, hkj, hlf⟩ := Paired.at' hp hP
    have hkm : k ∈ fl := List.mem_of_getElem? hkj
    have e4 : Nm w (compEnvC scope [] (s₃.heap.objs.size + 1) env) := ⟨e.g, e.b, by simp [compEnvC, relabel, hkind]⟩
    have hlen : ys.length ≤ 10000 := by
      have := hp.length
      rw [inv.1]
      omega
    refine tail1_nil (wpAny_mono (emit (fs := [L]) (Φ := fun (y : Value) (s : Shared) => ∃ (t u : Tok), y = .ref s₄.heap.objs.size ∧ s.heap.IsList s₄.heap.objs.size #[.str (pairOf k).1 t, .int (pairOf k).2 u]) hlD (by
      have : (20000 : Nat) ≤ sizeLine := by decide
      omega) (wpAny_mono (pair_elt e4 c4 (b1 _) (b2 _) (b3 _) (lookup_relabel_local hx) hns hmx hd hlf (hsh k hkm)) (fun y s₅ h₅ => ?_) fun _ _ f => f)) (fun fin s₅ h₅ => ?_) fun _ _ f => f)
    · obtain ⟨tk, t, u, rfl, rfl⟩ := h₅
      exact ⟨Mv.of_keeps fun b o e => Heap.get?_push_of_some _ e, t, u, rfl, ⟨_, Heap.get?_push_size _ rfl, rfl, _, rfl⟩⟩
    · obtain ⟨rfl, y, s₆, ⟨t, u, rfl, hyl⟩, hl₅, mv₆, mv₅⟩ := h₅
      have hD4 : @LT.lt Nat _ s₃.heap.objs.size s₄.heap.objs.size := by obtain ⟨o, ho, _⟩ := hlD; exact Heap.lt_size ho
      have hC4 : @LT.lt Nat _ (s₃.heap.objs.size + 1) s₄.heap.objs.size := hns.lt
      have hTn : s₄.heap.objs.size ∉ (s₃.heap.objs.size :: (s₃.heap.objs.size + 1) :: [I] : List Addr) := by
        intro hb
        simp only [List.mem_cons, List.not_mem_nil, or_false] at hb
        rcases hb with q | q | q
        · rw [q] at hD4; exact Nat.lt_irrefl _ hD4
        · rw [q] at hC4; exact Nat.lt_irrefl _ hC4
        · rw [q] at hD4; exact Nat.lt_irrefl _ (Nat.lt_trans hIf hD4)
      refine ⟨rfl, [.ref s₄.heap.objs.size], hl₅, ⟨by simp [inv.1], fun i u' hu => ?_⟩, mv₅⟩
      rcases Nat.lt_trichotomy i ys.length with hi | hi | hi
      · obtain ⟨k', T', t', u'', a, b, c, d⟩ := inv.2 i u' (by rwa [List.getElem?_append_left hi] at hu)
        exact ⟨k', T', t', u'', a, b, c, mv₅.heap.list (fun q => c (by simp at q; simp [q])) d⟩
      · subst hi
        simp at hu
        subst hu
        exact ⟨k, _, t, u, by rw [inv.1]; exact hkj, rfl, hTn, mv₆.heap.list (fun q => hTn (by simp at q; simp [q])) hyl⟩
      · rw [List.getElem?_eq_none (by simp; omega)] at hu; cases hu
  · obtain ⟨rfl, ys, m', inv, hlD, hnC, mv⟩ := hr
    have mvo := toOld mv
    have hLlt : @LT.lt Nat _ L s₃.heap.objs.size := hL ▸ hn₂.lt
    have hLD : L ≠ s₃.heap.objs.size := Nat.ne_of_lt hLlt
    have hLC : L ≠ s₃.heap.objs.size + 1 := Nat.ne_of_lt (Nat.lt_succ_of_lt hLlt)
    have hns : s'.heap.Ns env.locals m := mvo.heap.ns (by simp) hn0
    obtain ⟨Bs, ls⟩ := B.call hfr ((frs_one hfr).symm ▸ mvo)
    refine ⟨rfl, ⟨m', hnC⟩, m, hns, fun h₂ h₃ hn₂' hs₂ hs₃ => ?_⟩
    rw [hL] at hn₂' hs₂
    have B1 : Bd g L os _ cu du { s' with heap := h₂, toks := s'.toks } := Bs.own' (Ex.sameBut hs₂ (by simp)) hn₂'
    have l1 : Ls s'.heap h₂ := Bs.ls_own (fs := []) (Ex.sameBut hs₂ (by simp))
    have hnC2 : h₂.Ns (s₃.heap.objs.size + 1) m' := hnC.sameBut hs₂ (Ne.symm hLC)
    have hCg : g.get? (s₃.heap.objs.size + 1) = none := Heap.get?_none_of_le (Nat.le_trans B.F.above (Nat.le_of_lt (Nat.lt_succ_of_lt hLlt)))
    obtain ⟨B2, l2⟩ := B1.drop (tk := s'.toks + 1) hnC2 hLC hCg hs₃
    have l3 : Ls s'.heap h₃ := l1.trans l2
    refine h _ _ ys B2 (ls.trans l3) (l3.1 _ _ hlD) (paired_of ?_ fun i v hv => ?_)
    · rw [List.length_map, inv.1]
      exact hp.length.symm
    · obtain ⟨k, T, t, u, a, rfl, c, d⟩ := inv.2 i v hv
      exact ⟨pairOf k, by rw [List.getElem?_map, a]; rfl, T, t, u, rfl, l3.1 _ _ d⟩
end

theorem passing_le (pz : Nat → Bool) (n : Nat) : (passing pz n 0).length ≤ n := by
  unfold passing
  refine Nat.le_trans (List.length_filter_le _ _) ?_
  simp
section
variable {w : World} {p : Program} {loose : List Str} {mean : ExcName → Option Value} {mg mb : Str → Option Value} {g : Heap} {L : Addr} {m : Str → Option Value} {cu du : Option Value} {s : Shared} {env : Env}
variable {dp un : Nat} {gd : Option (List Code)}
variable {κ : Type} [DecidableEq κ]
set_option maxHeartbeats 2000000 in
/-- y = [x for x in G], G a generator of unique_everseen just made -/
theorem gen_assign {Q : Flow → Shared → Prop} {iter : Expr} {x y : Str} {px px' py pos spos : Pos} {scope : Scope} {lv : List Value} {ks : List κ} {P : Shared → OsState × Array Value → Prop}
    (K : (hd.heap_39 w.params).In g) (T : Top p loose mean mg mb g) (hfr : env.frame = some L) (hL : env.locals = L) (hk : env.scope.kind = .function)
    (hsw : swapsWith (.ListComp (.Name x px') [⟨.Name x px, iter, [], 0⟩] scope pos) (some (.Name y py)) spos.line env = pure true)
    (hclos : closureFor scope env = pure []) (hcell : ∀ y ∈ scope.names, y.2 ≠ .cell) (hkind : scope.kind = .function) (hnames : ∀ y ∈ scope.names, y.2 = .local → scope.names.lookup y.1 = some .local)
    (hy : env.kindOf y = some .local) (hx : scope.names.lookup x = some .local) (hd : (x == ("__debug__" : Str)) = false)
    (hsz : lv.length = ks.length) (hmax : lv.length ≤ 1000) (hdp : dp + 100 < recursionLimit)
    (hiter : wpAny (model Challenge.rw_il0027_01.row.prog w) (Ar dp un gd [env]) (eval iter env) (fun xv s₁ => ∃ s₀ G bs os, xv = .ref G ∧ Bd g L os m cu du s₀ ∧ P s₀ os ∧ (∀ b o, bs.get? b = some o → s₀.heap.get? b = some o) ∧ Made59 w p loose mean mg mb [env] bs ks lv s₀ s₁ (.ok (.ret (.ref G)))) noErr s)
    (hs : ∀ x, foldedSetIterable iter env x = pure x)
    (h : ∀ s₀ os s' R2, P s₀ os → Bd g L os (fun z => if z = y then some (.ref R2) else m z) cu du s' → Ls s₀.heap s'.heap → s'.heap.IsList R2 (firstsOf ks lv).toArray → Q .next s') :
    wpAny (model Challenge.rw_il0027_01.row.prog w) (Ar dp un gd [env]) (exec (.Assign [.Name y py] (.ListComp (.Name x px') [⟨.Name x px, iter, [], 0⟩] scope pos) spos) env) Q noErr s := by
  refine comp_assign hsw hclos hcell hkind hnames hy (by rw [hk]; rfl) (wpAny_mono hiter (fun xv s₁ h₁ => ?_) fun _ _ f => f) hs
  obtain ⟨s₀, G, bs, os, rfl, B, hP, hbs, Cg, G', e, rfl, hGn, hGC, hkeep, hgen, hdr, hos, ⟨gs, hbare, hgs⟩, hRd⟩ := h₁
  have eG : G = G' := by injection e with e; injection e with e; injection e
  subst eG
  clear e
  refine wpAny_pyIter_gen hgen ⟨?_, fun h₁ k1 k2 k3 => ⟨wpAny_pyIter_gen (g := s₀.gens.size) ?_ ⟨rfl, rfl⟩, ?_⟩⟩
  · have := B.F.ns.keeps hkeep
    rw [hL]
    exact ns_lt this
  · obtain ⟨o, nm, qn, ho, r⟩ := hgen
    exact ⟨o, nm, qn, k1 _ _ ho, r⟩
  have hLs : @LT.lt Nat _ L s₀.heap.objs.size := ns_lt B.F.ns
  have hLs1 : @LT.lt Nat _ L s₁.heap.objs.size := ns_lt (B.F.ns.keeps hkeep)
  have hDC : s₁.heap.objs.size ≠ s₁.heap.objs.size + 1 := Nat.ne_of_lt (Nat.lt_succ_self _)
  have hLD : L ≠ s₁.heap.objs.size := Nat.ne_of_lt hLs1
  have hLC : L ≠ s₁.heap.objs.size + 1 := Nat.ne_of_lt (Nat.lt_succ_of_lt hLs1)
  have hDn : s₁.heap.get? s₁.heap.objs.size = none := Heap.get?_none_of_le (Nat.le_refl _)
  have hCn : s₁.heap.get? (s₁.heap.objs.size + 1) = none := Heap.get?_none_of_le (Nat.le_succ _)
  have rd := hRd s₁.heap.objs.size (s₁.heap.objs.size + 1) { s₁ with heap := h₁ } dp un gd hdp hDC hDn hCn k1 rfl
  have hG1 : @LT.lt Nat _ G s₁.heap.objs.size := by
    obtain ⟨o, _, _, ho, _⟩ := hgen
    exact Heap.lt_size ho
  have hGL : G ≠ L := fun q => by
    subst q
    obtain ⟨o, _, _, ho, _⟩ := B.F.ns
    rw [hGn] at ho; cases ho
  have hfs : frs [env] = [L] := frs_one hfr
  have old : ∀ b o, s₀.heap.get? b = some o → b ∉ ([s₁.heap.objs.size, s₁.heap.objs.size + 1] : List Addr) := fun b o e hm => by
    rcases List.mem_cons.1 hm with rfl | hm
    · rw [hkeep _ _ e] at hDn; cases hDn
    · obtain rfl : b = _ := List.mem_singleton.1 hm
      rw [hkeep _ _ e] at hCn; cases hCn
  refine codeAny_mono (gen_loop (C := s₁.heap.objs.size + 1) (cenv := compEnvC scope [] (s₁.heap.objs.size + 1) env) (l := [env]) (bs := bs) rfl (by show dp < _; omega) ?_ ?_ (.inr (.inl rfl)) ?_ ?_ ?_ (.inr (.inr (.inl rfl))) (.inr (.inr (.inr rfl))) hDC rfl (lookup_relabel_local hx) (by simp [compEnvC, relabel, hkind]) hd
    (Nat.le_trans (passing_le _ _) (by omega)) rd k3 k2) fun r s' hr => ?_
  · rw [hfs]; simpa using hGL
  · intro hm
    rcases List.mem_cons.1 hm with q | hm
    · exact Nat.ne_of_lt hG1 q
    · exact Nat.ne_of_lt (Nat.lt_succ_of_lt hG1) (List.mem_singleton.1 hm)
  · intro b o e
    exact .inl (Heap.lt_size (hbs b o e))
  · intro b hb
    rw [hfs] at hb
    obtain rfl : b = L := List.mem_singleton.1 hb
    exact .inl hLs
  · intro b hb
    rw [hfs]
    refine ⟨?_, fun q => ?_⟩
    · cases e : bs.get? b with
      | none => rfl
      | some o => exact absurd hb (old b o (hbs b o e))
    · obtain rfl : b = L := List.mem_singleton.1 q
      rcases List.mem_cons.1 hb with q | hb
      · exact hLD q
      · exact hLC (List.mem_singleton.1 hb)
  · obtain ⟨rfl, ys, m', hlen, hys, hlD, hnC, mv⟩ := hr
    have hxx : Ex [L] [L] s₀.heap s'.heap := fun b o e _ => by
      have := mv.heap b o ⟨.inl (Heap.lt_size e), old b o e⟩ (k1 _ _ (hkeep _ _ e))
      rw [hfs] at this
      exact this
    have hns : s'.heap.Ns L m := by
      have z : Ex [L] [] s₀.heap s'.heap := fun b o e _ => by
        have := mv.heap b o ⟨.inl (Heap.lt_size e), old b o e⟩ (k1 _ _ (hkeep _ _ e))
        rw [hfs] at this
        exact this
      exact z.ns (by simp) B.F.ns
    have hbg : AllBare s'.gens := AllBare.moved (hgs ▸ B.bare.push hbare) mv.gens
    have B1 : Bd g L os m cu du s' := by
      have b := B.own (tk := s'.toks) hbg hxx hns
      exact ⟨b.F, b.c1, b.c2, b.tab, b.bare, mv.os.trans (hos.trans B.os)⟩
    have l1 : Ls s₀.heap s'.heap := B.ls_own hxx
    have hyf := told_eq hsz hlen hys
    refine ⟨rfl, ⟨m', hnC⟩, m, hL.symm ▸ hns, fun h₂ h₃ hn₂' hs₂ hs₃ => ?_⟩
    rw [hL] at hn₂' hs₂
    have B2 : Bd g L os _ cu du { s' with heap := h₂, toks := s'.toks } := B1.own' (Ex.sameBut hs₂ (by simp)) hn₂'
    have l2 : Ls s'.heap h₂ := B1.ls_own (fs := []) (Ex.sameBut hs₂ (by simp))
    have hnC2 : h₂.Ns (s₁.heap.objs.size + 1) m' := hnC.sameBut hs₂ (Ne.symm hLC)
    have hCg : g.get? (s₁.heap.objs.size + 1) = none := Heap.get?_none_of_le (Nat.le_trans B.F.above (Nat.le_of_lt (Nat.lt_succ_of_lt hLs1)))
    obtain ⟨B3, l3⟩ := B2.drop (tk := s'.toks + 1) hnC2 hLC hCg hs₃
    have l4 : Ls s'.heap h₃ := l2.trans l3
    exact h s₀ os _ _ hP B3 (l1.trans l4) (hyf ▸ l4.1 _ _ hlD)
end

/-- a name of a def of the text -/
structure Fn (w : World) (env : Env) (x : Str) (a : Addr) : Prop where
  kind : env.kindOf x = some .globalImplicit
  val : nsIn (hd.heap_39 w.params) mainGlobals x = some (some (.ref a))
  keep : keepIn (hd.heap_39 w.params) (.ref a) = true
  n1 : (x == ("__debug__" : Str)) = false
/-- a name of a local -/
structure Lc (env : Env) (m : Str → Option Value) (x : Str) (v : Value) : Prop where
  kind : env.kindOf x = some .local
  val : m x = some v
  n1 : (x == ("__debug__" : Str)) = false
section
variable {w : World} {p : Program} {loose : List Str} {mean : ExcName → Option Value} {mg mb : Str → Option Value} {g : Heap} {L : Addr} {os : OsState × Array Value} {m : Str → Option Value} {cu du : Option Value} {s : Shared} {env : Env}
variable {dp un : Nat} {gd : Option (List Code)}
theorem leaf_key {fl : List Leaf} {lv : List Value} (h : Paired leafIs fl lv) {prog : Program} : ∀ (j : Nat) (v : Value), lv[j]? = some v → ∃ k, fl[j]? = some k ∧ (leafK prog w).is k v = true ∧ v.scannable = true := fun j v hv => by
  obtain ⟨k, hk, hv⟩ := Paired.at' h hv
  refine ⟨k, hk, ?_⟩
  rcases k with i | x
  · obtain ⟨t, rfl⟩ := hv
    exact ⟨by show (i == i) = true; simp, rfl⟩
  · obtain ⟨t, rfl⟩ := hv
    exact ⟨by show (x == x) = true; simp, rfl⟩
/-- told = [leaf for leaf in unique_everseen(leaves)] -/
theorem st_told {Q : Flow → Shared → Prop} {x y f xl : Str} {px px' py pos spos fp lp cp : Pos} {scope : Scope} {R : Addr} {lv : List Value} {fl : List Leaf}
    (B : Bd g L os m cu du s) (K : (hd.heap_39 w.params).In g) (T : Top p loose mean mg mb g) (hfr : env.frame = some L) (hL : env.locals = L) (e : Nm w env) (F : Fn w env f 59) (X : Lc env m xl (.ref R))
    (hsw : swapsWith (.ListComp (.Name x px') [⟨.Name x px, .Call (.Name f fp) [.Name xl lp] [] cp, [], 0⟩] scope pos) (some (.Name y py)) spos.line env = pure true)
    (hclos : closureFor scope env = pure []) (hcell : ∀ y ∈ scope.names, y.2 ≠ .cell) (hkind : scope.kind = .function) (hnames : ∀ y ∈ scope.names, y.2 = .local → scope.names.lookup y.1 = some .local)
    (hy : env.kindOf y = some .local) (hx : scope.names.lookup x = some .local) (hd : (x == ("__debug__" : Str)) = false)
    (hl : s.heap.IsList R lv.toArray) (hp : Paired leafIs fl lv) (hmax : fl.length ≤ 1000) (hdp : dp + 100 < recursionLimit)
    (h : ∀ s' R2, Bd g L os (fun z => if z = y then some (.ref R2) else m z) cu du s' → Ls s.heap s'.heap → s'.heap.IsList R2 (firstsOf fl lv).toArray → Q .next s') :
    wpAny (model Challenge.rw_il0027_01.row.prog w) (Ar dp un gd [env]) (exec (.Assign [.Name y py] (.ListComp (.Name x px') [⟨.Name x px, .Call (.Name f fp) [.Name xl lp] [] cp, [], 0⟩] scope pos) spos) env) Q noErr s := by
  have hlen := hp.length
  refine gen_assign (g := g) (m := m) (cu := cu) (du := du) (ks := fl) (lv := lv) (P := fun s₀ os' => s₀ = s ∧ os' = os) K T hfr hL e.k hsw hclos hcell hkind hnames hy hx hd hlen.symm (by omega) hdp ?_ (fun _ => rfl) (fun s₀ os' s' R2 hs B' l' hR => ?_)
  case refine_2 =>
    obtain ⟨rfl, rfl⟩ := hs
    exact h s' R2 B' l' hR
  have c := B.cx K T hfr e.k
  refine call1 c e.g e.k F.kind X.kind F.val F.keep (hL.symm ▸ B.F.ns) X.val (wpAny_call (codeAny_mono (uniqA_call (knd := leafK _ _) (ks := fl) c (by omega) hl hlen.symm (by omega) (leaf_key hp)) fun r s' hr => ?_)) F.n1 X.n1
  obtain ⟨Cg, G, rfl, rest⟩ := hr
  exact ⟨s, G, g, os, rfl, B, ⟨rfl, rfl⟩, c.stays, Cg, G, rfl, rest⟩
/-- _law_firsts(a, b) -/
theorem bd_firsts {κ : Type} [DecidableEq κ] (KK : KeyKind κ) {E : Value → Shared → Prop} {Q : Value → Shared → Prop} {f xa xb : Str} {fp ap bp cp : Pos} {a b : Addr} {vs kvs : List Value} {ks : List κ}
    (B : Bd g L os m cu du s) (K : (hd.heap_39 w.params).In g) (T : Top p loose mean mg mb g) (hfr : env.frame = some L) (hL : env.locals = L) (e : Nm w env) (F : Fn w env f 100) (X : Lc env m xa (.ref a)) (Y : Lc env m xb (.ref b))
    (ha : s.heap.IsList a vs.toArray) (hb : s.heap.IsList b kvs.toArray) (hp : Paired (KK.K s.heap) ks kvs) (hlen : vs.length = ks.length) (hmax : ks.length ≤ 1000) (hdp : dp + 40 < recursionLimit) (hun : un + 100 < cLine)
    (h : ∀ D s', Bd g L os m cu du s' → Ls s.heap s'.heap → s'.heap.IsList D (firstsOf ks vs).toArray → Q (.ref D) s') :
    wpAny (model Challenge.rw_il0027_01.row.prog w) (Ar dp un gd [env]) (eval (.Call (.Name f fp) [.Name xa ap, .Name xb bp] [] cp) env) Q E s := by
  have c := B.cx K T hfr e.k
  have hn : s.heap.Ns env.locals m := hL.symm ▸ B.F.ns
  refine Call_ (ev_global c e.g e.k F.kind F.val ?_ F.n1)
  refine callWith_K c.Kh F.keep (spliced_cons (ev_local e.k X.kind hn X.val (spliced_cons (ev_local e.k Y.kind hn Y.val (spliced_nil ⟨c.Kh, ?_⟩) Y.n1)) X.n1))
  refine wpAny_call (codeAny_mono (firsts_call KK ha hb hp hlen hmax c hdp hun) fun r s' hr => ?_)
  obtain ⟨r, rfl, mv, D, out, rfl, -, hD, rfl⟩ := hr
  obtain ⟨B', l'⟩ := B.call hfr mv
  exact h D s' B' l' hD
/-- if told != _law_firsts(leaves, leaves) -/
theorem st_iffirsts {E : Value → Shared → Prop} {Q : Flow → Shared → Prop} {y f xa xb : Str} {yp fp ap bp cp p1 p2 : Pos} {body : List Stmt} {a R2 : Addr} {lv : List Value} {fl : List Leaf}
    (B : Bd g L os m cu du s) (K : (hd.heap_39 w.params).In g) (T : Top p loose mean mg mb g) (hfr : env.frame = some L) (hL : env.locals = L) (e : Nm w env) (F : Fn w env f 100) (X : Lc env m xa (.ref a)) (X' : Lc env m xb (.ref a)) (Y : Lc env m y (.ref R2))
    (hl : s.heap.IsList a lv.toArray) (hp : Paired leafIs fl lv) (hl2 : s.heap.IsList R2 (firstsOf fl lv).toArray) (hmax : fl.length ≤ 1000) (hdp : dp + 40 < recursionLimit) (hun : un + 100 < cLine)
    (h : ∀ s', Bd g L os m cu du s' → Ls s.heap s'.heap → Q .next s') :
    wpAny (model Challenge.rw_il0027_01.row.prog w) (Ar dp un gd [env]) (exec (.If (.Compare (.Name y yp) [.NotEq] [.Call (.Name f fp) [.Name xa ap, .Name xb bp] [] cp] p1) body [] p2) env) Q E s := by
  refine wpAny_If (wpAny_isTrue_Compare1 (ev_local e.k Y.kind (hL.symm ▸ B.F.ns) Y.val ?_ Y.n1))
  refine bd_firsts leafKind B K T hfr hL e F X X' hl hl hp hp.length.symm hmax hdp hun fun D s' B' l' hD => ?_
  refine ne_same (l'.1 _ _ hl2) hD (by show un < cLine; omega) (wpAny_truthy_bool ?_)
  rw [if_neg (by decide)]
  exact wpAny_execs_nil (h s' B' l')
/-- return first == _law_firsts(leaves, keys) -/
theorem st_ret {κ : Type} [DecidableEq κ] (KK : KeyKind κ) {E : Value → Shared → Prop} {Q : Flow → Shared → Prop} {y f xa xb : Str} {yp fp ap bp cp p1 p2 : Pos} {a b R2 : Addr} {lv kvs : List Value} {ks : List κ}
    (B : Bd g L os m cu du s) (K : (hd.heap_39 w.params).In g) (T : Top p loose mean mg mb g) (hfr : env.frame = some L) (hL : env.locals = L) (e : Nm w env) (F : Fn w env f 100) (X : Lc env m xa (.ref a)) (X' : Lc env m xb (.ref b)) (Y : Lc env m y (.ref R2))
    (hl : s.heap.IsList a lv.toArray) (hb : s.heap.IsList b kvs.toArray) (hp : Paired (KK.K s.heap) ks kvs) (hlen : lv.length = ks.length) (hl2 : s.heap.IsList R2 (firstsOf ks lv).toArray) (hmax : ks.length ≤ 1000) (hdp : dp + 40 < recursionLimit) (hun : un + 100 < cLine)
    (h : ∀ s', Bd g L os m cu du s' → Q (.ret (.bool true)) s') :
    wpAny (model Challenge.rw_il0027_01.row.prog w) (Ar dp un gd [env]) (exec (.Return (some (.Compare (.Name y yp) [.Eq] [.Call (.Name f fp) [.Name xa ap, .Name xb bp] [] cp] p1)) p2) env) Q E s := by
  refine wpAny_Return_some (wpAny_Compare1 (ev_local e.k Y.kind (hL.symm ▸ B.F.ns) Y.val ?_ Y.n1))
  refine bd_firsts KK B K T hfr hL e F X X' hl hb hp hlen hmax hdp hun fun D s' B' l' hD => ?_
  exact eq_same (l'.1 _ _ hl2) hD (by show un < cLine; omega) (h s' B')
end

section
variable {w : World} {p : Program} {loose : List Str} {mean : ExcName → Option Value} {mg mb : Str → Option Value} {g : Heap} {L : Addr} {os : OsState × Array Value} {m : Str → Option Value} {cu du : Option Value} {s : Shared} {env : Env}
/-- the table of law's code grows -/
theorem Bd.ext (B : Bd g L os m cu du s) (h102 : g.get? 102 = none) {h' : Heap} {tk : Nat} {ps : Array Value} (x : Heap.ExtBut 102 s.heap h') (ht : h'.get? 102 = some (tabObj ps)) : Bd g L (os.1, ps) m cu du { s with heap := h', toks := tk } ∧ Ls s.heap h' := by
  have ex : Ex [] [102] s.heap h' := .of_ext fun b o n e => x b o (by simpa using n) e
  refine ⟨⟨⟨B.F.ns.extBut x (ns_tab B.F.ns B.tab).symm, fun b o e => x b o (fun q => by subst q; rw [h102] at e; cases e) (B.F.keep b o e), B.F.above⟩, cell_up ex (by simpa using (cell_tab B.c1 B.tab).symm) B.c1, cell_up ex (by simpa using (cell_tab B.c2 B.tab).symm) B.c2, ht, B.bare, B.os⟩, Ls.of_ex ex fun b hb o ho es n hd => ?_⟩
  obtain rfl : b = 102 := by simpa using hb
  rw [B.tab] at ho
  cases ho
  cases hd
abbrev lamArgs (ap : Pos) : Arguments := { posonlyargs := [], args := [{ arg := "leaf", annotation := none, pos := ap }], vararg := none, kwonlyargs := [], kw_defaults := [], kwarg := none, defaults := [] }
/-- lambda leaf: .. -/
theorem bd_lambda {M : Model} {A : Around} {E : Value → Shared → Prop} {Q : Value → Shared → Prop} {o : OsState} {ap pos : Pos} {body : Expr} {scope : Scope}
    (B : Bd g L (o, #[]) m cu du s) (T : Top p loose mean mg mb g) (h102 : g.get? 102 = none) (hg : env.globals = mainGlobals) (hcode : env.code = .ref 104) (C : CodeHd g 104 102) (hclos : closureFor scope env = pure [])
    (h : ∀ f c' ctv s' ps, Bd g L (o, ps) m cu du s' → Ls s.heap s'.heap → s'.heap.get? f = some (kla_obj "<lambda>" (env.qual ++ "<lambda>") (lamArgs ap) body scope [] ((mg "__name__").getD .none) c' ctv) → s'.heap.CodeRec (.ref c') (env.qual ++ "<lambda>") → Q (.ref f) s') :
    wpAny M A (eval (.Lambda (lamArgs ap) body scope pos) env) Q E s := by
  rw [arm_eval_Lambda]
  show wpAny M A (makeFunction "<lambda>" (env.qual ++ "<lambda>") (lamArgs ap) (.expr body) scope env [] [] [] pos pos.line) Q E s
  have hgs := T.g.keeps B.F.keep
  obtain ⟨bm, ob, b1, b2, b3, b4, b5, b6⟩ := T.bmain
  have hgP : mainGlobals ≠ 102 := by decide
  have hbP : bm ≠ 102 := fun q => by
    rw [q, h102] at b3; cases b3
  have hbG : bm ≠ mainGlobals := fun q => by
    obtain ⟨o, es, ep, e, hd, _⟩ := T.g
    rw [q, e] at b3; cases b3; rw [hd] at b6; cases b6
  refine kla_makeFunction (mg := mg) hclos hg hgs hcode (C.keeps B.F.keep) B.tab True.intro rfl hgP ⟨bm, ob, b1, b2, hbG, hbP, B.F.keep _ _ b3, b4, b5, b6⟩ fun c' ctv h' tk hx hge hlt hrec htb => ?_
  obtain ⟨B1, l1⟩ := B.ext h102 (tk := tk) hx htb
  have kp : ∀ (x : Obj) b o, h'.get? b = some o → (h'.push x).get? b = some o := fun x b o e => Heap.get?_push_of_some _ e
  exact h h'.objs.size c' ctv _ _ (B1.keeps (tk := tk) (kp _)) (l1.trans (ls_keeps (kp _))) (Heap.get?_push_size _ rfl) (hrec.keeps (kp _))
/-- the lambda called -/
theorem lam_call {l : List Env} {bs : Heap} {f c' : Addr} {ctv pm : Value} {qual inn sn ln : Str} {scope : Scope} {k : Leaf} {v : Value} {dp un : Nat} {gd : Option (List Code)} {kd1 kd3 : Nat} {ap p1 p2 p3 p4 p6 p7 p8 pa pb pc pd pe pf pg : Pos}
    (c : Cx w p loose mean mg mb l bs s.heap) (hdp : dp + 10 < recursionLimit)
    (ho : s.heap.get? f = some (kla_obj "<lambda>" qual (lamArgs ap) (.IfExp (.Call (.Name inn p1) [.Name "leaf" p2, .Name sn p3] [] p4) (.Call (.Name ln p6) [.Name "leaf" p7] [] p8)
      (.BinOp (.UnaryOp .USub (.Constant (.int 1) kd1 pa) pe) .Sub (.BinOp (.Name "leaf" pb) .Mod (.Constant (.int 3) kd3 pc) pd) pg) pf) scope [] pm c' ctv)) (hcd : s.heap.CodeRec (.ref c') qual)
    (b1 : ∀ L f c, Bn w (envX qual scope L f c []) inn (.builtin "isinstance")) (b2 : ∀ L f c, Bn w (envX qual scope L f c []) sn (.type "str")) (b3 : ∀ L f c, Bn w (envX qual scope L f c []) ln (.builtin "len"))
    (hco : scope.isCoroutine = false) (hgen : scope.isGenerator = false) (hk : scope.kind = .function) (hcell : ∀ x ∈ scope.names, x.2 ≠ .cell) (hx : scope.names.lookup ("leaf" : Str) = some .local)
    (hv : leafIs k v) (hy : ∀ y, k = .inr y → y.length ≤ 10000) :
    codeAny (model Challenge.rw_il0027_01.row.prog w) (Ar dp un gd l) (.call (.ref f) ⟨[v], []⟩) (Ends l s (fun r _ => ∃ t, r = .int (keyOf k) t)) s := by
  refine kla_callFunE (by show dp < _; omega) ho rfl hco hgen rfl hcd ?_
  rw [show bindArgs _ ⟨[v], []⟩ = pure [((Str.ofString "leaf"), v)] from rfl]
  refine wpAny_pure (wpAny_newFunctionEnv hcell (by simpa using hx) (fun h₁ hns hsb => ⟨c.Th.nolimit.fresh _ hsb, ?_⟩) hk)
  show codeAny _ _ (.expr _ (envX qual scope s.heap.objs.size f (.ref c') [])) _ _
  have hk₁ : ∀ b o, s.heap.get? b = some o → h₁.get? b = some o := fun b o e => hsb.extBut b o (Nat.ne_of_lt (Heap.lt_size e)) (Heap.get?_push_of_some _ e)
  have F : Fr s.heap s.heap.objs.size h₁ _ := ⟨hns, hk₁, Nat.le_refl _⟩
  have c1 : Cx w p loose mean mg mb (envX qual scope s.heap.objs.size f (.ref c') [] :: l) bs h₁ := Cx.push c F rfl hk
  refine kla_codeExpr (wpAny_mono (key_elt (E := noErr) ⟨rfl, rfl, hk⟩ c1 (b1 _ _ _) (b2 _ _ _) (b3 _ _ _) hx hns rfl (by decide) hv hy) (fun r s' h => ?_) fun _ _ q => q.elim)
  obtain ⟨tk, t, rfl, rfl⟩ := h
  exact ⟨_, rfl, Mv.of_keeps hk₁, _, rfl⟩
end

section
variable {w : World} {p : Program} {loose : List Str} {mean : ExcName → Option Value} {mg mb : Str → Option Value} {g : Heap} {L : Addr} {m : Str → Option Value} {cu du : Option Value} {s : Shared} {env : Env}
variable {dp un : Nat} {gd : Option (List Code)}
/-- the ground with all that is there but the frame -/
theorem Bd.big {os : OsState × Array Value} (B : Bd g L os m cu du s) (K : (hd.heap_39 w.params).In g) (T : Top p loose mean mg mb g) (hfr : env.frame = some L) (hk : env.scope.kind = .function) : Cx w p loose mean mg mb [env] (hideAll s.heap [L]) s.heap := by
  have c := B.cx K T hfr hk
  have k : ∀ b o, g.get? b = some o → (hideAll s.heap [L]).get? b = some o := fun b o e => hideAll_get _ (B.F.keep b o e) fun q => by
    obtain rfl : b = L := by simpa using q
    exact Nat.lt_irrefl _ (Nat.lt_of_lt_of_le (Heap.lt_size e) B.F.above)
  refine ⟨fun b o e => of_hideAll _ e, ?_, K.keeps k, T.keeps k⟩
  refine funFrames_hide c.ff fun env' he a ha => ?_
  obtain rfl : env' = env := by simpa using he
  rw [hfr] at ha
  cases ha
  simp
set_option maxHeartbeats 2000000 in
/-- first = [leaf for leaf in unique_everseen(leaves, lambda leaf: ..)] -/
theorem st_first {Q : Flow → Shared → Prop} {o : OsState} {x y f xl inn sn ln : Str} {px px' py pos spos fp lp cp : Pos} {kd1 kd3 : Nat} {ap p1 p2 p3 p4 p6 p7 p8 pa pb pc pd pe pf pg plam : Pos} {scope lscope : Scope} {R : Addr} {lv : List Value} {fl : List Leaf}
    (B : Bd g L (o, #[]) m cu du s) (K : (hd.heap_39 w.params).In g) (T : Top p loose mean mg mb g) (h102 : g.get? 102 = none) (hfr : env.frame = some L) (hL : env.locals = L) (e : Nm w env) (F : Fn w env f 59) (X : Lc env m xl (.ref R))
    (hcode : env.code = .ref 104) (C : CodeHd g 104 102) (hlclos : closureFor lscope env = pure [])
    (b1 : ∀ q L f c, Bn w (envX q lscope L f c []) inn (.builtin "isinstance")) (b2 : ∀ q L f c, Bn w (envX q lscope L f c []) sn (.type "str")) (b3 : ∀ q L f c, Bn w (envX q lscope L f c []) ln (.builtin "len"))
    (hlco : lscope.isCoroutine = false) (hlgen : lscope.isGenerator = false) (hlk : lscope.kind = .function) (hlcell : ∀ x ∈ lscope.names, x.2 ≠ .cell) (hlx : lscope.names.lookup ("leaf" : Str) = some .local)
    (hsw : swapsWith (.ListComp (.Name x px') [⟨.Name x px, .Call (.Name f fp) [.Name xl lp, .Lambda (lamArgs ap) (.IfExp (.Call (.Name inn p1) [.Name "leaf" p2, .Name sn p3] [] p4) (.Call (.Name ln p6) [.Name "leaf" p7] [] p8)
      (.BinOp (.UnaryOp .USub (.Constant (.int 1) kd1 pa) pe) .Sub (.BinOp (.Name "leaf" pb) .Mod (.Constant (.int 3) kd3 pc) pd) pg) pf) lscope plam] [] cp, [], 0⟩] scope pos) (some (.Name y py)) spos.line env = pure true)
    (hclos : closureFor scope env = pure []) (hcell : ∀ y ∈ scope.names, y.2 ≠ .cell) (hkind : scope.kind = .function) (hnames : ∀ y ∈ scope.names, y.2 = .local → scope.names.lookup y.1 = some .local)
    (hy : env.kindOf y = some .local) (hx : scope.names.lookup x = some .local) (hd : (x == ("__debug__" : Str)) = false)
    (hl : s.heap.IsList R lv.toArray) (hp : Paired leafIs fl lv) (hmax : fl.length ≤ 1000) (hsh : ∀ k ∈ fl, ∀ y, k = .inr y → y.length ≤ 10000) (hdp : dp + 100 < recursionLimit)
    (h : ∀ s' R2 ps, Bd g L (o, ps) (fun z => if z = y then some (.ref R2) else m z) cu du s' → Ls s.heap s'.heap → s'.heap.IsList R2 (firstsOf (fl.map pairOf) lv).toArray → Q .next s') :
    wpAny (model Challenge.rw_il0027_01.row.prog w) (Ar dp un gd [env]) (exec (.Assign [.Name y py] (.ListComp (.Name x px') [⟨.Name x px, .Call (.Name f fp) [.Name xl lp, .Lambda (lamArgs ap) (.IfExp (.Call (.Name inn p1) [.Name "leaf" p2, .Name sn p3] [] p4) (.Call (.Name ln p6) [.Name "leaf" p7] [] p8)
      (.BinOp (.UnaryOp .USub (.Constant (.int 1) kd1 pa) pe) .Sub (.BinOp (.Name "leaf" pb) .Mod (.Constant (.int 3) kd3 pc) pd) pg) pf) lscope plam] [] cp, [], 0⟩] scope pos) spos) env) Q noErr s := by
  have hlen := hp.length
  refine gen_assign (g := g) (m := m) (cu := cu) (du := du) (ks := fl.map keyOf) (lv := lv) (P := fun s₀ os' => Ls s.heap s₀.heap ∧ os'.1 = o) K T hfr hL e.k hsw hclos hcell hkind hnames hy hx hd (by rw [List.length_map]; exact hlen.symm) (by omega) hdp ?_ (fun _ => rfl) (fun s₀ os' s' R2 hs B' l' hR => ?_)
  case refine_2 =>
    obtain ⟨l0, rfl⟩ := hs
    rw [firstsOf_map key_pair] at hR
    exact h s' R2 os'.2 B' (l0.trans l') hR
  have c := B.cx K T hfr e.k
  refine Call_ (ev_global c e.g e.k F.kind F.val ?_ F.n1)
  refine callWith_K c.Kh F.keep (spliced_cons (ev_local e.k X.kind (hL.symm ▸ B.F.ns) X.val (spliced_cons ?_) X.n1))
  refine bd_lambda B T h102 e.g hcode C hlclos fun lam c' ctv s₁ ps B1 l1 hlam hrec => spliced_nil ⟨(B1.cx K T hfr e.k).Kh, ?_⟩
  have cb := B1.big K T hfr e.k
  have hl1 := l1.1 _ _ hl
  have hlamL : lam ≠ L := fun q => by
    subst q
    obtain ⟨o', es, ep, ho', hd', _⟩ := B1.F.ns
    rw [hlam] at ho'
    cases ho'
    cases hd'
  have hrecb : (hideAll s₁.heap [L]).CodeRec (.ref c') (env.qual ++ "<lambda>") := by
    obtain ⟨c2, oc, vs, t, e2, hoc, hd2, hv⟩ := hrec
    cases e2
    refine ⟨c', oc, vs, t, rfl, hideAll_get _ hoc fun q => ?_, hd2, hv⟩
    obtain rfl : c' = L := by simpa using q
    obtain ⟨o', es, ep, ho', hd', _⟩ := B1.F.ns
    rw [hoc] at ho'
    cases ho'
    rw [hd2] at hd'
    cases hd'
  refine wpAny_call (codeAny_mono (uniqB_call (knd := intKind _ _) (ks := fl.map keyOf) cb (by omega) hl1 (by rw [List.length_map]; exact hlen.symm) (by omega) hlam (by rw [frs_one hfr]; simpa using hlamL) ⟨_, rfl⟩
    (fun env' i v hv s₂ dp' un' gd' hdp' c2 ho => ?_)) fun r s' hr => ?_)
  · obtain ⟨k, hk, hkv⟩ := Paired.at' hp hv
    refine codeAny_mono (lam_call c2 (by omega) ho (hrecb.keeps c2.stays) (b1 _) (b2 _) (b3 _) hlco hlgen hlk hlcell hlx hkv (hsh k (List.mem_of_getElem? hk))) fun r s' hr => ?_
    obtain ⟨v', rfl, mv, t, rfl⟩ := hr
    exact ⟨_, rfl, mv, keyOf k, by rw [List.getElem?_map, hk]; rfl, by show (keyOf k == keyOf k) = true; simp, rfl⟩
  · obtain ⟨Cg, G, rfl, rest⟩ := hr
    exact ⟨s₁, G, hideAll s₁.heap [L], (o, ps), rfl, B1, ⟨l1, rfl⟩, cb.stays, Cg, G, rfl, rest⟩
end

theorem lawK {w : World} {h : Heap} (X : (hd.heap_39 w.params).In h) : ((nsIn (hd.heap_39 w.params) mainGlobals "_law_tree" = some (some (.ref 75)) ∧ keepIn (hd.heap_39 w.params) (.ref 75) = true) ∧
    (nsIn (hd.heap_39 w.params) mainGlobals "_law_leaves" = some (some (.ref 80)) ∧ keepIn (hd.heap_39 w.params) (.ref 80) = true) ∧
    (nsIn (hd.heap_39 w.params) mainGlobals "_law_flat" = some (some (.ref 85)) ∧ keepIn (hd.heap_39 w.params) (.ref 85) = true) ∧
    (nsIn (hd.heap_39 w.params) mainGlobals "_law_cut" = some (some (.ref 90)) ∧ keepIn (hd.heap_39 w.params) (.ref 90) = true) ∧
    (nsIn (hd.heap_39 w.params) mainGlobals "_law_due" = some (some (.ref 95)) ∧ keepIn (hd.heap_39 w.params) (.ref 95) = true) ∧
    (nsIn (hd.heap_39 w.params) mainGlobals "_law_firsts" = some (some (.ref 100)) ∧ keepIn (hd.heap_39 w.params) (.ref 100) = true) ∧
    (nsIn (hd.heap_39 w.params) mainGlobals "unique_everseen" = some (some (.ref 59)) ∧ keepIn (hd.heap_39 w.params) (.ref 59) = true)) ∧
    nsIn (hd.heap_39 w.params) mainGlobals "tuple" = some none ∧ nsIn (hd.heap_39 w.params) mainGlobals "len" = some none ∧ nsIn (hd.heap_39 w.params) mainGlobals "range" = some none ∧ nsIn (hd.heap_39 w.params) mainGlobals "isinstance" = some none ∧
    nsIn (hd.heap_39 w.params) mainGlobals "list" = some none ∧ nsIn (hd.heap_39 w.params) mainGlobals "str" = some none := by
  have hrow : Challenge.rw_il0027_01.row = Challenge.rw_il0027_01.row := rfl
  revert hrow X
  k_fill
  intro X _
  refine ⟨⟨⟨?_, ?_⟩, ⟨?_, ?_⟩, ⟨?_, ?_⟩, ⟨?_, ?_⟩, ⟨?_, ?_⟩, ⟨?_, ?_⟩, ⟨?_, ?_⟩⟩, ?_, ?_, ?_, ?_, ?_, ?_⟩ <;> k_is

/-- law's end: True, all that was there stays, no generator left with a cleanup -/
def LawEnd (s₁ : Shared) (h₀ : Heap) (r : Result) (s' : Shared) : Prop :=
  r = .ok (.ret (.bool true)) ∧ (∀ b o, h₀.get? b = some o → s'.heap.get? b = some o) ∧ s'.os = s₁.os ∧ AllBare s'.gens
theorem law_post {M : Model} {A : Around} {cd : Code} {s s₁ : Shared} {cw : ClaimW} {cl : Str → Option Addr} {mean : ExcName → Option Value} {args : List WData} {tabs : List (Addr × Addr)} (hT : TabsAt tabs s₁.heap) (hr : ∀ a x, cw.raises a x = false)
    (hp : cw.post args (.bool true) args = true)
    (h : codeAny M A cd (fun r s' => LawEnd s₁ (ghostOf s₁.heap tabs) r s' ∧ GrownAll tabs s'.heap) s) : codeAny M A cd (GoodWG cw cl mean args s₁) s := by
  refine codeAny_mono h fun r s' hrs => ?_
  obtain ⟨⟨rfl, hk, hos, hg⟩, hgr⟩ := hrs
  have tab : ∀ b o, b ∈ tabs.map (·.2) → s₁.heap.get? b = some o → isCodeTable s₁.heap b ∧ o = tabObj #[] ∧ ∃ ps, s'.heap.get? b = some (tabObj ps) := fun b o hb e => by
    obtain ⟨q, hq, rfl⟩ := List.mem_map.mp hb
    obtain ⟨t1, t2⟩ := hT q hq
    refine ⟨(t1.tab t2).isCodeTable, ?_, hgr.get q hq⟩
    rw [e] at t2
    exact Option.some.inj t2
  refine ⟨.inl ⟨_, .bool true, [], rfl, fun x => hr _ _, .bool true, hp, fun _ => ⟨.nil, by simp⟩⟩, ⟨fun b o e => ?_, fun b o e => ?_⟩, hos, hg⟩
  · by_cases hb : b ∈ tabs.map (·.2)
    · obtain ⟨ht, rfl, ps, hP⟩ := tab b o hb e
      exact .inr (.inl ⟨ht, rfl, #[], ps, rfl, by rw [Array.empty_append]; exact hP⟩)
    · exact .inl (hk b o (ghost_ne e hb))
  · by_cases hb : b ∈ tabs.map (·.2)
    · obtain ⟨_, _, ps, hP⟩ := tab b o hb e
      exact ⟨_, hP⟩
    · exact ⟨o, hk b o (ghost_ne e hb)⟩
theorem ints_take : ∀ {vs : List Value} {ns : List Int} (n : Nat), IntsAre vs ns → IntsAre (vs.take n) (ns.take n)
  | _, _, 0, _ => by simpa using IntsAre.nil
  | _, _, _ + 1, .nil => by simpa using IntsAre.nil
  | _, _, n + 1, .cons i t h => by simpa using IntsAre.cons i t (ints_take n h)
theorem ints_append : ∀ {vs ws : List Value} {ns ms : List Int}, IntsAre vs ns → IntsAre ws ms → IntsAre (vs ++ ws) (ns ++ ms)
  | _, _, _, _, .nil, h => h
  | _, _, _, _, .cons i t a, h => .cons i t (ints_append a h)
local macro_rules | `(tactic| kn_posts) => `(tactic| refine law_post $(Lean.mkIdent `hT9) (fun _ _ => rfl) (by first | rfl | kernel_rfl) ?_)
set_option maxHeartbeats 8000000 in
theorem law_holds : PySem.Challenge.rw_il0027_01.Holds := Mine.hd (by
  k_go0
  (with_reducible rename Fr _ _ _ _ => F); (with_reducible rename News _ _ _ _ => N); (with_reducible rename Top topProg _ _ _ _ _ => T); (with_reducible rename Below _ _ _ _ => B); (with_reducible rename IntsAre _ _ => hI)
  rename Frag.In _ _ => X
  rename ¬ _ => hlen
  rename _ = #[] => hgens
  refine wpAny_noRaise ?_
  dsimp only at F ⊢
  rename Shared => s₁
  rename Heap => h₁
  rename List Int => ns
  rename World => w
  have h102 := (N (102, tabObj #[]) (.tail _ (.tail _ (.head _)))).2.2
  refine abs_post fun Qf hQf => ?_
  show wpAny _ (Ar 302 7 (some []) [_]) _ _ _ _
  obtain ⟨⟨⟨a1, a2⟩, ⟨b1, b2⟩, ⟨c1, c2⟩, ⟨d1, d2⟩, ⟨e1, e2⟩, ⟨f1, f2⟩, ⟨u1, u2⟩⟩, t1, t2, t3, t4, t5, t6⟩ := lawK X
  have C104 : CodeHd (ghostOf s₁.heap [(104, 102)]) 104 102 := codeHd
  clear codeHd
  have B0 := Bd.mk (os := (s₁.os, #[])) (s := { s₁ with heap := h₁ }) F ⟨_, (N _ (.tail _ (.head _))).1, by assumption⟩ ⟨_, (N _ (.head _)).1, by assumption⟩ (N _ (.tail _ (.tail _ (.head _)))).1 (AllBare.of_eq hgens) rfl
  have hl1 := Ex.list (fs := []) (ws := []) (.of_keeps F.keep) (by simp) lifted
  have hsz := ints_length hI
  refine wpAny_execs_cons (st_cut rfl rfl F.ns rfl hl1 (by omega) rfl fun D1 h1 tk1 hD1 hL1 hn1 ex1 => ?_)
  have B1 := B0.own' (tk := tk1) ex1 hn1
  refine wpAny_execs_cons (st_add (.cons (.cons (.cons (.cons (.cons (.cons (.cons (.cons (.cons (.cons (.cons (.cons (.cons .nil))))))))))))) (by decide) rfl rfl rfl B1.F.ns rfl hL1 (by rw [List.length_take]; omega) rfl fun D2 h2 tk2 lits hlits hD2 hL2 hn2 ex2 => ?_)
  have B2 := B1.own' (tk := tk2) ex2 hn2
  have hrl : (1000 : Nat) ≤ recursionLimit := by decide
  have hcl : (2000 : Nat) ≤ cLine := by decide
  obtain ⟨nn, hI2, hnn⟩ : ∃ nn : List Int, IntsAre (List.take 30 _ ++ lits) nn ∧ nn.length ≤ 43 :=
    ⟨_, ints_append (ints_take 30 hI) hlits, by
      rw [List.length_append, List.length_take]
      show min 30 ns.length + 13 ≤ 43
      omega⟩
  refine wpAny_execs_cons (st_tree B2 X T rfl rfl rfl rfl rfl rfl rfl rfl rfl a1 a2 b1 b2 rfl hL2 hI2 (by omega) (by omega) rfl rfl rfl rfl rfl fun s3 R tv cu0 R2 lv B3 hR hT hcu htv hR2 hlv => ?_)
  have hfl := flat_len nn
  refine wpAny_execs_cons (st_flat B3 X T rfl rfl rfl rfl rfl rfl rfl c1 c2 rfl rfl hR (by omega) hT (by omega) hR2 hlv (by omega) (by omega) rfl rfl rfl fun s4 B4 l4 => ?_)
  refine wpAny_execs_cons (st_cuts B4 X T rfl rfl rfl rfl rfl rfl rfl rfl rfl rfl rfl rfl rfl d1 d2 e1 e2 t1 PyProof.Rows.boot_tuple rfl (l4.1 _ _ hR) (by omega) (Ts.ls l4 hT) (by omega) (by omega) rfl rfl rfl (by decide) rfl rfl rfl fun s5 C1 C2 cvs dvs B5 l5 hC1 hcv hC2 hdv => ?_)
  have hsh : ∀ k ∈ nn.flatMap leafOf, ∀ y, k = .inr y → y.length ≤ 10000 := fun k hk y hy => Nat.le_trans (leaf_short hk y hy) (by decide)
  refine wpAny_execs_cons (st_same B5 X T rfl rfl rfl rfl rfl rfl rfl rfl rfl rfl t2 boot_len (by decide) rfl t3 PyProof.Rows.boot_range (by decide) rfl t4 boot_isinstance (by decide) rfl t5 PyProof.Rows.boot_list (by decide) rfl rfl rfl rfl
    rfl (by decide) rfl (by decide) rfl (fun _ => rfl) (fun _ => rfl) (fun _ => rfl) (fun _ => rfl) (fun _ => rfl) (fun _ => rfl) hC1 hC2 hcv hdv (by omega) (by omega) (Ts.lists (Ts.ls (l4.trans l5) hT)) fun s6 B6 l6 => ?_)
  have hR6 := ((l4.trans l5).trans l6).1 _ _ hR2
  refine wpAny_execs_cons (st_keys B6 X T rfl rfl ⟨rfl, rfl, rfl⟩ (fun _ => ⟨rfl, t4, boot_isinstance, by decide, rfl⟩) (fun _ => ⟨rfl, t6, PyProof.Rows.boot_str, by decide, rfl⟩) (fun _ => ⟨rfl, t2, boot_len, by decide, rfl⟩)
    rfl rfl (by decide) rfl (by decide) rfl rfl rfl rfl rfl rfl hR6 hlv (by omega) hsh fun s7 RK kv B7 l7 hRK hkv => ?_)
  have hR7 := l7.1 _ _ hR6
  refine wpAny_execs_cons (st_told B7 X T rfl rfl ⟨rfl, rfl, rfl⟩ ⟨rfl, u1, u2, rfl⟩ ⟨rfl, rfl, rfl⟩ rfl rfl (by decide) rfl (by decide) rfl rfl rfl hR7 hlv (by omega) (by omega) fun s8 RT B8 l8 hRT => ?_)
  have hR8 := l8.1 _ _ hR7
  refine wpAny_execs_cons (st_iffirsts B8 X T rfl rfl ⟨rfl, rfl, rfl⟩ ⟨rfl, f1, f2, rfl⟩ ⟨rfl, rfl, rfl⟩ ⟨rfl, rfl, rfl⟩ ⟨rfl, rfl, rfl⟩ hR8 hlv hRT (by omega) (by omega) (by omega) fun s9 B9 l9 => ?_)
  have hR9 := l9.1 _ _ hR8
  refine wpAny_execs_cons (st_first B9 X T h102 rfl rfl ⟨rfl, rfl, rfl⟩ ⟨rfl, u1, u2, rfl⟩ ⟨rfl, rfl, rfl⟩ rfl C104 rfl (fun _ _ _ _ => ⟨rfl, t4, boot_isinstance, by decide, rfl⟩) (fun _ _ _ _ => ⟨rfl, t6, PyProof.Rows.boot_str, by decide, rfl⟩) (fun _ _ _ _ => ⟨rfl, t2, boot_len, by decide, rfl⟩)
    rfl rfl rfl (by decide) rfl rfl rfl (by decide) rfl (by decide) rfl rfl rfl hR9 hlv (by omega) hsh (by omega) fun s10 RF ps B10 l10 hRF => ?_)
  have l710 := (l8.trans l9).trans l10
  have hkv10 : Paired (pairKind.K s10.heap) ((nn.flatMap leafOf).map pairOf) kv := Paired.mono' (fun k v ⟨a, t, u, e, hl⟩ => ⟨a, t, u, e, l710.1 _ _ hl⟩) hkv
  refine wpAny_execs_cons (st_ret pairKind B10 X T rfl rfl ⟨rfl, rfl, rfl⟩ ⟨rfl, f1, f2, rfl⟩ ⟨rfl, rfl, rfl⟩ ⟨rfl, rfl, rfl⟩ ⟨rfl, rfl, rfl⟩ (l10.1 _ _ hR9) (l710.1 _ _ hRK) hkv10 (by rw [List.length_map]; exact hlv.length.symm) hRF (by rw [List.length_map]; omega) (by omega) (by omega) fun s11 B11 => ?_)
  refine hQf _ _ ⟨⟨rfl, B11.F.keep, B11.os, B11.bare⟩, ⟨ps, B11.tab⟩, trivial⟩)
end Mine

theorem PySem.Challenge.cw_il0027_01_holds : PySem.Challenge.rw_il0027_01.Holds :=
  Mine.law_holds
